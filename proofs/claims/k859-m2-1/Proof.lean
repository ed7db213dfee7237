import JvmDerived
import JvmDerived.Pilot.@@N@@Statement
import JvmDerived.Pilot.@@N@@Code
set_option linter.unusedVariables false
set_option linter.unusedSimpArgs false
namespace Jvm.OwnK
open Jvm Sem ClassFile Op Lib Jvm.Stand Jvm.Free Jvm.LawKit Jvm.RoadKit
section A
variable {tabs : List Jvm.Cond} {a0 : Array Value} {Z : State} {own nm : String} {code : ByteArray} {ml : Nat} {ret : Option FieldType} {p : Program} {l : Launch} {e : Env} {R : Room} {s : State} {m : MethodId} {args : Array Value} {below : List Frame} {meth : Method} {c : Code} {n0 : Nat} {T : State} {h : Heap} {k n : Nat} {Q : Option Value → Heap → Prop} {G : Outcome → State → List Loc → Prop} {pc : Nat} {ls : Array Slot} {st : List Value}
/-- what stands fast through a method's walk -/
def Cx (tabs : List Jvm.Cond) (a0 : Array Value) (Z : State) (own nm : String) (code : ByteArray) (ml : Nat) (ret : Option FieldType) (p : Program) (s : State) (m : MethodId) (meth : Method) (c : Code) : Prop :=
  p.tables.exec = Jvm.exec ∧ Z.Warmed39 s.vm ∧ c.code = code ∧ c.maxLocals = ml ∧ s.vm.findClass own = some m.cls ∧ meth.sig.returnType = ret ∧ meth.locks = false ∧ meth.name = nm ∧ ∀ d ∈ tabs, d.before a0 Z = true
/-- where the walk stands: the heap h, k cells and n slots made so far, nothing below n0 written -/
def St (p : Program) (l : Launch) (e : Env) (R : Room) (s : State) (m : MethodId) (args : Array Value) (below : List Frame) (meth : Method) (c : Code) (n0 : Nat) (T : State) (h : Heap) (k n : Nat) : Prop :=
  ∃ locs, Stand p l e R s m args below meth c T locs k n ∧ T.heap = h ∧ Fr n0 locs ∧ n0 ≤ s.heap.size
/-- from this frame the method ends, and returns what Q says -/
def Run (p : Program) (e : Env) (below : List Frame) (n0 : Nat) (Q : Option Value → Heap → Prop) (G : Outcome → State → List Loc → Prop) (m : MethodId) (T : State) (pc : Nat) (ls : Array Slot) (st : List Value) : Prop :=
  ∃ s₂ o, Steps p.tables e below (T.setTop (mkF m pc ls st)) s₂ ∧ s₂.status = .running ∧ Ended s₂ below o ∧ ∃ v L, o = .returned v ∧ (Q v s₂.heap ∧ Fr n0 L) ∧ G o s₂ L
theorem Run.step {T' : State} {pc' : Nat} {ls' : Array Slot} {st' : List Value} (f : ∀ t, Steps p.tables e below (T'.setTop (mkF m pc' ls' st')) t → Steps p.tables e below (T.setTop (mkF m pc ls st)) t) (r : Run p e below n0 Q G m T' pc' ls' st') : Run p e below n0 Q G m T pc ls st := by
  obtain ⟨s₂, o, h1, h2⟩ := r
  exact ⟨s₂, o, f _ h1, h2⟩
theorem Run.steps {T' : State} {pc' : Nat} {ls' : Array Slot} {st' : List Value} (f : Steps p.tables e below (T.setTop (mkF m pc ls st)) (T'.setTop (mkF m pc' ls' st'))) (r : Run p e below n0 Q G m T' pc' ls' st') : Run p e below n0 Q G m T pc ls st := Run.step (fun _ q => f.trans q) r
theorem Run.cast {st' : List Value} (q : st = st') (r : Run p e below n0 Q G m T pc ls st') : Run p e below n0 Q G m T pc ls st := q ▸ r
theorem St.at' (X : St p l e R s m args below meth c n0 T h k n) : Jvm.At T m c below := by obtain ⟨_, X, -⟩ := X; exact X.here
theorem St.sz (X : St p l e R s m args below meth c n0 T h k n) : n0 ≤ h.size := by
  obtain ⟨_, X, rfl, -, q⟩ := X
  exact Nat.le_trans q X.same.2.1
theorem Cx.d {r : Except DecodeError (Instr × Nat)} (C : Cx tabs a0 Z own nm code ml ret p s m meth c) (q : decode code pc = r) : decode c.code pc = r := hb C.2.2.1 q
theorem Cx.w {d : Jvm.Cond} (C : Cx tabs a0 Z own nm code ml ret p s m meth c) (q : d ∈ tabs) : d.before a0 Z = true := C.2.2.2.2.2.2.2.2 d q
theorem s_iloadN (pc' : Nat) (C : Cx tabs a0 Z own nm code ml ret p s m meth c) (X : St p l e R s m args below meth c n0 T h k n) {i : Fin 4} {v : Int32} (hd : decode code pc = .ok (.iload_n i, 1)) (hl : ls[i.val]? = some (.val (.int v))) (r : Run p e below n0 Q G m T pc' ls (.int v :: st)) (hp : pc + 1 = pc' := by rfl) : Run p e below n0 Q G m T pc ls st := by
  subst hp
  exact Run.step (fun t q => XS.iloadN X.at' C.1 rfl (C.d hd) hl q) r
theorem s_iload (pc' : Nat) (C : Cx tabs a0 Z own nm code ml ret p s m meth c) (X : St p l e R s m args below meth c n0 T h k n) {i : Nat} {v : Int32} (hd : decode code pc = .ok (.iload i, 2)) (hl : ls[i]? = some (.val (.int v))) (r : Run p e below n0 Q G m T pc' ls (.int v :: st)) (hp : pc + 2 = pc' := by rfl) : Run p e below n0 Q G m T pc ls st := by
  subst hp
  exact Run.step (fun t q => XS.iload X.at' C.1 rfl (C.d hd) hl q) r
theorem s_lloadN (pc' : Nat) (C : Cx tabs a0 Z own nm code ml ret p s m meth c) (X : St p l e R s m args below meth c n0 T h k n) {i : Fin 4} {v : Int64} (hd : decode code pc = .ok (.lload_n i, 1)) (hl : ls[i.val]? = some (.val (.long v))) (r : Run p e below n0 Q G m T pc' ls (.long v :: st)) (hp : pc + 1 = pc' := by rfl) : Run p e below n0 Q G m T pc ls st := by
  subst hp
  exact Run.step (fun t q => XT.lloadN X.at' C.1 rfl (C.d hd) hl q) r
theorem s_lload (pc' : Nat) (C : Cx tabs a0 Z own nm code ml ret p s m meth c) (X : St p l e R s m args below meth c n0 T h k n) {i : Nat} {v : Int64} (hd : decode code pc = .ok (.lload i, 2)) (hl : ls[i]? = some (.val (.long v))) (r : Run p e below n0 Q G m T pc' ls (.long v :: st)) (hp : pc + 2 = pc' := by rfl) : Run p e below n0 Q G m T pc ls st := by
  subst hp
  exact Run.step (fun t q => XT.lload X.at' C.1 rfl (C.d hd) hl q) r
theorem s_aloadN (pc' : Nat) (C : Cx tabs a0 Z own nm code ml ret p s m meth c) (X : St p l e R s m args below meth c n0 T h k n) {i : Fin 4} {v : Value} (hd : decode code pc = .ok (.aload_n i, 1)) (hl : ls[i.val]? = some (.val v)) (hv : v.isRef = true) (r : Run p e below n0 Q G m T pc' ls (v :: st)) (hp : pc + 1 = pc' := by rfl) : Run p e below n0 Q G m T pc ls st := by
  subst hp
  exact Run.step (fun t q => XS.aloadN X.at' C.1 rfl (C.d hd) hl hv q) r
theorem s_aload (pc' : Nat) (C : Cx tabs a0 Z own nm code ml ret p s m meth c) (X : St p l e R s m args below meth c n0 T h k n) {i : Nat} {v : Value} (hd : decode code pc = .ok (.aload i, 2)) (hl : ls[i]? = some (.val v)) (hv : v.isRef = true) (r : Run p e below n0 Q G m T pc' ls (v :: st)) (hp : pc + 2 = pc' := by rfl) : Run p e below n0 Q G m T pc ls st := by
  subst hp
  exact Run.step (fun t q => XS.aload X.at' C.1 rfl (C.d hd) hl hv q) r
theorem s_istore (pc' : Nat) (C : Cx tabs a0 Z own nm code ml ret p s m meth c) (X : St p l e R s m args below meth c n0 T h k n) {i : Nat} {v : Int32} {l' : Array Slot} (hd : decode code pc = .ok (.istore i, 2)) (hl : storeLocals ls i (.int v) = some l') (r : Run p e below n0 Q G m T pc' l' st) (hp : pc + 2 = pc' := by rfl) : Run p e below n0 Q G m T pc ls (.int v :: st) := by
  subst hp
  exact Run.step (fun t q => XS.istore X.at' C.1 rfl (C.d hd) rfl hl q) r
theorem s_lstore (pc' : Nat) (C : Cx tabs a0 Z own nm code ml ret p s m meth c) (X : St p l e R s m args below meth c n0 T h k n) {i : Nat} {v : Int64} {l' : Array Slot} (hd : decode code pc = .ok (.lstore i, 2)) (hl : storeLocals ls i (.long v) = some l') (r : Run p e below n0 Q G m T pc' l' st) (hp : pc + 2 = pc' := by rfl) : Run p e below n0 Q G m T pc ls (.long v :: st) := by
  subst hp
  exact Run.step (fun t q => XT.lstore X.at' C.1 rfl (C.d hd) rfl hl q) r
theorem s_astoreN (pc' : Nat) (C : Cx tabs a0 Z own nm code ml ret p s m meth c) (X : St p l e R s m args below meth c n0 T h k n) {i : Fin 4} {v : Value} {l' : Array Slot} (hd : decode code pc = .ok (.astore_n i, 1)) (hv : v.isRef = true) (hl : storeLocals ls i.val v = some l') (r : Run p e below n0 Q G m T pc' l' st) (hp : pc + 1 = pc' := by rfl) : Run p e below n0 Q G m T pc ls (v :: st) := by
  subst hp
  exact Run.step (fun t q => XS.astoreN X.at' C.1 rfl (C.d hd) rfl hv hl q) r
theorem s_astore (pc' : Nat) (C : Cx tabs a0 Z own nm code ml ret p s m meth c) (X : St p l e R s m args below meth c n0 T h k n) {i : Nat} {v : Value} {l' : Array Slot} (hd : decode code pc = .ok (.astore i, 2)) (hv : v.isRef = true) (hl : storeLocals ls i v = some l') (r : Run p e below n0 Q G m T pc' l' st) (hp : pc + 2 = pc' := by rfl) : Run p e below n0 Q G m T pc ls (v :: st) := by
  subst hp
  exact Run.step (fun t q => XS.astore X.at' C.1 rfl (C.d hd) rfl hv hl q) r
theorem s_iconst (pc' : Nat) (C : Cx tabs a0 Z own nm code ml ret p s m meth c) (X : St p l e R s m args below meth c n0 T h k n) {i : Int} {z : Int32} (hd : decode code pc = .ok (.iconst i, 1)) (hz : Int32.ofInt i = z) (r : Run p e below n0 Q G m T pc' ls (.int z :: st)) (hp : pc + 1 = pc' := by rfl) : Run p e below n0 Q G m T pc ls st := by
  subst hp
  exact Run.step (fun t q => XS.iconst X.at' C.1 rfl (C.d hd) (by rw [hz]; exact q)) r
theorem s_lconst (pc' : Nat) (C : Cx tabs a0 Z own nm code ml ret p s m meth c) (X : St p l e R s m args below meth c n0 T h k n) {i : Fin 2} {z : Int64} (hd : decode code pc = .ok (.lconst i, 1)) (hz : Int64.ofNat i = z) (r : Run p e below n0 Q G m T pc' ls (.long z :: st)) (hp : pc + 1 = pc' := by rfl) : Run p e below n0 Q G m T pc ls st := by
  subst hp
  exact Run.step (fun t q => XT.lconst X.at' C.1 rfl (C.d hd) (by rw [hz]; exact q)) r
theorem s_aconstNull (pc' : Nat) (C : Cx tabs a0 Z own nm code ml ret p s m meth c) (X : St p l e R s m args below meth c n0 T h k n) (hd : decode code pc = .ok (.aconst_null, 1)) (r : Run p e below n0 Q G m T pc' ls (.null :: st)) (hp : pc + 1 = pc' := by rfl) : Run p e below n0 Q G m T pc ls st := by
  subst hp
  exact Run.step (fun t q => XS.aconstNull X.at' C.1 rfl (C.d hd) q) r
theorem s_iadd (pc' : Nat) (C : Cx tabs a0 Z own nm code ml ret p s m meth c) (X : St p l e R s m args below meth c n0 T h k n) {x y : Int32} (hd : decode code pc = .ok (.iadd, 1)) (r : Run p e below n0 Q G m T pc' ls (.int (x + y) :: st)) (hp : pc + 1 = pc' := by rfl) : Run p e below n0 Q G m T pc ls (.int y :: .int x :: st) := by
  subst hp
  exact Run.step (fun t q => XS.iadd X.at' C.1 rfl (C.d hd) rfl q) r
theorem s_iand (pc' : Nat) (C : Cx tabs a0 Z own nm code ml ret p s m meth c) (X : St p l e R s m args below meth c n0 T h k n) {x y : Int32} (hd : decode code pc = .ok (.iand, 1)) (r : Run p e below n0 Q G m T pc' ls (.int (x &&& y) :: st)) (hp : pc + 1 = pc' := by rfl) : Run p e below n0 Q G m T pc ls (.int y :: .int x :: st) := by
  subst hp
  exact Run.step (fun t q => XS.iand X.at' C.1 rfl (C.d hd) rfl q) r
theorem s_ladd (pc' : Nat) (C : Cx tabs a0 Z own nm code ml ret p s m meth c) (X : St p l e R s m args below meth c n0 T h k n) {x y : Int64} (hd : decode code pc = .ok (.ladd, 1)) (r : Run p e below n0 Q G m T pc' ls (.long (x + y) :: st)) (hp : pc + 1 = pc' := by rfl) : Run p e below n0 Q G m T pc ls (.long y :: .long x :: st) := by
  subst hp
  exact Run.step (fun t q => XT.ladd X.at' C.1 rfl (C.d hd) rfl q) r
theorem s_land (pc' : Nat) (C : Cx tabs a0 Z own nm code ml ret p s m meth c) (X : St p l e R s m args below meth c n0 T h k n) {x y : Int64} (hd : decode code pc = .ok (.land, 1)) (r : Run p e below n0 Q G m T pc' ls (.long (x &&& y) :: st)) (hp : pc + 1 = pc' := by rfl) : Run p e below n0 Q G m T pc ls (.long y :: .long x :: st) := by
  subst hp
  exact Run.step (fun t q => XT.land X.at' C.1 rfl (C.d hd) rfl q) r
theorem s_lrem (pc' : Nat) (C : Cx tabs a0 Z own nm code ml ret p s m meth c) (X : St p l e R s m args below meth c n0 T h k n) {x y : Int64} (hd : decode code pc = .ok (.lrem, 1)) (hy : y ≠ 0) (r : Run p e below n0 Q G m T pc' ls (.long (x - (x / y) * y) :: st)) (hp : pc + 1 = pc' := by rfl) : Run p e below n0 Q G m T pc ls (.long y :: .long x :: st) := by
  subst hp
  exact Run.step (fun t q => XT.lrem X.at' C.1 rfl (C.d hd) rfl hy q) r
theorem s_lcmp (pc' : Nat) (C : Cx tabs a0 Z own nm code ml ret p s m meth c) (X : St p l e R s m args below meth c n0 T h k n) {x y : Int64} (hd : decode code pc = .ok (.lcmp, 1)) (r : Run p e below n0 Q G m T pc' ls (.int (XT.cmpL x y) :: st)) (hp : pc + 1 = pc' := by rfl) : Run p e below n0 Q G m T pc ls (.long y :: .long x :: st) := by
  subst hp
  exact Run.step (fun t q => XT.lcmp X.at' C.1 rfl (C.d hd) rfl q) r
theorem s_dup (pc' : Nat) (C : Cx tabs a0 Z own nm code ml ret p s m meth c) (X : St p l e R s m args below meth c n0 T h k n) {v : Value} (hd : decode code pc = .ok (.dup, 1)) (hc : v.category = 1) (r : Run p e below n0 Q G m T pc' ls (v :: v :: st)) (hp : pc + 1 = pc' := by rfl) : Run p e below n0 Q G m T pc ls (v :: st) := by
  subst hp
  exact Run.step (fun t q => XS.dup X.at' C.1 rfl (C.d hd) rfl hc q) r
theorem s_goto (pc' : Nat) (C : Cx tabs a0 Z own nm code ml ret p s m meth c) (X : St p l e R s m args below meth c n0 T h k n) {o : Int} (hd : decode code pc = .ok (.goto o, 3)) (r : Run p e below n0 Q G m T pc' ls st) (hp : 0 ≤ (pc : Int) + o ∧ ((pc : Int) + o).toNat = pc' := by decide) : Run p e below n0 Q G m T pc ls st := by
  exact Run.step (fun t q => XS.goto X.at' C.1 rfl rfl (C.d hd) hp.1 hp.2 q) r
theorem s_if_lt (pY pN : Nat) (C : Cx tabs a0 Z own nm code ml ret p s m meth c) (X : St p l e R s m args below meth c n0 T h k n) {x : Int32} {o : Int} (hd : decode code pc = .ok (.ifCond .lt o, 3)) (ry : x < (0 : Int32) → Run p e below n0 Q G m T pY ls st) (rn : ¬ x < (0 : Int32) → Run p e below n0 Q G m T pN ls st) (hp : 0 ≤ (pc : Int) + o ∧ ((pc : Int) + o).toNat = pY ∧ pc + 3 = pN := by decide) : Run p e below n0 Q G m T pc ls (.int x :: st) := by
  by_cases g : x < (0 : Int32)
  · exact Run.step (fun t q => XS.ifYes X.at' C.1 rfl rfl (C.d hd) rfl ((if0 _ _).trans (tlt g).1) hp.1 hp.2.1 q) (ry g)
  · obtain rfl := hp.2.2
    exact Run.step (fun t q => XS.ifNo X.at' C.1 rfl (C.d hd) rfl ((if0 _ _).trans (flt g).1) q) (rn g)
theorem s_icmp_ne (pY pN : Nat) (C : Cx tabs a0 Z own nm code ml ret p s m meth c) (X : St p l e R s m args below meth c n0 T h k n) {x y : Int32} {o : Int} (hd : decode code pc = .ok (.if_icmp .ne o, 3)) (ry : ¬ x = y → Run p e below n0 Q G m T pY ls st) (rn : x = y → Run p e below n0 Q G m T pN ls st) (hp : 0 ≤ (pc : Int) + o ∧ ((pc : Int) + o).toNat = pY ∧ pc + 3 = pN := by decide) : Run p e below n0 Q G m T pc ls (.int y :: .int x :: st) := by
  by_cases g : x = y
  · obtain rfl := hp.2.2
    exact Run.step (fun t q => XS.icmpNo X.at' C.1 rfl (C.d hd) rfl (teq g).2 q) (rn g)
  · exact Run.step (fun t q => XS.icmpYes X.at' C.1 rfl rfl (C.d hd) rfl (feq g).2 hp.1 hp.2.1 q) (ry g)
theorem s_if_ne (pY pN : Nat) (C : Cx tabs a0 Z own nm code ml ret p s m meth c) (X : St p l e R s m args below meth c n0 T h k n) {x : Int32} {o : Int} (hd : decode code pc = .ok (.ifCond .ne o, 3)) (ry : ¬ x = (0 : Int32) → Run p e below n0 Q G m T pY ls st) (rn : x = (0 : Int32) → Run p e below n0 Q G m T pN ls st) (hp : 0 ≤ (pc : Int) + o ∧ ((pc : Int) + o).toNat = pY ∧ pc + 3 = pN := by decide) : Run p e below n0 Q G m T pc ls (.int x :: st) := by
  by_cases g : x = (0 : Int32)
  · obtain rfl := hp.2.2
    exact Run.step (fun t q => XS.ifNo X.at' C.1 rfl (C.d hd) rfl ((if0 _ _).trans (teq g).2) q) (rn g)
  · exact Run.step (fun t q => XS.ifYes X.at' C.1 rfl rfl (C.d hd) rfl ((if0 _ _).trans (feq g).2) hp.1 hp.2.1 q) (ry g)
theorem s_acmp_ne (pY pN : Nat) (C : Cx tabs a0 Z own nm code ml ret p s m meth c) (X : St p l e R s m args below meth c n0 T h k n) {v w : Value} {o : Int} (hd : decode code pc = .ok (.if_acmp .ne o, 3)) (hv : v.isRef = true) (hw : w.isRef = true) (ry : ¬ v = w → Run p e below n0 Q G m T pY ls st) (rn : v = w → Run p e below n0 Q G m T pN ls st) (hp : 0 ≤ (pc : Int) + o ∧ ((pc : Int) + o).toNat = pY ∧ pc + 3 = pN := by decide) : Run p e below n0 Q G m T pc ls (w :: v :: st) := by
  by_cases g : v = w
  · obtain rfl := hp.2.2; exact Run.step (fun t q => XT.acmpNo X.at' C.1 rfl (C.d hd) rfl hv hw (by simp [XT.acmp, g]) q) (rn g)
  · exact Run.step (fun t q => XT.acmpYes X.at' C.1 rfl rfl (C.d hd) rfl hv hw (by simp [XT.acmp, g]) hp.1 hp.2.1 q) (ry g)
theorem s_ifnullY (pY : Nat) (C : Cx tabs a0 Z own nm code ml ret p s m meth c) (X : St p l e R s m args below meth c n0 T h k n) {o : Int} (hd : decode code pc = .ok (.ifnull o, 3)) (ry : Run p e below n0 Q G m T pY ls st) (hp : 0 ≤ (pc : Int) + o ∧ ((pc : Int) + o).toNat = pY := by decide) : Run p e below n0 Q G m T pc ls (.null :: st) := Run.step (fun t q => XS.ifnullYes X.at' C.1 rfl rfl (C.d hd) rfl hp.1 hp.2 q) ry
theorem s_ifnullN (pN : Nat) (C : Cx tabs a0 Z own nm code ml ret p s m meth c) (X : St p l e R s m args below meth c n0 T h k n) {b : Addr} {o : Int} (hd : decode code pc = .ok (.ifnull o, 3)) (rn : Run p e below n0 Q G m T pN ls st) (hp : pc + 3 = pN := by rfl) : Run p e below n0 Q G m T pc ls (.ref b :: st) := by
  subst hp
  exact Run.step (fun t q => XS.ifnullNo X.at' C.1 rfl (C.d hd) rfl q) rn
theorem s_ifnonnullY (pY : Nat) (C : Cx tabs a0 Z own nm code ml ret p s m meth c) (X : St p l e R s m args below meth c n0 T h k n) {b : Addr} {o : Int} (hd : decode code pc = .ok (.ifnonnull o, 3)) (ry : Run p e below n0 Q G m T pY ls st) (hp : 0 ≤ (pc : Int) + o ∧ ((pc : Int) + o).toNat = pY := by decide) : Run p e below n0 Q G m T pc ls (.ref b :: st) := Run.step (fun t q => XT.ifnonnullYes X.at' C.1 rfl rfl (C.d hd) rfl hp.1 hp.2 q) ry
theorem s_ldc2Long (pc' : Nat) (C : Cx tabs a0 Z own nm code ml ret p s m meth c) (X : St p l e R s m args below meth c n0 T h k n) {idx : Nat} {z : Int64} (hd : decode code pc = .ok (.ldc2_w idx, 3)) (w : Jvm.Cond.constantLong own idx z ∈ tabs) (r : Run p e below n0 Q G m T pc' ls (.long z :: st)) (hp : pc + 3 = pc' := by rfl) : Run p e below n0 Q G m T pc ls st := by
  subst hp
  obtain ⟨_, Y, -⟩ := X
  exact Run.step (Y.ldc2Long C.1 C.2.2.2.2.1 (mvT C.2.1 (C.w w)) (g := mkF m pc ls st) rfl (C.d hd)) r
theorem cl_lt {x y : Int64} : XT.cmpL x y < 0 ↔ x.toInt < y.toInt := by
  rw [← Int64.lt_iff_toInt_lt]; exact lw_lt x y
theorem FE_mono {kc ks : Nat} (hk : k ≤ kc) (hn : n ≤ ks) : ∀ (v : Option Value) (t : State) (L : List Loc), t.heap = h → FrameEnd s (.returned v) t L k n → FrameEnd s (.returned v) t L kc ks := fun v t L _ h => ⟨h.1, h.2.1, h.2.2.mono hk hn⟩
theorem Run.done (C : Cx tabs a0 Z own nm code ml ret p s m meth c) (X : St p l e R s m args below meth c n0 T h k n) {v : Option Value} (hv : ret = none → v = none) (hG : ∀ (v : Option Value) (t : State) (L : List Loc), t.heap = h → FrameEnd s (.returned v) t L k n → G (.returned v) t L) (q : Q v h) (f : ∀ locs fs, Stand p l e R s m args below meth c T locs k n → (∀ (f : JFrame) (acts : List Action), f.method = m → f.locked = none → f.entered = [] → (doReturn e (T.setTop f) acts v).1 = T.setFrames fs) → Steps p.tables e below (T.setTop (mkF m pc ls st)) (T.setFrames fs)) : Run p e below n0 Q G m T pc ls st := by
  obtain ⟨locs, Y, rfl, N, -⟩ := X
  obtain ⟨fs, hr, hrun, hended, hW, hsame⟩ := Y.leave (v := v) (by rw [C.2.2.2.2.2.1]; exact hv) C.2.2.2.2.2.2.1
  exact ⟨_, _, f locs fs Y hr, hrun, hended, _, _, rfl, ⟨q, N⟩, hG _ _ _ rfl ⟨⟨_, rfl⟩, hW, hsame⟩⟩
theorem s_return (C : Cx tabs a0 Z own nm code ml ret p s m meth c) (X : St p l e R s m args below meth c n0 T h k n) (hd : decode code pc = .ok (.return_, 1)) (hr : ret = none) (q : Q none h) (hG : ∀ (v : Option Value) (t : State) (L : List Loc), t.heap = h → FrameEnd s (.returned v) t L k n → G (.returned v) t L := by exact FE_mono (by decide) (by decide)) : Run p e below n0 Q G m T pc ls [] := by
  subst hr
  exact Run.done C X (fun _ => rfl) hG q (fun locs fs Y hr => Y.returnOut C.1 C.2.2.2.2.2.1 (C.d hd) hr)
theorem s_nreturn (C : Cx tabs a0 Z own nm code ml ret p s m meth c) (X : St p l e R s m args below meth c n0 T h k n) {z z' : Int32} {t : FieldType} (hd : decode code pc = .ok (.ireturn, 1)) (hr : ret = some t) (ht : t = .boolean ∨ t = .byte ∨ t = .char ∨ t = .short) (hz : nar t z = z') (q : Q (some (.int z')) h) (hG : ∀ (v : Option Value) (t : State) (L : List Loc), t.heap = h → FrameEnd s (.returned v) t L k n → G (.returned v) t L := by exact FE_mono (by decide) (by decide)) : Run p e below n0 Q G m T pc ls (.int z :: st) := by
  subst hr hz
  refine Run.done C X (fun w => by cases w) hG q (fun locs fs Y hr => ?_)
  exact retN Y C.1 C.2.2.2.2.2.1 ht (C.d hd) hr
theorem s_lreturn (C : Cx tabs a0 Z own nm code ml ret p s m meth c) (X : St p l e R s m args below meth c n0 T h k n) {z : Int64} (hd : decode code pc = .ok (.lreturn, 1)) (hr : ret = some .long) (q : Q (some (.long z)) h) (hG : ∀ (v : Option Value) (t : State) (L : List Loc), t.heap = h → FrameEnd s (.returned v) t L k n → G (.returned v) t L := by exact FE_mono (by decide) (by decide)) : Run p e below n0 Q G m T pc ls (.long z :: st) := by
  subst hr
  refine Run.done C X (fun w => by cases w) hG q (fun locs fs Y hr => ?_)
  exact retOut Y C.1 C.2.2.2.2.2.1 (t := .long) rfl (Or.inr (Or.inl ⟨rfl, rfl, _, rfl⟩)) (C.d hd) hr
theorem s_areturn (C : Cx tabs a0 Z own nm code ml ret p s m meth c) (X : St p l e R s m args below meth c n0 T h k n) {v : Value} {t : FieldType} (hd : decode code pc = .ok (.areturn, 1)) (hr : ret = some t) (ht : t.isReference = true) (hv : v.isRef = true) (q : Q (some v) h) (hG : ∀ (v : Option Value) (t : State) (L : List Loc), t.heap = h → FrameEnd s (.returned v) t L k n → G (.returned v) t L := by exact FE_mono (by decide) (by decide)) : Run p e below n0 Q G m T pc ls (v :: st) := by
  subst hr
  refine Run.done C X (fun w => by cases w) hG q (fun locs fs Y hr => ?_)
  exact retOut Y C.1 C.2.2.2.2.2.1 (t := t) (by rcases ref_cases hv with rfl | ⟨_, rfl⟩ <;> cases t <;> first | rfl | simp [FieldType.isReference] at ht) (Or.inr (Or.inr (Or.inr (Or.inr ⟨rfl, ht, hv⟩)))) (C.d hd) hr
theorem s_getfield (pc' : Nat) (C : Cx tabs a0 Z own nm code ml ret p s m meth c) (X : St p l e R s m args below meth c n0 T h k n) {R0 O fn d host : String} {idx : Nat} {a : Addr} {v : Value} (hd : decode code pc = .ok (.getfield idx, 3)) (w : Jvm.Cond.fieldLink own idx R0 fn d ∈ tabs ∨ Jvm.Cond.fieldLinkNest own idx R0 fn d host ∈ tabs) (via : Via Z R0 O fn d) (F : Fld Z h a O fn d v) (r : ∀ T', St p l e R s m args below meth c n0 T' h k n → Run p e below n0 Q G m T' pc' ls (v :: st)) (hp : pc + 3 = pc' := by rfl) : Run p e below n0 Q G m T pc ls (.ref a :: st) := by
  subst hp
  obtain ⟨locs, Y, eT, N, q⟩ := X
  obtain ⟨T', Y', e', f⟩ := getF (host := host) Y C.1 C.2.1 C.2.2.2.2.1 (w.imp C.w C.w) via eT F (g := mkF m pc ls (.ref a :: st)) rfl rfl (C.d hd)
  exact Run.step f (r T' ⟨locs, Y', e', N, q⟩)
theorem s_getstatic (pc' : Nat) (C : Cx tabs a0 Z own nm code ml ret p s m meth c) (X : St p l e R s m args below meth c n0 T h k n) {R0 O fn d host : String} {idx : Nat} {v : Value} (hd : decode code pc = .ok (.getstatic idx, 3)) (w : Jvm.Cond.fieldLink own idx R0 fn d ∈ tabs ∨ Jvm.Cond.fieldLinkNest own idx R0 fn d host ∈ tabs) (via : Via Z R0 O fn d) (F : Sta Z h O fn d v) (r : ∀ T', St p l e R s m args below meth c n0 T' h k n → Run p e below n0 Q G m T' pc' ls (v :: st)) (hp : pc + 3 = pc' := by rfl) : Run p e below n0 Q G m T pc ls st := by
  subst hp
  obtain ⟨locs, Y, eT, N, q⟩ := X
  obtain ⟨T', Y', e', f⟩ := getS2 (host := host) Y C.1 C.2.1 C.2.2.2.2.1 (w.imp C.w C.w) via eT F (g := mkF m pc ls st) rfl (C.d hd)
  exact Run.step f (r T' ⟨locs, Y', e', N, q⟩)
theorem s_putfield (pc' : Nat) (C : Cx tabs a0 Z own nm code ml ret p s m meth c) (X : St p l e R s m args below meth c n0 T h k n) {R0 O fn d host K : String} {idx kk : Nat} {ty : FieldType} {a : Addr} {v old : Value} (hd : decode code pc = .ok (.putfield idx, 3)) (w : Jvm.Cond.fieldLink own idx R0 fn d ∈ tabs ∨ Jvm.Cond.fieldLinkNest own idx R0 fn d host ∈ tabs) (via : Via Z R0 O fn d) (F : Fld Z h a O fn d old) (E : Exa Z h a K) (L : Jvm.Cond.lays K O fn d ∈ tabs ∨ (Jvm.Cond.laysFinal K O fn d ∈ tabs ∧ own = O ∧ nm = "<init>")) (wi : Jvm.Cond.instantiable K kk ∈ tabs) (hty : parseFieldDescriptor d = some ty) (hn : narrow ty v = v) (hf : fits ty v = true) (ge : n0 ≤ a)
    (r : ∀ T' h', St p l e R s m args below meth c n0 T' h' k n → Wr h h' a (RoadKit.slotOf Z O fn d) v → Run p e below n0 Q G m T' pc' ls st) (hp : pc + 3 = pc' := by rfl) : Run p e below n0 Q G m T pc ls (v :: .ref a :: st) := by
  subst hp
  obtain ⟨locs, Y, eT, N, q⟩ := X
  obtain ⟨T', h', Y', e', W, f⟩ := putF (host := host) Y C.1 C.2.1 C.2.2.2.2.1 (w.imp C.w C.w) via eT F E (L.imp C.w fun z => ⟨C.w z.1, z.2.1, C.2.2.2.2.2.2.2.1.trans z.2.2⟩) (C.w wi) hty hn hf (g := mkF m pc ls (v :: .ref a :: st)) rfl rfl (C.d hd)
  exact Run.step f (r T' h' ⟨_, Y', e', Fr.snoc Y' N ge, q⟩ W)
theorem s_new (pc' : Nat) (C : Cx tabs a0 Z own nm code ml ret p s m meth c) (X : St p l e R s m args below meth c n0 T h k n) {K : String} {idx nn : Nat} (hd : decode code pc = .ok (.new idx, 3)) (w1 : Jvm.Cond.classLink own idx K ∈ tabs) (w2 : Jvm.Cond.instantiable K nn ∈ tabs) (w3 : Jvm.Cond.initialized K ∈ tabs)
    (r : ∀ T' h' b, h.size = b → St p l e R s m args below meth c n0 T' h' (k + 1) (n + nn) → Ext h h' → Exa Z h' b K → (∀ {O fn d : String} {ty : FieldType}, Laid Z a0 K O fn d → parseFieldDescriptor d = some ty → Fld Z h' b O fn d (defaultValue ty)) → n0 ≤ b → Run p e below n0 Q G m T' pc' ls (.ref b :: st)) (hp : pc + 3 = pc' := by rfl) (hc : k + 1 ≤ R.cells ∧ n + nn ≤ R.slots := by decide) : Run p e below n0 Q G m T pc ls st := by
  subst hp
  have hz := X.sz
  obtain ⟨locs, Y, eT, N, q⟩ := X
  obtain ⟨T', h', Y', e', E, A, D, -, f⟩ := newO Y C.1 C.2.1 C.2.2.2.2.1 (C.w w1) (C.w w2) (C.w w3) eT (g := mkF m pc ls st) rfl (C.d hd) hc.1 hc.2
  exact Run.step f (r T' h' _ rfl ⟨locs, Y', e', N, q⟩ E A D hz)
theorem s_objInit (pc' : Nat) (C : Cx tabs a0 Z own nm code ml ret p s m meth c) (X : St p l e R s m args below meth c n0 T h k n) {idx W : Nat} {a : Addr} (hd : decode code pc = .ok (.invokespecial idx, 3)) (w1 : Jvm.Cond.methodLink own idx Lib.objectInit ∈ tabs) (w2 : Jvm.Cond.instanceMethod Lib.objectInit ∈ tabs) (w3 : Jvm.Cond.code Lib.objectInit ⟨#[0xb1]⟩ 1 none ∈ tabs) (hsz : ls.size = ml) (hW : (st.map fun v => v.category).sum = W) (hf : 1 ≤ R.frames ∧ W + 12 ≤ R.locals)
    (r : ∀ T', St p l e R s m args below meth c n0 T' h k n → Run p e below n0 Q G m T' pc' ls st) (hp : pc + 3 = pc' := by rfl) : Run p e below n0 Q G m T pc ls (.ref a :: st) := by
  subst hp
  obtain ⟨locs, Y, eT, N, q⟩ := X
  obtain ⟨T', Y', e', f⟩ := initO Y C.1 C.2.1 C.2.2.2.2.1 (C.w w1) (C.w w2) (C.w w3) eT (g := mkF m pc ls (.ref a :: st)) rfl (hsz.trans C.2.2.2.1.symm) rfl (C.d hd) hf.1 (W := W) (by show 2 * 0 + _ ≤ _; rw [hW]; omega) hf.2
  exact Run.step f (r T' ⟨locs, Y', e', N, q⟩)
theorem s_castY (pc' : Nat) (C : Cx tabs a0 Z own nm code ml ret p s m meth c) (X : St p l e R s m args below meth c n0 T h k n) {K : String} {idx : Nat} {a : Addr} (hd : decode code pc = .ok (.checkcast idx, 3)) (w : Jvm.Cond.classLink own idx K ∈ tabs) (F : Ins Z h a K true) (r : ∀ T', St p l e R s m args below meth c n0 T' h k n → Run p e below n0 Q G m T' pc' ls (.ref a :: st)) (hp : pc + 3 = pc' := by rfl) : Run p e below n0 Q G m T pc ls (.ref a :: st) := by
  subst hp
  obtain ⟨locs, Y, eT, N, q⟩ := X
  obtain ⟨T', Y', e', f⟩ := castY Y C.1 C.2.1 C.2.2.2.2.1 (C.w w) eT F (g := mkF m pc ls (.ref a :: st)) rfl rfl (C.d hd)
  exact Run.step f (r T' ⟨locs, Y', e', N, q⟩)
theorem s_castNull (pc' : Nat) (C : Cx tabs a0 Z own nm code ml ret p s m meth c) (X : St p l e R s m args below meth c n0 T h k n) {idx : Nat} (hd : decode code pc = .ok (.checkcast idx, 3)) (r : Run p e below n0 Q G m T pc' ls (.null :: st)) (hp : pc + 3 = pc' := by rfl) : Run p e below n0 Q G m T pc ls (.null :: st) := by
  subst hp
  obtain ⟨locs, Y, eT, N, q⟩ := X
  exact Run.step (Y.checkcastNull C.1 (g := mkF m pc ls (.null :: st)) rfl rfl (C.d hd)) r
/-- a method's contract at given arguments and a given heap -/
def Met (l : Launch) (Z : State) (y : MethodName) (bytes : ByteArray) (ml : Nat) (ret : Option FieldType) (rm : Room) (ws : List Jvm.Cond) (as : Array Value) (h : Heap) (n0 : Nat) (Q : Option Value → Heap → Prop) : Prop :=
  MetFree l y (head1 (Jvm.Cond.code y bytes ml ret :: ws) rm) (fun a U => a = as ∧ Z.Warmed39 U.vm ∧ U.heap = h) (fun _ _ _ _ _ => True) (fun _ U o U' => ∃ v L, o = .returned v ∧ (Q v U'.heap ∧ Fr n0 L) ∧ FrameEnd U o U' L rm.cells rm.slots)
theorem Met.mk {y : MethodName} {rm : Room} {ws : List Jvm.Cond} {as : Array Value} {ls0 : Array Slot} (hpl : plainFor y = true) (hw : ∀ d ∈ tabs, d.before a0 Z = true) (hn : n0 ≤ h.size) (hef : ∀ m, entryFrame m as ml = mkF m 0 ls0 [])
    (body : ∀ p e s m below meth c T, Cx tabs a0 Z y.cls y.name code ml ret p s m meth c → St p l e rm s m as below meth c n0 T h 0 0 → Run p e below n0 Q (fun o t L => FrameEnd s o t L rm.cells rm.slots) m T 0 ls0 []) : Met l Z y code ml ret rm ws as h n0 Q := by
  refine MetFree.of_bodySF hpl hisR ?_
  intro p e s m args below meth c s₁ Bd hml0 hP hK
  obtain ⟨rfl, hZ, rfl⟩ := hP
  have X0 : Stand p l e rm s m args below meth c s₁ [] 0 0 := Stand.of_body Bd
  have e0 : s₁.heap = s.heap := by rw [Bd.state]; rfl
  have r := body p e s m below meth c s₁ ⟨Bd.exec, hZ, Bd.bytes, hml0, findClass_of_methodNamed Bd.named, Bd.returns, Bd.notSynchronized, (name_of_methodNamed Bd.named Bd.method).1, hw⟩ ⟨[], X0, e0, Fr.nil n0, hn⟩
  obtain ⟨s₂, o, h1, h2⟩ := r
  exact ⟨s₂, o, castTop (hef m) h1, h2⟩
theorem s_callS (pc' : Nat) (argsL rest : List Value) (W : Nat) (C : Cx tabs a0 Z own nm code ml ret p s m meth c) (X : St p l e R s m args below meth c n0 T h k n) {idx : Nat} {y : MethodName} {bytes : ByteArray} {maxL : Nat} {rt : Option FieldType} {rm : Room} {stk : List Value} {Q1 : Option Value → Heap → Prop} (hd : decode code pc = .ok (.invokestatic idx, 3)) (w1 : Jvm.Cond.methodLink own idx y ∈ tabs) (w2 : Jvm.Cond.static y ∈ tabs) (w3 : Jvm.Cond.initialized y.cls ∈ tabs) (w4 : Jvm.Cond.code y bytes maxL rt ∈ tabs)
    (M : Met l Z y bytes maxL rt rm [] argsL.toArray h n0 Q1) (hlen : ∀ sig, parseMethodDescriptor y.desc = some sig → argsL.length = sig.parameters.length) (hs : stk = argsL.reverse ++ rest) (hsz : ls.size = ml) (hW : (rest.map fun v => v.category).sum = W)
    (r : ∀ T' v h', St p l e R s m args below meth c n0 T' h' (k + rm.cells) (n + rm.slots) → Q1 v h' → Run p e below n0 Q G m T' pc' ls (v.toList ++ rest)) (hp : pc + 3 = pc' := by rfl) (hr : rm.frames + 1 ≤ R.frames ∧ W + (maxL + 11) + rm.locals ≤ R.locals ∧ k + rm.cells ≤ R.cells ∧ n + rm.slots ≤ R.slots := by decide) (hy : y.cls ≠ "java/lang/invoke/MethodHandle" ∧ y.cls ≠ "java/lang/invoke/VarHandle" := by decide) : Run p e below n0 Q G m T pc ls stk := by
  subst hp hs
  obtain ⟨locs, Y, eT, N, q⟩ := X
  obtain ⟨v, _, ⟨T1, L1, k1, n1⟩, -, Y', ⟨Lc, hQ, l1, y1, z1⟩, f⟩ := Jvm.LawKit.callS Y C.1 C.2.2.2.2.1 (mvT C.2.1 (C.w w1)) (mvT C.2.1 (C.w w2)) (mvT C.2.1 (C.w w3)) (mvT C.2.1 (C.w w4)) hy (backOf (W := W) (Q := fun v h L => Q1 v h ∧ Fr n0 L) M C.2.1 (C.w w4) (C.w w3) hr.1 hr.2.1) (g := mkF m pc ls (argsL.reverse ++ rest)) rfl (hsz.trans C.2.2.2.1.symm) (argsL := argsL) (rest := rest) hlen rfl (by show 2 * 0 + _ ≤ _; rw [hW]; omega) (C.d hd) (fun _ _ => ⟨rfl, eT, hr.2.2.1, hr.2.2.2⟩)
  dsimp only [Pt.U, Pt.locs, Pt.cells, Pt.slots] at Y' l1 y1 z1 f hQ
  subst l1 y1 z1
  exact Run.step f (r T1 v _ ⟨_, Y', rfl, Fr.app N hQ.2, q⟩ hQ.1)
theorem s_callC (pc' : Nat) (argsL rest : List Value) (W : Nat) (C : Cx tabs a0 Z own nm code ml ret p s m meth c) (X : St p l e R s m args below meth c n0 T h k n) {idx : Nat} {y : MethodName} {bytes : ByteArray} {maxL : Nat} {rm : Room} {stk : List Value} {Q1 : Option Value → Heap → Prop} {a : Addr} (hd : decode code pc = .ok (.invokespecial idx, 3)) (hi : y.name = "<init>") (w1 : Jvm.Cond.methodLink own idx y ∈ tabs) (w2 : Jvm.Cond.instanceMethod y ∈ tabs) (w3 : Jvm.Cond.initialized y.cls ∈ tabs) (w4 : Jvm.Cond.code y bytes maxL none ∈ tabs)
    (M : Met l Z y bytes maxL none rm [] (.ref a :: argsL).toArray h n0 Q1) (hlen : ∀ sig, parseMethodDescriptor y.desc = some sig → argsL.length = sig.parameters.length) (hs : stk = argsL.reverse ++ .ref a :: rest) (hsz : ls.size = ml) (hW : (rest.map fun v => v.category).sum = W)
    (r : ∀ T' v h', St p l e R s m args below meth c n0 T' h' (k + rm.cells) (n + rm.slots) → Q1 v h' → Run p e below n0 Q G m T' pc' ls (v.toList ++ rest)) (hp : pc + 3 = pc' := by rfl) (hr : rm.frames + 1 ≤ R.frames ∧ W + (maxL + 11) + rm.locals ≤ R.locals ∧ k + rm.cells ≤ R.cells ∧ n + rm.slots ≤ R.slots := by decide) (hy : y.cls ≠ "java/lang/invoke/MethodHandle" ∧ y.cls ≠ "java/lang/invoke/VarHandle" := by decide) : Run p e below n0 Q G m T pc ls stk := by
  subst hp hs
  obtain ⟨locs, Y, eT, N, q⟩ := X
  obtain ⟨v, _, ⟨T1, L1, k1, n1⟩, -, Y', ⟨Lc, hQ, l1, y1, z1⟩, f⟩ := Y.specialBack C.1 (y := y) hi C.2.2.2.2.1 (mvT C.2.1 (C.w w1)) (mvT C.2.1 (C.w w2)) (mvT C.2.1 (C.w w4)) hy (backOf (W := W) (Q := fun v h L => Q1 v h ∧ Fr n0 L) M C.2.1 (C.w w4) (C.w w3) hr.1 hr.2.1) (g := mkF m pc ls (argsL.reverse ++ .ref a :: rest)) rfl (hsz.trans C.2.2.2.1.symm) (Steps.refl _) (a := a) (argsL := argsL) (rest := rest) hlen rfl (by show 2 * 0 + _ ≤ _; rw [hW]; omega) (C.d hd) (fun _ _ => ⟨rfl, eT, hr.2.2.1, hr.2.2.2⟩)
  dsimp only [Pt.U, Pt.locs, Pt.cells, Pt.slots] at Y' l1 y1 z1 f hQ
  subst l1 y1 z1
  exact Run.steps f (r T1 v _ ⟨_, Y', rfl, Fr.app N hQ.2, q⟩ hQ.1)
theorem s_callV (pc' : Nat) (argsL rest : List Value) (W : Nat) (C : Cx tabs a0 Z own nm code ml ret p s m meth c) (X : St p l e R s m args below meth c n0 T h k n) {idx : Nat} {y : MethodName} {bytes : ByteArray} {maxL : Nat} {rt : Option FieldType} {rm : Room} {stk : List Value} {Q1 : Option Value → Heap → Prop} {y0 : MethodName} {K : String} {a : Addr} (hd : decode code pc = .ok (.invokevirtual idx, 3)) (w1 : Jvm.Cond.methodLink own idx y0 ∈ tabs) (w2 : Jvm.Cond.declares y0 ∈ tabs) (hnf : NotFace s y0) (w5 : Jvm.Cond.selects K y0 y ∈ tabs) (w6 : Jvm.Cond.instanceMethod y ∈ tabs) (w3 : Jvm.Cond.initialized y.cls ∈ tabs) (w4 : Jvm.Cond.code y bytes maxL rt ∈ tabs)
    (E : Exa Z h a K) (M : Met l Z y bytes maxL rt rm [] (.ref a :: argsL).toArray h n0 Q1) (hlen : ∀ sig, parseMethodDescriptor y0.desc = some sig → argsL.length = sig.parameters.length) (hs : stk = argsL.reverse ++ .ref a :: rest) (hsz : ls.size = ml) (hW : (rest.map fun v => v.category).sum = W)
    (r : ∀ T' v h', St p l e R s m args below meth c n0 T' h' (k + rm.cells) (n + rm.slots) → Q1 v h' → Run p e below n0 Q G m T' pc' ls (v.toList ++ rest)) (hp : pc + 3 = pc' := by rfl) (hr : rm.frames + 1 ≤ R.frames ∧ W + (maxL + 11) + rm.locals ≤ R.locals ∧ k + rm.cells ≤ R.cells ∧ n + rm.slots ≤ R.slots := by decide) (hy : y0.cls ≠ "java/lang/invoke/MethodHandle" ∧ y0.cls ≠ "java/lang/invoke/VarHandle" := by decide) : Run p e below n0 Q G m T pc ls stk := by
  subst hp hs
  obtain ⟨locs, Y, eT, N, q⟩ := X
  obtain ⟨cq, kq, qa, qb, qc⟩ := isOf C.2.1 eT E
  obtain ⟨v, _, ⟨T1, L1, k1, n1⟩, -, Y', ⟨Lc, hQ, l1, y1, z1⟩, f⟩ := Y.virtualBack C.1 (y := y0) (z := y) C.2.2.2.2.1 (mvT C.2.1 (C.w w1)) (mvT C.2.1 (C.w w2)) hnf (mvT C.2.1 (C.w w5)) (mvT C.2.1 (C.w w6)) hy (backOf (W := W) (Q := fun v h L => Q1 v h ∧ Fr n0 L) M C.2.1 (C.w w4) (C.w w3) hr.1 hr.2.1) qa qc (g := mkF m pc ls (argsL.reverse ++ .ref a :: rest)) rfl (hsz.trans C.2.2.2.1.symm) (Steps.refl _) (argsL := argsL) (rest := rest) hlen rfl (by show 2 * 0 + _ ≤ _; rw [hW]; omega) (C.d hd) (fun _ _ => ⟨rfl, eT, hr.2.2.1, hr.2.2.2⟩)
  dsimp only [Pt.U, Pt.locs, Pt.cells, Pt.slots] at Y' l1 y1 z1 f hQ
  subst l1 y1 z1
  exact Run.steps f (r T1 v _ ⟨_, Y', rfl, Fr.app N hQ.2, q⟩ hQ.1)
/-- the contract of a method that may intern a text -/
def MetW (l : Launch) (Z : State) (y : MethodName) (bytes : ByteArray) (ml : Nat) (ret : Option FieldType) (rm : Room) (ws : List Jvm.Cond) (as : Array Value) (h : Heap) (n0 : Nat) (Q : Option Value → Heap → Prop) : Prop :=
  MetFree l y (head1 (Jvm.Cond.code y bytes ml ret :: ws) rm) (fun a U => a = as ∧ Z.Warmed39 U.vm ∧ U.heap = h) (fun _ _ _ _ _ => True) (fun _ U o U' => ∃ v L, o = .returned v ∧ (Q v U'.heap ∧ Fr n0 L) ∧ ReturnedEndW U o U' L rm.cells rm.slots)
theorem MetW.mk {y : MethodName} {rm : Room} {ws : List Jvm.Cond} {as : Array Value} {ls0 : Array Slot} (hpl : plainFor y = true) (hw : ∀ d ∈ tabs, d.before a0 Z = true) (hn : n0 ≤ h.size) (hef : ∀ m, entryFrame m as ml = mkF m 0 ls0 [])
    (body : ∀ p e s m below meth c T, Cx tabs a0 Z y.cls y.name code ml ret p s m meth c → St p l e rm s m as below meth c n0 T h 0 0 → Run p e below n0 Q (fun o t L => ReturnedEndW s o t L rm.cells rm.slots) m T 0 ls0 []) : MetW l Z y code ml ret rm ws as h n0 Q := by
  refine MetFree.of_bodySF hpl hisR ?_
  intro p e s m args below meth c s₁ Bd hml0 hP hK
  obtain ⟨rfl, hZ, rfl⟩ := hP
  have X0 : Stand p l e rm s m args below meth c s₁ [] 0 0 := Stand.of_body Bd
  have e0 : s₁.heap = s.heap := by rw [Bd.state]; rfl
  have r := body p e s m below meth c s₁ ⟨Bd.exec, hZ, Bd.bytes, hml0, findClass_of_methodNamed Bd.named, Bd.returns, Bd.notSynchronized, (name_of_methodNamed Bd.named Bd.method).1, hw⟩ ⟨[], X0, e0, Fr.nil n0, hn⟩
  obtain ⟨s₂, o, h1, h2⟩ := r
  exact ⟨s₂, o, castTop (hef m) h1, h2⟩
theorem FW_end {vm0 : Vm} {k0 kc ks : Nat} (hS : s.Since vm0 k0) (hk0 : k0 ≤ h.size) (hk : k ≤ kc) (hn : n ≤ ks) : ∀ (v : Option Value) (t : State) (L : List Loc), t.heap = h → FrameEnd (s.setVm vm0) (.returned v) t L k n → ReturnedEndW s (.returned v) t L kc ks := fun v t L e q => by
  have z := hS.ended q.2.1 (by rw [e]; exact hk0) q.2.2
  exact ⟨⟨_, rfl⟩, z.1, z.2.1, z.2.2.mono hk hn⟩
theorem s_ldcS1 (pc' : Nat) (nn : Nat) (C : Cx tabs a0 Z own nm code ml ret p s m meth c) (X : St p l e R s m args below meth c n0 T h k n) {idx : Nat} {text : String} (hd : decode code pc = .ok (.ldc idx, 2)) (w : Jvm.Cond.stringLink own idx text ∈ tabs) (wS : ∀ a ∈ Bundle.stringAtoms, a.before a0 Z = true)
    (r : ∀ T' h' a k1, Cx tabs a0 Z own nm code ml ret p (s.setVm T'.vm) m meth c → St p l e R (s.setVm T'.vm) m args below meth c n0 T' h' (k + 2) (n + (nn + 4)) → Ext h h' → s.Since T'.vm k1 → k1 ≤ h'.size → Run p e below n0 Q G m T' pc' ls (.ref a :: st)) (hp : pc + 2 = pc' := by rfl) (hc : 4 * text.toList.length ≤ nn ∧ nn ≤ 536870912 ∧ k + 2 ≤ R.cells ∧ n + (nn + 4) ≤ R.slots := by decide) : Run p e below n0 Q G m T pc ls st := by
  subst hp
  obtain ⟨locs, Y, eT, N, q⟩ := X
  have Y' : Stand p l e R (s.setVm s.vm) m args below meth c T locs k n := Y
  obtain ⟨a, T', h', k1, Y2, e', E, hS, hk, hZ, ho, f⟩ := ldcS Y' C.1 C.2.1 C.2.2.2.2.1 (C.w w) wS eT ((State.WarmedH.refl s).since 0) (Nat.zero_le _) (g := mkF m pc ls st) rfl (C.d hd) hc.1 hc.2.1 hc.2.2.1 hc.2.2.2
  exact Run.step f (r T' h' a k1 ⟨C.1, hZ, C.2.2.1, C.2.2.2.1, ho, C.2.2.2.2.2.1, C.2.2.2.2.2.2.1, C.2.2.2.2.2.2.2.1, C.2.2.2.2.2.2.2.2⟩ ⟨locs, Y2, e', N, q⟩ E hS hk)
end A
end Jvm.OwnK
namespace Jvm.Pilot.@@N@@
open Jvm Jvm.ClassFile Sem Op Lib Jvm.Free Jvm.Stand Jvm.LawKit Jvm.RoadKit Bundle Jvm.OwnK Jvm.Pilot.@@N@@.Jvm.D
theorem pn_com_example_tinsel_tally_tinseltally_BadgeForTotalBenefitPinLaw : plainName "com/example/tinsel_tally/tinseltally/BadgeForTotalBenefitPinLaw" = true := by first | (simp [plainName, overriddenIn]; done) | decide +kernel
theorem kc_iconst_3 : Int32.ofInt 3 = (3 : Int32) := by decide +kernel
theorem kc_iconst_1 : Int32.ofInt 1 = (1 : Int32) := by decide +kernel
theorem d1_0 : decode prog_9_method_1_code 0 = .ok (.aload_n 0, 1) := by decide +kernel
theorem d1_1 : decode prog_9_method_1_code 1 = .ok (.invokespecial 1, 3) := by decide +kernel
theorem d1_4 : decode prog_9_method_1_code 4 = .ok (.aload_n 0, 1) := by decide +kernel
theorem d1_5 : decode prog_9_method_1_code 5 = .ok (.lload_n 1, 1) := by decide +kernel
theorem d1_6 : decode prog_9_method_1_code 6 = .ok (.putfield 7, 3) := by decide +kernel
theorem d1_9 : decode prog_9_method_1_code 9 = .ok (.aload_n 0, 1) := by decide +kernel
theorem d1_10 : decode prog_9_method_1_code 10 = .ok (.lload_n 3, 1) := by decide +kernel
theorem d1_11 : decode prog_9_method_1_code 11 = .ok (.putfield 13, 3) := by decide +kernel
theorem d1_14 : decode prog_9_method_1_code 14 = .ok (.aload_n 0, 1) := by decide +kernel
theorem d1_15 : decode prog_9_method_1_code 15 = .ok (.lload 5, 2) := by decide +kernel
theorem d1_17 : decode prog_9_method_1_code 17 = .ok (.putfield 16, 3) := by decide +kernel
theorem d1_20 : decode prog_9_method_1_code 20 = .ok (.aload_n 0, 1) := by decide +kernel
theorem d1_21 : decode prog_9_method_1_code 21 = .ok (.lload 7, 2) := by decide +kernel
theorem d1_23 : decode prog_9_method_1_code 23 = .ok (.putfield 19, 3) := by decide +kernel
theorem d1_26 : decode prog_9_method_1_code 26 = .ok (.aload_n 0, 1) := by decide +kernel
theorem d1_27 : decode prog_9_method_1_code 27 = .ok (.lload 9, 2) := by decide +kernel
theorem d1_29 : decode prog_9_method_1_code 29 = .ok (.putfield 22, 3) := by decide +kernel
theorem d1_32 : decode prog_9_method_1_code 32 = .ok (.aload_n 0, 1) := by decide +kernel
theorem d1_33 : decode prog_9_method_1_code 33 = .ok (.lload 11, 2) := by decide +kernel
theorem d1_35 : decode prog_9_method_1_code 35 = .ok (.putfield 25, 3) := by decide +kernel
theorem d1_38 : decode prog_9_method_1_code 38 = .ok (.aload_n 0, 1) := by decide +kernel
theorem d1_39 : decode prog_9_method_1_code 39 = .ok (.lload 13, 2) := by decide +kernel
theorem d1_41 : decode prog_9_method_1_code 41 = .ok (.putfield 28, 3) := by decide +kernel
theorem d1_44 : decode prog_9_method_1_code 44 = .ok (.aload_n 0, 1) := by decide +kernel
theorem d1_45 : decode prog_9_method_1_code 45 = .ok (.aload 15, 2) := by decide +kernel
theorem d1_47 : decode prog_9_method_1_code 47 = .ok (.putfield 31, 3) := by decide +kernel
theorem d1_50 : decode prog_9_method_1_code 50 = .ok (.aload_n 0, 1) := by decide +kernel
theorem d1_51 : decode prog_9_method_1_code 51 = .ok (.lload 16, 2) := by decide +kernel
theorem d1_53 : decode prog_9_method_1_code 53 = .ok (.putfield 35, 3) := by decide +kernel
theorem d1_56 : decode prog_9_method_1_code 56 = .ok (.aload_n 0, 1) := by decide +kernel
theorem d1_57 : decode prog_9_method_1_code 57 = .ok (.lload 18, 2) := by decide +kernel
theorem d1_59 : decode prog_9_method_1_code 59 = .ok (.putfield 38, 3) := by decide +kernel
theorem d1_62 : decode prog_9_method_1_code 62 = .ok (.aload_n 0, 1) := by decide +kernel
theorem d1_63 : decode prog_9_method_1_code 63 = .ok (.lload 20, 2) := by decide +kernel
theorem d1_65 : decode prog_9_method_1_code 65 = .ok (.putfield 41, 3) := by decide +kernel
theorem d1_68 : decode prog_9_method_1_code 68 = .ok (.return_, 1) := by decide +kernel
theorem pn_com_example_tinsel_tally_tinseltally_Figures : plainName "com/example/tinsel_tally/tinseltally/Figures" = true := by first | (simp [plainName, overriddenIn]; done) | decide +kernel
theorem pd__JJJJJJJLjava_lang_String_JJJ_V : parseMethodDescriptor "(JJJJJJJLjava/lang/String;JJJ)V" = some ⟨[.long, .long, .long, .long, .long, .long, .long, (.object "java/lang/String"), .long, .long, .long], none⟩ := by decide +kernel
theorem d3_0 : decode prog_2_method_4_code 0 = .ok (.invokestatic 39, 3) := by decide +kernel
theorem d4_0 : decode jdk_32_method_1_code 0 = .ok (.getstatic 1, 3) := by decide +kernel
theorem d4_3 : decode jdk_32_method_1_code 3 = .ok (.astore_n 0, 1) := by decide +kernel
theorem d4_4 : decode jdk_32_method_1_code 4 = .ok (.aload_n 0, 1) := by decide +kernel
theorem d4_5 : decode jdk_32_method_1_code 5 = .ok (.areturn, 1) := by decide +kernel
theorem pn_java_util_Optional : plainName "java/util/Optional" = true := by first | (simp [plainName, overriddenIn]; done) | decide +kernel
theorem pd___Ljava_util_Optional_ : parseMethodDescriptor "()Ljava/util/Optional;" = some ⟨[], some (.object "java/util/Optional")⟩ := by decide +kernel
theorem d3_3 : decode prog_2_method_4_code 3 = .ok (.astore_n 3, 1) := by decide +kernel
theorem d3_4 : decode prog_2_method_4_code 4 = .ok (.lload_n 0, 1) := by decide +kernel
theorem d3_5 : decode prog_2_method_4_code 5 = .ok (.aload_n 2, 1) := by decide +kernel
theorem d3_6 : decode prog_2_method_4_code 6 = .ok (.invokevirtual 45, 3) := by decide +kernel
theorem d5_0 : decode prog_9_method_12_code 0 = .ok (.aload_n 0, 1) := by decide +kernel
theorem d5_1 : decode prog_9_method_12_code 1 = .ok (.getfield 41, 3) := by decide +kernel
theorem d5_4 : decode prog_9_method_12_code 4 = .ok (.lreturn, 1) := by decide +kernel
theorem pd___J : parseMethodDescriptor "()J" = some ⟨[], some .long⟩ := by decide +kernel
theorem d3_9 : decode prog_2_method_4_code 9 = .ok (.lcmp, 1) := by decide +kernel
theorem d3_10 : decode prog_2_method_4_code 10 = .ok (.ifCond .lt 13, 3) := by decide +kernel
theorem d3_23 : decode prog_2_method_4_code 23 = .ok (.lload_n 0, 1) := by decide +kernel
theorem d3_24 : decode prog_2_method_4_code 24 = .ok (.aload_n 2, 1) := by decide +kernel
theorem d3_25 : decode prog_2_method_4_code 25 = .ok (.invokevirtual 55, 3) := by decide +kernel
theorem d10_0 : decode prog_9_method_11_code 0 = .ok (.aload_n 0, 1) := by decide +kernel
theorem d10_1 : decode prog_9_method_11_code 1 = .ok (.getfield 38, 3) := by decide +kernel
theorem d10_4 : decode prog_9_method_11_code 4 = .ok (.lreturn, 1) := by decide +kernel
theorem d3_28 : decode prog_2_method_4_code 28 = .ok (.lcmp, 1) := by decide +kernel
theorem d3_29 : decode prog_2_method_4_code 29 = .ok (.ifCond .lt 13, 3) := by decide +kernel
theorem d3_42 : decode prog_2_method_4_code 42 = .ok (.lload_n 0, 1) := by decide +kernel
theorem d3_43 : decode prog_2_method_4_code 43 = .ok (.aload_n 2, 1) := by decide +kernel
theorem d3_44 : decode prog_2_method_4_code 44 = .ok (.invokevirtual 58, 3) := by decide +kernel
theorem d11_0 : decode prog_9_method_10_code 0 = .ok (.aload_n 0, 1) := by decide +kernel
theorem d11_1 : decode prog_9_method_10_code 1 = .ok (.getfield 35, 3) := by decide +kernel
theorem d11_4 : decode prog_9_method_10_code 4 = .ok (.lreturn, 1) := by decide +kernel
theorem d3_47 : decode prog_2_method_4_code 47 = .ok (.lcmp, 1) := by decide +kernel
theorem d3_48 : decode prog_2_method_4_code 48 = .ok (.ifCond .lt 10, 3) := by decide +kernel
theorem d3_58 : decode prog_2_method_4_code 58 = .ok (.aload_n 3, 1) := by decide +kernel
theorem d3_59 : decode prog_2_method_4_code 59 = .ok (.areturn, 1) := by decide +kernel
theorem d3_51 : decode prog_2_method_4_code 51 = .ok (.getstatic 3, 3) := by decide +kernel
theorem d3_54 : decode prog_2_method_4_code 54 = .ok (.invokestatic 51, 3) := by decide +kernel
theorem d6_0 : decode jdk_32_method_3_code 0 = .ok (.new 2, 3) := by decide +kernel
theorem d6_3 : decode jdk_32_method_3_code 3 = .ok (.dup, 1) := by decide +kernel
theorem d6_4 : decode jdk_32_method_3_code 4 = .ok (.aload_n 0, 1) := by decide +kernel
theorem d6_5 : decode jdk_32_method_3_code 5 = .ok (.invokestatic 17, 3) := by decide +kernel
theorem d7_0 : decode jdk_31_method_10_code 0 = .ok (.aload_n 0, 1) := by decide +kernel
theorem d7_1 : decode jdk_31_method_10_code 1 = .ok (.ifnonnull 11, 3) := by decide +kernel
theorem d7_12 : decode jdk_31_method_10_code 12 = .ok (.aload_n 0, 1) := by decide +kernel
theorem d7_13 : decode jdk_31_method_10_code 13 = .ok (.areturn, 1) := by decide +kernel
theorem pn_java_util_Objects : plainName "java/util/Objects" = true := by first | (simp [plainName, overriddenIn]; done) | decide +kernel
theorem pd__Ljava_lang_Object__Ljava_lang_Object_ : parseMethodDescriptor "(Ljava/lang/Object;)Ljava/lang/Object;" = some ⟨[(.object "java/lang/Object")], some (.object "java/lang/Object")⟩ := by decide +kernel
theorem d6_8 : decode jdk_32_method_3_code 8 = .ok (.invokespecial 23, 3) := by decide +kernel
theorem d8_0 : decode jdk_32_method_2_code 0 = .ok (.aload_n 0, 1) := by decide +kernel
theorem d8_1 : decode jdk_32_method_2_code 1 = .ok (.invokespecial 7, 3) := by decide +kernel
theorem d8_4 : decode jdk_32_method_2_code 4 = .ok (.aload_n 0, 1) := by decide +kernel
theorem d8_5 : decode jdk_32_method_2_code 5 = .ok (.aload_n 1, 1) := by decide +kernel
theorem d8_6 : decode jdk_32_method_2_code 6 = .ok (.putfield 13, 3) := by decide +kernel
theorem d8_9 : decode jdk_32_method_2_code 9 = .ok (.return_, 1) := by decide +kernel
theorem pd__Ljava_lang_Object__V : parseMethodDescriptor "(Ljava/lang/Object;)V" = some ⟨[(.object "java/lang/Object")], none⟩ := by decide +kernel
theorem d6_11 : decode jdk_32_method_3_code 11 = .ok (.areturn, 1) := by decide +kernel
theorem pd__Ljava_lang_Object__Ljava_util_Optional_ : parseMethodDescriptor "(Ljava/lang/Object;)Ljava/util/Optional;" = some ⟨[(.object "java/lang/Object")], some (.object "java/util/Optional")⟩ := by decide +kernel
theorem d3_57 : decode prog_2_method_4_code 57 = .ok (.astore_n 3, 1) := by decide +kernel
theorem d3_32 : decode prog_2_method_4_code 32 = .ok (.getstatic 7, 3) := by decide +kernel
theorem d3_35 : decode prog_2_method_4_code 35 = .ok (.invokestatic 51, 3) := by decide +kernel
theorem d3_38 : decode prog_2_method_4_code 38 = .ok (.astore_n 3, 1) := by decide +kernel
theorem d3_39 : decode prog_2_method_4_code 39 = .ok (.goto 19, 3) := by decide +kernel
theorem d3_13 : decode prog_2_method_4_code 13 = .ok (.getstatic 10, 3) := by decide +kernel
theorem d3_16 : decode prog_2_method_4_code 16 = .ok (.invokestatic 51, 3) := by decide +kernel
theorem d3_19 : decode prog_2_method_4_code 19 = .ok (.astore_n 3, 1) := by decide +kernel
theorem d3_20 : decode prog_2_method_4_code 20 = .ok (.goto 38, 3) := by decide +kernel
theorem pn_com_example_tinsel_tally_tinseltally_Badge : plainName "com/example/tinsel_tally/tinseltally/Badge" = true := by first | (simp [plainName, overriddenIn]; done) | decide +kernel
theorem pd__JLcom_example_tinsel_tally_tinseltally_Figures__Ljava_util_Optional_ : parseMethodDescriptor "(JLcom/example/tinsel_tally/tinseltally/Figures;)Ljava/util/Optional;" = some ⟨[.long, (.object "com/example/tinsel_tally/tinseltally/Figures")], some (.object "java/util/Optional")⟩ := by decide +kernel
theorem d9_0 : decode jdk_32_method_15_code 0 = .ok (.aload_n 0, 1) := by decide +kernel
theorem d9_1 : decode jdk_32_method_15_code 1 = .ok (.getfield 13, 3) := by decide +kernel
theorem d9_4 : decode jdk_32_method_15_code 4 = .ok (.ifnull 10, 3) := by decide +kernel
theorem d9_14 : decode jdk_32_method_15_code 14 = .ok (.aload_n 1, 1) := by decide +kernel
theorem d9_15 : decode jdk_32_method_15_code 15 = .ok (.areturn, 1) := by decide +kernel
theorem kc_iconst_0 : Int32.ofInt 0 = (0 : Int32) := by decide +kernel
theorem kf_0 : ((0 : Int32) + (0 : Int32)) = (0 : Int32) := by decide +kernel
theorem d9_7 : decode jdk_32_method_15_code 7 = .ok (.aload_n 0, 1) := by decide +kernel
theorem d9_8 : decode jdk_32_method_15_code 8 = .ok (.getfield 13, 3) := by decide +kernel
theorem d9_11 : decode jdk_32_method_15_code 11 = .ok (.goto 4, 3) := by decide +kernel
theorem kf_1 : ((1 : Int32) + (0 : Int32)) = (1 : Int32) := by decide +kernel
theorem kf_2 : ((1 : Int32) + (1 : Int32)) = (2 : Int32) := by decide +kernel
theorem kf_3 : ((2 : Int32) + (0 : Int32)) = (2 : Int32) := by decide +kernel
theorem kc_iconst_2 : Int32.ofInt 2 = (2 : Int32) := by decide +kernel
theorem kf_4 : ((2 : Int32) + (1 : Int32)) = (3 : Int32) := by decide +kernel
theorem own_m (x : Int64) : 0 ≤ (x &&& 2305843009213693951).toInt ∧ (x &&& 2305843009213693951).toInt < 2305843009213693952 := by
  have h := c_maskL x 2305843009213693951 61 (by decide) (by decide)
  have e : (((2 ^ 61 : Nat) : Int)) = 2305843009213693952 := by decide
  rw [e] at h
  omega
theorem own_star {x star : Int64} (e : star = 1 + (x &&& 2305843009213693951)) : 1 ≤ star.toInt ∧ star.toInt ≤ 2305843009213693952 := by
  subst e
  have a := own_m x
  have b := c_ladd 1 (x &&& 2305843009213693951)
  have k1 : (1 : Int64).toInt = 1 := by decide
  have r := rng64 (1 + (x &&& 2305843009213693951))
  omega
theorem own_next {x lo hi : Int64} {B : Int} (e : hi = lo + 1 + (x &&& 2305843009213693951)) (hl : 1 ≤ lo.toInt ∧ lo.toInt ≤ B) (hB : B ≤ 4611686018427387904) : lo.toInt < hi.toInt ∧ hi.toInt ≤ B + 2305843009213693952 := by
  subst e
  have a := own_m x
  have b := c_ladd lo 1
  have d := c_ladd (lo + 1) (x &&& 2305843009213693951)
  have k1 : (1 : Int64).toInt = 1 := by decide
  have r := rng64 (lo + 1)
  have r2 := rng64 (lo + 1 + (x &&& 2305843009213693951))
  omega
set_option maxRecDepth 65536 in
set_option maxHeartbeats 40000000 in
theorem rm_a6 (l : Launch) (Z : State) (a0 : Array Value) (hw : ∀ d ∈ tables_1, d.before a0 Z = true) (aSanta : Addr) (aTree : Addr) (aStar : Addr) (aE : Addr) (star : Int64) (tree : Int64) (santa : Int64) (t : Int64) (o4 : Addr) (t5 : Addr) (h0 : Heap) (n0 : Nat) (Z0 : n0 ≤ h0.size) (Od : Old Z n0 h0) (S_E : Sta Z Z.heap "java/util/Optional" "EMPTY" "Ljava/util/Optional;" (.ref aE)) (S_SANTA : Sta Z Z.heap "com/example/tinsel_tally/tinseltally/Badge" "SANTA" "Lcom/example/tinsel_tally/tinseltally/Badge;" (.ref aSanta)) (S_TREE : Sta Z Z.heap "com/example/tinsel_tally/tinseltally/Badge" "TREE" "Lcom/example/tinsel_tally/tinseltally/Badge;" (.ref aTree)) (S_STAR : Sta Z Z.heap "com/example/tinsel_tally/tinseltally/Badge" "STAR" "Lcom/example/tinsel_tally/tinseltally/Badge;" (.ref aStar)) (E_o4 : Exa Z h0 o4 "com/example/tinsel_tally/tinseltally/Figures") (F_o4_floor : Fld Z h0 o4 "com/example/tinsel_tally/tinseltally/Figures" "floor" "J" (.long (0 : Int64))) (F_o4_dDayFirst : Fld Z h0 o4 "com/example/tinsel_tally/tinseltally/Figures" "dDayFirst" "J" (.long (0 : Int64))) (F_o4_dDayRise : Fld Z h0 o4 "com/example/tinsel_tally/tinseltally/Figures" "dDayRise" "J" (.long (0 : Int64))) (F_o4_perDessert : Fld Z h0 o4 "com/example/tinsel_tally/tinseltally/Figures" "perDessert" "J" (.long (0 : Int64))) (F_o4_perMain : Fld Z h0 o4 "com/example/tinsel_tally/tinseltally/Figures" "perMain" "J" (.long (0 : Int64))) (F_o4_specialDiscount : Fld Z h0 o4 "com/example/tinsel_tally/tinseltally/Figures" "specialDiscount" "J" (.long (0 : Int64))) (F_o4_giftThreshold : Fld Z h0 o4 "com/example/tinsel_tally/tinseltally/Figures" "giftThreshold" "J" (.long (0 : Int64))) (F_o4_giftDish : Fld Z h0 o4 "com/example/tinsel_tally/tinseltally/Figures" "giftDish" "Ljava/lang/String;" .null) (F_o4_starThreshold : Fld Z h0 o4 "com/example/tinsel_tally/tinseltally/Figures" "starThreshold" "J" (.long (0 : Int64))) (F_o4_treeThreshold : Fld Z h0 o4 "com/example/tinsel_tally/tinseltally/Figures" "treeThreshold" "J" (.long (0 : Int64))) (F_o4_santaThreshold : Fld Z h0 o4 "com/example/tinsel_tally/tinseltally/Figures" "santaThreshold" "J" (.long (0 : Int64))) (g_o4 : n0 ≤ o4) :
    Met l Z (⟨"com/example/tinsel_tally/tinseltally/Figures", "<init>", "(JJJJJJJLjava/lang/String;JJJ)V"⟩ : MethodName) prog_9_method_1_code 22 none { frames := 1, cells := 0, slots := 0, locals := 12 } [] #[(.ref o4), (.long (0 : Int64)), (.long (0 : Int64)), (.long (0 : Int64)), (.long (0 : Int64)), (.long (0 : Int64)), (.long (0 : Int64)), (.long (0 : Int64)), (.ref t5), (.long star), (.long tree), (.long santa)] h0 n0 (fun v h => v = none ∧ Old Z n0 h ∧ Exa Z h o4 "com/example/tinsel_tally/tinseltally/Figures" ∧ Fld Z h o4 "com/example/tinsel_tally/tinseltally/Figures" "floor" "J" (.long (0 : Int64)) ∧ Fld Z h o4 "com/example/tinsel_tally/tinseltally/Figures" "dDayFirst" "J" (.long (0 : Int64)) ∧ Fld Z h o4 "com/example/tinsel_tally/tinseltally/Figures" "dDayRise" "J" (.long (0 : Int64)) ∧ Fld Z h o4 "com/example/tinsel_tally/tinseltally/Figures" "perDessert" "J" (.long (0 : Int64)) ∧ Fld Z h o4 "com/example/tinsel_tally/tinseltally/Figures" "perMain" "J" (.long (0 : Int64)) ∧ Fld Z h o4 "com/example/tinsel_tally/tinseltally/Figures" "specialDiscount" "J" (.long (0 : Int64)) ∧ Fld Z h o4 "com/example/tinsel_tally/tinseltally/Figures" "giftThreshold" "J" (.long (0 : Int64)) ∧ Fld Z h o4 "com/example/tinsel_tally/tinseltally/Figures" "giftDish" "Ljava/lang/String;" (.ref t5) ∧ Fld Z h o4 "com/example/tinsel_tally/tinseltally/Figures" "starThreshold" "J" (.long star) ∧ Fld Z h o4 "com/example/tinsel_tally/tinseltally/Figures" "treeThreshold" "J" (.long tree) ∧ Fld Z h o4 "com/example/tinsel_tally/tinseltally/Figures" "santaThreshold" "J" (.long santa) ∧ Keep h0 h [o4]) := by
  refine Met.mk (tabs := tables_1) (a0 := a0) (ls0 := #[.val (.ref o4), .val (.long (0 : Int64)), .second, .val (.long (0 : Int64)), .second, .val (.long (0 : Int64)), .second, .val (.long (0 : Int64)), .second, .val (.long (0 : Int64)), .second, .val (.long (0 : Int64)), .second, .val (.long (0 : Int64)), .second, .val (.ref t5), .val (.long star), .second, .val (.long tree), .second, .val (.long santa), .second]) (plainFor_of_name pn_com_example_tinsel_tally_tinseltally_Figures) hw Z0 (fun m => by first | (simp [entryFrame, mkF, argsToLocals, Value.category]; done) | rfl) ?_
  intro p e s m below meth c T C X
  have Kp : Keep h0 h0 [o4] := Keep.refl _ _
  refine s_aloadN 1 C X d1_0 rfl rfl ?_
  refine s_objInit 4 C X d1_1 (List.mem_of_getElem? (i := 16) rfl) (List.mem_of_getElem? (i := 17) rfl) (List.mem_of_getElem? (i := 18) rfl) rfl (W := 0) rfl (by decide) (fun T X => ?_)
  refine s_aloadN 5 C X d1_4 rfl rfl ?_
  refine s_lloadN 6 C X d1_5 rfl ?_
  refine s_putfield 9 C X (host := "") d1_6 (Or.inl (List.mem_of_getElem? (i := 19) rfl)) Via.refl F_o4_floor E_o4 (Or.inr ⟨(List.mem_of_getElem? (i := 20) rfl), rfl, rfl⟩) (List.mem_of_getElem? (i := 3) rfl) (ty := .long) (by decide) rfl rfl g_o4 (fun T hh X W => ?_)
  have Od := Od.wr W g_o4
  have E_o4 := E_o4.wr W
  have F_o4_floor := F_o4_floor.same W
  have F_o4_dDayFirst := F_o4_dDayFirst.other W (Or.inr (slot_ne (Or.inr (hw _ (List.mem_of_getElem? (i := 22) rfl))) (Or.inr (hw _ (List.mem_of_getElem? (i := 20) rfl))) (by decide) (t := .long) (t' := .long) (by decide) (by decide)))
  have F_o4_dDayRise := F_o4_dDayRise.other W (Or.inr (slot_ne (Or.inr (hw _ (List.mem_of_getElem? (i := 24) rfl))) (Or.inr (hw _ (List.mem_of_getElem? (i := 20) rfl))) (by decide) (t := .long) (t' := .long) (by decide) (by decide)))
  have F_o4_perDessert := F_o4_perDessert.other W (Or.inr (slot_ne (Or.inr (hw _ (List.mem_of_getElem? (i := 26) rfl))) (Or.inr (hw _ (List.mem_of_getElem? (i := 20) rfl))) (by decide) (t := .long) (t' := .long) (by decide) (by decide)))
  have F_o4_perMain := F_o4_perMain.other W (Or.inr (slot_ne (Or.inr (hw _ (List.mem_of_getElem? (i := 28) rfl))) (Or.inr (hw _ (List.mem_of_getElem? (i := 20) rfl))) (by decide) (t := .long) (t' := .long) (by decide) (by decide)))
  have F_o4_specialDiscount := F_o4_specialDiscount.other W (Or.inr (slot_ne (Or.inr (hw _ (List.mem_of_getElem? (i := 30) rfl))) (Or.inr (hw _ (List.mem_of_getElem? (i := 20) rfl))) (by decide) (t := .long) (t' := .long) (by decide) (by decide)))
  have F_o4_giftThreshold := F_o4_giftThreshold.other W (Or.inr (slot_ne (Or.inr (hw _ (List.mem_of_getElem? (i := 32) rfl))) (Or.inr (hw _ (List.mem_of_getElem? (i := 20) rfl))) (by decide) (t := .long) (t' := .long) (by decide) (by decide)))
  have F_o4_giftDish := F_o4_giftDish.other W (Or.inr (slot_ne (Or.inr (hw _ (List.mem_of_getElem? (i := 34) rfl))) (Or.inr (hw _ (List.mem_of_getElem? (i := 20) rfl))) (by decide) (t := (.object "java/lang/String")) (t' := .long) (by decide) (by decide)))
  have F_o4_starThreshold := F_o4_starThreshold.other W (Or.inr (slot_ne (Or.inr (hw _ (List.mem_of_getElem? (i := 36) rfl))) (Or.inr (hw _ (List.mem_of_getElem? (i := 20) rfl))) (by decide) (t := .long) (t' := .long) (by decide) (by decide)))
  have F_o4_treeThreshold := F_o4_treeThreshold.other W (Or.inr (slot_ne (Or.inr (hw _ (List.mem_of_getElem? (i := 38) rfl))) (Or.inr (hw _ (List.mem_of_getElem? (i := 20) rfl))) (by decide) (t := .long) (t' := .long) (by decide) (by decide)))
  have F_o4_santaThreshold := F_o4_santaThreshold.other W (Or.inr (slot_ne (Or.inr (hw _ (List.mem_of_getElem? (i := 40) rfl))) (Or.inr (hw _ (List.mem_of_getElem? (i := 20) rfl))) (by decide) (t := .long) (t' := .long) (by decide) (by decide)))
  have Kp := Kp.wr W (Or.inl (by simp))
  refine s_aloadN 10 C X d1_9 rfl rfl ?_
  refine s_lloadN 11 C X d1_10 rfl ?_
  refine s_putfield 14 C X (host := "") d1_11 (Or.inl (List.mem_of_getElem? (i := 21) rfl)) Via.refl F_o4_dDayFirst E_o4 (Or.inr ⟨(List.mem_of_getElem? (i := 22) rfl), rfl, rfl⟩) (List.mem_of_getElem? (i := 3) rfl) (ty := .long) (by decide) rfl rfl g_o4 (fun T hh X W => ?_)
  have Od := Od.wr W g_o4
  have E_o4 := E_o4.wr W
  have F_o4_floor := F_o4_floor.other W (Or.inr (slot_ne (Or.inr (hw _ (List.mem_of_getElem? (i := 20) rfl))) (Or.inr (hw _ (List.mem_of_getElem? (i := 22) rfl))) (by decide) (t := .long) (t' := .long) (by decide) (by decide)))
  have F_o4_dDayFirst := F_o4_dDayFirst.same W
  have F_o4_dDayRise := F_o4_dDayRise.other W (Or.inr (slot_ne (Or.inr (hw _ (List.mem_of_getElem? (i := 24) rfl))) (Or.inr (hw _ (List.mem_of_getElem? (i := 22) rfl))) (by decide) (t := .long) (t' := .long) (by decide) (by decide)))
  have F_o4_perDessert := F_o4_perDessert.other W (Or.inr (slot_ne (Or.inr (hw _ (List.mem_of_getElem? (i := 26) rfl))) (Or.inr (hw _ (List.mem_of_getElem? (i := 22) rfl))) (by decide) (t := .long) (t' := .long) (by decide) (by decide)))
  have F_o4_perMain := F_o4_perMain.other W (Or.inr (slot_ne (Or.inr (hw _ (List.mem_of_getElem? (i := 28) rfl))) (Or.inr (hw _ (List.mem_of_getElem? (i := 22) rfl))) (by decide) (t := .long) (t' := .long) (by decide) (by decide)))
  have F_o4_specialDiscount := F_o4_specialDiscount.other W (Or.inr (slot_ne (Or.inr (hw _ (List.mem_of_getElem? (i := 30) rfl))) (Or.inr (hw _ (List.mem_of_getElem? (i := 22) rfl))) (by decide) (t := .long) (t' := .long) (by decide) (by decide)))
  have F_o4_giftThreshold := F_o4_giftThreshold.other W (Or.inr (slot_ne (Or.inr (hw _ (List.mem_of_getElem? (i := 32) rfl))) (Or.inr (hw _ (List.mem_of_getElem? (i := 22) rfl))) (by decide) (t := .long) (t' := .long) (by decide) (by decide)))
  have F_o4_giftDish := F_o4_giftDish.other W (Or.inr (slot_ne (Or.inr (hw _ (List.mem_of_getElem? (i := 34) rfl))) (Or.inr (hw _ (List.mem_of_getElem? (i := 22) rfl))) (by decide) (t := (.object "java/lang/String")) (t' := .long) (by decide) (by decide)))
  have F_o4_starThreshold := F_o4_starThreshold.other W (Or.inr (slot_ne (Or.inr (hw _ (List.mem_of_getElem? (i := 36) rfl))) (Or.inr (hw _ (List.mem_of_getElem? (i := 22) rfl))) (by decide) (t := .long) (t' := .long) (by decide) (by decide)))
  have F_o4_treeThreshold := F_o4_treeThreshold.other W (Or.inr (slot_ne (Or.inr (hw _ (List.mem_of_getElem? (i := 38) rfl))) (Or.inr (hw _ (List.mem_of_getElem? (i := 22) rfl))) (by decide) (t := .long) (t' := .long) (by decide) (by decide)))
  have F_o4_santaThreshold := F_o4_santaThreshold.other W (Or.inr (slot_ne (Or.inr (hw _ (List.mem_of_getElem? (i := 40) rfl))) (Or.inr (hw _ (List.mem_of_getElem? (i := 22) rfl))) (by decide) (t := .long) (t' := .long) (by decide) (by decide)))
  have Kp := Kp.wr W (Or.inl (by simp))
  refine s_aloadN 15 C X d1_14 rfl rfl ?_
  refine s_lload 17 C X d1_15 rfl ?_
  refine s_putfield 20 C X (host := "") d1_17 (Or.inl (List.mem_of_getElem? (i := 23) rfl)) Via.refl F_o4_dDayRise E_o4 (Or.inr ⟨(List.mem_of_getElem? (i := 24) rfl), rfl, rfl⟩) (List.mem_of_getElem? (i := 3) rfl) (ty := .long) (by decide) rfl rfl g_o4 (fun T hh X W => ?_)
  have Od := Od.wr W g_o4
  have E_o4 := E_o4.wr W
  have F_o4_floor := F_o4_floor.other W (Or.inr (slot_ne (Or.inr (hw _ (List.mem_of_getElem? (i := 20) rfl))) (Or.inr (hw _ (List.mem_of_getElem? (i := 24) rfl))) (by decide) (t := .long) (t' := .long) (by decide) (by decide)))
  have F_o4_dDayFirst := F_o4_dDayFirst.other W (Or.inr (slot_ne (Or.inr (hw _ (List.mem_of_getElem? (i := 22) rfl))) (Or.inr (hw _ (List.mem_of_getElem? (i := 24) rfl))) (by decide) (t := .long) (t' := .long) (by decide) (by decide)))
  have F_o4_dDayRise := F_o4_dDayRise.same W
  have F_o4_perDessert := F_o4_perDessert.other W (Or.inr (slot_ne (Or.inr (hw _ (List.mem_of_getElem? (i := 26) rfl))) (Or.inr (hw _ (List.mem_of_getElem? (i := 24) rfl))) (by decide) (t := .long) (t' := .long) (by decide) (by decide)))
  have F_o4_perMain := F_o4_perMain.other W (Or.inr (slot_ne (Or.inr (hw _ (List.mem_of_getElem? (i := 28) rfl))) (Or.inr (hw _ (List.mem_of_getElem? (i := 24) rfl))) (by decide) (t := .long) (t' := .long) (by decide) (by decide)))
  have F_o4_specialDiscount := F_o4_specialDiscount.other W (Or.inr (slot_ne (Or.inr (hw _ (List.mem_of_getElem? (i := 30) rfl))) (Or.inr (hw _ (List.mem_of_getElem? (i := 24) rfl))) (by decide) (t := .long) (t' := .long) (by decide) (by decide)))
  have F_o4_giftThreshold := F_o4_giftThreshold.other W (Or.inr (slot_ne (Or.inr (hw _ (List.mem_of_getElem? (i := 32) rfl))) (Or.inr (hw _ (List.mem_of_getElem? (i := 24) rfl))) (by decide) (t := .long) (t' := .long) (by decide) (by decide)))
  have F_o4_giftDish := F_o4_giftDish.other W (Or.inr (slot_ne (Or.inr (hw _ (List.mem_of_getElem? (i := 34) rfl))) (Or.inr (hw _ (List.mem_of_getElem? (i := 24) rfl))) (by decide) (t := (.object "java/lang/String")) (t' := .long) (by decide) (by decide)))
  have F_o4_starThreshold := F_o4_starThreshold.other W (Or.inr (slot_ne (Or.inr (hw _ (List.mem_of_getElem? (i := 36) rfl))) (Or.inr (hw _ (List.mem_of_getElem? (i := 24) rfl))) (by decide) (t := .long) (t' := .long) (by decide) (by decide)))
  have F_o4_treeThreshold := F_o4_treeThreshold.other W (Or.inr (slot_ne (Or.inr (hw _ (List.mem_of_getElem? (i := 38) rfl))) (Or.inr (hw _ (List.mem_of_getElem? (i := 24) rfl))) (by decide) (t := .long) (t' := .long) (by decide) (by decide)))
  have F_o4_santaThreshold := F_o4_santaThreshold.other W (Or.inr (slot_ne (Or.inr (hw _ (List.mem_of_getElem? (i := 40) rfl))) (Or.inr (hw _ (List.mem_of_getElem? (i := 24) rfl))) (by decide) (t := .long) (t' := .long) (by decide) (by decide)))
  have Kp := Kp.wr W (Or.inl (by simp))
  refine s_aloadN 21 C X d1_20 rfl rfl ?_
  refine s_lload 23 C X d1_21 rfl ?_
  refine s_putfield 26 C X (host := "") d1_23 (Or.inl (List.mem_of_getElem? (i := 25) rfl)) Via.refl F_o4_perDessert E_o4 (Or.inr ⟨(List.mem_of_getElem? (i := 26) rfl), rfl, rfl⟩) (List.mem_of_getElem? (i := 3) rfl) (ty := .long) (by decide) rfl rfl g_o4 (fun T hh X W => ?_)
  have Od := Od.wr W g_o4
  have E_o4 := E_o4.wr W
  have F_o4_floor := F_o4_floor.other W (Or.inr (slot_ne (Or.inr (hw _ (List.mem_of_getElem? (i := 20) rfl))) (Or.inr (hw _ (List.mem_of_getElem? (i := 26) rfl))) (by decide) (t := .long) (t' := .long) (by decide) (by decide)))
  have F_o4_dDayFirst := F_o4_dDayFirst.other W (Or.inr (slot_ne (Or.inr (hw _ (List.mem_of_getElem? (i := 22) rfl))) (Or.inr (hw _ (List.mem_of_getElem? (i := 26) rfl))) (by decide) (t := .long) (t' := .long) (by decide) (by decide)))
  have F_o4_dDayRise := F_o4_dDayRise.other W (Or.inr (slot_ne (Or.inr (hw _ (List.mem_of_getElem? (i := 24) rfl))) (Or.inr (hw _ (List.mem_of_getElem? (i := 26) rfl))) (by decide) (t := .long) (t' := .long) (by decide) (by decide)))
  have F_o4_perDessert := F_o4_perDessert.same W
  have F_o4_perMain := F_o4_perMain.other W (Or.inr (slot_ne (Or.inr (hw _ (List.mem_of_getElem? (i := 28) rfl))) (Or.inr (hw _ (List.mem_of_getElem? (i := 26) rfl))) (by decide) (t := .long) (t' := .long) (by decide) (by decide)))
  have F_o4_specialDiscount := F_o4_specialDiscount.other W (Or.inr (slot_ne (Or.inr (hw _ (List.mem_of_getElem? (i := 30) rfl))) (Or.inr (hw _ (List.mem_of_getElem? (i := 26) rfl))) (by decide) (t := .long) (t' := .long) (by decide) (by decide)))
  have F_o4_giftThreshold := F_o4_giftThreshold.other W (Or.inr (slot_ne (Or.inr (hw _ (List.mem_of_getElem? (i := 32) rfl))) (Or.inr (hw _ (List.mem_of_getElem? (i := 26) rfl))) (by decide) (t := .long) (t' := .long) (by decide) (by decide)))
  have F_o4_giftDish := F_o4_giftDish.other W (Or.inr (slot_ne (Or.inr (hw _ (List.mem_of_getElem? (i := 34) rfl))) (Or.inr (hw _ (List.mem_of_getElem? (i := 26) rfl))) (by decide) (t := (.object "java/lang/String")) (t' := .long) (by decide) (by decide)))
  have F_o4_starThreshold := F_o4_starThreshold.other W (Or.inr (slot_ne (Or.inr (hw _ (List.mem_of_getElem? (i := 36) rfl))) (Or.inr (hw _ (List.mem_of_getElem? (i := 26) rfl))) (by decide) (t := .long) (t' := .long) (by decide) (by decide)))
  have F_o4_treeThreshold := F_o4_treeThreshold.other W (Or.inr (slot_ne (Or.inr (hw _ (List.mem_of_getElem? (i := 38) rfl))) (Or.inr (hw _ (List.mem_of_getElem? (i := 26) rfl))) (by decide) (t := .long) (t' := .long) (by decide) (by decide)))
  have F_o4_santaThreshold := F_o4_santaThreshold.other W (Or.inr (slot_ne (Or.inr (hw _ (List.mem_of_getElem? (i := 40) rfl))) (Or.inr (hw _ (List.mem_of_getElem? (i := 26) rfl))) (by decide) (t := .long) (t' := .long) (by decide) (by decide)))
  have Kp := Kp.wr W (Or.inl (by simp))
  refine s_aloadN 27 C X d1_26 rfl rfl ?_
  refine s_lload 29 C X d1_27 rfl ?_
  refine s_putfield 32 C X (host := "") d1_29 (Or.inl (List.mem_of_getElem? (i := 27) rfl)) Via.refl F_o4_perMain E_o4 (Or.inr ⟨(List.mem_of_getElem? (i := 28) rfl), rfl, rfl⟩) (List.mem_of_getElem? (i := 3) rfl) (ty := .long) (by decide) rfl rfl g_o4 (fun T hh X W => ?_)
  have Od := Od.wr W g_o4
  have E_o4 := E_o4.wr W
  have F_o4_floor := F_o4_floor.other W (Or.inr (slot_ne (Or.inr (hw _ (List.mem_of_getElem? (i := 20) rfl))) (Or.inr (hw _ (List.mem_of_getElem? (i := 28) rfl))) (by decide) (t := .long) (t' := .long) (by decide) (by decide)))
  have F_o4_dDayFirst := F_o4_dDayFirst.other W (Or.inr (slot_ne (Or.inr (hw _ (List.mem_of_getElem? (i := 22) rfl))) (Or.inr (hw _ (List.mem_of_getElem? (i := 28) rfl))) (by decide) (t := .long) (t' := .long) (by decide) (by decide)))
  have F_o4_dDayRise := F_o4_dDayRise.other W (Or.inr (slot_ne (Or.inr (hw _ (List.mem_of_getElem? (i := 24) rfl))) (Or.inr (hw _ (List.mem_of_getElem? (i := 28) rfl))) (by decide) (t := .long) (t' := .long) (by decide) (by decide)))
  have F_o4_perDessert := F_o4_perDessert.other W (Or.inr (slot_ne (Or.inr (hw _ (List.mem_of_getElem? (i := 26) rfl))) (Or.inr (hw _ (List.mem_of_getElem? (i := 28) rfl))) (by decide) (t := .long) (t' := .long) (by decide) (by decide)))
  have F_o4_perMain := F_o4_perMain.same W
  have F_o4_specialDiscount := F_o4_specialDiscount.other W (Or.inr (slot_ne (Or.inr (hw _ (List.mem_of_getElem? (i := 30) rfl))) (Or.inr (hw _ (List.mem_of_getElem? (i := 28) rfl))) (by decide) (t := .long) (t' := .long) (by decide) (by decide)))
  have F_o4_giftThreshold := F_o4_giftThreshold.other W (Or.inr (slot_ne (Or.inr (hw _ (List.mem_of_getElem? (i := 32) rfl))) (Or.inr (hw _ (List.mem_of_getElem? (i := 28) rfl))) (by decide) (t := .long) (t' := .long) (by decide) (by decide)))
  have F_o4_giftDish := F_o4_giftDish.other W (Or.inr (slot_ne (Or.inr (hw _ (List.mem_of_getElem? (i := 34) rfl))) (Or.inr (hw _ (List.mem_of_getElem? (i := 28) rfl))) (by decide) (t := (.object "java/lang/String")) (t' := .long) (by decide) (by decide)))
  have F_o4_starThreshold := F_o4_starThreshold.other W (Or.inr (slot_ne (Or.inr (hw _ (List.mem_of_getElem? (i := 36) rfl))) (Or.inr (hw _ (List.mem_of_getElem? (i := 28) rfl))) (by decide) (t := .long) (t' := .long) (by decide) (by decide)))
  have F_o4_treeThreshold := F_o4_treeThreshold.other W (Or.inr (slot_ne (Or.inr (hw _ (List.mem_of_getElem? (i := 38) rfl))) (Or.inr (hw _ (List.mem_of_getElem? (i := 28) rfl))) (by decide) (t := .long) (t' := .long) (by decide) (by decide)))
  have F_o4_santaThreshold := F_o4_santaThreshold.other W (Or.inr (slot_ne (Or.inr (hw _ (List.mem_of_getElem? (i := 40) rfl))) (Or.inr (hw _ (List.mem_of_getElem? (i := 28) rfl))) (by decide) (t := .long) (t' := .long) (by decide) (by decide)))
  have Kp := Kp.wr W (Or.inl (by simp))
  refine s_aloadN 33 C X d1_32 rfl rfl ?_
  refine s_lload 35 C X d1_33 rfl ?_
  refine s_putfield 38 C X (host := "") d1_35 (Or.inl (List.mem_of_getElem? (i := 29) rfl)) Via.refl F_o4_specialDiscount E_o4 (Or.inr ⟨(List.mem_of_getElem? (i := 30) rfl), rfl, rfl⟩) (List.mem_of_getElem? (i := 3) rfl) (ty := .long) (by decide) rfl rfl g_o4 (fun T hh X W => ?_)
  have Od := Od.wr W g_o4
  have E_o4 := E_o4.wr W
  have F_o4_floor := F_o4_floor.other W (Or.inr (slot_ne (Or.inr (hw _ (List.mem_of_getElem? (i := 20) rfl))) (Or.inr (hw _ (List.mem_of_getElem? (i := 30) rfl))) (by decide) (t := .long) (t' := .long) (by decide) (by decide)))
  have F_o4_dDayFirst := F_o4_dDayFirst.other W (Or.inr (slot_ne (Or.inr (hw _ (List.mem_of_getElem? (i := 22) rfl))) (Or.inr (hw _ (List.mem_of_getElem? (i := 30) rfl))) (by decide) (t := .long) (t' := .long) (by decide) (by decide)))
  have F_o4_dDayRise := F_o4_dDayRise.other W (Or.inr (slot_ne (Or.inr (hw _ (List.mem_of_getElem? (i := 24) rfl))) (Or.inr (hw _ (List.mem_of_getElem? (i := 30) rfl))) (by decide) (t := .long) (t' := .long) (by decide) (by decide)))
  have F_o4_perDessert := F_o4_perDessert.other W (Or.inr (slot_ne (Or.inr (hw _ (List.mem_of_getElem? (i := 26) rfl))) (Or.inr (hw _ (List.mem_of_getElem? (i := 30) rfl))) (by decide) (t := .long) (t' := .long) (by decide) (by decide)))
  have F_o4_perMain := F_o4_perMain.other W (Or.inr (slot_ne (Or.inr (hw _ (List.mem_of_getElem? (i := 28) rfl))) (Or.inr (hw _ (List.mem_of_getElem? (i := 30) rfl))) (by decide) (t := .long) (t' := .long) (by decide) (by decide)))
  have F_o4_specialDiscount := F_o4_specialDiscount.same W
  have F_o4_giftThreshold := F_o4_giftThreshold.other W (Or.inr (slot_ne (Or.inr (hw _ (List.mem_of_getElem? (i := 32) rfl))) (Or.inr (hw _ (List.mem_of_getElem? (i := 30) rfl))) (by decide) (t := .long) (t' := .long) (by decide) (by decide)))
  have F_o4_giftDish := F_o4_giftDish.other W (Or.inr (slot_ne (Or.inr (hw _ (List.mem_of_getElem? (i := 34) rfl))) (Or.inr (hw _ (List.mem_of_getElem? (i := 30) rfl))) (by decide) (t := (.object "java/lang/String")) (t' := .long) (by decide) (by decide)))
  have F_o4_starThreshold := F_o4_starThreshold.other W (Or.inr (slot_ne (Or.inr (hw _ (List.mem_of_getElem? (i := 36) rfl))) (Or.inr (hw _ (List.mem_of_getElem? (i := 30) rfl))) (by decide) (t := .long) (t' := .long) (by decide) (by decide)))
  have F_o4_treeThreshold := F_o4_treeThreshold.other W (Or.inr (slot_ne (Or.inr (hw _ (List.mem_of_getElem? (i := 38) rfl))) (Or.inr (hw _ (List.mem_of_getElem? (i := 30) rfl))) (by decide) (t := .long) (t' := .long) (by decide) (by decide)))
  have F_o4_santaThreshold := F_o4_santaThreshold.other W (Or.inr (slot_ne (Or.inr (hw _ (List.mem_of_getElem? (i := 40) rfl))) (Or.inr (hw _ (List.mem_of_getElem? (i := 30) rfl))) (by decide) (t := .long) (t' := .long) (by decide) (by decide)))
  have Kp := Kp.wr W (Or.inl (by simp))
  refine s_aloadN 39 C X d1_38 rfl rfl ?_
  refine s_lload 41 C X d1_39 rfl ?_
  refine s_putfield 44 C X (host := "") d1_41 (Or.inl (List.mem_of_getElem? (i := 31) rfl)) Via.refl F_o4_giftThreshold E_o4 (Or.inr ⟨(List.mem_of_getElem? (i := 32) rfl), rfl, rfl⟩) (List.mem_of_getElem? (i := 3) rfl) (ty := .long) (by decide) rfl rfl g_o4 (fun T hh X W => ?_)
  have Od := Od.wr W g_o4
  have E_o4 := E_o4.wr W
  have F_o4_floor := F_o4_floor.other W (Or.inr (slot_ne (Or.inr (hw _ (List.mem_of_getElem? (i := 20) rfl))) (Or.inr (hw _ (List.mem_of_getElem? (i := 32) rfl))) (by decide) (t := .long) (t' := .long) (by decide) (by decide)))
  have F_o4_dDayFirst := F_o4_dDayFirst.other W (Or.inr (slot_ne (Or.inr (hw _ (List.mem_of_getElem? (i := 22) rfl))) (Or.inr (hw _ (List.mem_of_getElem? (i := 32) rfl))) (by decide) (t := .long) (t' := .long) (by decide) (by decide)))
  have F_o4_dDayRise := F_o4_dDayRise.other W (Or.inr (slot_ne (Or.inr (hw _ (List.mem_of_getElem? (i := 24) rfl))) (Or.inr (hw _ (List.mem_of_getElem? (i := 32) rfl))) (by decide) (t := .long) (t' := .long) (by decide) (by decide)))
  have F_o4_perDessert := F_o4_perDessert.other W (Or.inr (slot_ne (Or.inr (hw _ (List.mem_of_getElem? (i := 26) rfl))) (Or.inr (hw _ (List.mem_of_getElem? (i := 32) rfl))) (by decide) (t := .long) (t' := .long) (by decide) (by decide)))
  have F_o4_perMain := F_o4_perMain.other W (Or.inr (slot_ne (Or.inr (hw _ (List.mem_of_getElem? (i := 28) rfl))) (Or.inr (hw _ (List.mem_of_getElem? (i := 32) rfl))) (by decide) (t := .long) (t' := .long) (by decide) (by decide)))
  have F_o4_specialDiscount := F_o4_specialDiscount.other W (Or.inr (slot_ne (Or.inr (hw _ (List.mem_of_getElem? (i := 30) rfl))) (Or.inr (hw _ (List.mem_of_getElem? (i := 32) rfl))) (by decide) (t := .long) (t' := .long) (by decide) (by decide)))
  have F_o4_giftThreshold := F_o4_giftThreshold.same W
  have F_o4_giftDish := F_o4_giftDish.other W (Or.inr (slot_ne (Or.inr (hw _ (List.mem_of_getElem? (i := 34) rfl))) (Or.inr (hw _ (List.mem_of_getElem? (i := 32) rfl))) (by decide) (t := (.object "java/lang/String")) (t' := .long) (by decide) (by decide)))
  have F_o4_starThreshold := F_o4_starThreshold.other W (Or.inr (slot_ne (Or.inr (hw _ (List.mem_of_getElem? (i := 36) rfl))) (Or.inr (hw _ (List.mem_of_getElem? (i := 32) rfl))) (by decide) (t := .long) (t' := .long) (by decide) (by decide)))
  have F_o4_treeThreshold := F_o4_treeThreshold.other W (Or.inr (slot_ne (Or.inr (hw _ (List.mem_of_getElem? (i := 38) rfl))) (Or.inr (hw _ (List.mem_of_getElem? (i := 32) rfl))) (by decide) (t := .long) (t' := .long) (by decide) (by decide)))
  have F_o4_santaThreshold := F_o4_santaThreshold.other W (Or.inr (slot_ne (Or.inr (hw _ (List.mem_of_getElem? (i := 40) rfl))) (Or.inr (hw _ (List.mem_of_getElem? (i := 32) rfl))) (by decide) (t := .long) (t' := .long) (by decide) (by decide)))
  have Kp := Kp.wr W (Or.inl (by simp))
  refine s_aloadN 45 C X d1_44 rfl rfl ?_
  refine s_aload 47 C X d1_45 rfl rfl ?_
  refine s_putfield 50 C X (host := "") d1_47 (Or.inl (List.mem_of_getElem? (i := 33) rfl)) Via.refl F_o4_giftDish E_o4 (Or.inr ⟨(List.mem_of_getElem? (i := 34) rfl), rfl, rfl⟩) (List.mem_of_getElem? (i := 3) rfl) (ty := (.object "java/lang/String")) (by decide) rfl rfl g_o4 (fun T hh X W => ?_)
  have Od := Od.wr W g_o4
  have E_o4 := E_o4.wr W
  have F_o4_floor := F_o4_floor.other W (Or.inr (slot_ne (Or.inr (hw _ (List.mem_of_getElem? (i := 20) rfl))) (Or.inr (hw _ (List.mem_of_getElem? (i := 34) rfl))) (by decide) (t := .long) (t' := (.object "java/lang/String")) (by decide) (by decide)))
  have F_o4_dDayFirst := F_o4_dDayFirst.other W (Or.inr (slot_ne (Or.inr (hw _ (List.mem_of_getElem? (i := 22) rfl))) (Or.inr (hw _ (List.mem_of_getElem? (i := 34) rfl))) (by decide) (t := .long) (t' := (.object "java/lang/String")) (by decide) (by decide)))
  have F_o4_dDayRise := F_o4_dDayRise.other W (Or.inr (slot_ne (Or.inr (hw _ (List.mem_of_getElem? (i := 24) rfl))) (Or.inr (hw _ (List.mem_of_getElem? (i := 34) rfl))) (by decide) (t := .long) (t' := (.object "java/lang/String")) (by decide) (by decide)))
  have F_o4_perDessert := F_o4_perDessert.other W (Or.inr (slot_ne (Or.inr (hw _ (List.mem_of_getElem? (i := 26) rfl))) (Or.inr (hw _ (List.mem_of_getElem? (i := 34) rfl))) (by decide) (t := .long) (t' := (.object "java/lang/String")) (by decide) (by decide)))
  have F_o4_perMain := F_o4_perMain.other W (Or.inr (slot_ne (Or.inr (hw _ (List.mem_of_getElem? (i := 28) rfl))) (Or.inr (hw _ (List.mem_of_getElem? (i := 34) rfl))) (by decide) (t := .long) (t' := (.object "java/lang/String")) (by decide) (by decide)))
  have F_o4_specialDiscount := F_o4_specialDiscount.other W (Or.inr (slot_ne (Or.inr (hw _ (List.mem_of_getElem? (i := 30) rfl))) (Or.inr (hw _ (List.mem_of_getElem? (i := 34) rfl))) (by decide) (t := .long) (t' := (.object "java/lang/String")) (by decide) (by decide)))
  have F_o4_giftThreshold := F_o4_giftThreshold.other W (Or.inr (slot_ne (Or.inr (hw _ (List.mem_of_getElem? (i := 32) rfl))) (Or.inr (hw _ (List.mem_of_getElem? (i := 34) rfl))) (by decide) (t := .long) (t' := (.object "java/lang/String")) (by decide) (by decide)))
  have F_o4_giftDish := F_o4_giftDish.same W
  have F_o4_starThreshold := F_o4_starThreshold.other W (Or.inr (slot_ne (Or.inr (hw _ (List.mem_of_getElem? (i := 36) rfl))) (Or.inr (hw _ (List.mem_of_getElem? (i := 34) rfl))) (by decide) (t := .long) (t' := (.object "java/lang/String")) (by decide) (by decide)))
  have F_o4_treeThreshold := F_o4_treeThreshold.other W (Or.inr (slot_ne (Or.inr (hw _ (List.mem_of_getElem? (i := 38) rfl))) (Or.inr (hw _ (List.mem_of_getElem? (i := 34) rfl))) (by decide) (t := .long) (t' := (.object "java/lang/String")) (by decide) (by decide)))
  have F_o4_santaThreshold := F_o4_santaThreshold.other W (Or.inr (slot_ne (Or.inr (hw _ (List.mem_of_getElem? (i := 40) rfl))) (Or.inr (hw _ (List.mem_of_getElem? (i := 34) rfl))) (by decide) (t := .long) (t' := (.object "java/lang/String")) (by decide) (by decide)))
  have Kp := Kp.wr W (Or.inl (by simp))
  refine s_aloadN 51 C X d1_50 rfl rfl ?_
  refine s_lload 53 C X d1_51 rfl ?_
  refine s_putfield 56 C X (host := "") d1_53 (Or.inl (List.mem_of_getElem? (i := 35) rfl)) Via.refl F_o4_starThreshold E_o4 (Or.inr ⟨(List.mem_of_getElem? (i := 36) rfl), rfl, rfl⟩) (List.mem_of_getElem? (i := 3) rfl) (ty := .long) (by decide) rfl rfl g_o4 (fun T hh X W => ?_)
  have Od := Od.wr W g_o4
  have E_o4 := E_o4.wr W
  have F_o4_floor := F_o4_floor.other W (Or.inr (slot_ne (Or.inr (hw _ (List.mem_of_getElem? (i := 20) rfl))) (Or.inr (hw _ (List.mem_of_getElem? (i := 36) rfl))) (by decide) (t := .long) (t' := .long) (by decide) (by decide)))
  have F_o4_dDayFirst := F_o4_dDayFirst.other W (Or.inr (slot_ne (Or.inr (hw _ (List.mem_of_getElem? (i := 22) rfl))) (Or.inr (hw _ (List.mem_of_getElem? (i := 36) rfl))) (by decide) (t := .long) (t' := .long) (by decide) (by decide)))
  have F_o4_dDayRise := F_o4_dDayRise.other W (Or.inr (slot_ne (Or.inr (hw _ (List.mem_of_getElem? (i := 24) rfl))) (Or.inr (hw _ (List.mem_of_getElem? (i := 36) rfl))) (by decide) (t := .long) (t' := .long) (by decide) (by decide)))
  have F_o4_perDessert := F_o4_perDessert.other W (Or.inr (slot_ne (Or.inr (hw _ (List.mem_of_getElem? (i := 26) rfl))) (Or.inr (hw _ (List.mem_of_getElem? (i := 36) rfl))) (by decide) (t := .long) (t' := .long) (by decide) (by decide)))
  have F_o4_perMain := F_o4_perMain.other W (Or.inr (slot_ne (Or.inr (hw _ (List.mem_of_getElem? (i := 28) rfl))) (Or.inr (hw _ (List.mem_of_getElem? (i := 36) rfl))) (by decide) (t := .long) (t' := .long) (by decide) (by decide)))
  have F_o4_specialDiscount := F_o4_specialDiscount.other W (Or.inr (slot_ne (Or.inr (hw _ (List.mem_of_getElem? (i := 30) rfl))) (Or.inr (hw _ (List.mem_of_getElem? (i := 36) rfl))) (by decide) (t := .long) (t' := .long) (by decide) (by decide)))
  have F_o4_giftThreshold := F_o4_giftThreshold.other W (Or.inr (slot_ne (Or.inr (hw _ (List.mem_of_getElem? (i := 32) rfl))) (Or.inr (hw _ (List.mem_of_getElem? (i := 36) rfl))) (by decide) (t := .long) (t' := .long) (by decide) (by decide)))
  have F_o4_giftDish := F_o4_giftDish.other W (Or.inr (slot_ne (Or.inr (hw _ (List.mem_of_getElem? (i := 34) rfl))) (Or.inr (hw _ (List.mem_of_getElem? (i := 36) rfl))) (by decide) (t := (.object "java/lang/String")) (t' := .long) (by decide) (by decide)))
  have F_o4_starThreshold := F_o4_starThreshold.same W
  have F_o4_treeThreshold := F_o4_treeThreshold.other W (Or.inr (slot_ne (Or.inr (hw _ (List.mem_of_getElem? (i := 38) rfl))) (Or.inr (hw _ (List.mem_of_getElem? (i := 36) rfl))) (by decide) (t := .long) (t' := .long) (by decide) (by decide)))
  have F_o4_santaThreshold := F_o4_santaThreshold.other W (Or.inr (slot_ne (Or.inr (hw _ (List.mem_of_getElem? (i := 40) rfl))) (Or.inr (hw _ (List.mem_of_getElem? (i := 36) rfl))) (by decide) (t := .long) (t' := .long) (by decide) (by decide)))
  have Kp := Kp.wr W (Or.inl (by simp))
  refine s_aloadN 57 C X d1_56 rfl rfl ?_
  refine s_lload 59 C X d1_57 rfl ?_
  refine s_putfield 62 C X (host := "") d1_59 (Or.inl (List.mem_of_getElem? (i := 37) rfl)) Via.refl F_o4_treeThreshold E_o4 (Or.inr ⟨(List.mem_of_getElem? (i := 38) rfl), rfl, rfl⟩) (List.mem_of_getElem? (i := 3) rfl) (ty := .long) (by decide) rfl rfl g_o4 (fun T hh X W => ?_)
  have Od := Od.wr W g_o4
  have E_o4 := E_o4.wr W
  have F_o4_floor := F_o4_floor.other W (Or.inr (slot_ne (Or.inr (hw _ (List.mem_of_getElem? (i := 20) rfl))) (Or.inr (hw _ (List.mem_of_getElem? (i := 38) rfl))) (by decide) (t := .long) (t' := .long) (by decide) (by decide)))
  have F_o4_dDayFirst := F_o4_dDayFirst.other W (Or.inr (slot_ne (Or.inr (hw _ (List.mem_of_getElem? (i := 22) rfl))) (Or.inr (hw _ (List.mem_of_getElem? (i := 38) rfl))) (by decide) (t := .long) (t' := .long) (by decide) (by decide)))
  have F_o4_dDayRise := F_o4_dDayRise.other W (Or.inr (slot_ne (Or.inr (hw _ (List.mem_of_getElem? (i := 24) rfl))) (Or.inr (hw _ (List.mem_of_getElem? (i := 38) rfl))) (by decide) (t := .long) (t' := .long) (by decide) (by decide)))
  have F_o4_perDessert := F_o4_perDessert.other W (Or.inr (slot_ne (Or.inr (hw _ (List.mem_of_getElem? (i := 26) rfl))) (Or.inr (hw _ (List.mem_of_getElem? (i := 38) rfl))) (by decide) (t := .long) (t' := .long) (by decide) (by decide)))
  have F_o4_perMain := F_o4_perMain.other W (Or.inr (slot_ne (Or.inr (hw _ (List.mem_of_getElem? (i := 28) rfl))) (Or.inr (hw _ (List.mem_of_getElem? (i := 38) rfl))) (by decide) (t := .long) (t' := .long) (by decide) (by decide)))
  have F_o4_specialDiscount := F_o4_specialDiscount.other W (Or.inr (slot_ne (Or.inr (hw _ (List.mem_of_getElem? (i := 30) rfl))) (Or.inr (hw _ (List.mem_of_getElem? (i := 38) rfl))) (by decide) (t := .long) (t' := .long) (by decide) (by decide)))
  have F_o4_giftThreshold := F_o4_giftThreshold.other W (Or.inr (slot_ne (Or.inr (hw _ (List.mem_of_getElem? (i := 32) rfl))) (Or.inr (hw _ (List.mem_of_getElem? (i := 38) rfl))) (by decide) (t := .long) (t' := .long) (by decide) (by decide)))
  have F_o4_giftDish := F_o4_giftDish.other W (Or.inr (slot_ne (Or.inr (hw _ (List.mem_of_getElem? (i := 34) rfl))) (Or.inr (hw _ (List.mem_of_getElem? (i := 38) rfl))) (by decide) (t := (.object "java/lang/String")) (t' := .long) (by decide) (by decide)))
  have F_o4_starThreshold := F_o4_starThreshold.other W (Or.inr (slot_ne (Or.inr (hw _ (List.mem_of_getElem? (i := 36) rfl))) (Or.inr (hw _ (List.mem_of_getElem? (i := 38) rfl))) (by decide) (t := .long) (t' := .long) (by decide) (by decide)))
  have F_o4_treeThreshold := F_o4_treeThreshold.same W
  have F_o4_santaThreshold := F_o4_santaThreshold.other W (Or.inr (slot_ne (Or.inr (hw _ (List.mem_of_getElem? (i := 40) rfl))) (Or.inr (hw _ (List.mem_of_getElem? (i := 38) rfl))) (by decide) (t := .long) (t' := .long) (by decide) (by decide)))
  have Kp := Kp.wr W (Or.inl (by simp))
  refine s_aloadN 63 C X d1_62 rfl rfl ?_
  refine s_lload 65 C X d1_63 rfl ?_
  refine s_putfield 68 C X (host := "") d1_65 (Or.inl (List.mem_of_getElem? (i := 39) rfl)) Via.refl F_o4_santaThreshold E_o4 (Or.inr ⟨(List.mem_of_getElem? (i := 40) rfl), rfl, rfl⟩) (List.mem_of_getElem? (i := 3) rfl) (ty := .long) (by decide) rfl rfl g_o4 (fun T hh X W => ?_)
  have Od := Od.wr W g_o4
  have E_o4 := E_o4.wr W
  have F_o4_floor := F_o4_floor.other W (Or.inr (slot_ne (Or.inr (hw _ (List.mem_of_getElem? (i := 20) rfl))) (Or.inr (hw _ (List.mem_of_getElem? (i := 40) rfl))) (by decide) (t := .long) (t' := .long) (by decide) (by decide)))
  have F_o4_dDayFirst := F_o4_dDayFirst.other W (Or.inr (slot_ne (Or.inr (hw _ (List.mem_of_getElem? (i := 22) rfl))) (Or.inr (hw _ (List.mem_of_getElem? (i := 40) rfl))) (by decide) (t := .long) (t' := .long) (by decide) (by decide)))
  have F_o4_dDayRise := F_o4_dDayRise.other W (Or.inr (slot_ne (Or.inr (hw _ (List.mem_of_getElem? (i := 24) rfl))) (Or.inr (hw _ (List.mem_of_getElem? (i := 40) rfl))) (by decide) (t := .long) (t' := .long) (by decide) (by decide)))
  have F_o4_perDessert := F_o4_perDessert.other W (Or.inr (slot_ne (Or.inr (hw _ (List.mem_of_getElem? (i := 26) rfl))) (Or.inr (hw _ (List.mem_of_getElem? (i := 40) rfl))) (by decide) (t := .long) (t' := .long) (by decide) (by decide)))
  have F_o4_perMain := F_o4_perMain.other W (Or.inr (slot_ne (Or.inr (hw _ (List.mem_of_getElem? (i := 28) rfl))) (Or.inr (hw _ (List.mem_of_getElem? (i := 40) rfl))) (by decide) (t := .long) (t' := .long) (by decide) (by decide)))
  have F_o4_specialDiscount := F_o4_specialDiscount.other W (Or.inr (slot_ne (Or.inr (hw _ (List.mem_of_getElem? (i := 30) rfl))) (Or.inr (hw _ (List.mem_of_getElem? (i := 40) rfl))) (by decide) (t := .long) (t' := .long) (by decide) (by decide)))
  have F_o4_giftThreshold := F_o4_giftThreshold.other W (Or.inr (slot_ne (Or.inr (hw _ (List.mem_of_getElem? (i := 32) rfl))) (Or.inr (hw _ (List.mem_of_getElem? (i := 40) rfl))) (by decide) (t := .long) (t' := .long) (by decide) (by decide)))
  have F_o4_giftDish := F_o4_giftDish.other W (Or.inr (slot_ne (Or.inr (hw _ (List.mem_of_getElem? (i := 34) rfl))) (Or.inr (hw _ (List.mem_of_getElem? (i := 40) rfl))) (by decide) (t := (.object "java/lang/String")) (t' := .long) (by decide) (by decide)))
  have F_o4_starThreshold := F_o4_starThreshold.other W (Or.inr (slot_ne (Or.inr (hw _ (List.mem_of_getElem? (i := 36) rfl))) (Or.inr (hw _ (List.mem_of_getElem? (i := 40) rfl))) (by decide) (t := .long) (t' := .long) (by decide) (by decide)))
  have F_o4_treeThreshold := F_o4_treeThreshold.other W (Or.inr (slot_ne (Or.inr (hw _ (List.mem_of_getElem? (i := 38) rfl))) (Or.inr (hw _ (List.mem_of_getElem? (i := 40) rfl))) (by decide) (t := .long) (t' := .long) (by decide) (by decide)))
  have F_o4_santaThreshold := F_o4_santaThreshold.same W
  have Kp := Kp.wr W (Or.inl (by simp))
  refine s_return C X d1_68 rfl ?_
  exact ⟨rfl, Od, E_o4, F_o4_floor, F_o4_dDayFirst, F_o4_dDayRise, F_o4_perDessert, F_o4_perMain, F_o4_specialDiscount, F_o4_giftThreshold, F_o4_giftDish, F_o4_starThreshold, F_o4_treeThreshold, F_o4_santaThreshold, Kp⟩
set_option maxRecDepth 65536 in
set_option maxHeartbeats 40000000 in
theorem rm_a8 (l : Launch) (Z : State) (a0 : Array Value) (hw : ∀ d ∈ tables_1, d.before a0 Z = true) (aSanta : Addr) (aTree : Addr) (aStar : Addr) (aE : Addr) (h0 : Heap) (n0 : Nat) (Z0 : n0 ≤ h0.size) (Od : Old Z n0 h0) (S_E : Sta Z Z.heap "java/util/Optional" "EMPTY" "Ljava/util/Optional;" (.ref aE)) (S_SANTA : Sta Z Z.heap "com/example/tinsel_tally/tinseltally/Badge" "SANTA" "Lcom/example/tinsel_tally/tinseltally/Badge;" (.ref aSanta)) (S_TREE : Sta Z Z.heap "com/example/tinsel_tally/tinseltally/Badge" "TREE" "Lcom/example/tinsel_tally/tinseltally/Badge;" (.ref aTree)) (S_STAR : Sta Z Z.heap "com/example/tinsel_tally/tinseltally/Badge" "STAR" "Lcom/example/tinsel_tally/tinseltally/Badge;" (.ref aStar)) :
    Met l Z (⟨"java/util/Optional", "empty", "()Ljava/util/Optional;"⟩ : MethodName) jdk_32_method_1_code 1 (some (.object "java/util/Optional")) { frames := 0, cells := 0, slots := 0, locals := 0 } [] #[] h0 n0 (fun v h => v = some (.ref aE) ∧ Old Z n0 h ∧ Keep h0 h []) := by
  refine Met.mk (tabs := tables_1) (a0 := a0) (ls0 := #[.unset]) (plainFor_of_name pn_java_util_Optional) hw Z0 (fun m => by first | (simp [entryFrame, mkF, argsToLocals, Value.category]; done) | rfl) ?_
  intro p e s m below meth c T C X
  have Kp : Keep h0 h0 [] := Keep.refl _ _
  refine s_getstatic 3 C X (host := "") d4_0 (Or.inl (List.mem_of_getElem? (i := 49) rfl)) Via.refl (S_E.ext Od.2) (fun T X => ?_)
  refine s_astoreN 4 C X (l' := #[.val (.ref aE)]) d4_3 rfl rfl ?_
  refine s_aloadN 5 C X d4_4 rfl rfl ?_
  refine s_areturn C X d4_5 rfl rfl rfl ?_
  exact ⟨rfl, Od, Kp⟩
set_option maxRecDepth 65536 in
set_option maxHeartbeats 40000000 in
theorem rm_a9 (l : Launch) (Z : State) (a0 : Array Value) (hw : ∀ d ∈ tables_1, d.before a0 Z = true) (aSanta : Addr) (aTree : Addr) (aStar : Addr) (aE : Addr) (star : Int64) (tree : Int64) (santa : Int64) (o4 : Addr) (t5 : Addr) (h0 : Heap) (n0 : Nat) (Z0 : n0 ≤ h0.size) (E_o4 : Exa Z h0 o4 "com/example/tinsel_tally/tinseltally/Figures") (F_o4_floor : Fld Z h0 o4 "com/example/tinsel_tally/tinseltally/Figures" "floor" "J" (.long (0 : Int64))) (F_o4_dDayFirst : Fld Z h0 o4 "com/example/tinsel_tally/tinseltally/Figures" "dDayFirst" "J" (.long (0 : Int64))) (F_o4_dDayRise : Fld Z h0 o4 "com/example/tinsel_tally/tinseltally/Figures" "dDayRise" "J" (.long (0 : Int64))) (F_o4_perDessert : Fld Z h0 o4 "com/example/tinsel_tally/tinseltally/Figures" "perDessert" "J" (.long (0 : Int64))) (F_o4_perMain : Fld Z h0 o4 "com/example/tinsel_tally/tinseltally/Figures" "perMain" "J" (.long (0 : Int64))) (F_o4_specialDiscount : Fld Z h0 o4 "com/example/tinsel_tally/tinseltally/Figures" "specialDiscount" "J" (.long (0 : Int64))) (F_o4_giftThreshold : Fld Z h0 o4 "com/example/tinsel_tally/tinseltally/Figures" "giftThreshold" "J" (.long (0 : Int64))) (F_o4_giftDish : Fld Z h0 o4 "com/example/tinsel_tally/tinseltally/Figures" "giftDish" "Ljava/lang/String;" (.ref t5)) (F_o4_starThreshold : Fld Z h0 o4 "com/example/tinsel_tally/tinseltally/Figures" "starThreshold" "J" (.long star)) (F_o4_treeThreshold : Fld Z h0 o4 "com/example/tinsel_tally/tinseltally/Figures" "treeThreshold" "J" (.long tree)) (F_o4_santaThreshold : Fld Z h0 o4 "com/example/tinsel_tally/tinseltally/Figures" "santaThreshold" "J" (.long santa)) (Od : Old Z n0 h0) (S_E : Sta Z Z.heap "java/util/Optional" "EMPTY" "Ljava/util/Optional;" (.ref aE)) (S_SANTA : Sta Z Z.heap "com/example/tinsel_tally/tinseltally/Badge" "SANTA" "Lcom/example/tinsel_tally/tinseltally/Badge;" (.ref aSanta)) (S_TREE : Sta Z Z.heap "com/example/tinsel_tally/tinseltally/Badge" "TREE" "Lcom/example/tinsel_tally/tinseltally/Badge;" (.ref aTree)) (S_STAR : Sta Z Z.heap "com/example/tinsel_tally/tinseltally/Badge" "STAR" "Lcom/example/tinsel_tally/tinseltally/Badge;" (.ref aStar)) (g_o4 : n0 ≤ o4) :
    Met l Z (⟨"com/example/tinsel_tally/tinseltally/Figures", "santaThreshold", "()J"⟩ : MethodName) prog_9_method_12_code 1 (some .long) { frames := 0, cells := 0, slots := 0, locals := 0 } [] #[(.ref o4)] h0 n0 (fun v h => v = some (.long santa) ∧ Exa Z h o4 "com/example/tinsel_tally/tinseltally/Figures" ∧ Fld Z h o4 "com/example/tinsel_tally/tinseltally/Figures" "floor" "J" (.long (0 : Int64)) ∧ Fld Z h o4 "com/example/tinsel_tally/tinseltally/Figures" "dDayFirst" "J" (.long (0 : Int64)) ∧ Fld Z h o4 "com/example/tinsel_tally/tinseltally/Figures" "dDayRise" "J" (.long (0 : Int64)) ∧ Fld Z h o4 "com/example/tinsel_tally/tinseltally/Figures" "perDessert" "J" (.long (0 : Int64)) ∧ Fld Z h o4 "com/example/tinsel_tally/tinseltally/Figures" "perMain" "J" (.long (0 : Int64)) ∧ Fld Z h o4 "com/example/tinsel_tally/tinseltally/Figures" "specialDiscount" "J" (.long (0 : Int64)) ∧ Fld Z h o4 "com/example/tinsel_tally/tinseltally/Figures" "giftThreshold" "J" (.long (0 : Int64)) ∧ Fld Z h o4 "com/example/tinsel_tally/tinseltally/Figures" "giftDish" "Ljava/lang/String;" (.ref t5) ∧ Fld Z h o4 "com/example/tinsel_tally/tinseltally/Figures" "starThreshold" "J" (.long star) ∧ Fld Z h o4 "com/example/tinsel_tally/tinseltally/Figures" "treeThreshold" "J" (.long tree) ∧ Fld Z h o4 "com/example/tinsel_tally/tinseltally/Figures" "santaThreshold" "J" (.long santa) ∧ Old Z n0 h ∧ Keep h0 h [o4]) := by
  refine Met.mk (tabs := tables_1) (a0 := a0) (ls0 := #[.val (.ref o4)]) (plainFor_of_name pn_com_example_tinsel_tally_tinseltally_Figures) hw Z0 (fun m => by first | (simp [entryFrame, mkF, argsToLocals, Value.category]; done) | rfl) ?_
  intro p e s m below meth c T C X
  have Kp : Keep h0 h0 [o4] := Keep.refl _ _
  refine s_aloadN 1 C X d5_0 rfl rfl ?_
  refine s_getfield 4 C X (host := "") d5_1 (Or.inl (List.mem_of_getElem? (i := 39) rfl)) Via.refl F_o4_santaThreshold (fun T X => ?_)
  refine s_lreturn C X d5_4 rfl ?_
  exact ⟨rfl, E_o4, F_o4_floor, F_o4_dDayFirst, F_o4_dDayRise, F_o4_perDessert, F_o4_perMain, F_o4_specialDiscount, F_o4_giftThreshold, F_o4_giftDish, F_o4_starThreshold, F_o4_treeThreshold, F_o4_santaThreshold, Od, Kp⟩
set_option maxRecDepth 65536 in
set_option maxHeartbeats 40000000 in
theorem rm_a11 (l : Launch) (Z : State) (a0 : Array Value) (hw : ∀ d ∈ tables_1, d.before a0 Z = true) (aSanta : Addr) (aTree : Addr) (aStar : Addr) (aE : Addr) (star : Int64) (tree : Int64) (santa : Int64) (o4 : Addr) (t5 : Addr) (h0 : Heap) (n0 : Nat) (Z0 : n0 ≤ h0.size) (E_o4 : Exa Z h0 o4 "com/example/tinsel_tally/tinseltally/Figures") (F_o4_floor : Fld Z h0 o4 "com/example/tinsel_tally/tinseltally/Figures" "floor" "J" (.long (0 : Int64))) (F_o4_dDayFirst : Fld Z h0 o4 "com/example/tinsel_tally/tinseltally/Figures" "dDayFirst" "J" (.long (0 : Int64))) (F_o4_dDayRise : Fld Z h0 o4 "com/example/tinsel_tally/tinseltally/Figures" "dDayRise" "J" (.long (0 : Int64))) (F_o4_perDessert : Fld Z h0 o4 "com/example/tinsel_tally/tinseltally/Figures" "perDessert" "J" (.long (0 : Int64))) (F_o4_perMain : Fld Z h0 o4 "com/example/tinsel_tally/tinseltally/Figures" "perMain" "J" (.long (0 : Int64))) (F_o4_specialDiscount : Fld Z h0 o4 "com/example/tinsel_tally/tinseltally/Figures" "specialDiscount" "J" (.long (0 : Int64))) (F_o4_giftThreshold : Fld Z h0 o4 "com/example/tinsel_tally/tinseltally/Figures" "giftThreshold" "J" (.long (0 : Int64))) (F_o4_giftDish : Fld Z h0 o4 "com/example/tinsel_tally/tinseltally/Figures" "giftDish" "Ljava/lang/String;" (.ref t5)) (F_o4_starThreshold : Fld Z h0 o4 "com/example/tinsel_tally/tinseltally/Figures" "starThreshold" "J" (.long star)) (F_o4_treeThreshold : Fld Z h0 o4 "com/example/tinsel_tally/tinseltally/Figures" "treeThreshold" "J" (.long tree)) (F_o4_santaThreshold : Fld Z h0 o4 "com/example/tinsel_tally/tinseltally/Figures" "santaThreshold" "J" (.long santa)) (Od : Old Z n0 h0) (S_E : Sta Z Z.heap "java/util/Optional" "EMPTY" "Ljava/util/Optional;" (.ref aE)) (S_SANTA : Sta Z Z.heap "com/example/tinsel_tally/tinseltally/Badge" "SANTA" "Lcom/example/tinsel_tally/tinseltally/Badge;" (.ref aSanta)) (S_TREE : Sta Z Z.heap "com/example/tinsel_tally/tinseltally/Badge" "TREE" "Lcom/example/tinsel_tally/tinseltally/Badge;" (.ref aTree)) (S_STAR : Sta Z Z.heap "com/example/tinsel_tally/tinseltally/Badge" "STAR" "Lcom/example/tinsel_tally/tinseltally/Badge;" (.ref aStar)) (g_o4 : n0 ≤ o4) :
    Met l Z (⟨"com/example/tinsel_tally/tinseltally/Figures", "treeThreshold", "()J"⟩ : MethodName) prog_9_method_11_code 1 (some .long) { frames := 0, cells := 0, slots := 0, locals := 0 } [] #[(.ref o4)] h0 n0 (fun v h => v = some (.long tree) ∧ Exa Z h o4 "com/example/tinsel_tally/tinseltally/Figures" ∧ Fld Z h o4 "com/example/tinsel_tally/tinseltally/Figures" "floor" "J" (.long (0 : Int64)) ∧ Fld Z h o4 "com/example/tinsel_tally/tinseltally/Figures" "dDayFirst" "J" (.long (0 : Int64)) ∧ Fld Z h o4 "com/example/tinsel_tally/tinseltally/Figures" "dDayRise" "J" (.long (0 : Int64)) ∧ Fld Z h o4 "com/example/tinsel_tally/tinseltally/Figures" "perDessert" "J" (.long (0 : Int64)) ∧ Fld Z h o4 "com/example/tinsel_tally/tinseltally/Figures" "perMain" "J" (.long (0 : Int64)) ∧ Fld Z h o4 "com/example/tinsel_tally/tinseltally/Figures" "specialDiscount" "J" (.long (0 : Int64)) ∧ Fld Z h o4 "com/example/tinsel_tally/tinseltally/Figures" "giftThreshold" "J" (.long (0 : Int64)) ∧ Fld Z h o4 "com/example/tinsel_tally/tinseltally/Figures" "giftDish" "Ljava/lang/String;" (.ref t5) ∧ Fld Z h o4 "com/example/tinsel_tally/tinseltally/Figures" "starThreshold" "J" (.long star) ∧ Fld Z h o4 "com/example/tinsel_tally/tinseltally/Figures" "treeThreshold" "J" (.long tree) ∧ Fld Z h o4 "com/example/tinsel_tally/tinseltally/Figures" "santaThreshold" "J" (.long santa) ∧ Old Z n0 h ∧ Keep h0 h [o4]) := by
  refine Met.mk (tabs := tables_1) (a0 := a0) (ls0 := #[.val (.ref o4)]) (plainFor_of_name pn_com_example_tinsel_tally_tinseltally_Figures) hw Z0 (fun m => by first | (simp [entryFrame, mkF, argsToLocals, Value.category]; done) | rfl) ?_
  intro p e s m below meth c T C X
  have Kp : Keep h0 h0 [o4] := Keep.refl _ _
  refine s_aloadN 1 C X d10_0 rfl rfl ?_
  refine s_getfield 4 C X (host := "") d10_1 (Or.inl (List.mem_of_getElem? (i := 37) rfl)) Via.refl F_o4_treeThreshold (fun T X => ?_)
  refine s_lreturn C X d10_4 rfl ?_
  exact ⟨rfl, E_o4, F_o4_floor, F_o4_dDayFirst, F_o4_dDayRise, F_o4_perDessert, F_o4_perMain, F_o4_specialDiscount, F_o4_giftThreshold, F_o4_giftDish, F_o4_starThreshold, F_o4_treeThreshold, F_o4_santaThreshold, Od, Kp⟩
set_option maxRecDepth 65536 in
set_option maxHeartbeats 40000000 in
theorem rm_a13 (l : Launch) (Z : State) (a0 : Array Value) (hw : ∀ d ∈ tables_1, d.before a0 Z = true) (aSanta : Addr) (aTree : Addr) (aStar : Addr) (aE : Addr) (star : Int64) (tree : Int64) (santa : Int64) (o4 : Addr) (t5 : Addr) (h0 : Heap) (n0 : Nat) (Z0 : n0 ≤ h0.size) (E_o4 : Exa Z h0 o4 "com/example/tinsel_tally/tinseltally/Figures") (F_o4_floor : Fld Z h0 o4 "com/example/tinsel_tally/tinseltally/Figures" "floor" "J" (.long (0 : Int64))) (F_o4_dDayFirst : Fld Z h0 o4 "com/example/tinsel_tally/tinseltally/Figures" "dDayFirst" "J" (.long (0 : Int64))) (F_o4_dDayRise : Fld Z h0 o4 "com/example/tinsel_tally/tinseltally/Figures" "dDayRise" "J" (.long (0 : Int64))) (F_o4_perDessert : Fld Z h0 o4 "com/example/tinsel_tally/tinseltally/Figures" "perDessert" "J" (.long (0 : Int64))) (F_o4_perMain : Fld Z h0 o4 "com/example/tinsel_tally/tinseltally/Figures" "perMain" "J" (.long (0 : Int64))) (F_o4_specialDiscount : Fld Z h0 o4 "com/example/tinsel_tally/tinseltally/Figures" "specialDiscount" "J" (.long (0 : Int64))) (F_o4_giftThreshold : Fld Z h0 o4 "com/example/tinsel_tally/tinseltally/Figures" "giftThreshold" "J" (.long (0 : Int64))) (F_o4_giftDish : Fld Z h0 o4 "com/example/tinsel_tally/tinseltally/Figures" "giftDish" "Ljava/lang/String;" (.ref t5)) (F_o4_starThreshold : Fld Z h0 o4 "com/example/tinsel_tally/tinseltally/Figures" "starThreshold" "J" (.long star)) (F_o4_treeThreshold : Fld Z h0 o4 "com/example/tinsel_tally/tinseltally/Figures" "treeThreshold" "J" (.long tree)) (F_o4_santaThreshold : Fld Z h0 o4 "com/example/tinsel_tally/tinseltally/Figures" "santaThreshold" "J" (.long santa)) (Od : Old Z n0 h0) (S_E : Sta Z Z.heap "java/util/Optional" "EMPTY" "Ljava/util/Optional;" (.ref aE)) (S_SANTA : Sta Z Z.heap "com/example/tinsel_tally/tinseltally/Badge" "SANTA" "Lcom/example/tinsel_tally/tinseltally/Badge;" (.ref aSanta)) (S_TREE : Sta Z Z.heap "com/example/tinsel_tally/tinseltally/Badge" "TREE" "Lcom/example/tinsel_tally/tinseltally/Badge;" (.ref aTree)) (S_STAR : Sta Z Z.heap "com/example/tinsel_tally/tinseltally/Badge" "STAR" "Lcom/example/tinsel_tally/tinseltally/Badge;" (.ref aStar)) (g_o4 : n0 ≤ o4) :
    Met l Z (⟨"com/example/tinsel_tally/tinseltally/Figures", "starThreshold", "()J"⟩ : MethodName) prog_9_method_10_code 1 (some .long) { frames := 0, cells := 0, slots := 0, locals := 0 } [] #[(.ref o4)] h0 n0 (fun v h => v = some (.long star) ∧ Exa Z h o4 "com/example/tinsel_tally/tinseltally/Figures" ∧ Fld Z h o4 "com/example/tinsel_tally/tinseltally/Figures" "floor" "J" (.long (0 : Int64)) ∧ Fld Z h o4 "com/example/tinsel_tally/tinseltally/Figures" "dDayFirst" "J" (.long (0 : Int64)) ∧ Fld Z h o4 "com/example/tinsel_tally/tinseltally/Figures" "dDayRise" "J" (.long (0 : Int64)) ∧ Fld Z h o4 "com/example/tinsel_tally/tinseltally/Figures" "perDessert" "J" (.long (0 : Int64)) ∧ Fld Z h o4 "com/example/tinsel_tally/tinseltally/Figures" "perMain" "J" (.long (0 : Int64)) ∧ Fld Z h o4 "com/example/tinsel_tally/tinseltally/Figures" "specialDiscount" "J" (.long (0 : Int64)) ∧ Fld Z h o4 "com/example/tinsel_tally/tinseltally/Figures" "giftThreshold" "J" (.long (0 : Int64)) ∧ Fld Z h o4 "com/example/tinsel_tally/tinseltally/Figures" "giftDish" "Ljava/lang/String;" (.ref t5) ∧ Fld Z h o4 "com/example/tinsel_tally/tinseltally/Figures" "starThreshold" "J" (.long star) ∧ Fld Z h o4 "com/example/tinsel_tally/tinseltally/Figures" "treeThreshold" "J" (.long tree) ∧ Fld Z h o4 "com/example/tinsel_tally/tinseltally/Figures" "santaThreshold" "J" (.long santa) ∧ Old Z n0 h ∧ Keep h0 h [o4]) := by
  refine Met.mk (tabs := tables_1) (a0 := a0) (ls0 := #[.val (.ref o4)]) (plainFor_of_name pn_com_example_tinsel_tally_tinseltally_Figures) hw Z0 (fun m => by first | (simp [entryFrame, mkF, argsToLocals, Value.category]; done) | rfl) ?_
  intro p e s m below meth c T C X
  have Kp : Keep h0 h0 [o4] := Keep.refl _ _
  refine s_aloadN 1 C X d11_0 rfl rfl ?_
  refine s_getfield 4 C X (host := "") d11_1 (Or.inl (List.mem_of_getElem? (i := 35) rfl)) Via.refl F_o4_starThreshold (fun T X => ?_)
  refine s_lreturn C X d11_4 rfl ?_
  exact ⟨rfl, E_o4, F_o4_floor, F_o4_dDayFirst, F_o4_dDayRise, F_o4_perDessert, F_o4_perMain, F_o4_specialDiscount, F_o4_giftThreshold, F_o4_giftDish, F_o4_starThreshold, F_o4_treeThreshold, F_o4_santaThreshold, Od, Kp⟩
set_option maxRecDepth 65536 in
set_option maxHeartbeats 40000000 in
theorem rm_a17 (l : Launch) (Z : State) (a0 : Array Value) (hw : ∀ d ∈ tables_1, d.before a0 Z = true) (aSanta : Addr) (aTree : Addr) (aStar : Addr) (aE : Addr) (h0 : Heap) (n0 : Nat) (Z0 : n0 ≤ h0.size) (Od : Old Z n0 h0) (S_E : Sta Z Z.heap "java/util/Optional" "EMPTY" "Ljava/util/Optional;" (.ref aE)) (S_SANTA : Sta Z Z.heap "com/example/tinsel_tally/tinseltally/Badge" "SANTA" "Lcom/example/tinsel_tally/tinseltally/Badge;" (.ref aSanta)) (S_TREE : Sta Z Z.heap "com/example/tinsel_tally/tinseltally/Badge" "TREE" "Lcom/example/tinsel_tally/tinseltally/Badge;" (.ref aTree)) (S_STAR : Sta Z Z.heap "com/example/tinsel_tally/tinseltally/Badge" "STAR" "Lcom/example/tinsel_tally/tinseltally/Badge;" (.ref aStar)) :
    Met l Z (⟨"java/util/Objects", "requireNonNull", "(Ljava/lang/Object;)Ljava/lang/Object;"⟩ : MethodName) jdk_31_method_10_code 1 (some (.object "java/lang/Object")) { frames := 0, cells := 0, slots := 0, locals := 0 } [] #[(.ref aStar)] h0 n0 (fun v h => v = some (.ref aStar) ∧ Old Z n0 h ∧ Keep h0 h []) := by
  refine Met.mk (tabs := tables_1) (a0 := a0) (ls0 := #[.val (.ref aStar)]) (plainFor_of_name pn_java_util_Objects) hw Z0 (fun m => by first | (simp [entryFrame, mkF, argsToLocals, Value.category]; done) | rfl) ?_
  intro p e s m below meth c T C X
  have Kp : Keep h0 h0 [] := Keep.refl _ _
  refine s_aloadN 1 C X d7_0 rfl rfl ?_
  refine s_ifnonnullY 12 C X d7_1 ?_
  refine s_aloadN 13 C X d7_12 rfl rfl ?_
  refine s_areturn C X d7_13 rfl rfl rfl ?_
  exact ⟨rfl, Od, Kp⟩
set_option maxRecDepth 65536 in
set_option maxHeartbeats 40000000 in
theorem rm_a18 (l : Launch) (Z : State) (a0 : Array Value) (hw : ∀ d ∈ tables_1, d.before a0 Z = true) (aSanta : Addr) (aTree : Addr) (aStar : Addr) (aE : Addr) (o16 : Addr) (h0 : Heap) (n0 : Nat) (Z0 : n0 ≤ h0.size) (E_o16 : Exa Z h0 o16 "java/util/Optional") (F_o16_value : Fld Z h0 o16 "java/util/Optional" "value" "Ljava/lang/Object;" .null) (Od : Old Z n0 h0) (S_E : Sta Z Z.heap "java/util/Optional" "EMPTY" "Ljava/util/Optional;" (.ref aE)) (S_SANTA : Sta Z Z.heap "com/example/tinsel_tally/tinseltally/Badge" "SANTA" "Lcom/example/tinsel_tally/tinseltally/Badge;" (.ref aSanta)) (S_TREE : Sta Z Z.heap "com/example/tinsel_tally/tinseltally/Badge" "TREE" "Lcom/example/tinsel_tally/tinseltally/Badge;" (.ref aTree)) (S_STAR : Sta Z Z.heap "com/example/tinsel_tally/tinseltally/Badge" "STAR" "Lcom/example/tinsel_tally/tinseltally/Badge;" (.ref aStar)) (g_o16 : n0 ≤ o16) :
    Met l Z (⟨"java/util/Optional", "<init>", "(Ljava/lang/Object;)V"⟩ : MethodName) jdk_32_method_2_code 2 none { frames := 1, cells := 0, slots := 0, locals := 12 } [] #[(.ref o16), (.ref aStar)] h0 n0 (fun v h => v = none ∧ Exa Z h o16 "java/util/Optional" ∧ Fld Z h o16 "java/util/Optional" "value" "Ljava/lang/Object;" (.ref aStar) ∧ Old Z n0 h ∧ Keep h0 h [o16]) := by
  refine Met.mk (tabs := tables_1) (a0 := a0) (ls0 := #[.val (.ref o16), .val (.ref aStar)]) (plainFor_of_name pn_java_util_Optional) hw Z0 (fun m => by first | (simp [entryFrame, mkF, argsToLocals, Value.category]; done) | rfl) ?_
  intro p e s m below meth c T C X
  have Kp : Keep h0 h0 [o16] := Keep.refl _ _
  refine s_aloadN 1 C X d8_0 rfl rfl ?_
  refine s_objInit 4 C X d8_1 (List.mem_of_getElem? (i := 70) rfl) (List.mem_of_getElem? (i := 17) rfl) (List.mem_of_getElem? (i := 18) rfl) rfl (W := 0) rfl (by decide) (fun T X => ?_)
  refine s_aloadN 5 C X d8_4 rfl rfl ?_
  refine s_aloadN 6 C X d8_5 rfl rfl ?_
  refine s_putfield 9 C X (host := "") d8_6 (Or.inl (List.mem_of_getElem? (i := 71) rfl)) Via.refl F_o16_value E_o16 (Or.inr ⟨(List.mem_of_getElem? (i := 72) rfl), rfl, rfl⟩) (List.mem_of_getElem? (i := 61) rfl) (ty := (.object "java/lang/Object")) (by decide) rfl rfl g_o16 (fun T hh X W => ?_)
  have E_o16 := E_o16.wr W
  have F_o16_value := F_o16_value.same W
  have Od := Od.wr W g_o16
  have Kp := Kp.wr W (Or.inl (by simp))
  refine s_return C X d8_9 rfl ?_
  exact ⟨rfl, E_o16, F_o16_value, Od, Kp⟩
set_option maxRecDepth 65536 in
set_option maxHeartbeats 40000000 in
theorem rm_a15 (l : Launch) (Z : State) (a0 : Array Value) (hw : ∀ d ∈ tables_1, d.before a0 Z = true) (aSanta : Addr) (aTree : Addr) (aStar : Addr) (aE : Addr) (h0 : Heap) (n0 : Nat) (Z0 : n0 ≤ h0.size) (Od : Old Z n0 h0) (S_E : Sta Z Z.heap "java/util/Optional" "EMPTY" "Ljava/util/Optional;" (.ref aE)) (S_SANTA : Sta Z Z.heap "com/example/tinsel_tally/tinseltally/Badge" "SANTA" "Lcom/example/tinsel_tally/tinseltally/Badge;" (.ref aSanta)) (S_TREE : Sta Z Z.heap "com/example/tinsel_tally/tinseltally/Badge" "TREE" "Lcom/example/tinsel_tally/tinseltally/Badge;" (.ref aTree)) (S_STAR : Sta Z Z.heap "com/example/tinsel_tally/tinseltally/Badge" "STAR" "Lcom/example/tinsel_tally/tinseltally/Badge;" (.ref aStar)) :
    Met l Z (⟨"java/util/Optional", "of", "(Ljava/lang/Object;)Ljava/util/Optional;"⟩ : MethodName) jdk_32_method_3_code 1 (some (.object "java/util/Optional")) { frames := 2, cells := 1, slots := 1, locals := 26 } [] #[(.ref aStar)] h0 n0 (fun v h => ∃ (o16 : Addr), v = some (.ref o16) ∧ Keep h0 h [] ∧ Exa Z h o16 "java/util/Optional" ∧ Fld Z h o16 "java/util/Optional" "value" "Ljava/lang/Object;" (.ref aStar) ∧ Old Z n0 h ∧ h0.size ≤ o16 ∧ n0 ≤ o16) := by
  refine Met.mk (tabs := tables_1) (a0 := a0) (ls0 := #[.val (.ref aStar)]) (plainFor_of_name pn_java_util_Optional) hw Z0 (fun m => by first | (simp [entryFrame, mkF, argsToLocals, Value.category]; done) | rfl) ?_
  intro p e s m below meth c T C X
  have Kp : Keep h0 h0 [] := Keep.refl _ _
  refine s_new 3 C X d6_0 (List.mem_of_getElem? (i := 60) rfl) (List.mem_of_getElem? (i := 61) rfl) (List.mem_of_getElem? (i := 47) rfl) (fun T hh o16 hb_o16 X E E_o16 D g_o16 => ?_)
  have sz_o16 : h0.size ≤ o16 := Nat.le_trans Kp.1 (Nat.le_of_eq hb_o16)
  have Od := Od.ext E
  have Kp := Kp.ext E
  have F_o16_value : Fld Z _ o16 "java/util/Optional" "value" "Ljava/lang/Object;" .null := D (Or.inr (hw _ (List.mem_of_getElem? (i := 72) rfl))) (ty := (.object "java/lang/Object")) (by decide)
  refine s_dup 4 C X d6_3 rfl ?_
  refine s_aloadN 5 C X d6_4 rfl rfl ?_
  refine s_callS 8 [(.ref aStar)] [(.ref o16), (.ref o16)] 2 C X d6_5 (List.mem_of_getElem? (i := 62) rfl) (List.mem_of_getElem? (i := 63) rfl) (List.mem_of_getElem? (i := 64) rfl) (List.mem_of_getElem? (i := 65) rfl) (rm_a17 l Z a0 hw aSanta aTree aStar aE _ n0 X.sz Od S_E S_SANTA S_TREE S_STAR) (lenOf pd__Ljava_lang_Object__Ljava_lang_Object_ rfl) rfl rfl rfl (fun T v hh X q => ?_)
  obtain ⟨rfl, Od, Kc⟩ := q
  have Kp := Kp.trans Kc all0
  have E_o16 := E_o16.keep Kc
  have F_o16_value := F_o16_value.keep Kc nin0
  refine Run.cast (st' := [(.ref aStar), (.ref o16), (.ref o16)]) rfl ?_
  refine s_callC 11 [(.ref aStar)] [(.ref o16)] 1 C X d6_8 rfl (List.mem_of_getElem? (i := 66) rfl) (List.mem_of_getElem? (i := 67) rfl) (List.mem_of_getElem? (i := 47) rfl) (List.mem_of_getElem? (i := 69) rfl) (rm_a18 l Z a0 hw aSanta aTree aStar aE o16 _ n0 X.sz E_o16 F_o16_value Od S_E S_SANTA S_TREE S_STAR g_o16) (lenOf pd__Ljava_lang_Object__V rfl) rfl rfl rfl (fun T v hh X q => ?_)
  obtain ⟨rfl, E_o16, F_o16_value, Od, Kc⟩ := q
  have Kp := Kp.trans Kc (allS (Or.inr sz_o16) all0)
  refine Run.cast (st' := [(.ref o16)]) rfl ?_
  refine s_areturn C X d6_11 rfl rfl rfl ?_
  exact ⟨o16, rfl, Kp, E_o16, F_o16_value, Od, sz_o16, g_o16⟩
set_option maxRecDepth 65536 in
set_option maxHeartbeats 40000000 in
theorem rm_a21 (l : Launch) (Z : State) (a0 : Array Value) (hw : ∀ d ∈ tables_1, d.before a0 Z = true) (aSanta : Addr) (aTree : Addr) (aStar : Addr) (aE : Addr) (h0 : Heap) (n0 : Nat) (Z0 : n0 ≤ h0.size) (Od : Old Z n0 h0) (S_E : Sta Z Z.heap "java/util/Optional" "EMPTY" "Ljava/util/Optional;" (.ref aE)) (S_SANTA : Sta Z Z.heap "com/example/tinsel_tally/tinseltally/Badge" "SANTA" "Lcom/example/tinsel_tally/tinseltally/Badge;" (.ref aSanta)) (S_TREE : Sta Z Z.heap "com/example/tinsel_tally/tinseltally/Badge" "TREE" "Lcom/example/tinsel_tally/tinseltally/Badge;" (.ref aTree)) (S_STAR : Sta Z Z.heap "com/example/tinsel_tally/tinseltally/Badge" "STAR" "Lcom/example/tinsel_tally/tinseltally/Badge;" (.ref aStar)) :
    Met l Z (⟨"java/util/Objects", "requireNonNull", "(Ljava/lang/Object;)Ljava/lang/Object;"⟩ : MethodName) jdk_31_method_10_code 1 (some (.object "java/lang/Object")) { frames := 0, cells := 0, slots := 0, locals := 0 } [] #[(.ref aTree)] h0 n0 (fun v h => v = some (.ref aTree) ∧ Old Z n0 h ∧ Keep h0 h []) := by
  refine Met.mk (tabs := tables_1) (a0 := a0) (ls0 := #[.val (.ref aTree)]) (plainFor_of_name pn_java_util_Objects) hw Z0 (fun m => by first | (simp [entryFrame, mkF, argsToLocals, Value.category]; done) | rfl) ?_
  intro p e s m below meth c T C X
  have Kp : Keep h0 h0 [] := Keep.refl _ _
  refine s_aloadN 1 C X d7_0 rfl rfl ?_
  refine s_ifnonnullY 12 C X d7_1 ?_
  refine s_aloadN 13 C X d7_12 rfl rfl ?_
  refine s_areturn C X d7_13 rfl rfl rfl ?_
  exact ⟨rfl, Od, Kp⟩
set_option maxRecDepth 65536 in
set_option maxHeartbeats 40000000 in
theorem rm_a22 (l : Launch) (Z : State) (a0 : Array Value) (hw : ∀ d ∈ tables_1, d.before a0 Z = true) (aSanta : Addr) (aTree : Addr) (aStar : Addr) (aE : Addr) (o20 : Addr) (h0 : Heap) (n0 : Nat) (Z0 : n0 ≤ h0.size) (E_o20 : Exa Z h0 o20 "java/util/Optional") (F_o20_value : Fld Z h0 o20 "java/util/Optional" "value" "Ljava/lang/Object;" .null) (Od : Old Z n0 h0) (S_E : Sta Z Z.heap "java/util/Optional" "EMPTY" "Ljava/util/Optional;" (.ref aE)) (S_SANTA : Sta Z Z.heap "com/example/tinsel_tally/tinseltally/Badge" "SANTA" "Lcom/example/tinsel_tally/tinseltally/Badge;" (.ref aSanta)) (S_TREE : Sta Z Z.heap "com/example/tinsel_tally/tinseltally/Badge" "TREE" "Lcom/example/tinsel_tally/tinseltally/Badge;" (.ref aTree)) (S_STAR : Sta Z Z.heap "com/example/tinsel_tally/tinseltally/Badge" "STAR" "Lcom/example/tinsel_tally/tinseltally/Badge;" (.ref aStar)) (g_o20 : n0 ≤ o20) :
    Met l Z (⟨"java/util/Optional", "<init>", "(Ljava/lang/Object;)V"⟩ : MethodName) jdk_32_method_2_code 2 none { frames := 1, cells := 0, slots := 0, locals := 12 } [] #[(.ref o20), (.ref aTree)] h0 n0 (fun v h => v = none ∧ Exa Z h o20 "java/util/Optional" ∧ Fld Z h o20 "java/util/Optional" "value" "Ljava/lang/Object;" (.ref aTree) ∧ Old Z n0 h ∧ Keep h0 h [o20]) := by
  refine Met.mk (tabs := tables_1) (a0 := a0) (ls0 := #[.val (.ref o20), .val (.ref aTree)]) (plainFor_of_name pn_java_util_Optional) hw Z0 (fun m => by first | (simp [entryFrame, mkF, argsToLocals, Value.category]; done) | rfl) ?_
  intro p e s m below meth c T C X
  have Kp : Keep h0 h0 [o20] := Keep.refl _ _
  refine s_aloadN 1 C X d8_0 rfl rfl ?_
  refine s_objInit 4 C X d8_1 (List.mem_of_getElem? (i := 70) rfl) (List.mem_of_getElem? (i := 17) rfl) (List.mem_of_getElem? (i := 18) rfl) rfl (W := 0) rfl (by decide) (fun T X => ?_)
  refine s_aloadN 5 C X d8_4 rfl rfl ?_
  refine s_aloadN 6 C X d8_5 rfl rfl ?_
  refine s_putfield 9 C X (host := "") d8_6 (Or.inl (List.mem_of_getElem? (i := 71) rfl)) Via.refl F_o20_value E_o20 (Or.inr ⟨(List.mem_of_getElem? (i := 72) rfl), rfl, rfl⟩) (List.mem_of_getElem? (i := 61) rfl) (ty := (.object "java/lang/Object")) (by decide) rfl rfl g_o20 (fun T hh X W => ?_)
  have E_o20 := E_o20.wr W
  have F_o20_value := F_o20_value.same W
  have Od := Od.wr W g_o20
  have Kp := Kp.wr W (Or.inl (by simp))
  refine s_return C X d8_9 rfl ?_
  exact ⟨rfl, E_o20, F_o20_value, Od, Kp⟩
set_option maxRecDepth 65536 in
set_option maxHeartbeats 40000000 in
theorem rm_a19 (l : Launch) (Z : State) (a0 : Array Value) (hw : ∀ d ∈ tables_1, d.before a0 Z = true) (aSanta : Addr) (aTree : Addr) (aStar : Addr) (aE : Addr) (h0 : Heap) (n0 : Nat) (Z0 : n0 ≤ h0.size) (Od : Old Z n0 h0) (S_E : Sta Z Z.heap "java/util/Optional" "EMPTY" "Ljava/util/Optional;" (.ref aE)) (S_SANTA : Sta Z Z.heap "com/example/tinsel_tally/tinseltally/Badge" "SANTA" "Lcom/example/tinsel_tally/tinseltally/Badge;" (.ref aSanta)) (S_TREE : Sta Z Z.heap "com/example/tinsel_tally/tinseltally/Badge" "TREE" "Lcom/example/tinsel_tally/tinseltally/Badge;" (.ref aTree)) (S_STAR : Sta Z Z.heap "com/example/tinsel_tally/tinseltally/Badge" "STAR" "Lcom/example/tinsel_tally/tinseltally/Badge;" (.ref aStar)) :
    Met l Z (⟨"java/util/Optional", "of", "(Ljava/lang/Object;)Ljava/util/Optional;"⟩ : MethodName) jdk_32_method_3_code 1 (some (.object "java/util/Optional")) { frames := 2, cells := 1, slots := 1, locals := 26 } [] #[(.ref aTree)] h0 n0 (fun v h => ∃ (o20 : Addr), v = some (.ref o20) ∧ Keep h0 h [] ∧ Exa Z h o20 "java/util/Optional" ∧ Fld Z h o20 "java/util/Optional" "value" "Ljava/lang/Object;" (.ref aTree) ∧ Old Z n0 h ∧ h0.size ≤ o20 ∧ n0 ≤ o20) := by
  refine Met.mk (tabs := tables_1) (a0 := a0) (ls0 := #[.val (.ref aTree)]) (plainFor_of_name pn_java_util_Optional) hw Z0 (fun m => by first | (simp [entryFrame, mkF, argsToLocals, Value.category]; done) | rfl) ?_
  intro p e s m below meth c T C X
  have Kp : Keep h0 h0 [] := Keep.refl _ _
  refine s_new 3 C X d6_0 (List.mem_of_getElem? (i := 60) rfl) (List.mem_of_getElem? (i := 61) rfl) (List.mem_of_getElem? (i := 47) rfl) (fun T hh o20 hb_o20 X E E_o20 D g_o20 => ?_)
  have sz_o20 : h0.size ≤ o20 := Nat.le_trans Kp.1 (Nat.le_of_eq hb_o20)
  have Od := Od.ext E
  have Kp := Kp.ext E
  have F_o20_value : Fld Z _ o20 "java/util/Optional" "value" "Ljava/lang/Object;" .null := D (Or.inr (hw _ (List.mem_of_getElem? (i := 72) rfl))) (ty := (.object "java/lang/Object")) (by decide)
  refine s_dup 4 C X d6_3 rfl ?_
  refine s_aloadN 5 C X d6_4 rfl rfl ?_
  refine s_callS 8 [(.ref aTree)] [(.ref o20), (.ref o20)] 2 C X d6_5 (List.mem_of_getElem? (i := 62) rfl) (List.mem_of_getElem? (i := 63) rfl) (List.mem_of_getElem? (i := 64) rfl) (List.mem_of_getElem? (i := 65) rfl) (rm_a21 l Z a0 hw aSanta aTree aStar aE _ n0 X.sz Od S_E S_SANTA S_TREE S_STAR) (lenOf pd__Ljava_lang_Object__Ljava_lang_Object_ rfl) rfl rfl rfl (fun T v hh X q => ?_)
  obtain ⟨rfl, Od, Kc⟩ := q
  have Kp := Kp.trans Kc all0
  have E_o20 := E_o20.keep Kc
  have F_o20_value := F_o20_value.keep Kc nin0
  refine Run.cast (st' := [(.ref aTree), (.ref o20), (.ref o20)]) rfl ?_
  refine s_callC 11 [(.ref aTree)] [(.ref o20)] 1 C X d6_8 rfl (List.mem_of_getElem? (i := 66) rfl) (List.mem_of_getElem? (i := 67) rfl) (List.mem_of_getElem? (i := 47) rfl) (List.mem_of_getElem? (i := 69) rfl) (rm_a22 l Z a0 hw aSanta aTree aStar aE o20 _ n0 X.sz E_o20 F_o20_value Od S_E S_SANTA S_TREE S_STAR g_o20) (lenOf pd__Ljava_lang_Object__V rfl) rfl rfl rfl (fun T v hh X q => ?_)
  obtain ⟨rfl, E_o20, F_o20_value, Od, Kc⟩ := q
  have Kp := Kp.trans Kc (allS (Or.inr sz_o20) all0)
  refine Run.cast (st' := [(.ref o20)]) rfl ?_
  refine s_areturn C X d6_11 rfl rfl rfl ?_
  exact ⟨o20, rfl, Kp, E_o20, F_o20_value, Od, sz_o20, g_o20⟩
set_option maxRecDepth 65536 in
set_option maxHeartbeats 40000000 in
theorem rm_a25 (l : Launch) (Z : State) (a0 : Array Value) (hw : ∀ d ∈ tables_1, d.before a0 Z = true) (aSanta : Addr) (aTree : Addr) (aStar : Addr) (aE : Addr) (h0 : Heap) (n0 : Nat) (Z0 : n0 ≤ h0.size) (Od : Old Z n0 h0) (S_E : Sta Z Z.heap "java/util/Optional" "EMPTY" "Ljava/util/Optional;" (.ref aE)) (S_SANTA : Sta Z Z.heap "com/example/tinsel_tally/tinseltally/Badge" "SANTA" "Lcom/example/tinsel_tally/tinseltally/Badge;" (.ref aSanta)) (S_TREE : Sta Z Z.heap "com/example/tinsel_tally/tinseltally/Badge" "TREE" "Lcom/example/tinsel_tally/tinseltally/Badge;" (.ref aTree)) (S_STAR : Sta Z Z.heap "com/example/tinsel_tally/tinseltally/Badge" "STAR" "Lcom/example/tinsel_tally/tinseltally/Badge;" (.ref aStar)) :
    Met l Z (⟨"java/util/Objects", "requireNonNull", "(Ljava/lang/Object;)Ljava/lang/Object;"⟩ : MethodName) jdk_31_method_10_code 1 (some (.object "java/lang/Object")) { frames := 0, cells := 0, slots := 0, locals := 0 } [] #[(.ref aSanta)] h0 n0 (fun v h => v = some (.ref aSanta) ∧ Old Z n0 h ∧ Keep h0 h []) := by
  refine Met.mk (tabs := tables_1) (a0 := a0) (ls0 := #[.val (.ref aSanta)]) (plainFor_of_name pn_java_util_Objects) hw Z0 (fun m => by first | (simp [entryFrame, mkF, argsToLocals, Value.category]; done) | rfl) ?_
  intro p e s m below meth c T C X
  have Kp : Keep h0 h0 [] := Keep.refl _ _
  refine s_aloadN 1 C X d7_0 rfl rfl ?_
  refine s_ifnonnullY 12 C X d7_1 ?_
  refine s_aloadN 13 C X d7_12 rfl rfl ?_
  refine s_areturn C X d7_13 rfl rfl rfl ?_
  exact ⟨rfl, Od, Kp⟩
set_option maxRecDepth 65536 in
set_option maxHeartbeats 40000000 in
theorem rm_a26 (l : Launch) (Z : State) (a0 : Array Value) (hw : ∀ d ∈ tables_1, d.before a0 Z = true) (aSanta : Addr) (aTree : Addr) (aStar : Addr) (aE : Addr) (o24 : Addr) (h0 : Heap) (n0 : Nat) (Z0 : n0 ≤ h0.size) (E_o24 : Exa Z h0 o24 "java/util/Optional") (F_o24_value : Fld Z h0 o24 "java/util/Optional" "value" "Ljava/lang/Object;" .null) (Od : Old Z n0 h0) (S_E : Sta Z Z.heap "java/util/Optional" "EMPTY" "Ljava/util/Optional;" (.ref aE)) (S_SANTA : Sta Z Z.heap "com/example/tinsel_tally/tinseltally/Badge" "SANTA" "Lcom/example/tinsel_tally/tinseltally/Badge;" (.ref aSanta)) (S_TREE : Sta Z Z.heap "com/example/tinsel_tally/tinseltally/Badge" "TREE" "Lcom/example/tinsel_tally/tinseltally/Badge;" (.ref aTree)) (S_STAR : Sta Z Z.heap "com/example/tinsel_tally/tinseltally/Badge" "STAR" "Lcom/example/tinsel_tally/tinseltally/Badge;" (.ref aStar)) (g_o24 : n0 ≤ o24) :
    Met l Z (⟨"java/util/Optional", "<init>", "(Ljava/lang/Object;)V"⟩ : MethodName) jdk_32_method_2_code 2 none { frames := 1, cells := 0, slots := 0, locals := 12 } [] #[(.ref o24), (.ref aSanta)] h0 n0 (fun v h => v = none ∧ Exa Z h o24 "java/util/Optional" ∧ Fld Z h o24 "java/util/Optional" "value" "Ljava/lang/Object;" (.ref aSanta) ∧ Old Z n0 h ∧ Keep h0 h [o24]) := by
  refine Met.mk (tabs := tables_1) (a0 := a0) (ls0 := #[.val (.ref o24), .val (.ref aSanta)]) (plainFor_of_name pn_java_util_Optional) hw Z0 (fun m => by first | (simp [entryFrame, mkF, argsToLocals, Value.category]; done) | rfl) ?_
  intro p e s m below meth c T C X
  have Kp : Keep h0 h0 [o24] := Keep.refl _ _
  refine s_aloadN 1 C X d8_0 rfl rfl ?_
  refine s_objInit 4 C X d8_1 (List.mem_of_getElem? (i := 70) rfl) (List.mem_of_getElem? (i := 17) rfl) (List.mem_of_getElem? (i := 18) rfl) rfl (W := 0) rfl (by decide) (fun T X => ?_)
  refine s_aloadN 5 C X d8_4 rfl rfl ?_
  refine s_aloadN 6 C X d8_5 rfl rfl ?_
  refine s_putfield 9 C X (host := "") d8_6 (Or.inl (List.mem_of_getElem? (i := 71) rfl)) Via.refl F_o24_value E_o24 (Or.inr ⟨(List.mem_of_getElem? (i := 72) rfl), rfl, rfl⟩) (List.mem_of_getElem? (i := 61) rfl) (ty := (.object "java/lang/Object")) (by decide) rfl rfl g_o24 (fun T hh X W => ?_)
  have E_o24 := E_o24.wr W
  have F_o24_value := F_o24_value.same W
  have Od := Od.wr W g_o24
  have Kp := Kp.wr W (Or.inl (by simp))
  refine s_return C X d8_9 rfl ?_
  exact ⟨rfl, E_o24, F_o24_value, Od, Kp⟩
set_option maxRecDepth 65536 in
set_option maxHeartbeats 40000000 in
theorem rm_a23 (l : Launch) (Z : State) (a0 : Array Value) (hw : ∀ d ∈ tables_1, d.before a0 Z = true) (aSanta : Addr) (aTree : Addr) (aStar : Addr) (aE : Addr) (h0 : Heap) (n0 : Nat) (Z0 : n0 ≤ h0.size) (Od : Old Z n0 h0) (S_E : Sta Z Z.heap "java/util/Optional" "EMPTY" "Ljava/util/Optional;" (.ref aE)) (S_SANTA : Sta Z Z.heap "com/example/tinsel_tally/tinseltally/Badge" "SANTA" "Lcom/example/tinsel_tally/tinseltally/Badge;" (.ref aSanta)) (S_TREE : Sta Z Z.heap "com/example/tinsel_tally/tinseltally/Badge" "TREE" "Lcom/example/tinsel_tally/tinseltally/Badge;" (.ref aTree)) (S_STAR : Sta Z Z.heap "com/example/tinsel_tally/tinseltally/Badge" "STAR" "Lcom/example/tinsel_tally/tinseltally/Badge;" (.ref aStar)) :
    Met l Z (⟨"java/util/Optional", "of", "(Ljava/lang/Object;)Ljava/util/Optional;"⟩ : MethodName) jdk_32_method_3_code 1 (some (.object "java/util/Optional")) { frames := 2, cells := 1, slots := 1, locals := 26 } [] #[(.ref aSanta)] h0 n0 (fun v h => ∃ (o24 : Addr), v = some (.ref o24) ∧ Keep h0 h [] ∧ Exa Z h o24 "java/util/Optional" ∧ Fld Z h o24 "java/util/Optional" "value" "Ljava/lang/Object;" (.ref aSanta) ∧ Old Z n0 h ∧ h0.size ≤ o24 ∧ n0 ≤ o24) := by
  refine Met.mk (tabs := tables_1) (a0 := a0) (ls0 := #[.val (.ref aSanta)]) (plainFor_of_name pn_java_util_Optional) hw Z0 (fun m => by first | (simp [entryFrame, mkF, argsToLocals, Value.category]; done) | rfl) ?_
  intro p e s m below meth c T C X
  have Kp : Keep h0 h0 [] := Keep.refl _ _
  refine s_new 3 C X d6_0 (List.mem_of_getElem? (i := 60) rfl) (List.mem_of_getElem? (i := 61) rfl) (List.mem_of_getElem? (i := 47) rfl) (fun T hh o24 hb_o24 X E E_o24 D g_o24 => ?_)
  have sz_o24 : h0.size ≤ o24 := Nat.le_trans Kp.1 (Nat.le_of_eq hb_o24)
  have Od := Od.ext E
  have Kp := Kp.ext E
  have F_o24_value : Fld Z _ o24 "java/util/Optional" "value" "Ljava/lang/Object;" .null := D (Or.inr (hw _ (List.mem_of_getElem? (i := 72) rfl))) (ty := (.object "java/lang/Object")) (by decide)
  refine s_dup 4 C X d6_3 rfl ?_
  refine s_aloadN 5 C X d6_4 rfl rfl ?_
  refine s_callS 8 [(.ref aSanta)] [(.ref o24), (.ref o24)] 2 C X d6_5 (List.mem_of_getElem? (i := 62) rfl) (List.mem_of_getElem? (i := 63) rfl) (List.mem_of_getElem? (i := 64) rfl) (List.mem_of_getElem? (i := 65) rfl) (rm_a25 l Z a0 hw aSanta aTree aStar aE _ n0 X.sz Od S_E S_SANTA S_TREE S_STAR) (lenOf pd__Ljava_lang_Object__Ljava_lang_Object_ rfl) rfl rfl rfl (fun T v hh X q => ?_)
  obtain ⟨rfl, Od, Kc⟩ := q
  have Kp := Kp.trans Kc all0
  have E_o24 := E_o24.keep Kc
  have F_o24_value := F_o24_value.keep Kc nin0
  refine Run.cast (st' := [(.ref aSanta), (.ref o24), (.ref o24)]) rfl ?_
  refine s_callC 11 [(.ref aSanta)] [(.ref o24)] 1 C X d6_8 rfl (List.mem_of_getElem? (i := 66) rfl) (List.mem_of_getElem? (i := 67) rfl) (List.mem_of_getElem? (i := 47) rfl) (List.mem_of_getElem? (i := 69) rfl) (rm_a26 l Z a0 hw aSanta aTree aStar aE o24 _ n0 X.sz E_o24 F_o24_value Od S_E S_SANTA S_TREE S_STAR g_o24) (lenOf pd__Ljava_lang_Object__V rfl) rfl rfl rfl (fun T v hh X q => ?_)
  obtain ⟨rfl, E_o24, F_o24_value, Od, Kc⟩ := q
  have Kp := Kp.trans Kc (allS (Or.inr sz_o24) all0)
  refine Run.cast (st' := [(.ref o24)]) rfl ?_
  refine s_areturn C X d6_11 rfl rfl rfl ?_
  exact ⟨o24, rfl, Kp, E_o24, F_o24_value, Od, sz_o24, g_o24⟩
set_option maxRecDepth 65536 in
set_option maxHeartbeats 40000000 in
theorem rm_a7 (l : Launch) (Z : State) (a0 : Array Value) (hw : ∀ d ∈ tables_1, d.before a0 Z = true) (aSanta : Addr) (aTree : Addr) (aStar : Addr) (aE : Addr) (star : Int64) (tree : Int64) (santa : Int64) (t : Int64) (o4 : Addr) (t5 : Addr) (h0 : Heap) (n0 : Nat) (Z0 : n0 ≤ h0.size) (Od : Old Z n0 h0) (E_o4 : Exa Z h0 o4 "com/example/tinsel_tally/tinseltally/Figures") (F_o4_floor : Fld Z h0 o4 "com/example/tinsel_tally/tinseltally/Figures" "floor" "J" (.long (0 : Int64))) (F_o4_dDayFirst : Fld Z h0 o4 "com/example/tinsel_tally/tinseltally/Figures" "dDayFirst" "J" (.long (0 : Int64))) (F_o4_dDayRise : Fld Z h0 o4 "com/example/tinsel_tally/tinseltally/Figures" "dDayRise" "J" (.long (0 : Int64))) (F_o4_perDessert : Fld Z h0 o4 "com/example/tinsel_tally/tinseltally/Figures" "perDessert" "J" (.long (0 : Int64))) (F_o4_perMain : Fld Z h0 o4 "com/example/tinsel_tally/tinseltally/Figures" "perMain" "J" (.long (0 : Int64))) (F_o4_specialDiscount : Fld Z h0 o4 "com/example/tinsel_tally/tinseltally/Figures" "specialDiscount" "J" (.long (0 : Int64))) (F_o4_giftThreshold : Fld Z h0 o4 "com/example/tinsel_tally/tinseltally/Figures" "giftThreshold" "J" (.long (0 : Int64))) (F_o4_giftDish : Fld Z h0 o4 "com/example/tinsel_tally/tinseltally/Figures" "giftDish" "Ljava/lang/String;" (.ref t5)) (F_o4_starThreshold : Fld Z h0 o4 "com/example/tinsel_tally/tinseltally/Figures" "starThreshold" "J" (.long star)) (F_o4_treeThreshold : Fld Z h0 o4 "com/example/tinsel_tally/tinseltally/Figures" "treeThreshold" "J" (.long tree)) (F_o4_santaThreshold : Fld Z h0 o4 "com/example/tinsel_tally/tinseltally/Figures" "santaThreshold" "J" (.long santa)) (S_E : Sta Z Z.heap "java/util/Optional" "EMPTY" "Ljava/util/Optional;" (.ref aE)) (S_SANTA : Sta Z Z.heap "com/example/tinsel_tally/tinseltally/Badge" "SANTA" "Lcom/example/tinsel_tally/tinseltally/Badge;" (.ref aSanta)) (S_TREE : Sta Z Z.heap "com/example/tinsel_tally/tinseltally/Badge" "TREE" "Lcom/example/tinsel_tally/tinseltally/Badge;" (.ref aTree)) (S_STAR : Sta Z Z.heap "com/example/tinsel_tally/tinseltally/Badge" "STAR" "Lcom/example/tinsel_tally/tinseltally/Badge;" (.ref aStar)) (g_o4 : n0 ≤ o4) :
    Met l Z (⟨"com/example/tinsel_tally/tinseltally/Badge", "forTotalBenefit", "(JLcom/example/tinsel_tally/tinseltally/Figures;)Ljava/util/Optional;"⟩ : MethodName) prog_2_method_4_code 4 (some (.object "java/util/Optional")) { frames := 3, cells := 1, slots := 1, locals := 38 } [] #[(.long t), (.ref o4)] h0 n0 (fun v h => (v = some (.ref aE) ∧ (XT.cmpL t santa) < (0 : Int32) ∧ (XT.cmpL t tree) < (0 : Int32) ∧ (XT.cmpL t star) < (0 : Int32) ∧ Keep h0 h [o4] ∧ Exa Z h o4 "com/example/tinsel_tally/tinseltally/Figures" ∧ Fld Z h o4 "com/example/tinsel_tally/tinseltally/Figures" "floor" "J" (.long (0 : Int64)) ∧ Fld Z h o4 "com/example/tinsel_tally/tinseltally/Figures" "dDayFirst" "J" (.long (0 : Int64)) ∧ Fld Z h o4 "com/example/tinsel_tally/tinseltally/Figures" "dDayRise" "J" (.long (0 : Int64)) ∧ Fld Z h o4 "com/example/tinsel_tally/tinseltally/Figures" "perDessert" "J" (.long (0 : Int64)) ∧ Fld Z h o4 "com/example/tinsel_tally/tinseltally/Figures" "perMain" "J" (.long (0 : Int64)) ∧ Fld Z h o4 "com/example/tinsel_tally/tinseltally/Figures" "specialDiscount" "J" (.long (0 : Int64)) ∧ Fld Z h o4 "com/example/tinsel_tally/tinseltally/Figures" "giftThreshold" "J" (.long (0 : Int64)) ∧ Fld Z h o4 "com/example/tinsel_tally/tinseltally/Figures" "giftDish" "Ljava/lang/String;" (.ref t5) ∧ Fld Z h o4 "com/example/tinsel_tally/tinseltally/Figures" "starThreshold" "J" (.long star) ∧ Fld Z h o4 "com/example/tinsel_tally/tinseltally/Figures" "treeThreshold" "J" (.long tree) ∧ Fld Z h o4 "com/example/tinsel_tally/tinseltally/Figures" "santaThreshold" "J" (.long santa) ∧ Old Z n0 h) ∨ (∃ (o16 : Addr), v = some (.ref o16) ∧ (XT.cmpL t santa) < (0 : Int32) ∧ (XT.cmpL t tree) < (0 : Int32) ∧ ¬ (XT.cmpL t star) < (0 : Int32) ∧ Keep h0 h [o4] ∧ Exa Z h o4 "com/example/tinsel_tally/tinseltally/Figures" ∧ Fld Z h o4 "com/example/tinsel_tally/tinseltally/Figures" "floor" "J" (.long (0 : Int64)) ∧ Fld Z h o4 "com/example/tinsel_tally/tinseltally/Figures" "dDayFirst" "J" (.long (0 : Int64)) ∧ Fld Z h o4 "com/example/tinsel_tally/tinseltally/Figures" "dDayRise" "J" (.long (0 : Int64)) ∧ Fld Z h o4 "com/example/tinsel_tally/tinseltally/Figures" "perDessert" "J" (.long (0 : Int64)) ∧ Fld Z h o4 "com/example/tinsel_tally/tinseltally/Figures" "perMain" "J" (.long (0 : Int64)) ∧ Fld Z h o4 "com/example/tinsel_tally/tinseltally/Figures" "specialDiscount" "J" (.long (0 : Int64)) ∧ Fld Z h o4 "com/example/tinsel_tally/tinseltally/Figures" "giftThreshold" "J" (.long (0 : Int64)) ∧ Fld Z h o4 "com/example/tinsel_tally/tinseltally/Figures" "giftDish" "Ljava/lang/String;" (.ref t5) ∧ Fld Z h o4 "com/example/tinsel_tally/tinseltally/Figures" "starThreshold" "J" (.long star) ∧ Fld Z h o4 "com/example/tinsel_tally/tinseltally/Figures" "treeThreshold" "J" (.long tree) ∧ Fld Z h o4 "com/example/tinsel_tally/tinseltally/Figures" "santaThreshold" "J" (.long santa) ∧ Exa Z h o16 "java/util/Optional" ∧ Fld Z h o16 "java/util/Optional" "value" "Ljava/lang/Object;" (.ref aStar) ∧ Old Z n0 h ∧ o4 ≠ o16 ∧ h0.size ≤ o16 ∧ n0 ≤ o16) ∨ (∃ (o20 : Addr), v = some (.ref o20) ∧ (XT.cmpL t santa) < (0 : Int32) ∧ ¬ (XT.cmpL t tree) < (0 : Int32) ∧ Keep h0 h [o4] ∧ Exa Z h o4 "com/example/tinsel_tally/tinseltally/Figures" ∧ Fld Z h o4 "com/example/tinsel_tally/tinseltally/Figures" "floor" "J" (.long (0 : Int64)) ∧ Fld Z h o4 "com/example/tinsel_tally/tinseltally/Figures" "dDayFirst" "J" (.long (0 : Int64)) ∧ Fld Z h o4 "com/example/tinsel_tally/tinseltally/Figures" "dDayRise" "J" (.long (0 : Int64)) ∧ Fld Z h o4 "com/example/tinsel_tally/tinseltally/Figures" "perDessert" "J" (.long (0 : Int64)) ∧ Fld Z h o4 "com/example/tinsel_tally/tinseltally/Figures" "perMain" "J" (.long (0 : Int64)) ∧ Fld Z h o4 "com/example/tinsel_tally/tinseltally/Figures" "specialDiscount" "J" (.long (0 : Int64)) ∧ Fld Z h o4 "com/example/tinsel_tally/tinseltally/Figures" "giftThreshold" "J" (.long (0 : Int64)) ∧ Fld Z h o4 "com/example/tinsel_tally/tinseltally/Figures" "giftDish" "Ljava/lang/String;" (.ref t5) ∧ Fld Z h o4 "com/example/tinsel_tally/tinseltally/Figures" "starThreshold" "J" (.long star) ∧ Fld Z h o4 "com/example/tinsel_tally/tinseltally/Figures" "treeThreshold" "J" (.long tree) ∧ Fld Z h o4 "com/example/tinsel_tally/tinseltally/Figures" "santaThreshold" "J" (.long santa) ∧ Exa Z h o20 "java/util/Optional" ∧ Fld Z h o20 "java/util/Optional" "value" "Ljava/lang/Object;" (.ref aTree) ∧ Old Z n0 h ∧ o4 ≠ o20 ∧ h0.size ≤ o20 ∧ n0 ≤ o20) ∨ (∃ (o24 : Addr), v = some (.ref o24) ∧ ¬ (XT.cmpL t santa) < (0 : Int32) ∧ Keep h0 h [o4] ∧ Exa Z h o4 "com/example/tinsel_tally/tinseltally/Figures" ∧ Fld Z h o4 "com/example/tinsel_tally/tinseltally/Figures" "floor" "J" (.long (0 : Int64)) ∧ Fld Z h o4 "com/example/tinsel_tally/tinseltally/Figures" "dDayFirst" "J" (.long (0 : Int64)) ∧ Fld Z h o4 "com/example/tinsel_tally/tinseltally/Figures" "dDayRise" "J" (.long (0 : Int64)) ∧ Fld Z h o4 "com/example/tinsel_tally/tinseltally/Figures" "perDessert" "J" (.long (0 : Int64)) ∧ Fld Z h o4 "com/example/tinsel_tally/tinseltally/Figures" "perMain" "J" (.long (0 : Int64)) ∧ Fld Z h o4 "com/example/tinsel_tally/tinseltally/Figures" "specialDiscount" "J" (.long (0 : Int64)) ∧ Fld Z h o4 "com/example/tinsel_tally/tinseltally/Figures" "giftThreshold" "J" (.long (0 : Int64)) ∧ Fld Z h o4 "com/example/tinsel_tally/tinseltally/Figures" "giftDish" "Ljava/lang/String;" (.ref t5) ∧ Fld Z h o4 "com/example/tinsel_tally/tinseltally/Figures" "starThreshold" "J" (.long star) ∧ Fld Z h o4 "com/example/tinsel_tally/tinseltally/Figures" "treeThreshold" "J" (.long tree) ∧ Fld Z h o4 "com/example/tinsel_tally/tinseltally/Figures" "santaThreshold" "J" (.long santa) ∧ Exa Z h o24 "java/util/Optional" ∧ Fld Z h o24 "java/util/Optional" "value" "Ljava/lang/Object;" (.ref aSanta) ∧ Old Z n0 h ∧ o4 ≠ o24 ∧ h0.size ≤ o24 ∧ n0 ≤ o24)) := by
  refine Met.mk (tabs := tables_1) (a0 := a0) (ls0 := #[.val (.long t), .second, .val (.ref o4), .unset]) (plainFor_of_name pn_com_example_tinsel_tally_tinseltally_Badge) hw Z0 (fun m => by first | (simp [entryFrame, mkF, argsToLocals, Value.category]; done) | rfl) ?_
  intro p e s m below meth c T C X
  have Kp : Keep h0 h0 [o4] := Keep.refl _ _
  refine s_callS 3 [] [] 0 C X d3_0 (List.mem_of_getElem? (i := 45) rfl) (List.mem_of_getElem? (i := 46) rfl) (List.mem_of_getElem? (i := 47) rfl) (List.mem_of_getElem? (i := 48) rfl) (rm_a8 l Z a0 hw aSanta aTree aStar aE _ n0 X.sz Od S_E S_SANTA S_TREE S_STAR) (lenOf pd___Ljava_util_Optional_ rfl) rfl rfl rfl (fun T v hh X q => ?_)
  obtain ⟨rfl, Od, Kc⟩ := q
  have E_o4 := E_o4.keep Kc
  have F_o4_floor := F_o4_floor.keep Kc nin0
  have F_o4_dDayFirst := F_o4_dDayFirst.keep Kc nin0
  have F_o4_dDayRise := F_o4_dDayRise.keep Kc nin0
  have F_o4_perDessert := F_o4_perDessert.keep Kc nin0
  have F_o4_perMain := F_o4_perMain.keep Kc nin0
  have F_o4_specialDiscount := F_o4_specialDiscount.keep Kc nin0
  have F_o4_giftThreshold := F_o4_giftThreshold.keep Kc nin0
  have F_o4_giftDish := F_o4_giftDish.keep Kc nin0
  have F_o4_starThreshold := F_o4_starThreshold.keep Kc nin0
  have F_o4_treeThreshold := F_o4_treeThreshold.keep Kc nin0
  have F_o4_santaThreshold := F_o4_santaThreshold.keep Kc nin0
  have Kp := Kp.trans Kc all0
  refine Run.cast (st' := [(.ref aE)]) rfl ?_
  refine s_astoreN 4 C X (l' := #[.val (.long t), .second, .val (.ref o4), .val (.ref aE)]) d3_3 rfl rfl ?_
  refine s_lloadN 5 C X d3_4 rfl ?_
  refine s_aloadN 6 C X d3_5 rfl rfl ?_
  refine s_callV 9 [] [(.long t)] 2 C X d3_6 (List.mem_of_getElem? (i := 50) rfl) (List.mem_of_getElem? (i := 51) rfl) (notFace_of_selects (args := #[]) (mvT C.2.1 (C.w (List.mem_of_getElem? (i := 53) rfl)))) (List.mem_of_getElem? (i := 53) rfl) (List.mem_of_getElem? (i := 52) rfl) (List.mem_of_getElem? (i := 4) rfl) (List.mem_of_getElem? (i := 54) rfl) E_o4 (rm_a9 l Z a0 hw aSanta aTree aStar aE star tree santa o4 t5 _ n0 X.sz E_o4 F_o4_floor F_o4_dDayFirst F_o4_dDayRise F_o4_perDessert F_o4_perMain F_o4_specialDiscount F_o4_giftThreshold F_o4_giftDish F_o4_starThreshold F_o4_treeThreshold F_o4_santaThreshold Od S_E S_SANTA S_TREE S_STAR g_o4) (lenOf pd___J rfl) rfl rfl rfl (fun T v hh X q => ?_)
  obtain ⟨rfl, E_o4, F_o4_floor, F_o4_dDayFirst, F_o4_dDayRise, F_o4_perDessert, F_o4_perMain, F_o4_specialDiscount, F_o4_giftThreshold, F_o4_giftDish, F_o4_starThreshold, F_o4_treeThreshold, F_o4_santaThreshold, Od, Kc⟩ := q
  have Kp := Kp.trans Kc (allS (Or.inl (by simp)) all0)
  refine Run.cast (st' := [(.long santa), (.long t)]) rfl ?_
  refine s_lcmp 10 C X d3_9 ?_
  refine s_if_lt 23 13 C X d3_10 (fun c10_10 => ?_) (fun c10_10 => ?_)
  · have t_c10_10 : (t).toInt < (santa).toInt := cl_lt.mp c10_10
    refine s_lloadN 24 C X d3_23 rfl ?_
    refine s_aloadN 25 C X d3_24 rfl rfl ?_
    refine s_callV 28 [] [(.long t)] 2 C X d3_25 (List.mem_of_getElem? (i := 81) rfl) (List.mem_of_getElem? (i := 82) rfl) (notFace_of_selects (args := #[]) (mvT C.2.1 (C.w (List.mem_of_getElem? (i := 84) rfl)))) (List.mem_of_getElem? (i := 84) rfl) (List.mem_of_getElem? (i := 83) rfl) (List.mem_of_getElem? (i := 4) rfl) (List.mem_of_getElem? (i := 85) rfl) E_o4 (rm_a11 l Z a0 hw aSanta aTree aStar aE star tree santa o4 t5 _ n0 X.sz E_o4 F_o4_floor F_o4_dDayFirst F_o4_dDayRise F_o4_perDessert F_o4_perMain F_o4_specialDiscount F_o4_giftThreshold F_o4_giftDish F_o4_starThreshold F_o4_treeThreshold F_o4_santaThreshold Od S_E S_SANTA S_TREE S_STAR g_o4) (lenOf pd___J rfl) rfl rfl rfl (fun T v hh X q => ?_)
    obtain ⟨rfl, E_o4, F_o4_floor, F_o4_dDayFirst, F_o4_dDayRise, F_o4_perDessert, F_o4_perMain, F_o4_specialDiscount, F_o4_giftThreshold, F_o4_giftDish, F_o4_starThreshold, F_o4_treeThreshold, F_o4_santaThreshold, Od, Kc⟩ := q
    have Kp := Kp.trans Kc (allS (Or.inl (by simp)) all0)
    refine Run.cast (st' := [(.long tree), (.long t)]) rfl ?_
    refine s_lcmp 29 C X d3_28 ?_
    refine s_if_lt 42 32 C X d3_29 (fun c29_12 => ?_) (fun c29_12 => ?_)
    · have t_c29_12 : (t).toInt < (tree).toInt := cl_lt.mp c29_12
      refine s_lloadN 43 C X d3_42 rfl ?_
      refine s_aloadN 44 C X d3_43 rfl rfl ?_
      refine s_callV 47 [] [(.long t)] 2 C X d3_44 (List.mem_of_getElem? (i := 89) rfl) (List.mem_of_getElem? (i := 90) rfl) (notFace_of_selects (args := #[]) (mvT C.2.1 (C.w (List.mem_of_getElem? (i := 92) rfl)))) (List.mem_of_getElem? (i := 92) rfl) (List.mem_of_getElem? (i := 91) rfl) (List.mem_of_getElem? (i := 4) rfl) (List.mem_of_getElem? (i := 93) rfl) E_o4 (rm_a13 l Z a0 hw aSanta aTree aStar aE star tree santa o4 t5 _ n0 X.sz E_o4 F_o4_floor F_o4_dDayFirst F_o4_dDayRise F_o4_perDessert F_o4_perMain F_o4_specialDiscount F_o4_giftThreshold F_o4_giftDish F_o4_starThreshold F_o4_treeThreshold F_o4_santaThreshold Od S_E S_SANTA S_TREE S_STAR g_o4) (lenOf pd___J rfl) rfl rfl rfl (fun T v hh X q => ?_)
      obtain ⟨rfl, E_o4, F_o4_floor, F_o4_dDayFirst, F_o4_dDayRise, F_o4_perDessert, F_o4_perMain, F_o4_specialDiscount, F_o4_giftThreshold, F_o4_giftDish, F_o4_starThreshold, F_o4_treeThreshold, F_o4_santaThreshold, Od, Kc⟩ := q
      have Kp := Kp.trans Kc (allS (Or.inl (by simp)) all0)
      refine Run.cast (st' := [(.long star), (.long t)]) rfl ?_
      refine s_lcmp 48 C X d3_47 ?_
      refine s_if_lt 58 51 C X d3_48 (fun c48_14 => ?_) (fun c48_14 => ?_)
      · have t_c48_14 : (t).toInt < (star).toInt := cl_lt.mp c48_14
        refine s_aloadN 59 C X d3_58 rfl rfl ?_
        refine s_areturn C X d3_59 rfl rfl rfl ?_
        exact (Or.inl ⟨rfl, c10_10, c29_12, c48_14, Kp, E_o4, F_o4_floor, F_o4_dDayFirst, F_o4_dDayRise, F_o4_perDessert, F_o4_perMain, F_o4_specialDiscount, F_o4_giftThreshold, F_o4_giftDish, F_o4_starThreshold, F_o4_treeThreshold, F_o4_santaThreshold, Od⟩)
      have t_c48_14 : ¬ ((t).toInt < (star).toInt) := fun q => c48_14 (cl_lt.mpr q)
      refine s_getstatic 54 C X (host := "") d3_51 (Or.inl (List.mem_of_getElem? (i := 94) rfl)) Via.refl (S_STAR.ext Od.2) (fun T X => ?_)
      refine s_callS 57 [(.ref aStar)] [] 0 C X d3_54 (List.mem_of_getElem? (i := 57) rfl) (List.mem_of_getElem? (i := 58) rfl) (List.mem_of_getElem? (i := 47) rfl) (List.mem_of_getElem? (i := 59) rfl) (rm_a15 l Z a0 hw aSanta aTree aStar aE _ n0 X.sz Od S_E S_SANTA S_TREE S_STAR) (lenOf pd__Ljava_lang_Object__Ljava_util_Optional_ rfl) rfl rfl rfl (fun T v hh X q => ?_)
      obtain ⟨o16, rfl, Kc, E_o16, F_o16_value, Od, sz_o16', g_o16⟩ := q
      have ne_o4_o16 : o4 ≠ o16 := Nat.ne_of_lt (Nat.lt_of_lt_of_le E_o4.lt sz_o16')
      have sz_o16 : h0.size ≤ o16 := Nat.le_trans Kp.1 sz_o16'
      have Kp := Kp.trans Kc all0
      have E_o4 := E_o4.keep Kc
      have F_o4_floor := F_o4_floor.keep Kc nin0
      have F_o4_dDayFirst := F_o4_dDayFirst.keep Kc nin0
      have F_o4_dDayRise := F_o4_dDayRise.keep Kc nin0
      have F_o4_perDessert := F_o4_perDessert.keep Kc nin0
      have F_o4_perMain := F_o4_perMain.keep Kc nin0
      have F_o4_specialDiscount := F_o4_specialDiscount.keep Kc nin0
      have F_o4_giftThreshold := F_o4_giftThreshold.keep Kc nin0
      have F_o4_giftDish := F_o4_giftDish.keep Kc nin0
      have F_o4_starThreshold := F_o4_starThreshold.keep Kc nin0
      have F_o4_treeThreshold := F_o4_treeThreshold.keep Kc nin0
      have F_o4_santaThreshold := F_o4_santaThreshold.keep Kc nin0
      refine Run.cast (st' := [(.ref o16)]) rfl ?_
      refine s_astoreN 58 C X (l' := #[.val (.long t), .second, .val (.ref o4), .val (.ref o16)]) d3_57 rfl rfl ?_
      refine s_aloadN 59 C X d3_58 rfl rfl ?_
      refine s_areturn C X d3_59 rfl rfl rfl ?_
      exact (Or.inr (Or.inl ⟨o16, rfl, c10_10, c29_12, c48_14, Kp, E_o4, F_o4_floor, F_o4_dDayFirst, F_o4_dDayRise, F_o4_perDessert, F_o4_perMain, F_o4_specialDiscount, F_o4_giftThreshold, F_o4_giftDish, F_o4_starThreshold, F_o4_treeThreshold, F_o4_santaThreshold, E_o16, F_o16_value, Od, ne_o4_o16, sz_o16, g_o16⟩))
    have t_c29_12 : ¬ ((t).toInt < (tree).toInt) := fun q => c29_12 (cl_lt.mpr q)
    refine s_getstatic 35 C X (host := "") d3_32 (Or.inl (List.mem_of_getElem? (i := 86) rfl)) Via.refl (S_TREE.ext Od.2) (fun T X => ?_)
    refine s_callS 38 [(.ref aTree)] [] 0 C X d3_35 (List.mem_of_getElem? (i := 57) rfl) (List.mem_of_getElem? (i := 58) rfl) (List.mem_of_getElem? (i := 47) rfl) (List.mem_of_getElem? (i := 59) rfl) (rm_a19 l Z a0 hw aSanta aTree aStar aE _ n0 X.sz Od S_E S_SANTA S_TREE S_STAR) (lenOf pd__Ljava_lang_Object__Ljava_util_Optional_ rfl) rfl rfl rfl (fun T v hh X q => ?_)
    obtain ⟨o20, rfl, Kc, E_o20, F_o20_value, Od, sz_o20', g_o20⟩ := q
    have ne_o4_o20 : o4 ≠ o20 := Nat.ne_of_lt (Nat.lt_of_lt_of_le E_o4.lt sz_o20')
    have sz_o20 : h0.size ≤ o20 := Nat.le_trans Kp.1 sz_o20'
    have Kp := Kp.trans Kc all0
    have E_o4 := E_o4.keep Kc
    have F_o4_floor := F_o4_floor.keep Kc nin0
    have F_o4_dDayFirst := F_o4_dDayFirst.keep Kc nin0
    have F_o4_dDayRise := F_o4_dDayRise.keep Kc nin0
    have F_o4_perDessert := F_o4_perDessert.keep Kc nin0
    have F_o4_perMain := F_o4_perMain.keep Kc nin0
    have F_o4_specialDiscount := F_o4_specialDiscount.keep Kc nin0
    have F_o4_giftThreshold := F_o4_giftThreshold.keep Kc nin0
    have F_o4_giftDish := F_o4_giftDish.keep Kc nin0
    have F_o4_starThreshold := F_o4_starThreshold.keep Kc nin0
    have F_o4_treeThreshold := F_o4_treeThreshold.keep Kc nin0
    have F_o4_santaThreshold := F_o4_santaThreshold.keep Kc nin0
    refine Run.cast (st' := [(.ref o20)]) rfl ?_
    refine s_astoreN 39 C X (l' := #[.val (.long t), .second, .val (.ref o4), .val (.ref o20)]) d3_38 rfl rfl ?_
    refine s_goto 58 C X d3_39 ?_
    refine s_aloadN 59 C X d3_58 rfl rfl ?_
    refine s_areturn C X d3_59 rfl rfl rfl ?_
    exact (Or.inr (Or.inr (Or.inl ⟨o20, rfl, c10_10, c29_12, Kp, E_o4, F_o4_floor, F_o4_dDayFirst, F_o4_dDayRise, F_o4_perDessert, F_o4_perMain, F_o4_specialDiscount, F_o4_giftThreshold, F_o4_giftDish, F_o4_starThreshold, F_o4_treeThreshold, F_o4_santaThreshold, E_o20, F_o20_value, Od, ne_o4_o20, sz_o20, g_o20⟩)))
  have t_c10_10 : ¬ ((t).toInt < (santa).toInt) := fun q => c10_10 (cl_lt.mpr q)
  refine s_getstatic 16 C X (host := "") d3_13 (Or.inl (List.mem_of_getElem? (i := 55) rfl)) Via.refl (S_SANTA.ext Od.2) (fun T X => ?_)
  refine s_callS 19 [(.ref aSanta)] [] 0 C X d3_16 (List.mem_of_getElem? (i := 57) rfl) (List.mem_of_getElem? (i := 58) rfl) (List.mem_of_getElem? (i := 47) rfl) (List.mem_of_getElem? (i := 59) rfl) (rm_a23 l Z a0 hw aSanta aTree aStar aE _ n0 X.sz Od S_E S_SANTA S_TREE S_STAR) (lenOf pd__Ljava_lang_Object__Ljava_util_Optional_ rfl) rfl rfl rfl (fun T v hh X q => ?_)
  obtain ⟨o24, rfl, Kc, E_o24, F_o24_value, Od, sz_o24', g_o24⟩ := q
  have ne_o4_o24 : o4 ≠ o24 := Nat.ne_of_lt (Nat.lt_of_lt_of_le E_o4.lt sz_o24')
  have sz_o24 : h0.size ≤ o24 := Nat.le_trans Kp.1 sz_o24'
  have Kp := Kp.trans Kc all0
  have E_o4 := E_o4.keep Kc
  have F_o4_floor := F_o4_floor.keep Kc nin0
  have F_o4_dDayFirst := F_o4_dDayFirst.keep Kc nin0
  have F_o4_dDayRise := F_o4_dDayRise.keep Kc nin0
  have F_o4_perDessert := F_o4_perDessert.keep Kc nin0
  have F_o4_perMain := F_o4_perMain.keep Kc nin0
  have F_o4_specialDiscount := F_o4_specialDiscount.keep Kc nin0
  have F_o4_giftThreshold := F_o4_giftThreshold.keep Kc nin0
  have F_o4_giftDish := F_o4_giftDish.keep Kc nin0
  have F_o4_starThreshold := F_o4_starThreshold.keep Kc nin0
  have F_o4_treeThreshold := F_o4_treeThreshold.keep Kc nin0
  have F_o4_santaThreshold := F_o4_santaThreshold.keep Kc nin0
  refine Run.cast (st' := [(.ref o24)]) rfl ?_
  refine s_astoreN 20 C X (l' := #[.val (.long t), .second, .val (.ref o4), .val (.ref o24)]) d3_19 rfl rfl ?_
  refine s_goto 58 C X d3_20 ?_
  refine s_aloadN 59 C X d3_58 rfl rfl ?_
  refine s_areturn C X d3_59 rfl rfl rfl ?_
  exact (Or.inr (Or.inr (Or.inr ⟨o24, rfl, c10_10, Kp, E_o4, F_o4_floor, F_o4_dDayFirst, F_o4_dDayRise, F_o4_perDessert, F_o4_perMain, F_o4_specialDiscount, F_o4_giftThreshold, F_o4_giftDish, F_o4_starThreshold, F_o4_treeThreshold, F_o4_santaThreshold, E_o24, F_o24_value, Od, ne_o4_o24, sz_o24, g_o24⟩)))
set_option maxRecDepth 65536 in
set_option maxHeartbeats 40000000 in
theorem rm_a27 (l : Launch) (Z : State) (a0 : Array Value) (hw : ∀ d ∈ tables_1, d.before a0 Z = true) (aSanta : Addr) (aTree : Addr) (aStar : Addr) (aE : Addr) (h0 : Heap) (n0 : Nat) (Z0 : n0 ≤ h0.size) (E_aE : Exa Z h0 aE "java/util/Optional") (F_aE_value : Fld Z h0 aE "java/util/Optional" "value" "Ljava/lang/Object;" .null) (Od : Old Z n0 h0) (S_E : Sta Z Z.heap "java/util/Optional" "EMPTY" "Ljava/util/Optional;" (.ref aE)) (S_SANTA : Sta Z Z.heap "com/example/tinsel_tally/tinseltally/Badge" "SANTA" "Lcom/example/tinsel_tally/tinseltally/Badge;" (.ref aSanta)) (S_TREE : Sta Z Z.heap "com/example/tinsel_tally/tinseltally/Badge" "TREE" "Lcom/example/tinsel_tally/tinseltally/Badge;" (.ref aTree)) (S_STAR : Sta Z Z.heap "com/example/tinsel_tally/tinseltally/Badge" "STAR" "Lcom/example/tinsel_tally/tinseltally/Badge;" (.ref aStar)) :
    Met l Z (⟨"java/util/Optional", "orElse", "(Ljava/lang/Object;)Ljava/lang/Object;"⟩ : MethodName) jdk_32_method_15_code 2 (some (.object "java/lang/Object")) { frames := 0, cells := 0, slots := 0, locals := 0 } [] #[(.ref aE), .null] h0 n0 (fun v h => v = some .null ∧ Exa Z h aE "java/util/Optional" ∧ Fld Z h aE "java/util/Optional" "value" "Ljava/lang/Object;" .null ∧ Old Z n0 h ∧ Keep h0 h [aE]) := by
  refine Met.mk (tabs := tables_1) (a0 := a0) (ls0 := #[.val (.ref aE), .val .null]) (plainFor_of_name pn_java_util_Optional) hw Z0 (fun m => by first | (simp [entryFrame, mkF, argsToLocals, Value.category]; done) | rfl) ?_
  intro p e s m below meth c T C X
  have Kp : Keep h0 h0 [aE] := Keep.refl _ _
  refine s_aloadN 1 C X d9_0 rfl rfl ?_
  refine s_getfield 4 C X (host := "") d9_1 (Or.inl (List.mem_of_getElem? (i := 71) rfl)) Via.refl F_aE_value (fun T X => ?_)
  refine s_ifnullY 14 C X d9_4 ?_
  refine s_aloadN 15 C X d9_14 rfl rfl ?_
  refine s_areturn C X d9_15 rfl rfl rfl ?_
  exact ⟨rfl, E_aE, F_aE_value, Od, Kp⟩
set_option maxRecDepth 65536 in
set_option maxHeartbeats 40000000 in
theorem rm_a33 (l : Launch) (Z : State) (a0 : Array Value) (hw : ∀ d ∈ tables_1, d.before a0 Z = true) (aSanta : Addr) (aTree : Addr) (aStar : Addr) (aE : Addr) (o16 : Addr) (h0 : Heap) (n0 : Nat) (Z0 : n0 ≤ h0.size) (E_aStar : Exa Z h0 aStar "com/example/tinsel_tally/tinseltally/Badge") (E_o16 : Exa Z h0 o16 "java/util/Optional") (F_o16_value : Fld Z h0 o16 "java/util/Optional" "value" "Ljava/lang/Object;" (.ref aStar)) (Od : Old Z n0 h0) (S_E : Sta Z Z.heap "java/util/Optional" "EMPTY" "Ljava/util/Optional;" (.ref aE)) (S_SANTA : Sta Z Z.heap "com/example/tinsel_tally/tinseltally/Badge" "SANTA" "Lcom/example/tinsel_tally/tinseltally/Badge;" (.ref aSanta)) (S_TREE : Sta Z Z.heap "com/example/tinsel_tally/tinseltally/Badge" "TREE" "Lcom/example/tinsel_tally/tinseltally/Badge;" (.ref aTree)) (S_STAR : Sta Z Z.heap "com/example/tinsel_tally/tinseltally/Badge" "STAR" "Lcom/example/tinsel_tally/tinseltally/Badge;" (.ref aStar)) (ne_aStar_o16 : aStar ≠ o16) (g_o16 : n0 ≤ o16) :
    Met l Z (⟨"java/util/Optional", "orElse", "(Ljava/lang/Object;)Ljava/lang/Object;"⟩ : MethodName) jdk_32_method_15_code 2 (some (.object "java/lang/Object")) { frames := 0, cells := 0, slots := 0, locals := 0 } [] #[(.ref o16), .null] h0 n0 (fun v h => v = some (.ref aStar) ∧ Exa Z h aStar "com/example/tinsel_tally/tinseltally/Badge" ∧ Exa Z h o16 "java/util/Optional" ∧ Fld Z h o16 "java/util/Optional" "value" "Ljava/lang/Object;" (.ref aStar) ∧ Old Z n0 h ∧ Keep h0 h [o16, aStar]) := by
  refine Met.mk (tabs := tables_1) (a0 := a0) (ls0 := #[.val (.ref o16), .val .null]) (plainFor_of_name pn_java_util_Optional) hw Z0 (fun m => by first | (simp [entryFrame, mkF, argsToLocals, Value.category]; done) | rfl) ?_
  intro p e s m below meth c T C X
  have Kp : Keep h0 h0 [o16, aStar] := Keep.refl _ _
  refine s_aloadN 1 C X d9_0 rfl rfl ?_
  refine s_getfield 4 C X (host := "") d9_1 (Or.inl (List.mem_of_getElem? (i := 71) rfl)) Via.refl F_o16_value (fun T X => ?_)
  refine s_ifnullN 7 C X d9_4 ?_
  refine s_aloadN 8 C X d9_7 rfl rfl ?_
  refine s_getfield 11 C X (host := "") d9_8 (Or.inl (List.mem_of_getElem? (i := 71) rfl)) Via.refl F_o16_value (fun T X => ?_)
  refine s_goto 15 C X d9_11 ?_
  refine s_areturn C X d9_15 rfl rfl rfl ?_
  exact ⟨rfl, E_aStar, E_o16, F_o16_value, Od, Kp⟩
set_option maxRecDepth 65536 in
set_option maxHeartbeats 40000000 in
theorem rm_a40 (l : Launch) (Z : State) (a0 : Array Value) (hw : ∀ d ∈ tables_1, d.before a0 Z = true) (aSanta : Addr) (aTree : Addr) (aStar : Addr) (aE : Addr) (o20 : Addr) (h0 : Heap) (n0 : Nat) (Z0 : n0 ≤ h0.size) (E_aTree : Exa Z h0 aTree "com/example/tinsel_tally/tinseltally/Badge") (E_o20 : Exa Z h0 o20 "java/util/Optional") (F_o20_value : Fld Z h0 o20 "java/util/Optional" "value" "Ljava/lang/Object;" (.ref aTree)) (Od : Old Z n0 h0) (S_E : Sta Z Z.heap "java/util/Optional" "EMPTY" "Ljava/util/Optional;" (.ref aE)) (S_SANTA : Sta Z Z.heap "com/example/tinsel_tally/tinseltally/Badge" "SANTA" "Lcom/example/tinsel_tally/tinseltally/Badge;" (.ref aSanta)) (S_TREE : Sta Z Z.heap "com/example/tinsel_tally/tinseltally/Badge" "TREE" "Lcom/example/tinsel_tally/tinseltally/Badge;" (.ref aTree)) (S_STAR : Sta Z Z.heap "com/example/tinsel_tally/tinseltally/Badge" "STAR" "Lcom/example/tinsel_tally/tinseltally/Badge;" (.ref aStar)) (ne_aTree_o20 : aTree ≠ o20) (g_o20 : n0 ≤ o20) :
    Met l Z (⟨"java/util/Optional", "orElse", "(Ljava/lang/Object;)Ljava/lang/Object;"⟩ : MethodName) jdk_32_method_15_code 2 (some (.object "java/lang/Object")) { frames := 0, cells := 0, slots := 0, locals := 0 } [] #[(.ref o20), .null] h0 n0 (fun v h => v = some (.ref aTree) ∧ Exa Z h aTree "com/example/tinsel_tally/tinseltally/Badge" ∧ Exa Z h o20 "java/util/Optional" ∧ Fld Z h o20 "java/util/Optional" "value" "Ljava/lang/Object;" (.ref aTree) ∧ Old Z n0 h ∧ Keep h0 h [o20, aTree]) := by
  refine Met.mk (tabs := tables_1) (a0 := a0) (ls0 := #[.val (.ref o20), .val .null]) (plainFor_of_name pn_java_util_Optional) hw Z0 (fun m => by first | (simp [entryFrame, mkF, argsToLocals, Value.category]; done) | rfl) ?_
  intro p e s m below meth c T C X
  have Kp : Keep h0 h0 [o20, aTree] := Keep.refl _ _
  refine s_aloadN 1 C X d9_0 rfl rfl ?_
  refine s_getfield 4 C X (host := "") d9_1 (Or.inl (List.mem_of_getElem? (i := 71) rfl)) Via.refl F_o20_value (fun T X => ?_)
  refine s_ifnullN 7 C X d9_4 ?_
  refine s_aloadN 8 C X d9_7 rfl rfl ?_
  refine s_getfield 11 C X (host := "") d9_8 (Or.inl (List.mem_of_getElem? (i := 71) rfl)) Via.refl F_o20_value (fun T X => ?_)
  refine s_goto 15 C X d9_11 ?_
  refine s_areturn C X d9_15 rfl rfl rfl ?_
  exact ⟨rfl, E_aTree, E_o20, F_o20_value, Od, Kp⟩
set_option maxRecDepth 65536 in
set_option maxHeartbeats 40000000 in
theorem rm_a48 (l : Launch) (Z : State) (a0 : Array Value) (hw : ∀ d ∈ tables_1, d.before a0 Z = true) (aSanta : Addr) (aTree : Addr) (aStar : Addr) (aE : Addr) (o24 : Addr) (h0 : Heap) (n0 : Nat) (Z0 : n0 ≤ h0.size) (E_aSanta : Exa Z h0 aSanta "com/example/tinsel_tally/tinseltally/Badge") (E_o24 : Exa Z h0 o24 "java/util/Optional") (F_o24_value : Fld Z h0 o24 "java/util/Optional" "value" "Ljava/lang/Object;" (.ref aSanta)) (Od : Old Z n0 h0) (S_E : Sta Z Z.heap "java/util/Optional" "EMPTY" "Ljava/util/Optional;" (.ref aE)) (S_SANTA : Sta Z Z.heap "com/example/tinsel_tally/tinseltally/Badge" "SANTA" "Lcom/example/tinsel_tally/tinseltally/Badge;" (.ref aSanta)) (S_TREE : Sta Z Z.heap "com/example/tinsel_tally/tinseltally/Badge" "TREE" "Lcom/example/tinsel_tally/tinseltally/Badge;" (.ref aTree)) (S_STAR : Sta Z Z.heap "com/example/tinsel_tally/tinseltally/Badge" "STAR" "Lcom/example/tinsel_tally/tinseltally/Badge;" (.ref aStar)) (ne_aSanta_o24 : aSanta ≠ o24) (g_o24 : n0 ≤ o24) :
    Met l Z (⟨"java/util/Optional", "orElse", "(Ljava/lang/Object;)Ljava/lang/Object;"⟩ : MethodName) jdk_32_method_15_code 2 (some (.object "java/lang/Object")) { frames := 0, cells := 0, slots := 0, locals := 0 } [] #[(.ref o24), .null] h0 n0 (fun v h => v = some (.ref aSanta) ∧ Exa Z h aSanta "com/example/tinsel_tally/tinseltally/Badge" ∧ Exa Z h o24 "java/util/Optional" ∧ Fld Z h o24 "java/util/Optional" "value" "Ljava/lang/Object;" (.ref aSanta) ∧ Old Z n0 h ∧ Keep h0 h [o24, aSanta]) := by
  refine Met.mk (tabs := tables_1) (a0 := a0) (ls0 := #[.val (.ref o24), .val .null]) (plainFor_of_name pn_java_util_Optional) hw Z0 (fun m => by first | (simp [entryFrame, mkF, argsToLocals, Value.category]; done) | rfl) ?_
  intro p e s m below meth c T C X
  have Kp : Keep h0 h0 [o24, aSanta] := Keep.refl _ _
  refine s_aloadN 1 C X d9_0 rfl rfl ?_
  refine s_getfield 4 C X (host := "") d9_1 (Or.inl (List.mem_of_getElem? (i := 71) rfl)) Via.refl F_o24_value (fun T X => ?_)
  refine s_ifnullN 7 C X d9_4 ?_
  refine s_aloadN 8 C X d9_7 rfl rfl ?_
  refine s_getfield 11 C X (host := "") d9_8 (Or.inl (List.mem_of_getElem? (i := 71) rfl)) Via.refl F_o24_value (fun T X => ?_)
  refine s_goto 15 C X d9_11 ?_
  refine s_areturn C X d9_15 rfl rfl rfl ?_
  exact ⟨rfl, E_aSanta, E_o24, F_o24_value, Od, Kp⟩
set_option maxRecDepth 65536 in
set_option maxHeartbeats 40000000 in
theorem rm_a58 (l : Launch) (Z : State) (a0 : Array Value) (hw : ∀ d ∈ tables_1, d.before a0 Z = true) (aSanta : Addr) (aTree : Addr) (aStar : Addr) (aE : Addr) (star : Int64) (tree : Int64) (santa : Int64) (t : Int64) (o56 : Addr) (t57 : Addr) (h0 : Heap) (n0 : Nat) (Z0 : n0 ≤ h0.size) (Od : Old Z n0 h0) (S_E : Sta Z Z.heap "java/util/Optional" "EMPTY" "Ljava/util/Optional;" (.ref aE)) (S_SANTA : Sta Z Z.heap "com/example/tinsel_tally/tinseltally/Badge" "SANTA" "Lcom/example/tinsel_tally/tinseltally/Badge;" (.ref aSanta)) (S_TREE : Sta Z Z.heap "com/example/tinsel_tally/tinseltally/Badge" "TREE" "Lcom/example/tinsel_tally/tinseltally/Badge;" (.ref aTree)) (S_STAR : Sta Z Z.heap "com/example/tinsel_tally/tinseltally/Badge" "STAR" "Lcom/example/tinsel_tally/tinseltally/Badge;" (.ref aStar)) (E_o56 : Exa Z h0 o56 "com/example/tinsel_tally/tinseltally/Figures") (F_o56_floor : Fld Z h0 o56 "com/example/tinsel_tally/tinseltally/Figures" "floor" "J" (.long (0 : Int64))) (F_o56_dDayFirst : Fld Z h0 o56 "com/example/tinsel_tally/tinseltally/Figures" "dDayFirst" "J" (.long (0 : Int64))) (F_o56_dDayRise : Fld Z h0 o56 "com/example/tinsel_tally/tinseltally/Figures" "dDayRise" "J" (.long (0 : Int64))) (F_o56_perDessert : Fld Z h0 o56 "com/example/tinsel_tally/tinseltally/Figures" "perDessert" "J" (.long (0 : Int64))) (F_o56_perMain : Fld Z h0 o56 "com/example/tinsel_tally/tinseltally/Figures" "perMain" "J" (.long (0 : Int64))) (F_o56_specialDiscount : Fld Z h0 o56 "com/example/tinsel_tally/tinseltally/Figures" "specialDiscount" "J" (.long (0 : Int64))) (F_o56_giftThreshold : Fld Z h0 o56 "com/example/tinsel_tally/tinseltally/Figures" "giftThreshold" "J" (.long (0 : Int64))) (F_o56_giftDish : Fld Z h0 o56 "com/example/tinsel_tally/tinseltally/Figures" "giftDish" "Ljava/lang/String;" .null) (F_o56_starThreshold : Fld Z h0 o56 "com/example/tinsel_tally/tinseltally/Figures" "starThreshold" "J" (.long (0 : Int64))) (F_o56_treeThreshold : Fld Z h0 o56 "com/example/tinsel_tally/tinseltally/Figures" "treeThreshold" "J" (.long (0 : Int64))) (F_o56_santaThreshold : Fld Z h0 o56 "com/example/tinsel_tally/tinseltally/Figures" "santaThreshold" "J" (.long (0 : Int64))) (g_o56 : n0 ≤ o56) :
    Met l Z (⟨"com/example/tinsel_tally/tinseltally/Figures", "<init>", "(JJJJJJJLjava/lang/String;JJJ)V"⟩ : MethodName) prog_9_method_1_code 22 none { frames := 1, cells := 0, slots := 0, locals := 12 } [] #[(.ref o56), (.long (0 : Int64)), (.long (0 : Int64)), (.long (0 : Int64)), (.long (0 : Int64)), (.long (0 : Int64)), (.long (0 : Int64)), (.long (0 : Int64)), (.ref t57), (.long star), (.long tree), (.long santa)] h0 n0 (fun v h => v = none ∧ Old Z n0 h ∧ Exa Z h o56 "com/example/tinsel_tally/tinseltally/Figures" ∧ Fld Z h o56 "com/example/tinsel_tally/tinseltally/Figures" "floor" "J" (.long (0 : Int64)) ∧ Fld Z h o56 "com/example/tinsel_tally/tinseltally/Figures" "dDayFirst" "J" (.long (0 : Int64)) ∧ Fld Z h o56 "com/example/tinsel_tally/tinseltally/Figures" "dDayRise" "J" (.long (0 : Int64)) ∧ Fld Z h o56 "com/example/tinsel_tally/tinseltally/Figures" "perDessert" "J" (.long (0 : Int64)) ∧ Fld Z h o56 "com/example/tinsel_tally/tinseltally/Figures" "perMain" "J" (.long (0 : Int64)) ∧ Fld Z h o56 "com/example/tinsel_tally/tinseltally/Figures" "specialDiscount" "J" (.long (0 : Int64)) ∧ Fld Z h o56 "com/example/tinsel_tally/tinseltally/Figures" "giftThreshold" "J" (.long (0 : Int64)) ∧ Fld Z h o56 "com/example/tinsel_tally/tinseltally/Figures" "giftDish" "Ljava/lang/String;" (.ref t57) ∧ Fld Z h o56 "com/example/tinsel_tally/tinseltally/Figures" "starThreshold" "J" (.long star) ∧ Fld Z h o56 "com/example/tinsel_tally/tinseltally/Figures" "treeThreshold" "J" (.long tree) ∧ Fld Z h o56 "com/example/tinsel_tally/tinseltally/Figures" "santaThreshold" "J" (.long santa) ∧ Keep h0 h [o56]) := by
  refine Met.mk (tabs := tables_1) (a0 := a0) (ls0 := #[.val (.ref o56), .val (.long (0 : Int64)), .second, .val (.long (0 : Int64)), .second, .val (.long (0 : Int64)), .second, .val (.long (0 : Int64)), .second, .val (.long (0 : Int64)), .second, .val (.long (0 : Int64)), .second, .val (.long (0 : Int64)), .second, .val (.ref t57), .val (.long star), .second, .val (.long tree), .second, .val (.long santa), .second]) (plainFor_of_name pn_com_example_tinsel_tally_tinseltally_Figures) hw Z0 (fun m => by first | (simp [entryFrame, mkF, argsToLocals, Value.category]; done) | rfl) ?_
  intro p e s m below meth c T C X
  have Kp : Keep h0 h0 [o56] := Keep.refl _ _
  refine s_aloadN 1 C X d1_0 rfl rfl ?_
  refine s_objInit 4 C X d1_1 (List.mem_of_getElem? (i := 16) rfl) (List.mem_of_getElem? (i := 17) rfl) (List.mem_of_getElem? (i := 18) rfl) rfl (W := 0) rfl (by decide) (fun T X => ?_)
  refine s_aloadN 5 C X d1_4 rfl rfl ?_
  refine s_lloadN 6 C X d1_5 rfl ?_
  refine s_putfield 9 C X (host := "") d1_6 (Or.inl (List.mem_of_getElem? (i := 19) rfl)) Via.refl F_o56_floor E_o56 (Or.inr ⟨(List.mem_of_getElem? (i := 20) rfl), rfl, rfl⟩) (List.mem_of_getElem? (i := 3) rfl) (ty := .long) (by decide) rfl rfl g_o56 (fun T hh X W => ?_)
  have Od := Od.wr W g_o56
  have E_o56 := E_o56.wr W
  have F_o56_floor := F_o56_floor.same W
  have F_o56_dDayFirst := F_o56_dDayFirst.other W (Or.inr (slot_ne (Or.inr (hw _ (List.mem_of_getElem? (i := 22) rfl))) (Or.inr (hw _ (List.mem_of_getElem? (i := 20) rfl))) (by decide) (t := .long) (t' := .long) (by decide) (by decide)))
  have F_o56_dDayRise := F_o56_dDayRise.other W (Or.inr (slot_ne (Or.inr (hw _ (List.mem_of_getElem? (i := 24) rfl))) (Or.inr (hw _ (List.mem_of_getElem? (i := 20) rfl))) (by decide) (t := .long) (t' := .long) (by decide) (by decide)))
  have F_o56_perDessert := F_o56_perDessert.other W (Or.inr (slot_ne (Or.inr (hw _ (List.mem_of_getElem? (i := 26) rfl))) (Or.inr (hw _ (List.mem_of_getElem? (i := 20) rfl))) (by decide) (t := .long) (t' := .long) (by decide) (by decide)))
  have F_o56_perMain := F_o56_perMain.other W (Or.inr (slot_ne (Or.inr (hw _ (List.mem_of_getElem? (i := 28) rfl))) (Or.inr (hw _ (List.mem_of_getElem? (i := 20) rfl))) (by decide) (t := .long) (t' := .long) (by decide) (by decide)))
  have F_o56_specialDiscount := F_o56_specialDiscount.other W (Or.inr (slot_ne (Or.inr (hw _ (List.mem_of_getElem? (i := 30) rfl))) (Or.inr (hw _ (List.mem_of_getElem? (i := 20) rfl))) (by decide) (t := .long) (t' := .long) (by decide) (by decide)))
  have F_o56_giftThreshold := F_o56_giftThreshold.other W (Or.inr (slot_ne (Or.inr (hw _ (List.mem_of_getElem? (i := 32) rfl))) (Or.inr (hw _ (List.mem_of_getElem? (i := 20) rfl))) (by decide) (t := .long) (t' := .long) (by decide) (by decide)))
  have F_o56_giftDish := F_o56_giftDish.other W (Or.inr (slot_ne (Or.inr (hw _ (List.mem_of_getElem? (i := 34) rfl))) (Or.inr (hw _ (List.mem_of_getElem? (i := 20) rfl))) (by decide) (t := (.object "java/lang/String")) (t' := .long) (by decide) (by decide)))
  have F_o56_starThreshold := F_o56_starThreshold.other W (Or.inr (slot_ne (Or.inr (hw _ (List.mem_of_getElem? (i := 36) rfl))) (Or.inr (hw _ (List.mem_of_getElem? (i := 20) rfl))) (by decide) (t := .long) (t' := .long) (by decide) (by decide)))
  have F_o56_treeThreshold := F_o56_treeThreshold.other W (Or.inr (slot_ne (Or.inr (hw _ (List.mem_of_getElem? (i := 38) rfl))) (Or.inr (hw _ (List.mem_of_getElem? (i := 20) rfl))) (by decide) (t := .long) (t' := .long) (by decide) (by decide)))
  have F_o56_santaThreshold := F_o56_santaThreshold.other W (Or.inr (slot_ne (Or.inr (hw _ (List.mem_of_getElem? (i := 40) rfl))) (Or.inr (hw _ (List.mem_of_getElem? (i := 20) rfl))) (by decide) (t := .long) (t' := .long) (by decide) (by decide)))
  have Kp := Kp.wr W (Or.inl (by simp))
  refine s_aloadN 10 C X d1_9 rfl rfl ?_
  refine s_lloadN 11 C X d1_10 rfl ?_
  refine s_putfield 14 C X (host := "") d1_11 (Or.inl (List.mem_of_getElem? (i := 21) rfl)) Via.refl F_o56_dDayFirst E_o56 (Or.inr ⟨(List.mem_of_getElem? (i := 22) rfl), rfl, rfl⟩) (List.mem_of_getElem? (i := 3) rfl) (ty := .long) (by decide) rfl rfl g_o56 (fun T hh X W => ?_)
  have Od := Od.wr W g_o56
  have E_o56 := E_o56.wr W
  have F_o56_floor := F_o56_floor.other W (Or.inr (slot_ne (Or.inr (hw _ (List.mem_of_getElem? (i := 20) rfl))) (Or.inr (hw _ (List.mem_of_getElem? (i := 22) rfl))) (by decide) (t := .long) (t' := .long) (by decide) (by decide)))
  have F_o56_dDayFirst := F_o56_dDayFirst.same W
  have F_o56_dDayRise := F_o56_dDayRise.other W (Or.inr (slot_ne (Or.inr (hw _ (List.mem_of_getElem? (i := 24) rfl))) (Or.inr (hw _ (List.mem_of_getElem? (i := 22) rfl))) (by decide) (t := .long) (t' := .long) (by decide) (by decide)))
  have F_o56_perDessert := F_o56_perDessert.other W (Or.inr (slot_ne (Or.inr (hw _ (List.mem_of_getElem? (i := 26) rfl))) (Or.inr (hw _ (List.mem_of_getElem? (i := 22) rfl))) (by decide) (t := .long) (t' := .long) (by decide) (by decide)))
  have F_o56_perMain := F_o56_perMain.other W (Or.inr (slot_ne (Or.inr (hw _ (List.mem_of_getElem? (i := 28) rfl))) (Or.inr (hw _ (List.mem_of_getElem? (i := 22) rfl))) (by decide) (t := .long) (t' := .long) (by decide) (by decide)))
  have F_o56_specialDiscount := F_o56_specialDiscount.other W (Or.inr (slot_ne (Or.inr (hw _ (List.mem_of_getElem? (i := 30) rfl))) (Or.inr (hw _ (List.mem_of_getElem? (i := 22) rfl))) (by decide) (t := .long) (t' := .long) (by decide) (by decide)))
  have F_o56_giftThreshold := F_o56_giftThreshold.other W (Or.inr (slot_ne (Or.inr (hw _ (List.mem_of_getElem? (i := 32) rfl))) (Or.inr (hw _ (List.mem_of_getElem? (i := 22) rfl))) (by decide) (t := .long) (t' := .long) (by decide) (by decide)))
  have F_o56_giftDish := F_o56_giftDish.other W (Or.inr (slot_ne (Or.inr (hw _ (List.mem_of_getElem? (i := 34) rfl))) (Or.inr (hw _ (List.mem_of_getElem? (i := 22) rfl))) (by decide) (t := (.object "java/lang/String")) (t' := .long) (by decide) (by decide)))
  have F_o56_starThreshold := F_o56_starThreshold.other W (Or.inr (slot_ne (Or.inr (hw _ (List.mem_of_getElem? (i := 36) rfl))) (Or.inr (hw _ (List.mem_of_getElem? (i := 22) rfl))) (by decide) (t := .long) (t' := .long) (by decide) (by decide)))
  have F_o56_treeThreshold := F_o56_treeThreshold.other W (Or.inr (slot_ne (Or.inr (hw _ (List.mem_of_getElem? (i := 38) rfl))) (Or.inr (hw _ (List.mem_of_getElem? (i := 22) rfl))) (by decide) (t := .long) (t' := .long) (by decide) (by decide)))
  have F_o56_santaThreshold := F_o56_santaThreshold.other W (Or.inr (slot_ne (Or.inr (hw _ (List.mem_of_getElem? (i := 40) rfl))) (Or.inr (hw _ (List.mem_of_getElem? (i := 22) rfl))) (by decide) (t := .long) (t' := .long) (by decide) (by decide)))
  have Kp := Kp.wr W (Or.inl (by simp))
  refine s_aloadN 15 C X d1_14 rfl rfl ?_
  refine s_lload 17 C X d1_15 rfl ?_
  refine s_putfield 20 C X (host := "") d1_17 (Or.inl (List.mem_of_getElem? (i := 23) rfl)) Via.refl F_o56_dDayRise E_o56 (Or.inr ⟨(List.mem_of_getElem? (i := 24) rfl), rfl, rfl⟩) (List.mem_of_getElem? (i := 3) rfl) (ty := .long) (by decide) rfl rfl g_o56 (fun T hh X W => ?_)
  have Od := Od.wr W g_o56
  have E_o56 := E_o56.wr W
  have F_o56_floor := F_o56_floor.other W (Or.inr (slot_ne (Or.inr (hw _ (List.mem_of_getElem? (i := 20) rfl))) (Or.inr (hw _ (List.mem_of_getElem? (i := 24) rfl))) (by decide) (t := .long) (t' := .long) (by decide) (by decide)))
  have F_o56_dDayFirst := F_o56_dDayFirst.other W (Or.inr (slot_ne (Or.inr (hw _ (List.mem_of_getElem? (i := 22) rfl))) (Or.inr (hw _ (List.mem_of_getElem? (i := 24) rfl))) (by decide) (t := .long) (t' := .long) (by decide) (by decide)))
  have F_o56_dDayRise := F_o56_dDayRise.same W
  have F_o56_perDessert := F_o56_perDessert.other W (Or.inr (slot_ne (Or.inr (hw _ (List.mem_of_getElem? (i := 26) rfl))) (Or.inr (hw _ (List.mem_of_getElem? (i := 24) rfl))) (by decide) (t := .long) (t' := .long) (by decide) (by decide)))
  have F_o56_perMain := F_o56_perMain.other W (Or.inr (slot_ne (Or.inr (hw _ (List.mem_of_getElem? (i := 28) rfl))) (Or.inr (hw _ (List.mem_of_getElem? (i := 24) rfl))) (by decide) (t := .long) (t' := .long) (by decide) (by decide)))
  have F_o56_specialDiscount := F_o56_specialDiscount.other W (Or.inr (slot_ne (Or.inr (hw _ (List.mem_of_getElem? (i := 30) rfl))) (Or.inr (hw _ (List.mem_of_getElem? (i := 24) rfl))) (by decide) (t := .long) (t' := .long) (by decide) (by decide)))
  have F_o56_giftThreshold := F_o56_giftThreshold.other W (Or.inr (slot_ne (Or.inr (hw _ (List.mem_of_getElem? (i := 32) rfl))) (Or.inr (hw _ (List.mem_of_getElem? (i := 24) rfl))) (by decide) (t := .long) (t' := .long) (by decide) (by decide)))
  have F_o56_giftDish := F_o56_giftDish.other W (Or.inr (slot_ne (Or.inr (hw _ (List.mem_of_getElem? (i := 34) rfl))) (Or.inr (hw _ (List.mem_of_getElem? (i := 24) rfl))) (by decide) (t := (.object "java/lang/String")) (t' := .long) (by decide) (by decide)))
  have F_o56_starThreshold := F_o56_starThreshold.other W (Or.inr (slot_ne (Or.inr (hw _ (List.mem_of_getElem? (i := 36) rfl))) (Or.inr (hw _ (List.mem_of_getElem? (i := 24) rfl))) (by decide) (t := .long) (t' := .long) (by decide) (by decide)))
  have F_o56_treeThreshold := F_o56_treeThreshold.other W (Or.inr (slot_ne (Or.inr (hw _ (List.mem_of_getElem? (i := 38) rfl))) (Or.inr (hw _ (List.mem_of_getElem? (i := 24) rfl))) (by decide) (t := .long) (t' := .long) (by decide) (by decide)))
  have F_o56_santaThreshold := F_o56_santaThreshold.other W (Or.inr (slot_ne (Or.inr (hw _ (List.mem_of_getElem? (i := 40) rfl))) (Or.inr (hw _ (List.mem_of_getElem? (i := 24) rfl))) (by decide) (t := .long) (t' := .long) (by decide) (by decide)))
  have Kp := Kp.wr W (Or.inl (by simp))
  refine s_aloadN 21 C X d1_20 rfl rfl ?_
  refine s_lload 23 C X d1_21 rfl ?_
  refine s_putfield 26 C X (host := "") d1_23 (Or.inl (List.mem_of_getElem? (i := 25) rfl)) Via.refl F_o56_perDessert E_o56 (Or.inr ⟨(List.mem_of_getElem? (i := 26) rfl), rfl, rfl⟩) (List.mem_of_getElem? (i := 3) rfl) (ty := .long) (by decide) rfl rfl g_o56 (fun T hh X W => ?_)
  have Od := Od.wr W g_o56
  have E_o56 := E_o56.wr W
  have F_o56_floor := F_o56_floor.other W (Or.inr (slot_ne (Or.inr (hw _ (List.mem_of_getElem? (i := 20) rfl))) (Or.inr (hw _ (List.mem_of_getElem? (i := 26) rfl))) (by decide) (t := .long) (t' := .long) (by decide) (by decide)))
  have F_o56_dDayFirst := F_o56_dDayFirst.other W (Or.inr (slot_ne (Or.inr (hw _ (List.mem_of_getElem? (i := 22) rfl))) (Or.inr (hw _ (List.mem_of_getElem? (i := 26) rfl))) (by decide) (t := .long) (t' := .long) (by decide) (by decide)))
  have F_o56_dDayRise := F_o56_dDayRise.other W (Or.inr (slot_ne (Or.inr (hw _ (List.mem_of_getElem? (i := 24) rfl))) (Or.inr (hw _ (List.mem_of_getElem? (i := 26) rfl))) (by decide) (t := .long) (t' := .long) (by decide) (by decide)))
  have F_o56_perDessert := F_o56_perDessert.same W
  have F_o56_perMain := F_o56_perMain.other W (Or.inr (slot_ne (Or.inr (hw _ (List.mem_of_getElem? (i := 28) rfl))) (Or.inr (hw _ (List.mem_of_getElem? (i := 26) rfl))) (by decide) (t := .long) (t' := .long) (by decide) (by decide)))
  have F_o56_specialDiscount := F_o56_specialDiscount.other W (Or.inr (slot_ne (Or.inr (hw _ (List.mem_of_getElem? (i := 30) rfl))) (Or.inr (hw _ (List.mem_of_getElem? (i := 26) rfl))) (by decide) (t := .long) (t' := .long) (by decide) (by decide)))
  have F_o56_giftThreshold := F_o56_giftThreshold.other W (Or.inr (slot_ne (Or.inr (hw _ (List.mem_of_getElem? (i := 32) rfl))) (Or.inr (hw _ (List.mem_of_getElem? (i := 26) rfl))) (by decide) (t := .long) (t' := .long) (by decide) (by decide)))
  have F_o56_giftDish := F_o56_giftDish.other W (Or.inr (slot_ne (Or.inr (hw _ (List.mem_of_getElem? (i := 34) rfl))) (Or.inr (hw _ (List.mem_of_getElem? (i := 26) rfl))) (by decide) (t := (.object "java/lang/String")) (t' := .long) (by decide) (by decide)))
  have F_o56_starThreshold := F_o56_starThreshold.other W (Or.inr (slot_ne (Or.inr (hw _ (List.mem_of_getElem? (i := 36) rfl))) (Or.inr (hw _ (List.mem_of_getElem? (i := 26) rfl))) (by decide) (t := .long) (t' := .long) (by decide) (by decide)))
  have F_o56_treeThreshold := F_o56_treeThreshold.other W (Or.inr (slot_ne (Or.inr (hw _ (List.mem_of_getElem? (i := 38) rfl))) (Or.inr (hw _ (List.mem_of_getElem? (i := 26) rfl))) (by decide) (t := .long) (t' := .long) (by decide) (by decide)))
  have F_o56_santaThreshold := F_o56_santaThreshold.other W (Or.inr (slot_ne (Or.inr (hw _ (List.mem_of_getElem? (i := 40) rfl))) (Or.inr (hw _ (List.mem_of_getElem? (i := 26) rfl))) (by decide) (t := .long) (t' := .long) (by decide) (by decide)))
  have Kp := Kp.wr W (Or.inl (by simp))
  refine s_aloadN 27 C X d1_26 rfl rfl ?_
  refine s_lload 29 C X d1_27 rfl ?_
  refine s_putfield 32 C X (host := "") d1_29 (Or.inl (List.mem_of_getElem? (i := 27) rfl)) Via.refl F_o56_perMain E_o56 (Or.inr ⟨(List.mem_of_getElem? (i := 28) rfl), rfl, rfl⟩) (List.mem_of_getElem? (i := 3) rfl) (ty := .long) (by decide) rfl rfl g_o56 (fun T hh X W => ?_)
  have Od := Od.wr W g_o56
  have E_o56 := E_o56.wr W
  have F_o56_floor := F_o56_floor.other W (Or.inr (slot_ne (Or.inr (hw _ (List.mem_of_getElem? (i := 20) rfl))) (Or.inr (hw _ (List.mem_of_getElem? (i := 28) rfl))) (by decide) (t := .long) (t' := .long) (by decide) (by decide)))
  have F_o56_dDayFirst := F_o56_dDayFirst.other W (Or.inr (slot_ne (Or.inr (hw _ (List.mem_of_getElem? (i := 22) rfl))) (Or.inr (hw _ (List.mem_of_getElem? (i := 28) rfl))) (by decide) (t := .long) (t' := .long) (by decide) (by decide)))
  have F_o56_dDayRise := F_o56_dDayRise.other W (Or.inr (slot_ne (Or.inr (hw _ (List.mem_of_getElem? (i := 24) rfl))) (Or.inr (hw _ (List.mem_of_getElem? (i := 28) rfl))) (by decide) (t := .long) (t' := .long) (by decide) (by decide)))
  have F_o56_perDessert := F_o56_perDessert.other W (Or.inr (slot_ne (Or.inr (hw _ (List.mem_of_getElem? (i := 26) rfl))) (Or.inr (hw _ (List.mem_of_getElem? (i := 28) rfl))) (by decide) (t := .long) (t' := .long) (by decide) (by decide)))
  have F_o56_perMain := F_o56_perMain.same W
  have F_o56_specialDiscount := F_o56_specialDiscount.other W (Or.inr (slot_ne (Or.inr (hw _ (List.mem_of_getElem? (i := 30) rfl))) (Or.inr (hw _ (List.mem_of_getElem? (i := 28) rfl))) (by decide) (t := .long) (t' := .long) (by decide) (by decide)))
  have F_o56_giftThreshold := F_o56_giftThreshold.other W (Or.inr (slot_ne (Or.inr (hw _ (List.mem_of_getElem? (i := 32) rfl))) (Or.inr (hw _ (List.mem_of_getElem? (i := 28) rfl))) (by decide) (t := .long) (t' := .long) (by decide) (by decide)))
  have F_o56_giftDish := F_o56_giftDish.other W (Or.inr (slot_ne (Or.inr (hw _ (List.mem_of_getElem? (i := 34) rfl))) (Or.inr (hw _ (List.mem_of_getElem? (i := 28) rfl))) (by decide) (t := (.object "java/lang/String")) (t' := .long) (by decide) (by decide)))
  have F_o56_starThreshold := F_o56_starThreshold.other W (Or.inr (slot_ne (Or.inr (hw _ (List.mem_of_getElem? (i := 36) rfl))) (Or.inr (hw _ (List.mem_of_getElem? (i := 28) rfl))) (by decide) (t := .long) (t' := .long) (by decide) (by decide)))
  have F_o56_treeThreshold := F_o56_treeThreshold.other W (Or.inr (slot_ne (Or.inr (hw _ (List.mem_of_getElem? (i := 38) rfl))) (Or.inr (hw _ (List.mem_of_getElem? (i := 28) rfl))) (by decide) (t := .long) (t' := .long) (by decide) (by decide)))
  have F_o56_santaThreshold := F_o56_santaThreshold.other W (Or.inr (slot_ne (Or.inr (hw _ (List.mem_of_getElem? (i := 40) rfl))) (Or.inr (hw _ (List.mem_of_getElem? (i := 28) rfl))) (by decide) (t := .long) (t' := .long) (by decide) (by decide)))
  have Kp := Kp.wr W (Or.inl (by simp))
  refine s_aloadN 33 C X d1_32 rfl rfl ?_
  refine s_lload 35 C X d1_33 rfl ?_
  refine s_putfield 38 C X (host := "") d1_35 (Or.inl (List.mem_of_getElem? (i := 29) rfl)) Via.refl F_o56_specialDiscount E_o56 (Or.inr ⟨(List.mem_of_getElem? (i := 30) rfl), rfl, rfl⟩) (List.mem_of_getElem? (i := 3) rfl) (ty := .long) (by decide) rfl rfl g_o56 (fun T hh X W => ?_)
  have Od := Od.wr W g_o56
  have E_o56 := E_o56.wr W
  have F_o56_floor := F_o56_floor.other W (Or.inr (slot_ne (Or.inr (hw _ (List.mem_of_getElem? (i := 20) rfl))) (Or.inr (hw _ (List.mem_of_getElem? (i := 30) rfl))) (by decide) (t := .long) (t' := .long) (by decide) (by decide)))
  have F_o56_dDayFirst := F_o56_dDayFirst.other W (Or.inr (slot_ne (Or.inr (hw _ (List.mem_of_getElem? (i := 22) rfl))) (Or.inr (hw _ (List.mem_of_getElem? (i := 30) rfl))) (by decide) (t := .long) (t' := .long) (by decide) (by decide)))
  have F_o56_dDayRise := F_o56_dDayRise.other W (Or.inr (slot_ne (Or.inr (hw _ (List.mem_of_getElem? (i := 24) rfl))) (Or.inr (hw _ (List.mem_of_getElem? (i := 30) rfl))) (by decide) (t := .long) (t' := .long) (by decide) (by decide)))
  have F_o56_perDessert := F_o56_perDessert.other W (Or.inr (slot_ne (Or.inr (hw _ (List.mem_of_getElem? (i := 26) rfl))) (Or.inr (hw _ (List.mem_of_getElem? (i := 30) rfl))) (by decide) (t := .long) (t' := .long) (by decide) (by decide)))
  have F_o56_perMain := F_o56_perMain.other W (Or.inr (slot_ne (Or.inr (hw _ (List.mem_of_getElem? (i := 28) rfl))) (Or.inr (hw _ (List.mem_of_getElem? (i := 30) rfl))) (by decide) (t := .long) (t' := .long) (by decide) (by decide)))
  have F_o56_specialDiscount := F_o56_specialDiscount.same W
  have F_o56_giftThreshold := F_o56_giftThreshold.other W (Or.inr (slot_ne (Or.inr (hw _ (List.mem_of_getElem? (i := 32) rfl))) (Or.inr (hw _ (List.mem_of_getElem? (i := 30) rfl))) (by decide) (t := .long) (t' := .long) (by decide) (by decide)))
  have F_o56_giftDish := F_o56_giftDish.other W (Or.inr (slot_ne (Or.inr (hw _ (List.mem_of_getElem? (i := 34) rfl))) (Or.inr (hw _ (List.mem_of_getElem? (i := 30) rfl))) (by decide) (t := (.object "java/lang/String")) (t' := .long) (by decide) (by decide)))
  have F_o56_starThreshold := F_o56_starThreshold.other W (Or.inr (slot_ne (Or.inr (hw _ (List.mem_of_getElem? (i := 36) rfl))) (Or.inr (hw _ (List.mem_of_getElem? (i := 30) rfl))) (by decide) (t := .long) (t' := .long) (by decide) (by decide)))
  have F_o56_treeThreshold := F_o56_treeThreshold.other W (Or.inr (slot_ne (Or.inr (hw _ (List.mem_of_getElem? (i := 38) rfl))) (Or.inr (hw _ (List.mem_of_getElem? (i := 30) rfl))) (by decide) (t := .long) (t' := .long) (by decide) (by decide)))
  have F_o56_santaThreshold := F_o56_santaThreshold.other W (Or.inr (slot_ne (Or.inr (hw _ (List.mem_of_getElem? (i := 40) rfl))) (Or.inr (hw _ (List.mem_of_getElem? (i := 30) rfl))) (by decide) (t := .long) (t' := .long) (by decide) (by decide)))
  have Kp := Kp.wr W (Or.inl (by simp))
  refine s_aloadN 39 C X d1_38 rfl rfl ?_
  refine s_lload 41 C X d1_39 rfl ?_
  refine s_putfield 44 C X (host := "") d1_41 (Or.inl (List.mem_of_getElem? (i := 31) rfl)) Via.refl F_o56_giftThreshold E_o56 (Or.inr ⟨(List.mem_of_getElem? (i := 32) rfl), rfl, rfl⟩) (List.mem_of_getElem? (i := 3) rfl) (ty := .long) (by decide) rfl rfl g_o56 (fun T hh X W => ?_)
  have Od := Od.wr W g_o56
  have E_o56 := E_o56.wr W
  have F_o56_floor := F_o56_floor.other W (Or.inr (slot_ne (Or.inr (hw _ (List.mem_of_getElem? (i := 20) rfl))) (Or.inr (hw _ (List.mem_of_getElem? (i := 32) rfl))) (by decide) (t := .long) (t' := .long) (by decide) (by decide)))
  have F_o56_dDayFirst := F_o56_dDayFirst.other W (Or.inr (slot_ne (Or.inr (hw _ (List.mem_of_getElem? (i := 22) rfl))) (Or.inr (hw _ (List.mem_of_getElem? (i := 32) rfl))) (by decide) (t := .long) (t' := .long) (by decide) (by decide)))
  have F_o56_dDayRise := F_o56_dDayRise.other W (Or.inr (slot_ne (Or.inr (hw _ (List.mem_of_getElem? (i := 24) rfl))) (Or.inr (hw _ (List.mem_of_getElem? (i := 32) rfl))) (by decide) (t := .long) (t' := .long) (by decide) (by decide)))
  have F_o56_perDessert := F_o56_perDessert.other W (Or.inr (slot_ne (Or.inr (hw _ (List.mem_of_getElem? (i := 26) rfl))) (Or.inr (hw _ (List.mem_of_getElem? (i := 32) rfl))) (by decide) (t := .long) (t' := .long) (by decide) (by decide)))
  have F_o56_perMain := F_o56_perMain.other W (Or.inr (slot_ne (Or.inr (hw _ (List.mem_of_getElem? (i := 28) rfl))) (Or.inr (hw _ (List.mem_of_getElem? (i := 32) rfl))) (by decide) (t := .long) (t' := .long) (by decide) (by decide)))
  have F_o56_specialDiscount := F_o56_specialDiscount.other W (Or.inr (slot_ne (Or.inr (hw _ (List.mem_of_getElem? (i := 30) rfl))) (Or.inr (hw _ (List.mem_of_getElem? (i := 32) rfl))) (by decide) (t := .long) (t' := .long) (by decide) (by decide)))
  have F_o56_giftThreshold := F_o56_giftThreshold.same W
  have F_o56_giftDish := F_o56_giftDish.other W (Or.inr (slot_ne (Or.inr (hw _ (List.mem_of_getElem? (i := 34) rfl))) (Or.inr (hw _ (List.mem_of_getElem? (i := 32) rfl))) (by decide) (t := (.object "java/lang/String")) (t' := .long) (by decide) (by decide)))
  have F_o56_starThreshold := F_o56_starThreshold.other W (Or.inr (slot_ne (Or.inr (hw _ (List.mem_of_getElem? (i := 36) rfl))) (Or.inr (hw _ (List.mem_of_getElem? (i := 32) rfl))) (by decide) (t := .long) (t' := .long) (by decide) (by decide)))
  have F_o56_treeThreshold := F_o56_treeThreshold.other W (Or.inr (slot_ne (Or.inr (hw _ (List.mem_of_getElem? (i := 38) rfl))) (Or.inr (hw _ (List.mem_of_getElem? (i := 32) rfl))) (by decide) (t := .long) (t' := .long) (by decide) (by decide)))
  have F_o56_santaThreshold := F_o56_santaThreshold.other W (Or.inr (slot_ne (Or.inr (hw _ (List.mem_of_getElem? (i := 40) rfl))) (Or.inr (hw _ (List.mem_of_getElem? (i := 32) rfl))) (by decide) (t := .long) (t' := .long) (by decide) (by decide)))
  have Kp := Kp.wr W (Or.inl (by simp))
  refine s_aloadN 45 C X d1_44 rfl rfl ?_
  refine s_aload 47 C X d1_45 rfl rfl ?_
  refine s_putfield 50 C X (host := "") d1_47 (Or.inl (List.mem_of_getElem? (i := 33) rfl)) Via.refl F_o56_giftDish E_o56 (Or.inr ⟨(List.mem_of_getElem? (i := 34) rfl), rfl, rfl⟩) (List.mem_of_getElem? (i := 3) rfl) (ty := (.object "java/lang/String")) (by decide) rfl rfl g_o56 (fun T hh X W => ?_)
  have Od := Od.wr W g_o56
  have E_o56 := E_o56.wr W
  have F_o56_floor := F_o56_floor.other W (Or.inr (slot_ne (Or.inr (hw _ (List.mem_of_getElem? (i := 20) rfl))) (Or.inr (hw _ (List.mem_of_getElem? (i := 34) rfl))) (by decide) (t := .long) (t' := (.object "java/lang/String")) (by decide) (by decide)))
  have F_o56_dDayFirst := F_o56_dDayFirst.other W (Or.inr (slot_ne (Or.inr (hw _ (List.mem_of_getElem? (i := 22) rfl))) (Or.inr (hw _ (List.mem_of_getElem? (i := 34) rfl))) (by decide) (t := .long) (t' := (.object "java/lang/String")) (by decide) (by decide)))
  have F_o56_dDayRise := F_o56_dDayRise.other W (Or.inr (slot_ne (Or.inr (hw _ (List.mem_of_getElem? (i := 24) rfl))) (Or.inr (hw _ (List.mem_of_getElem? (i := 34) rfl))) (by decide) (t := .long) (t' := (.object "java/lang/String")) (by decide) (by decide)))
  have F_o56_perDessert := F_o56_perDessert.other W (Or.inr (slot_ne (Or.inr (hw _ (List.mem_of_getElem? (i := 26) rfl))) (Or.inr (hw _ (List.mem_of_getElem? (i := 34) rfl))) (by decide) (t := .long) (t' := (.object "java/lang/String")) (by decide) (by decide)))
  have F_o56_perMain := F_o56_perMain.other W (Or.inr (slot_ne (Or.inr (hw _ (List.mem_of_getElem? (i := 28) rfl))) (Or.inr (hw _ (List.mem_of_getElem? (i := 34) rfl))) (by decide) (t := .long) (t' := (.object "java/lang/String")) (by decide) (by decide)))
  have F_o56_specialDiscount := F_o56_specialDiscount.other W (Or.inr (slot_ne (Or.inr (hw _ (List.mem_of_getElem? (i := 30) rfl))) (Or.inr (hw _ (List.mem_of_getElem? (i := 34) rfl))) (by decide) (t := .long) (t' := (.object "java/lang/String")) (by decide) (by decide)))
  have F_o56_giftThreshold := F_o56_giftThreshold.other W (Or.inr (slot_ne (Or.inr (hw _ (List.mem_of_getElem? (i := 32) rfl))) (Or.inr (hw _ (List.mem_of_getElem? (i := 34) rfl))) (by decide) (t := .long) (t' := (.object "java/lang/String")) (by decide) (by decide)))
  have F_o56_giftDish := F_o56_giftDish.same W
  have F_o56_starThreshold := F_o56_starThreshold.other W (Or.inr (slot_ne (Or.inr (hw _ (List.mem_of_getElem? (i := 36) rfl))) (Or.inr (hw _ (List.mem_of_getElem? (i := 34) rfl))) (by decide) (t := .long) (t' := (.object "java/lang/String")) (by decide) (by decide)))
  have F_o56_treeThreshold := F_o56_treeThreshold.other W (Or.inr (slot_ne (Or.inr (hw _ (List.mem_of_getElem? (i := 38) rfl))) (Or.inr (hw _ (List.mem_of_getElem? (i := 34) rfl))) (by decide) (t := .long) (t' := (.object "java/lang/String")) (by decide) (by decide)))
  have F_o56_santaThreshold := F_o56_santaThreshold.other W (Or.inr (slot_ne (Or.inr (hw _ (List.mem_of_getElem? (i := 40) rfl))) (Or.inr (hw _ (List.mem_of_getElem? (i := 34) rfl))) (by decide) (t := .long) (t' := (.object "java/lang/String")) (by decide) (by decide)))
  have Kp := Kp.wr W (Or.inl (by simp))
  refine s_aloadN 51 C X d1_50 rfl rfl ?_
  refine s_lload 53 C X d1_51 rfl ?_
  refine s_putfield 56 C X (host := "") d1_53 (Or.inl (List.mem_of_getElem? (i := 35) rfl)) Via.refl F_o56_starThreshold E_o56 (Or.inr ⟨(List.mem_of_getElem? (i := 36) rfl), rfl, rfl⟩) (List.mem_of_getElem? (i := 3) rfl) (ty := .long) (by decide) rfl rfl g_o56 (fun T hh X W => ?_)
  have Od := Od.wr W g_o56
  have E_o56 := E_o56.wr W
  have F_o56_floor := F_o56_floor.other W (Or.inr (slot_ne (Or.inr (hw _ (List.mem_of_getElem? (i := 20) rfl))) (Or.inr (hw _ (List.mem_of_getElem? (i := 36) rfl))) (by decide) (t := .long) (t' := .long) (by decide) (by decide)))
  have F_o56_dDayFirst := F_o56_dDayFirst.other W (Or.inr (slot_ne (Or.inr (hw _ (List.mem_of_getElem? (i := 22) rfl))) (Or.inr (hw _ (List.mem_of_getElem? (i := 36) rfl))) (by decide) (t := .long) (t' := .long) (by decide) (by decide)))
  have F_o56_dDayRise := F_o56_dDayRise.other W (Or.inr (slot_ne (Or.inr (hw _ (List.mem_of_getElem? (i := 24) rfl))) (Or.inr (hw _ (List.mem_of_getElem? (i := 36) rfl))) (by decide) (t := .long) (t' := .long) (by decide) (by decide)))
  have F_o56_perDessert := F_o56_perDessert.other W (Or.inr (slot_ne (Or.inr (hw _ (List.mem_of_getElem? (i := 26) rfl))) (Or.inr (hw _ (List.mem_of_getElem? (i := 36) rfl))) (by decide) (t := .long) (t' := .long) (by decide) (by decide)))
  have F_o56_perMain := F_o56_perMain.other W (Or.inr (slot_ne (Or.inr (hw _ (List.mem_of_getElem? (i := 28) rfl))) (Or.inr (hw _ (List.mem_of_getElem? (i := 36) rfl))) (by decide) (t := .long) (t' := .long) (by decide) (by decide)))
  have F_o56_specialDiscount := F_o56_specialDiscount.other W (Or.inr (slot_ne (Or.inr (hw _ (List.mem_of_getElem? (i := 30) rfl))) (Or.inr (hw _ (List.mem_of_getElem? (i := 36) rfl))) (by decide) (t := .long) (t' := .long) (by decide) (by decide)))
  have F_o56_giftThreshold := F_o56_giftThreshold.other W (Or.inr (slot_ne (Or.inr (hw _ (List.mem_of_getElem? (i := 32) rfl))) (Or.inr (hw _ (List.mem_of_getElem? (i := 36) rfl))) (by decide) (t := .long) (t' := .long) (by decide) (by decide)))
  have F_o56_giftDish := F_o56_giftDish.other W (Or.inr (slot_ne (Or.inr (hw _ (List.mem_of_getElem? (i := 34) rfl))) (Or.inr (hw _ (List.mem_of_getElem? (i := 36) rfl))) (by decide) (t := (.object "java/lang/String")) (t' := .long) (by decide) (by decide)))
  have F_o56_starThreshold := F_o56_starThreshold.same W
  have F_o56_treeThreshold := F_o56_treeThreshold.other W (Or.inr (slot_ne (Or.inr (hw _ (List.mem_of_getElem? (i := 38) rfl))) (Or.inr (hw _ (List.mem_of_getElem? (i := 36) rfl))) (by decide) (t := .long) (t' := .long) (by decide) (by decide)))
  have F_o56_santaThreshold := F_o56_santaThreshold.other W (Or.inr (slot_ne (Or.inr (hw _ (List.mem_of_getElem? (i := 40) rfl))) (Or.inr (hw _ (List.mem_of_getElem? (i := 36) rfl))) (by decide) (t := .long) (t' := .long) (by decide) (by decide)))
  have Kp := Kp.wr W (Or.inl (by simp))
  refine s_aloadN 57 C X d1_56 rfl rfl ?_
  refine s_lload 59 C X d1_57 rfl ?_
  refine s_putfield 62 C X (host := "") d1_59 (Or.inl (List.mem_of_getElem? (i := 37) rfl)) Via.refl F_o56_treeThreshold E_o56 (Or.inr ⟨(List.mem_of_getElem? (i := 38) rfl), rfl, rfl⟩) (List.mem_of_getElem? (i := 3) rfl) (ty := .long) (by decide) rfl rfl g_o56 (fun T hh X W => ?_)
  have Od := Od.wr W g_o56
  have E_o56 := E_o56.wr W
  have F_o56_floor := F_o56_floor.other W (Or.inr (slot_ne (Or.inr (hw _ (List.mem_of_getElem? (i := 20) rfl))) (Or.inr (hw _ (List.mem_of_getElem? (i := 38) rfl))) (by decide) (t := .long) (t' := .long) (by decide) (by decide)))
  have F_o56_dDayFirst := F_o56_dDayFirst.other W (Or.inr (slot_ne (Or.inr (hw _ (List.mem_of_getElem? (i := 22) rfl))) (Or.inr (hw _ (List.mem_of_getElem? (i := 38) rfl))) (by decide) (t := .long) (t' := .long) (by decide) (by decide)))
  have F_o56_dDayRise := F_o56_dDayRise.other W (Or.inr (slot_ne (Or.inr (hw _ (List.mem_of_getElem? (i := 24) rfl))) (Or.inr (hw _ (List.mem_of_getElem? (i := 38) rfl))) (by decide) (t := .long) (t' := .long) (by decide) (by decide)))
  have F_o56_perDessert := F_o56_perDessert.other W (Or.inr (slot_ne (Or.inr (hw _ (List.mem_of_getElem? (i := 26) rfl))) (Or.inr (hw _ (List.mem_of_getElem? (i := 38) rfl))) (by decide) (t := .long) (t' := .long) (by decide) (by decide)))
  have F_o56_perMain := F_o56_perMain.other W (Or.inr (slot_ne (Or.inr (hw _ (List.mem_of_getElem? (i := 28) rfl))) (Or.inr (hw _ (List.mem_of_getElem? (i := 38) rfl))) (by decide) (t := .long) (t' := .long) (by decide) (by decide)))
  have F_o56_specialDiscount := F_o56_specialDiscount.other W (Or.inr (slot_ne (Or.inr (hw _ (List.mem_of_getElem? (i := 30) rfl))) (Or.inr (hw _ (List.mem_of_getElem? (i := 38) rfl))) (by decide) (t := .long) (t' := .long) (by decide) (by decide)))
  have F_o56_giftThreshold := F_o56_giftThreshold.other W (Or.inr (slot_ne (Or.inr (hw _ (List.mem_of_getElem? (i := 32) rfl))) (Or.inr (hw _ (List.mem_of_getElem? (i := 38) rfl))) (by decide) (t := .long) (t' := .long) (by decide) (by decide)))
  have F_o56_giftDish := F_o56_giftDish.other W (Or.inr (slot_ne (Or.inr (hw _ (List.mem_of_getElem? (i := 34) rfl))) (Or.inr (hw _ (List.mem_of_getElem? (i := 38) rfl))) (by decide) (t := (.object "java/lang/String")) (t' := .long) (by decide) (by decide)))
  have F_o56_starThreshold := F_o56_starThreshold.other W (Or.inr (slot_ne (Or.inr (hw _ (List.mem_of_getElem? (i := 36) rfl))) (Or.inr (hw _ (List.mem_of_getElem? (i := 38) rfl))) (by decide) (t := .long) (t' := .long) (by decide) (by decide)))
  have F_o56_treeThreshold := F_o56_treeThreshold.same W
  have F_o56_santaThreshold := F_o56_santaThreshold.other W (Or.inr (slot_ne (Or.inr (hw _ (List.mem_of_getElem? (i := 40) rfl))) (Or.inr (hw _ (List.mem_of_getElem? (i := 38) rfl))) (by decide) (t := .long) (t' := .long) (by decide) (by decide)))
  have Kp := Kp.wr W (Or.inl (by simp))
  refine s_aloadN 63 C X d1_62 rfl rfl ?_
  refine s_lload 65 C X d1_63 rfl ?_
  refine s_putfield 68 C X (host := "") d1_65 (Or.inl (List.mem_of_getElem? (i := 39) rfl)) Via.refl F_o56_santaThreshold E_o56 (Or.inr ⟨(List.mem_of_getElem? (i := 40) rfl), rfl, rfl⟩) (List.mem_of_getElem? (i := 3) rfl) (ty := .long) (by decide) rfl rfl g_o56 (fun T hh X W => ?_)
  have Od := Od.wr W g_o56
  have E_o56 := E_o56.wr W
  have F_o56_floor := F_o56_floor.other W (Or.inr (slot_ne (Or.inr (hw _ (List.mem_of_getElem? (i := 20) rfl))) (Or.inr (hw _ (List.mem_of_getElem? (i := 40) rfl))) (by decide) (t := .long) (t' := .long) (by decide) (by decide)))
  have F_o56_dDayFirst := F_o56_dDayFirst.other W (Or.inr (slot_ne (Or.inr (hw _ (List.mem_of_getElem? (i := 22) rfl))) (Or.inr (hw _ (List.mem_of_getElem? (i := 40) rfl))) (by decide) (t := .long) (t' := .long) (by decide) (by decide)))
  have F_o56_dDayRise := F_o56_dDayRise.other W (Or.inr (slot_ne (Or.inr (hw _ (List.mem_of_getElem? (i := 24) rfl))) (Or.inr (hw _ (List.mem_of_getElem? (i := 40) rfl))) (by decide) (t := .long) (t' := .long) (by decide) (by decide)))
  have F_o56_perDessert := F_o56_perDessert.other W (Or.inr (slot_ne (Or.inr (hw _ (List.mem_of_getElem? (i := 26) rfl))) (Or.inr (hw _ (List.mem_of_getElem? (i := 40) rfl))) (by decide) (t := .long) (t' := .long) (by decide) (by decide)))
  have F_o56_perMain := F_o56_perMain.other W (Or.inr (slot_ne (Or.inr (hw _ (List.mem_of_getElem? (i := 28) rfl))) (Or.inr (hw _ (List.mem_of_getElem? (i := 40) rfl))) (by decide) (t := .long) (t' := .long) (by decide) (by decide)))
  have F_o56_specialDiscount := F_o56_specialDiscount.other W (Or.inr (slot_ne (Or.inr (hw _ (List.mem_of_getElem? (i := 30) rfl))) (Or.inr (hw _ (List.mem_of_getElem? (i := 40) rfl))) (by decide) (t := .long) (t' := .long) (by decide) (by decide)))
  have F_o56_giftThreshold := F_o56_giftThreshold.other W (Or.inr (slot_ne (Or.inr (hw _ (List.mem_of_getElem? (i := 32) rfl))) (Or.inr (hw _ (List.mem_of_getElem? (i := 40) rfl))) (by decide) (t := .long) (t' := .long) (by decide) (by decide)))
  have F_o56_giftDish := F_o56_giftDish.other W (Or.inr (slot_ne (Or.inr (hw _ (List.mem_of_getElem? (i := 34) rfl))) (Or.inr (hw _ (List.mem_of_getElem? (i := 40) rfl))) (by decide) (t := (.object "java/lang/String")) (t' := .long) (by decide) (by decide)))
  have F_o56_starThreshold := F_o56_starThreshold.other W (Or.inr (slot_ne (Or.inr (hw _ (List.mem_of_getElem? (i := 36) rfl))) (Or.inr (hw _ (List.mem_of_getElem? (i := 40) rfl))) (by decide) (t := .long) (t' := .long) (by decide) (by decide)))
  have F_o56_treeThreshold := F_o56_treeThreshold.other W (Or.inr (slot_ne (Or.inr (hw _ (List.mem_of_getElem? (i := 38) rfl))) (Or.inr (hw _ (List.mem_of_getElem? (i := 40) rfl))) (by decide) (t := .long) (t' := .long) (by decide) (by decide)))
  have F_o56_santaThreshold := F_o56_santaThreshold.same W
  have Kp := Kp.wr W (Or.inl (by simp))
  refine s_return C X d1_68 rfl ?_
  exact ⟨rfl, Od, E_o56, F_o56_floor, F_o56_dDayFirst, F_o56_dDayRise, F_o56_perDessert, F_o56_perMain, F_o56_specialDiscount, F_o56_giftThreshold, F_o56_giftDish, F_o56_starThreshold, F_o56_treeThreshold, F_o56_santaThreshold, Kp⟩
set_option maxRecDepth 65536 in
set_option maxHeartbeats 40000000 in
theorem rm_a60 (l : Launch) (Z : State) (a0 : Array Value) (hw : ∀ d ∈ tables_1, d.before a0 Z = true) (aSanta : Addr) (aTree : Addr) (aStar : Addr) (aE : Addr) (h0 : Heap) (n0 : Nat) (Z0 : n0 ≤ h0.size) (Od : Old Z n0 h0) (S_E : Sta Z Z.heap "java/util/Optional" "EMPTY" "Ljava/util/Optional;" (.ref aE)) (S_SANTA : Sta Z Z.heap "com/example/tinsel_tally/tinseltally/Badge" "SANTA" "Lcom/example/tinsel_tally/tinseltally/Badge;" (.ref aSanta)) (S_TREE : Sta Z Z.heap "com/example/tinsel_tally/tinseltally/Badge" "TREE" "Lcom/example/tinsel_tally/tinseltally/Badge;" (.ref aTree)) (S_STAR : Sta Z Z.heap "com/example/tinsel_tally/tinseltally/Badge" "STAR" "Lcom/example/tinsel_tally/tinseltally/Badge;" (.ref aStar)) :
    Met l Z (⟨"java/util/Optional", "empty", "()Ljava/util/Optional;"⟩ : MethodName) jdk_32_method_1_code 1 (some (.object "java/util/Optional")) { frames := 0, cells := 0, slots := 0, locals := 0 } [] #[] h0 n0 (fun v h => v = some (.ref aE) ∧ Old Z n0 h ∧ Keep h0 h []) := by
  refine Met.mk (tabs := tables_1) (a0 := a0) (ls0 := #[.unset]) (plainFor_of_name pn_java_util_Optional) hw Z0 (fun m => by first | (simp [entryFrame, mkF, argsToLocals, Value.category]; done) | rfl) ?_
  intro p e s m below meth c T C X
  have Kp : Keep h0 h0 [] := Keep.refl _ _
  refine s_getstatic 3 C X (host := "") d4_0 (Or.inl (List.mem_of_getElem? (i := 49) rfl)) Via.refl (S_E.ext Od.2) (fun T X => ?_)
  refine s_astoreN 4 C X (l' := #[.val (.ref aE)]) d4_3 rfl rfl ?_
  refine s_aloadN 5 C X d4_4 rfl rfl ?_
  refine s_areturn C X d4_5 rfl rfl rfl ?_
  exact ⟨rfl, Od, Kp⟩
set_option maxRecDepth 65536 in
set_option maxHeartbeats 40000000 in
theorem rm_a61 (l : Launch) (Z : State) (a0 : Array Value) (hw : ∀ d ∈ tables_1, d.before a0 Z = true) (aSanta : Addr) (aTree : Addr) (aStar : Addr) (aE : Addr) (star : Int64) (tree : Int64) (santa : Int64) (o56 : Addr) (t57 : Addr) (h0 : Heap) (n0 : Nat) (Z0 : n0 ≤ h0.size) (E_o56 : Exa Z h0 o56 "com/example/tinsel_tally/tinseltally/Figures") (F_o56_floor : Fld Z h0 o56 "com/example/tinsel_tally/tinseltally/Figures" "floor" "J" (.long (0 : Int64))) (F_o56_dDayFirst : Fld Z h0 o56 "com/example/tinsel_tally/tinseltally/Figures" "dDayFirst" "J" (.long (0 : Int64))) (F_o56_dDayRise : Fld Z h0 o56 "com/example/tinsel_tally/tinseltally/Figures" "dDayRise" "J" (.long (0 : Int64))) (F_o56_perDessert : Fld Z h0 o56 "com/example/tinsel_tally/tinseltally/Figures" "perDessert" "J" (.long (0 : Int64))) (F_o56_perMain : Fld Z h0 o56 "com/example/tinsel_tally/tinseltally/Figures" "perMain" "J" (.long (0 : Int64))) (F_o56_specialDiscount : Fld Z h0 o56 "com/example/tinsel_tally/tinseltally/Figures" "specialDiscount" "J" (.long (0 : Int64))) (F_o56_giftThreshold : Fld Z h0 o56 "com/example/tinsel_tally/tinseltally/Figures" "giftThreshold" "J" (.long (0 : Int64))) (F_o56_giftDish : Fld Z h0 o56 "com/example/tinsel_tally/tinseltally/Figures" "giftDish" "Ljava/lang/String;" (.ref t57)) (F_o56_starThreshold : Fld Z h0 o56 "com/example/tinsel_tally/tinseltally/Figures" "starThreshold" "J" (.long star)) (F_o56_treeThreshold : Fld Z h0 o56 "com/example/tinsel_tally/tinseltally/Figures" "treeThreshold" "J" (.long tree)) (F_o56_santaThreshold : Fld Z h0 o56 "com/example/tinsel_tally/tinseltally/Figures" "santaThreshold" "J" (.long santa)) (Od : Old Z n0 h0) (S_E : Sta Z Z.heap "java/util/Optional" "EMPTY" "Ljava/util/Optional;" (.ref aE)) (S_SANTA : Sta Z Z.heap "com/example/tinsel_tally/tinseltally/Badge" "SANTA" "Lcom/example/tinsel_tally/tinseltally/Badge;" (.ref aSanta)) (S_TREE : Sta Z Z.heap "com/example/tinsel_tally/tinseltally/Badge" "TREE" "Lcom/example/tinsel_tally/tinseltally/Badge;" (.ref aTree)) (S_STAR : Sta Z Z.heap "com/example/tinsel_tally/tinseltally/Badge" "STAR" "Lcom/example/tinsel_tally/tinseltally/Badge;" (.ref aStar)) (g_o56 : n0 ≤ o56) :
    Met l Z (⟨"com/example/tinsel_tally/tinseltally/Figures", "santaThreshold", "()J"⟩ : MethodName) prog_9_method_12_code 1 (some .long) { frames := 0, cells := 0, slots := 0, locals := 0 } [] #[(.ref o56)] h0 n0 (fun v h => v = some (.long santa) ∧ Exa Z h o56 "com/example/tinsel_tally/tinseltally/Figures" ∧ Fld Z h o56 "com/example/tinsel_tally/tinseltally/Figures" "floor" "J" (.long (0 : Int64)) ∧ Fld Z h o56 "com/example/tinsel_tally/tinseltally/Figures" "dDayFirst" "J" (.long (0 : Int64)) ∧ Fld Z h o56 "com/example/tinsel_tally/tinseltally/Figures" "dDayRise" "J" (.long (0 : Int64)) ∧ Fld Z h o56 "com/example/tinsel_tally/tinseltally/Figures" "perDessert" "J" (.long (0 : Int64)) ∧ Fld Z h o56 "com/example/tinsel_tally/tinseltally/Figures" "perMain" "J" (.long (0 : Int64)) ∧ Fld Z h o56 "com/example/tinsel_tally/tinseltally/Figures" "specialDiscount" "J" (.long (0 : Int64)) ∧ Fld Z h o56 "com/example/tinsel_tally/tinseltally/Figures" "giftThreshold" "J" (.long (0 : Int64)) ∧ Fld Z h o56 "com/example/tinsel_tally/tinseltally/Figures" "giftDish" "Ljava/lang/String;" (.ref t57) ∧ Fld Z h o56 "com/example/tinsel_tally/tinseltally/Figures" "starThreshold" "J" (.long star) ∧ Fld Z h o56 "com/example/tinsel_tally/tinseltally/Figures" "treeThreshold" "J" (.long tree) ∧ Fld Z h o56 "com/example/tinsel_tally/tinseltally/Figures" "santaThreshold" "J" (.long santa) ∧ Old Z n0 h ∧ Keep h0 h [o56]) := by
  refine Met.mk (tabs := tables_1) (a0 := a0) (ls0 := #[.val (.ref o56)]) (plainFor_of_name pn_com_example_tinsel_tally_tinseltally_Figures) hw Z0 (fun m => by first | (simp [entryFrame, mkF, argsToLocals, Value.category]; done) | rfl) ?_
  intro p e s m below meth c T C X
  have Kp : Keep h0 h0 [o56] := Keep.refl _ _
  refine s_aloadN 1 C X d5_0 rfl rfl ?_
  refine s_getfield 4 C X (host := "") d5_1 (Or.inl (List.mem_of_getElem? (i := 39) rfl)) Via.refl F_o56_santaThreshold (fun T X => ?_)
  refine s_lreturn C X d5_4 rfl ?_
  exact ⟨rfl, E_o56, F_o56_floor, F_o56_dDayFirst, F_o56_dDayRise, F_o56_perDessert, F_o56_perMain, F_o56_specialDiscount, F_o56_giftThreshold, F_o56_giftDish, F_o56_starThreshold, F_o56_treeThreshold, F_o56_santaThreshold, Od, Kp⟩
set_option maxRecDepth 65536 in
set_option maxHeartbeats 40000000 in
theorem rm_a63 (l : Launch) (Z : State) (a0 : Array Value) (hw : ∀ d ∈ tables_1, d.before a0 Z = true) (aSanta : Addr) (aTree : Addr) (aStar : Addr) (aE : Addr) (star : Int64) (tree : Int64) (santa : Int64) (o56 : Addr) (t57 : Addr) (h0 : Heap) (n0 : Nat) (Z0 : n0 ≤ h0.size) (E_o56 : Exa Z h0 o56 "com/example/tinsel_tally/tinseltally/Figures") (F_o56_floor : Fld Z h0 o56 "com/example/tinsel_tally/tinseltally/Figures" "floor" "J" (.long (0 : Int64))) (F_o56_dDayFirst : Fld Z h0 o56 "com/example/tinsel_tally/tinseltally/Figures" "dDayFirst" "J" (.long (0 : Int64))) (F_o56_dDayRise : Fld Z h0 o56 "com/example/tinsel_tally/tinseltally/Figures" "dDayRise" "J" (.long (0 : Int64))) (F_o56_perDessert : Fld Z h0 o56 "com/example/tinsel_tally/tinseltally/Figures" "perDessert" "J" (.long (0 : Int64))) (F_o56_perMain : Fld Z h0 o56 "com/example/tinsel_tally/tinseltally/Figures" "perMain" "J" (.long (0 : Int64))) (F_o56_specialDiscount : Fld Z h0 o56 "com/example/tinsel_tally/tinseltally/Figures" "specialDiscount" "J" (.long (0 : Int64))) (F_o56_giftThreshold : Fld Z h0 o56 "com/example/tinsel_tally/tinseltally/Figures" "giftThreshold" "J" (.long (0 : Int64))) (F_o56_giftDish : Fld Z h0 o56 "com/example/tinsel_tally/tinseltally/Figures" "giftDish" "Ljava/lang/String;" (.ref t57)) (F_o56_starThreshold : Fld Z h0 o56 "com/example/tinsel_tally/tinseltally/Figures" "starThreshold" "J" (.long star)) (F_o56_treeThreshold : Fld Z h0 o56 "com/example/tinsel_tally/tinseltally/Figures" "treeThreshold" "J" (.long tree)) (F_o56_santaThreshold : Fld Z h0 o56 "com/example/tinsel_tally/tinseltally/Figures" "santaThreshold" "J" (.long santa)) (Od : Old Z n0 h0) (S_E : Sta Z Z.heap "java/util/Optional" "EMPTY" "Ljava/util/Optional;" (.ref aE)) (S_SANTA : Sta Z Z.heap "com/example/tinsel_tally/tinseltally/Badge" "SANTA" "Lcom/example/tinsel_tally/tinseltally/Badge;" (.ref aSanta)) (S_TREE : Sta Z Z.heap "com/example/tinsel_tally/tinseltally/Badge" "TREE" "Lcom/example/tinsel_tally/tinseltally/Badge;" (.ref aTree)) (S_STAR : Sta Z Z.heap "com/example/tinsel_tally/tinseltally/Badge" "STAR" "Lcom/example/tinsel_tally/tinseltally/Badge;" (.ref aStar)) (g_o56 : n0 ≤ o56) :
    Met l Z (⟨"com/example/tinsel_tally/tinseltally/Figures", "treeThreshold", "()J"⟩ : MethodName) prog_9_method_11_code 1 (some .long) { frames := 0, cells := 0, slots := 0, locals := 0 } [] #[(.ref o56)] h0 n0 (fun v h => v = some (.long tree) ∧ Exa Z h o56 "com/example/tinsel_tally/tinseltally/Figures" ∧ Fld Z h o56 "com/example/tinsel_tally/tinseltally/Figures" "floor" "J" (.long (0 : Int64)) ∧ Fld Z h o56 "com/example/tinsel_tally/tinseltally/Figures" "dDayFirst" "J" (.long (0 : Int64)) ∧ Fld Z h o56 "com/example/tinsel_tally/tinseltally/Figures" "dDayRise" "J" (.long (0 : Int64)) ∧ Fld Z h o56 "com/example/tinsel_tally/tinseltally/Figures" "perDessert" "J" (.long (0 : Int64)) ∧ Fld Z h o56 "com/example/tinsel_tally/tinseltally/Figures" "perMain" "J" (.long (0 : Int64)) ∧ Fld Z h o56 "com/example/tinsel_tally/tinseltally/Figures" "specialDiscount" "J" (.long (0 : Int64)) ∧ Fld Z h o56 "com/example/tinsel_tally/tinseltally/Figures" "giftThreshold" "J" (.long (0 : Int64)) ∧ Fld Z h o56 "com/example/tinsel_tally/tinseltally/Figures" "giftDish" "Ljava/lang/String;" (.ref t57) ∧ Fld Z h o56 "com/example/tinsel_tally/tinseltally/Figures" "starThreshold" "J" (.long star) ∧ Fld Z h o56 "com/example/tinsel_tally/tinseltally/Figures" "treeThreshold" "J" (.long tree) ∧ Fld Z h o56 "com/example/tinsel_tally/tinseltally/Figures" "santaThreshold" "J" (.long santa) ∧ Old Z n0 h ∧ Keep h0 h [o56]) := by
  refine Met.mk (tabs := tables_1) (a0 := a0) (ls0 := #[.val (.ref o56)]) (plainFor_of_name pn_com_example_tinsel_tally_tinseltally_Figures) hw Z0 (fun m => by first | (simp [entryFrame, mkF, argsToLocals, Value.category]; done) | rfl) ?_
  intro p e s m below meth c T C X
  have Kp : Keep h0 h0 [o56] := Keep.refl _ _
  refine s_aloadN 1 C X d10_0 rfl rfl ?_
  refine s_getfield 4 C X (host := "") d10_1 (Or.inl (List.mem_of_getElem? (i := 37) rfl)) Via.refl F_o56_treeThreshold (fun T X => ?_)
  refine s_lreturn C X d10_4 rfl ?_
  exact ⟨rfl, E_o56, F_o56_floor, F_o56_dDayFirst, F_o56_dDayRise, F_o56_perDessert, F_o56_perMain, F_o56_specialDiscount, F_o56_giftThreshold, F_o56_giftDish, F_o56_starThreshold, F_o56_treeThreshold, F_o56_santaThreshold, Od, Kp⟩
set_option maxRecDepth 65536 in
set_option maxHeartbeats 40000000 in
theorem rm_a65 (l : Launch) (Z : State) (a0 : Array Value) (hw : ∀ d ∈ tables_1, d.before a0 Z = true) (aSanta : Addr) (aTree : Addr) (aStar : Addr) (aE : Addr) (star : Int64) (tree : Int64) (santa : Int64) (o56 : Addr) (t57 : Addr) (h0 : Heap) (n0 : Nat) (Z0 : n0 ≤ h0.size) (E_o56 : Exa Z h0 o56 "com/example/tinsel_tally/tinseltally/Figures") (F_o56_floor : Fld Z h0 o56 "com/example/tinsel_tally/tinseltally/Figures" "floor" "J" (.long (0 : Int64))) (F_o56_dDayFirst : Fld Z h0 o56 "com/example/tinsel_tally/tinseltally/Figures" "dDayFirst" "J" (.long (0 : Int64))) (F_o56_dDayRise : Fld Z h0 o56 "com/example/tinsel_tally/tinseltally/Figures" "dDayRise" "J" (.long (0 : Int64))) (F_o56_perDessert : Fld Z h0 o56 "com/example/tinsel_tally/tinseltally/Figures" "perDessert" "J" (.long (0 : Int64))) (F_o56_perMain : Fld Z h0 o56 "com/example/tinsel_tally/tinseltally/Figures" "perMain" "J" (.long (0 : Int64))) (F_o56_specialDiscount : Fld Z h0 o56 "com/example/tinsel_tally/tinseltally/Figures" "specialDiscount" "J" (.long (0 : Int64))) (F_o56_giftThreshold : Fld Z h0 o56 "com/example/tinsel_tally/tinseltally/Figures" "giftThreshold" "J" (.long (0 : Int64))) (F_o56_giftDish : Fld Z h0 o56 "com/example/tinsel_tally/tinseltally/Figures" "giftDish" "Ljava/lang/String;" (.ref t57)) (F_o56_starThreshold : Fld Z h0 o56 "com/example/tinsel_tally/tinseltally/Figures" "starThreshold" "J" (.long star)) (F_o56_treeThreshold : Fld Z h0 o56 "com/example/tinsel_tally/tinseltally/Figures" "treeThreshold" "J" (.long tree)) (F_o56_santaThreshold : Fld Z h0 o56 "com/example/tinsel_tally/tinseltally/Figures" "santaThreshold" "J" (.long santa)) (Od : Old Z n0 h0) (S_E : Sta Z Z.heap "java/util/Optional" "EMPTY" "Ljava/util/Optional;" (.ref aE)) (S_SANTA : Sta Z Z.heap "com/example/tinsel_tally/tinseltally/Badge" "SANTA" "Lcom/example/tinsel_tally/tinseltally/Badge;" (.ref aSanta)) (S_TREE : Sta Z Z.heap "com/example/tinsel_tally/tinseltally/Badge" "TREE" "Lcom/example/tinsel_tally/tinseltally/Badge;" (.ref aTree)) (S_STAR : Sta Z Z.heap "com/example/tinsel_tally/tinseltally/Badge" "STAR" "Lcom/example/tinsel_tally/tinseltally/Badge;" (.ref aStar)) (g_o56 : n0 ≤ o56) :
    Met l Z (⟨"com/example/tinsel_tally/tinseltally/Figures", "starThreshold", "()J"⟩ : MethodName) prog_9_method_10_code 1 (some .long) { frames := 0, cells := 0, slots := 0, locals := 0 } [] #[(.ref o56)] h0 n0 (fun v h => v = some (.long star) ∧ Exa Z h o56 "com/example/tinsel_tally/tinseltally/Figures" ∧ Fld Z h o56 "com/example/tinsel_tally/tinseltally/Figures" "floor" "J" (.long (0 : Int64)) ∧ Fld Z h o56 "com/example/tinsel_tally/tinseltally/Figures" "dDayFirst" "J" (.long (0 : Int64)) ∧ Fld Z h o56 "com/example/tinsel_tally/tinseltally/Figures" "dDayRise" "J" (.long (0 : Int64)) ∧ Fld Z h o56 "com/example/tinsel_tally/tinseltally/Figures" "perDessert" "J" (.long (0 : Int64)) ∧ Fld Z h o56 "com/example/tinsel_tally/tinseltally/Figures" "perMain" "J" (.long (0 : Int64)) ∧ Fld Z h o56 "com/example/tinsel_tally/tinseltally/Figures" "specialDiscount" "J" (.long (0 : Int64)) ∧ Fld Z h o56 "com/example/tinsel_tally/tinseltally/Figures" "giftThreshold" "J" (.long (0 : Int64)) ∧ Fld Z h o56 "com/example/tinsel_tally/tinseltally/Figures" "giftDish" "Ljava/lang/String;" (.ref t57) ∧ Fld Z h o56 "com/example/tinsel_tally/tinseltally/Figures" "starThreshold" "J" (.long star) ∧ Fld Z h o56 "com/example/tinsel_tally/tinseltally/Figures" "treeThreshold" "J" (.long tree) ∧ Fld Z h o56 "com/example/tinsel_tally/tinseltally/Figures" "santaThreshold" "J" (.long santa) ∧ Old Z n0 h ∧ Keep h0 h [o56]) := by
  refine Met.mk (tabs := tables_1) (a0 := a0) (ls0 := #[.val (.ref o56)]) (plainFor_of_name pn_com_example_tinsel_tally_tinseltally_Figures) hw Z0 (fun m => by first | (simp [entryFrame, mkF, argsToLocals, Value.category]; done) | rfl) ?_
  intro p e s m below meth c T C X
  have Kp : Keep h0 h0 [o56] := Keep.refl _ _
  refine s_aloadN 1 C X d11_0 rfl rfl ?_
  refine s_getfield 4 C X (host := "") d11_1 (Or.inl (List.mem_of_getElem? (i := 35) rfl)) Via.refl F_o56_starThreshold (fun T X => ?_)
  refine s_lreturn C X d11_4 rfl ?_
  exact ⟨rfl, E_o56, F_o56_floor, F_o56_dDayFirst, F_o56_dDayRise, F_o56_perDessert, F_o56_perMain, F_o56_specialDiscount, F_o56_giftThreshold, F_o56_giftDish, F_o56_starThreshold, F_o56_treeThreshold, F_o56_santaThreshold, Od, Kp⟩
set_option maxRecDepth 65536 in
set_option maxHeartbeats 40000000 in
theorem rm_a69 (l : Launch) (Z : State) (a0 : Array Value) (hw : ∀ d ∈ tables_1, d.before a0 Z = true) (aSanta : Addr) (aTree : Addr) (aStar : Addr) (aE : Addr) (h0 : Heap) (n0 : Nat) (Z0 : n0 ≤ h0.size) (Od : Old Z n0 h0) (S_E : Sta Z Z.heap "java/util/Optional" "EMPTY" "Ljava/util/Optional;" (.ref aE)) (S_SANTA : Sta Z Z.heap "com/example/tinsel_tally/tinseltally/Badge" "SANTA" "Lcom/example/tinsel_tally/tinseltally/Badge;" (.ref aSanta)) (S_TREE : Sta Z Z.heap "com/example/tinsel_tally/tinseltally/Badge" "TREE" "Lcom/example/tinsel_tally/tinseltally/Badge;" (.ref aTree)) (S_STAR : Sta Z Z.heap "com/example/tinsel_tally/tinseltally/Badge" "STAR" "Lcom/example/tinsel_tally/tinseltally/Badge;" (.ref aStar)) :
    Met l Z (⟨"java/util/Objects", "requireNonNull", "(Ljava/lang/Object;)Ljava/lang/Object;"⟩ : MethodName) jdk_31_method_10_code 1 (some (.object "java/lang/Object")) { frames := 0, cells := 0, slots := 0, locals := 0 } [] #[(.ref aStar)] h0 n0 (fun v h => v = some (.ref aStar) ∧ Old Z n0 h ∧ Keep h0 h []) := by
  refine Met.mk (tabs := tables_1) (a0 := a0) (ls0 := #[.val (.ref aStar)]) (plainFor_of_name pn_java_util_Objects) hw Z0 (fun m => by first | (simp [entryFrame, mkF, argsToLocals, Value.category]; done) | rfl) ?_
  intro p e s m below meth c T C X
  have Kp : Keep h0 h0 [] := Keep.refl _ _
  refine s_aloadN 1 C X d7_0 rfl rfl ?_
  refine s_ifnonnullY 12 C X d7_1 ?_
  refine s_aloadN 13 C X d7_12 rfl rfl ?_
  refine s_areturn C X d7_13 rfl rfl rfl ?_
  exact ⟨rfl, Od, Kp⟩
set_option maxRecDepth 65536 in
set_option maxHeartbeats 40000000 in
theorem rm_a70 (l : Launch) (Z : State) (a0 : Array Value) (hw : ∀ d ∈ tables_1, d.before a0 Z = true) (aSanta : Addr) (aTree : Addr) (aStar : Addr) (aE : Addr) (o68 : Addr) (h0 : Heap) (n0 : Nat) (Z0 : n0 ≤ h0.size) (E_o68 : Exa Z h0 o68 "java/util/Optional") (F_o68_value : Fld Z h0 o68 "java/util/Optional" "value" "Ljava/lang/Object;" .null) (Od : Old Z n0 h0) (S_E : Sta Z Z.heap "java/util/Optional" "EMPTY" "Ljava/util/Optional;" (.ref aE)) (S_SANTA : Sta Z Z.heap "com/example/tinsel_tally/tinseltally/Badge" "SANTA" "Lcom/example/tinsel_tally/tinseltally/Badge;" (.ref aSanta)) (S_TREE : Sta Z Z.heap "com/example/tinsel_tally/tinseltally/Badge" "TREE" "Lcom/example/tinsel_tally/tinseltally/Badge;" (.ref aTree)) (S_STAR : Sta Z Z.heap "com/example/tinsel_tally/tinseltally/Badge" "STAR" "Lcom/example/tinsel_tally/tinseltally/Badge;" (.ref aStar)) (g_o68 : n0 ≤ o68) :
    Met l Z (⟨"java/util/Optional", "<init>", "(Ljava/lang/Object;)V"⟩ : MethodName) jdk_32_method_2_code 2 none { frames := 1, cells := 0, slots := 0, locals := 12 } [] #[(.ref o68), (.ref aStar)] h0 n0 (fun v h => v = none ∧ Exa Z h o68 "java/util/Optional" ∧ Fld Z h o68 "java/util/Optional" "value" "Ljava/lang/Object;" (.ref aStar) ∧ Old Z n0 h ∧ Keep h0 h [o68]) := by
  refine Met.mk (tabs := tables_1) (a0 := a0) (ls0 := #[.val (.ref o68), .val (.ref aStar)]) (plainFor_of_name pn_java_util_Optional) hw Z0 (fun m => by first | (simp [entryFrame, mkF, argsToLocals, Value.category]; done) | rfl) ?_
  intro p e s m below meth c T C X
  have Kp : Keep h0 h0 [o68] := Keep.refl _ _
  refine s_aloadN 1 C X d8_0 rfl rfl ?_
  refine s_objInit 4 C X d8_1 (List.mem_of_getElem? (i := 70) rfl) (List.mem_of_getElem? (i := 17) rfl) (List.mem_of_getElem? (i := 18) rfl) rfl (W := 0) rfl (by decide) (fun T X => ?_)
  refine s_aloadN 5 C X d8_4 rfl rfl ?_
  refine s_aloadN 6 C X d8_5 rfl rfl ?_
  refine s_putfield 9 C X (host := "") d8_6 (Or.inl (List.mem_of_getElem? (i := 71) rfl)) Via.refl F_o68_value E_o68 (Or.inr ⟨(List.mem_of_getElem? (i := 72) rfl), rfl, rfl⟩) (List.mem_of_getElem? (i := 61) rfl) (ty := (.object "java/lang/Object")) (by decide) rfl rfl g_o68 (fun T hh X W => ?_)
  have E_o68 := E_o68.wr W
  have F_o68_value := F_o68_value.same W
  have Od := Od.wr W g_o68
  have Kp := Kp.wr W (Or.inl (by simp))
  refine s_return C X d8_9 rfl ?_
  exact ⟨rfl, E_o68, F_o68_value, Od, Kp⟩
set_option maxRecDepth 65536 in
set_option maxHeartbeats 40000000 in
theorem rm_a67 (l : Launch) (Z : State) (a0 : Array Value) (hw : ∀ d ∈ tables_1, d.before a0 Z = true) (aSanta : Addr) (aTree : Addr) (aStar : Addr) (aE : Addr) (h0 : Heap) (n0 : Nat) (Z0 : n0 ≤ h0.size) (Od : Old Z n0 h0) (S_E : Sta Z Z.heap "java/util/Optional" "EMPTY" "Ljava/util/Optional;" (.ref aE)) (S_SANTA : Sta Z Z.heap "com/example/tinsel_tally/tinseltally/Badge" "SANTA" "Lcom/example/tinsel_tally/tinseltally/Badge;" (.ref aSanta)) (S_TREE : Sta Z Z.heap "com/example/tinsel_tally/tinseltally/Badge" "TREE" "Lcom/example/tinsel_tally/tinseltally/Badge;" (.ref aTree)) (S_STAR : Sta Z Z.heap "com/example/tinsel_tally/tinseltally/Badge" "STAR" "Lcom/example/tinsel_tally/tinseltally/Badge;" (.ref aStar)) :
    Met l Z (⟨"java/util/Optional", "of", "(Ljava/lang/Object;)Ljava/util/Optional;"⟩ : MethodName) jdk_32_method_3_code 1 (some (.object "java/util/Optional")) { frames := 2, cells := 1, slots := 1, locals := 26 } [] #[(.ref aStar)] h0 n0 (fun v h => ∃ (o68 : Addr), v = some (.ref o68) ∧ Keep h0 h [] ∧ Exa Z h o68 "java/util/Optional" ∧ Fld Z h o68 "java/util/Optional" "value" "Ljava/lang/Object;" (.ref aStar) ∧ Old Z n0 h ∧ h0.size ≤ o68 ∧ n0 ≤ o68) := by
  refine Met.mk (tabs := tables_1) (a0 := a0) (ls0 := #[.val (.ref aStar)]) (plainFor_of_name pn_java_util_Optional) hw Z0 (fun m => by first | (simp [entryFrame, mkF, argsToLocals, Value.category]; done) | rfl) ?_
  intro p e s m below meth c T C X
  have Kp : Keep h0 h0 [] := Keep.refl _ _
  refine s_new 3 C X d6_0 (List.mem_of_getElem? (i := 60) rfl) (List.mem_of_getElem? (i := 61) rfl) (List.mem_of_getElem? (i := 47) rfl) (fun T hh o68 hb_o68 X E E_o68 D g_o68 => ?_)
  have sz_o68 : h0.size ≤ o68 := Nat.le_trans Kp.1 (Nat.le_of_eq hb_o68)
  have Od := Od.ext E
  have Kp := Kp.ext E
  have F_o68_value : Fld Z _ o68 "java/util/Optional" "value" "Ljava/lang/Object;" .null := D (Or.inr (hw _ (List.mem_of_getElem? (i := 72) rfl))) (ty := (.object "java/lang/Object")) (by decide)
  refine s_dup 4 C X d6_3 rfl ?_
  refine s_aloadN 5 C X d6_4 rfl rfl ?_
  refine s_callS 8 [(.ref aStar)] [(.ref o68), (.ref o68)] 2 C X d6_5 (List.mem_of_getElem? (i := 62) rfl) (List.mem_of_getElem? (i := 63) rfl) (List.mem_of_getElem? (i := 64) rfl) (List.mem_of_getElem? (i := 65) rfl) (rm_a69 l Z a0 hw aSanta aTree aStar aE _ n0 X.sz Od S_E S_SANTA S_TREE S_STAR) (lenOf pd__Ljava_lang_Object__Ljava_lang_Object_ rfl) rfl rfl rfl (fun T v hh X q => ?_)
  obtain ⟨rfl, Od, Kc⟩ := q
  have Kp := Kp.trans Kc all0
  have E_o68 := E_o68.keep Kc
  have F_o68_value := F_o68_value.keep Kc nin0
  refine Run.cast (st' := [(.ref aStar), (.ref o68), (.ref o68)]) rfl ?_
  refine s_callC 11 [(.ref aStar)] [(.ref o68)] 1 C X d6_8 rfl (List.mem_of_getElem? (i := 66) rfl) (List.mem_of_getElem? (i := 67) rfl) (List.mem_of_getElem? (i := 47) rfl) (List.mem_of_getElem? (i := 69) rfl) (rm_a70 l Z a0 hw aSanta aTree aStar aE o68 _ n0 X.sz E_o68 F_o68_value Od S_E S_SANTA S_TREE S_STAR g_o68) (lenOf pd__Ljava_lang_Object__V rfl) rfl rfl rfl (fun T v hh X q => ?_)
  obtain ⟨rfl, E_o68, F_o68_value, Od, Kc⟩ := q
  have Kp := Kp.trans Kc (allS (Or.inr sz_o68) all0)
  refine Run.cast (st' := [(.ref o68)]) rfl ?_
  refine s_areturn C X d6_11 rfl rfl rfl ?_
  exact ⟨o68, rfl, Kp, E_o68, F_o68_value, Od, sz_o68, g_o68⟩
set_option maxRecDepth 65536 in
set_option maxHeartbeats 40000000 in
theorem rm_a73 (l : Launch) (Z : State) (a0 : Array Value) (hw : ∀ d ∈ tables_1, d.before a0 Z = true) (aSanta : Addr) (aTree : Addr) (aStar : Addr) (aE : Addr) (h0 : Heap) (n0 : Nat) (Z0 : n0 ≤ h0.size) (Od : Old Z n0 h0) (S_E : Sta Z Z.heap "java/util/Optional" "EMPTY" "Ljava/util/Optional;" (.ref aE)) (S_SANTA : Sta Z Z.heap "com/example/tinsel_tally/tinseltally/Badge" "SANTA" "Lcom/example/tinsel_tally/tinseltally/Badge;" (.ref aSanta)) (S_TREE : Sta Z Z.heap "com/example/tinsel_tally/tinseltally/Badge" "TREE" "Lcom/example/tinsel_tally/tinseltally/Badge;" (.ref aTree)) (S_STAR : Sta Z Z.heap "com/example/tinsel_tally/tinseltally/Badge" "STAR" "Lcom/example/tinsel_tally/tinseltally/Badge;" (.ref aStar)) :
    Met l Z (⟨"java/util/Objects", "requireNonNull", "(Ljava/lang/Object;)Ljava/lang/Object;"⟩ : MethodName) jdk_31_method_10_code 1 (some (.object "java/lang/Object")) { frames := 0, cells := 0, slots := 0, locals := 0 } [] #[(.ref aTree)] h0 n0 (fun v h => v = some (.ref aTree) ∧ Old Z n0 h ∧ Keep h0 h []) := by
  refine Met.mk (tabs := tables_1) (a0 := a0) (ls0 := #[.val (.ref aTree)]) (plainFor_of_name pn_java_util_Objects) hw Z0 (fun m => by first | (simp [entryFrame, mkF, argsToLocals, Value.category]; done) | rfl) ?_
  intro p e s m below meth c T C X
  have Kp : Keep h0 h0 [] := Keep.refl _ _
  refine s_aloadN 1 C X d7_0 rfl rfl ?_
  refine s_ifnonnullY 12 C X d7_1 ?_
  refine s_aloadN 13 C X d7_12 rfl rfl ?_
  refine s_areturn C X d7_13 rfl rfl rfl ?_
  exact ⟨rfl, Od, Kp⟩
set_option maxRecDepth 65536 in
set_option maxHeartbeats 40000000 in
theorem rm_a74 (l : Launch) (Z : State) (a0 : Array Value) (hw : ∀ d ∈ tables_1, d.before a0 Z = true) (aSanta : Addr) (aTree : Addr) (aStar : Addr) (aE : Addr) (o72 : Addr) (h0 : Heap) (n0 : Nat) (Z0 : n0 ≤ h0.size) (E_o72 : Exa Z h0 o72 "java/util/Optional") (F_o72_value : Fld Z h0 o72 "java/util/Optional" "value" "Ljava/lang/Object;" .null) (Od : Old Z n0 h0) (S_E : Sta Z Z.heap "java/util/Optional" "EMPTY" "Ljava/util/Optional;" (.ref aE)) (S_SANTA : Sta Z Z.heap "com/example/tinsel_tally/tinseltally/Badge" "SANTA" "Lcom/example/tinsel_tally/tinseltally/Badge;" (.ref aSanta)) (S_TREE : Sta Z Z.heap "com/example/tinsel_tally/tinseltally/Badge" "TREE" "Lcom/example/tinsel_tally/tinseltally/Badge;" (.ref aTree)) (S_STAR : Sta Z Z.heap "com/example/tinsel_tally/tinseltally/Badge" "STAR" "Lcom/example/tinsel_tally/tinseltally/Badge;" (.ref aStar)) (g_o72 : n0 ≤ o72) :
    Met l Z (⟨"java/util/Optional", "<init>", "(Ljava/lang/Object;)V"⟩ : MethodName) jdk_32_method_2_code 2 none { frames := 1, cells := 0, slots := 0, locals := 12 } [] #[(.ref o72), (.ref aTree)] h0 n0 (fun v h => v = none ∧ Exa Z h o72 "java/util/Optional" ∧ Fld Z h o72 "java/util/Optional" "value" "Ljava/lang/Object;" (.ref aTree) ∧ Old Z n0 h ∧ Keep h0 h [o72]) := by
  refine Met.mk (tabs := tables_1) (a0 := a0) (ls0 := #[.val (.ref o72), .val (.ref aTree)]) (plainFor_of_name pn_java_util_Optional) hw Z0 (fun m => by first | (simp [entryFrame, mkF, argsToLocals, Value.category]; done) | rfl) ?_
  intro p e s m below meth c T C X
  have Kp : Keep h0 h0 [o72] := Keep.refl _ _
  refine s_aloadN 1 C X d8_0 rfl rfl ?_
  refine s_objInit 4 C X d8_1 (List.mem_of_getElem? (i := 70) rfl) (List.mem_of_getElem? (i := 17) rfl) (List.mem_of_getElem? (i := 18) rfl) rfl (W := 0) rfl (by decide) (fun T X => ?_)
  refine s_aloadN 5 C X d8_4 rfl rfl ?_
  refine s_aloadN 6 C X d8_5 rfl rfl ?_
  refine s_putfield 9 C X (host := "") d8_6 (Or.inl (List.mem_of_getElem? (i := 71) rfl)) Via.refl F_o72_value E_o72 (Or.inr ⟨(List.mem_of_getElem? (i := 72) rfl), rfl, rfl⟩) (List.mem_of_getElem? (i := 61) rfl) (ty := (.object "java/lang/Object")) (by decide) rfl rfl g_o72 (fun T hh X W => ?_)
  have E_o72 := E_o72.wr W
  have F_o72_value := F_o72_value.same W
  have Od := Od.wr W g_o72
  have Kp := Kp.wr W (Or.inl (by simp))
  refine s_return C X d8_9 rfl ?_
  exact ⟨rfl, E_o72, F_o72_value, Od, Kp⟩
set_option maxRecDepth 65536 in
set_option maxHeartbeats 40000000 in
theorem rm_a71 (l : Launch) (Z : State) (a0 : Array Value) (hw : ∀ d ∈ tables_1, d.before a0 Z = true) (aSanta : Addr) (aTree : Addr) (aStar : Addr) (aE : Addr) (h0 : Heap) (n0 : Nat) (Z0 : n0 ≤ h0.size) (Od : Old Z n0 h0) (S_E : Sta Z Z.heap "java/util/Optional" "EMPTY" "Ljava/util/Optional;" (.ref aE)) (S_SANTA : Sta Z Z.heap "com/example/tinsel_tally/tinseltally/Badge" "SANTA" "Lcom/example/tinsel_tally/tinseltally/Badge;" (.ref aSanta)) (S_TREE : Sta Z Z.heap "com/example/tinsel_tally/tinseltally/Badge" "TREE" "Lcom/example/tinsel_tally/tinseltally/Badge;" (.ref aTree)) (S_STAR : Sta Z Z.heap "com/example/tinsel_tally/tinseltally/Badge" "STAR" "Lcom/example/tinsel_tally/tinseltally/Badge;" (.ref aStar)) :
    Met l Z (⟨"java/util/Optional", "of", "(Ljava/lang/Object;)Ljava/util/Optional;"⟩ : MethodName) jdk_32_method_3_code 1 (some (.object "java/util/Optional")) { frames := 2, cells := 1, slots := 1, locals := 26 } [] #[(.ref aTree)] h0 n0 (fun v h => ∃ (o72 : Addr), v = some (.ref o72) ∧ Keep h0 h [] ∧ Exa Z h o72 "java/util/Optional" ∧ Fld Z h o72 "java/util/Optional" "value" "Ljava/lang/Object;" (.ref aTree) ∧ Old Z n0 h ∧ h0.size ≤ o72 ∧ n0 ≤ o72) := by
  refine Met.mk (tabs := tables_1) (a0 := a0) (ls0 := #[.val (.ref aTree)]) (plainFor_of_name pn_java_util_Optional) hw Z0 (fun m => by first | (simp [entryFrame, mkF, argsToLocals, Value.category]; done) | rfl) ?_
  intro p e s m below meth c T C X
  have Kp : Keep h0 h0 [] := Keep.refl _ _
  refine s_new 3 C X d6_0 (List.mem_of_getElem? (i := 60) rfl) (List.mem_of_getElem? (i := 61) rfl) (List.mem_of_getElem? (i := 47) rfl) (fun T hh o72 hb_o72 X E E_o72 D g_o72 => ?_)
  have sz_o72 : h0.size ≤ o72 := Nat.le_trans Kp.1 (Nat.le_of_eq hb_o72)
  have Od := Od.ext E
  have Kp := Kp.ext E
  have F_o72_value : Fld Z _ o72 "java/util/Optional" "value" "Ljava/lang/Object;" .null := D (Or.inr (hw _ (List.mem_of_getElem? (i := 72) rfl))) (ty := (.object "java/lang/Object")) (by decide)
  refine s_dup 4 C X d6_3 rfl ?_
  refine s_aloadN 5 C X d6_4 rfl rfl ?_
  refine s_callS 8 [(.ref aTree)] [(.ref o72), (.ref o72)] 2 C X d6_5 (List.mem_of_getElem? (i := 62) rfl) (List.mem_of_getElem? (i := 63) rfl) (List.mem_of_getElem? (i := 64) rfl) (List.mem_of_getElem? (i := 65) rfl) (rm_a73 l Z a0 hw aSanta aTree aStar aE _ n0 X.sz Od S_E S_SANTA S_TREE S_STAR) (lenOf pd__Ljava_lang_Object__Ljava_lang_Object_ rfl) rfl rfl rfl (fun T v hh X q => ?_)
  obtain ⟨rfl, Od, Kc⟩ := q
  have Kp := Kp.trans Kc all0
  have E_o72 := E_o72.keep Kc
  have F_o72_value := F_o72_value.keep Kc nin0
  refine Run.cast (st' := [(.ref aTree), (.ref o72), (.ref o72)]) rfl ?_
  refine s_callC 11 [(.ref aTree)] [(.ref o72)] 1 C X d6_8 rfl (List.mem_of_getElem? (i := 66) rfl) (List.mem_of_getElem? (i := 67) rfl) (List.mem_of_getElem? (i := 47) rfl) (List.mem_of_getElem? (i := 69) rfl) (rm_a74 l Z a0 hw aSanta aTree aStar aE o72 _ n0 X.sz E_o72 F_o72_value Od S_E S_SANTA S_TREE S_STAR g_o72) (lenOf pd__Ljava_lang_Object__V rfl) rfl rfl rfl (fun T v hh X q => ?_)
  obtain ⟨rfl, E_o72, F_o72_value, Od, Kc⟩ := q
  have Kp := Kp.trans Kc (allS (Or.inr sz_o72) all0)
  refine Run.cast (st' := [(.ref o72)]) rfl ?_
  refine s_areturn C X d6_11 rfl rfl rfl ?_
  exact ⟨o72, rfl, Kp, E_o72, F_o72_value, Od, sz_o72, g_o72⟩
set_option maxRecDepth 65536 in
set_option maxHeartbeats 40000000 in
theorem rm_a77 (l : Launch) (Z : State) (a0 : Array Value) (hw : ∀ d ∈ tables_1, d.before a0 Z = true) (aSanta : Addr) (aTree : Addr) (aStar : Addr) (aE : Addr) (h0 : Heap) (n0 : Nat) (Z0 : n0 ≤ h0.size) (Od : Old Z n0 h0) (S_E : Sta Z Z.heap "java/util/Optional" "EMPTY" "Ljava/util/Optional;" (.ref aE)) (S_SANTA : Sta Z Z.heap "com/example/tinsel_tally/tinseltally/Badge" "SANTA" "Lcom/example/tinsel_tally/tinseltally/Badge;" (.ref aSanta)) (S_TREE : Sta Z Z.heap "com/example/tinsel_tally/tinseltally/Badge" "TREE" "Lcom/example/tinsel_tally/tinseltally/Badge;" (.ref aTree)) (S_STAR : Sta Z Z.heap "com/example/tinsel_tally/tinseltally/Badge" "STAR" "Lcom/example/tinsel_tally/tinseltally/Badge;" (.ref aStar)) :
    Met l Z (⟨"java/util/Objects", "requireNonNull", "(Ljava/lang/Object;)Ljava/lang/Object;"⟩ : MethodName) jdk_31_method_10_code 1 (some (.object "java/lang/Object")) { frames := 0, cells := 0, slots := 0, locals := 0 } [] #[(.ref aSanta)] h0 n0 (fun v h => v = some (.ref aSanta) ∧ Old Z n0 h ∧ Keep h0 h []) := by
  refine Met.mk (tabs := tables_1) (a0 := a0) (ls0 := #[.val (.ref aSanta)]) (plainFor_of_name pn_java_util_Objects) hw Z0 (fun m => by first | (simp [entryFrame, mkF, argsToLocals, Value.category]; done) | rfl) ?_
  intro p e s m below meth c T C X
  have Kp : Keep h0 h0 [] := Keep.refl _ _
  refine s_aloadN 1 C X d7_0 rfl rfl ?_
  refine s_ifnonnullY 12 C X d7_1 ?_
  refine s_aloadN 13 C X d7_12 rfl rfl ?_
  refine s_areturn C X d7_13 rfl rfl rfl ?_
  exact ⟨rfl, Od, Kp⟩
set_option maxRecDepth 65536 in
set_option maxHeartbeats 40000000 in
theorem rm_a78 (l : Launch) (Z : State) (a0 : Array Value) (hw : ∀ d ∈ tables_1, d.before a0 Z = true) (aSanta : Addr) (aTree : Addr) (aStar : Addr) (aE : Addr) (o76 : Addr) (h0 : Heap) (n0 : Nat) (Z0 : n0 ≤ h0.size) (E_o76 : Exa Z h0 o76 "java/util/Optional") (F_o76_value : Fld Z h0 o76 "java/util/Optional" "value" "Ljava/lang/Object;" .null) (Od : Old Z n0 h0) (S_E : Sta Z Z.heap "java/util/Optional" "EMPTY" "Ljava/util/Optional;" (.ref aE)) (S_SANTA : Sta Z Z.heap "com/example/tinsel_tally/tinseltally/Badge" "SANTA" "Lcom/example/tinsel_tally/tinseltally/Badge;" (.ref aSanta)) (S_TREE : Sta Z Z.heap "com/example/tinsel_tally/tinseltally/Badge" "TREE" "Lcom/example/tinsel_tally/tinseltally/Badge;" (.ref aTree)) (S_STAR : Sta Z Z.heap "com/example/tinsel_tally/tinseltally/Badge" "STAR" "Lcom/example/tinsel_tally/tinseltally/Badge;" (.ref aStar)) (g_o76 : n0 ≤ o76) :
    Met l Z (⟨"java/util/Optional", "<init>", "(Ljava/lang/Object;)V"⟩ : MethodName) jdk_32_method_2_code 2 none { frames := 1, cells := 0, slots := 0, locals := 12 } [] #[(.ref o76), (.ref aSanta)] h0 n0 (fun v h => v = none ∧ Exa Z h o76 "java/util/Optional" ∧ Fld Z h o76 "java/util/Optional" "value" "Ljava/lang/Object;" (.ref aSanta) ∧ Old Z n0 h ∧ Keep h0 h [o76]) := by
  refine Met.mk (tabs := tables_1) (a0 := a0) (ls0 := #[.val (.ref o76), .val (.ref aSanta)]) (plainFor_of_name pn_java_util_Optional) hw Z0 (fun m => by first | (simp [entryFrame, mkF, argsToLocals, Value.category]; done) | rfl) ?_
  intro p e s m below meth c T C X
  have Kp : Keep h0 h0 [o76] := Keep.refl _ _
  refine s_aloadN 1 C X d8_0 rfl rfl ?_
  refine s_objInit 4 C X d8_1 (List.mem_of_getElem? (i := 70) rfl) (List.mem_of_getElem? (i := 17) rfl) (List.mem_of_getElem? (i := 18) rfl) rfl (W := 0) rfl (by decide) (fun T X => ?_)
  refine s_aloadN 5 C X d8_4 rfl rfl ?_
  refine s_aloadN 6 C X d8_5 rfl rfl ?_
  refine s_putfield 9 C X (host := "") d8_6 (Or.inl (List.mem_of_getElem? (i := 71) rfl)) Via.refl F_o76_value E_o76 (Or.inr ⟨(List.mem_of_getElem? (i := 72) rfl), rfl, rfl⟩) (List.mem_of_getElem? (i := 61) rfl) (ty := (.object "java/lang/Object")) (by decide) rfl rfl g_o76 (fun T hh X W => ?_)
  have E_o76 := E_o76.wr W
  have F_o76_value := F_o76_value.same W
  have Od := Od.wr W g_o76
  have Kp := Kp.wr W (Or.inl (by simp))
  refine s_return C X d8_9 rfl ?_
  exact ⟨rfl, E_o76, F_o76_value, Od, Kp⟩
set_option maxRecDepth 65536 in
set_option maxHeartbeats 40000000 in
theorem rm_a75 (l : Launch) (Z : State) (a0 : Array Value) (hw : ∀ d ∈ tables_1, d.before a0 Z = true) (aSanta : Addr) (aTree : Addr) (aStar : Addr) (aE : Addr) (h0 : Heap) (n0 : Nat) (Z0 : n0 ≤ h0.size) (Od : Old Z n0 h0) (S_E : Sta Z Z.heap "java/util/Optional" "EMPTY" "Ljava/util/Optional;" (.ref aE)) (S_SANTA : Sta Z Z.heap "com/example/tinsel_tally/tinseltally/Badge" "SANTA" "Lcom/example/tinsel_tally/tinseltally/Badge;" (.ref aSanta)) (S_TREE : Sta Z Z.heap "com/example/tinsel_tally/tinseltally/Badge" "TREE" "Lcom/example/tinsel_tally/tinseltally/Badge;" (.ref aTree)) (S_STAR : Sta Z Z.heap "com/example/tinsel_tally/tinseltally/Badge" "STAR" "Lcom/example/tinsel_tally/tinseltally/Badge;" (.ref aStar)) :
    Met l Z (⟨"java/util/Optional", "of", "(Ljava/lang/Object;)Ljava/util/Optional;"⟩ : MethodName) jdk_32_method_3_code 1 (some (.object "java/util/Optional")) { frames := 2, cells := 1, slots := 1, locals := 26 } [] #[(.ref aSanta)] h0 n0 (fun v h => ∃ (o76 : Addr), v = some (.ref o76) ∧ Keep h0 h [] ∧ Exa Z h o76 "java/util/Optional" ∧ Fld Z h o76 "java/util/Optional" "value" "Ljava/lang/Object;" (.ref aSanta) ∧ Old Z n0 h ∧ h0.size ≤ o76 ∧ n0 ≤ o76) := by
  refine Met.mk (tabs := tables_1) (a0 := a0) (ls0 := #[.val (.ref aSanta)]) (plainFor_of_name pn_java_util_Optional) hw Z0 (fun m => by first | (simp [entryFrame, mkF, argsToLocals, Value.category]; done) | rfl) ?_
  intro p e s m below meth c T C X
  have Kp : Keep h0 h0 [] := Keep.refl _ _
  refine s_new 3 C X d6_0 (List.mem_of_getElem? (i := 60) rfl) (List.mem_of_getElem? (i := 61) rfl) (List.mem_of_getElem? (i := 47) rfl) (fun T hh o76 hb_o76 X E E_o76 D g_o76 => ?_)
  have sz_o76 : h0.size ≤ o76 := Nat.le_trans Kp.1 (Nat.le_of_eq hb_o76)
  have Od := Od.ext E
  have Kp := Kp.ext E
  have F_o76_value : Fld Z _ o76 "java/util/Optional" "value" "Ljava/lang/Object;" .null := D (Or.inr (hw _ (List.mem_of_getElem? (i := 72) rfl))) (ty := (.object "java/lang/Object")) (by decide)
  refine s_dup 4 C X d6_3 rfl ?_
  refine s_aloadN 5 C X d6_4 rfl rfl ?_
  refine s_callS 8 [(.ref aSanta)] [(.ref o76), (.ref o76)] 2 C X d6_5 (List.mem_of_getElem? (i := 62) rfl) (List.mem_of_getElem? (i := 63) rfl) (List.mem_of_getElem? (i := 64) rfl) (List.mem_of_getElem? (i := 65) rfl) (rm_a77 l Z a0 hw aSanta aTree aStar aE _ n0 X.sz Od S_E S_SANTA S_TREE S_STAR) (lenOf pd__Ljava_lang_Object__Ljava_lang_Object_ rfl) rfl rfl rfl (fun T v hh X q => ?_)
  obtain ⟨rfl, Od, Kc⟩ := q
  have Kp := Kp.trans Kc all0
  have E_o76 := E_o76.keep Kc
  have F_o76_value := F_o76_value.keep Kc nin0
  refine Run.cast (st' := [(.ref aSanta), (.ref o76), (.ref o76)]) rfl ?_
  refine s_callC 11 [(.ref aSanta)] [(.ref o76)] 1 C X d6_8 rfl (List.mem_of_getElem? (i := 66) rfl) (List.mem_of_getElem? (i := 67) rfl) (List.mem_of_getElem? (i := 47) rfl) (List.mem_of_getElem? (i := 69) rfl) (rm_a78 l Z a0 hw aSanta aTree aStar aE o76 _ n0 X.sz E_o76 F_o76_value Od S_E S_SANTA S_TREE S_STAR g_o76) (lenOf pd__Ljava_lang_Object__V rfl) rfl rfl rfl (fun T v hh X q => ?_)
  obtain ⟨rfl, E_o76, F_o76_value, Od, Kc⟩ := q
  have Kp := Kp.trans Kc (allS (Or.inr sz_o76) all0)
  refine Run.cast (st' := [(.ref o76)]) rfl ?_
  refine s_areturn C X d6_11 rfl rfl rfl ?_
  exact ⟨o76, rfl, Kp, E_o76, F_o76_value, Od, sz_o76, g_o76⟩
set_option maxRecDepth 65536 in
set_option maxHeartbeats 40000000 in
theorem rm_a59 (l : Launch) (Z : State) (a0 : Array Value) (hw : ∀ d ∈ tables_1, d.before a0 Z = true) (aSanta : Addr) (aTree : Addr) (aStar : Addr) (aE : Addr) (star : Int64) (tree : Int64) (santa : Int64) (t : Int64) (o56 : Addr) (t57 : Addr) (h0 : Heap) (n0 : Nat) (Z0 : n0 ≤ h0.size) (Od : Old Z n0 h0) (E_o56 : Exa Z h0 o56 "com/example/tinsel_tally/tinseltally/Figures") (F_o56_floor : Fld Z h0 o56 "com/example/tinsel_tally/tinseltally/Figures" "floor" "J" (.long (0 : Int64))) (F_o56_dDayFirst : Fld Z h0 o56 "com/example/tinsel_tally/tinseltally/Figures" "dDayFirst" "J" (.long (0 : Int64))) (F_o56_dDayRise : Fld Z h0 o56 "com/example/tinsel_tally/tinseltally/Figures" "dDayRise" "J" (.long (0 : Int64))) (F_o56_perDessert : Fld Z h0 o56 "com/example/tinsel_tally/tinseltally/Figures" "perDessert" "J" (.long (0 : Int64))) (F_o56_perMain : Fld Z h0 o56 "com/example/tinsel_tally/tinseltally/Figures" "perMain" "J" (.long (0 : Int64))) (F_o56_specialDiscount : Fld Z h0 o56 "com/example/tinsel_tally/tinseltally/Figures" "specialDiscount" "J" (.long (0 : Int64))) (F_o56_giftThreshold : Fld Z h0 o56 "com/example/tinsel_tally/tinseltally/Figures" "giftThreshold" "J" (.long (0 : Int64))) (F_o56_giftDish : Fld Z h0 o56 "com/example/tinsel_tally/tinseltally/Figures" "giftDish" "Ljava/lang/String;" (.ref t57)) (F_o56_starThreshold : Fld Z h0 o56 "com/example/tinsel_tally/tinseltally/Figures" "starThreshold" "J" (.long star)) (F_o56_treeThreshold : Fld Z h0 o56 "com/example/tinsel_tally/tinseltally/Figures" "treeThreshold" "J" (.long tree)) (F_o56_santaThreshold : Fld Z h0 o56 "com/example/tinsel_tally/tinseltally/Figures" "santaThreshold" "J" (.long santa)) (S_E : Sta Z Z.heap "java/util/Optional" "EMPTY" "Ljava/util/Optional;" (.ref aE)) (S_SANTA : Sta Z Z.heap "com/example/tinsel_tally/tinseltally/Badge" "SANTA" "Lcom/example/tinsel_tally/tinseltally/Badge;" (.ref aSanta)) (S_TREE : Sta Z Z.heap "com/example/tinsel_tally/tinseltally/Badge" "TREE" "Lcom/example/tinsel_tally/tinseltally/Badge;" (.ref aTree)) (S_STAR : Sta Z Z.heap "com/example/tinsel_tally/tinseltally/Badge" "STAR" "Lcom/example/tinsel_tally/tinseltally/Badge;" (.ref aStar)) (g_o56 : n0 ≤ o56) :
    Met l Z (⟨"com/example/tinsel_tally/tinseltally/Badge", "forTotalBenefit", "(JLcom/example/tinsel_tally/tinseltally/Figures;)Ljava/util/Optional;"⟩ : MethodName) prog_2_method_4_code 4 (some (.object "java/util/Optional")) { frames := 3, cells := 1, slots := 1, locals := 38 } [] #[(.long t), (.ref o56)] h0 n0 (fun v h => (v = some (.ref aE) ∧ (XT.cmpL t santa) < (0 : Int32) ∧ (XT.cmpL t tree) < (0 : Int32) ∧ (XT.cmpL t star) < (0 : Int32) ∧ Keep h0 h [o56] ∧ Exa Z h o56 "com/example/tinsel_tally/tinseltally/Figures" ∧ Fld Z h o56 "com/example/tinsel_tally/tinseltally/Figures" "floor" "J" (.long (0 : Int64)) ∧ Fld Z h o56 "com/example/tinsel_tally/tinseltally/Figures" "dDayFirst" "J" (.long (0 : Int64)) ∧ Fld Z h o56 "com/example/tinsel_tally/tinseltally/Figures" "dDayRise" "J" (.long (0 : Int64)) ∧ Fld Z h o56 "com/example/tinsel_tally/tinseltally/Figures" "perDessert" "J" (.long (0 : Int64)) ∧ Fld Z h o56 "com/example/tinsel_tally/tinseltally/Figures" "perMain" "J" (.long (0 : Int64)) ∧ Fld Z h o56 "com/example/tinsel_tally/tinseltally/Figures" "specialDiscount" "J" (.long (0 : Int64)) ∧ Fld Z h o56 "com/example/tinsel_tally/tinseltally/Figures" "giftThreshold" "J" (.long (0 : Int64)) ∧ Fld Z h o56 "com/example/tinsel_tally/tinseltally/Figures" "giftDish" "Ljava/lang/String;" (.ref t57) ∧ Fld Z h o56 "com/example/tinsel_tally/tinseltally/Figures" "starThreshold" "J" (.long star) ∧ Fld Z h o56 "com/example/tinsel_tally/tinseltally/Figures" "treeThreshold" "J" (.long tree) ∧ Fld Z h o56 "com/example/tinsel_tally/tinseltally/Figures" "santaThreshold" "J" (.long santa) ∧ Old Z n0 h) ∨ (∃ (o68 : Addr), v = some (.ref o68) ∧ (XT.cmpL t santa) < (0 : Int32) ∧ (XT.cmpL t tree) < (0 : Int32) ∧ ¬ (XT.cmpL t star) < (0 : Int32) ∧ Keep h0 h [o56] ∧ Exa Z h o56 "com/example/tinsel_tally/tinseltally/Figures" ∧ Fld Z h o56 "com/example/tinsel_tally/tinseltally/Figures" "floor" "J" (.long (0 : Int64)) ∧ Fld Z h o56 "com/example/tinsel_tally/tinseltally/Figures" "dDayFirst" "J" (.long (0 : Int64)) ∧ Fld Z h o56 "com/example/tinsel_tally/tinseltally/Figures" "dDayRise" "J" (.long (0 : Int64)) ∧ Fld Z h o56 "com/example/tinsel_tally/tinseltally/Figures" "perDessert" "J" (.long (0 : Int64)) ∧ Fld Z h o56 "com/example/tinsel_tally/tinseltally/Figures" "perMain" "J" (.long (0 : Int64)) ∧ Fld Z h o56 "com/example/tinsel_tally/tinseltally/Figures" "specialDiscount" "J" (.long (0 : Int64)) ∧ Fld Z h o56 "com/example/tinsel_tally/tinseltally/Figures" "giftThreshold" "J" (.long (0 : Int64)) ∧ Fld Z h o56 "com/example/tinsel_tally/tinseltally/Figures" "giftDish" "Ljava/lang/String;" (.ref t57) ∧ Fld Z h o56 "com/example/tinsel_tally/tinseltally/Figures" "starThreshold" "J" (.long star) ∧ Fld Z h o56 "com/example/tinsel_tally/tinseltally/Figures" "treeThreshold" "J" (.long tree) ∧ Fld Z h o56 "com/example/tinsel_tally/tinseltally/Figures" "santaThreshold" "J" (.long santa) ∧ Exa Z h o68 "java/util/Optional" ∧ Fld Z h o68 "java/util/Optional" "value" "Ljava/lang/Object;" (.ref aStar) ∧ Old Z n0 h ∧ o56 ≠ o68 ∧ h0.size ≤ o68 ∧ n0 ≤ o68) ∨ (∃ (o72 : Addr), v = some (.ref o72) ∧ (XT.cmpL t santa) < (0 : Int32) ∧ ¬ (XT.cmpL t tree) < (0 : Int32) ∧ Keep h0 h [o56] ∧ Exa Z h o56 "com/example/tinsel_tally/tinseltally/Figures" ∧ Fld Z h o56 "com/example/tinsel_tally/tinseltally/Figures" "floor" "J" (.long (0 : Int64)) ∧ Fld Z h o56 "com/example/tinsel_tally/tinseltally/Figures" "dDayFirst" "J" (.long (0 : Int64)) ∧ Fld Z h o56 "com/example/tinsel_tally/tinseltally/Figures" "dDayRise" "J" (.long (0 : Int64)) ∧ Fld Z h o56 "com/example/tinsel_tally/tinseltally/Figures" "perDessert" "J" (.long (0 : Int64)) ∧ Fld Z h o56 "com/example/tinsel_tally/tinseltally/Figures" "perMain" "J" (.long (0 : Int64)) ∧ Fld Z h o56 "com/example/tinsel_tally/tinseltally/Figures" "specialDiscount" "J" (.long (0 : Int64)) ∧ Fld Z h o56 "com/example/tinsel_tally/tinseltally/Figures" "giftThreshold" "J" (.long (0 : Int64)) ∧ Fld Z h o56 "com/example/tinsel_tally/tinseltally/Figures" "giftDish" "Ljava/lang/String;" (.ref t57) ∧ Fld Z h o56 "com/example/tinsel_tally/tinseltally/Figures" "starThreshold" "J" (.long star) ∧ Fld Z h o56 "com/example/tinsel_tally/tinseltally/Figures" "treeThreshold" "J" (.long tree) ∧ Fld Z h o56 "com/example/tinsel_tally/tinseltally/Figures" "santaThreshold" "J" (.long santa) ∧ Exa Z h o72 "java/util/Optional" ∧ Fld Z h o72 "java/util/Optional" "value" "Ljava/lang/Object;" (.ref aTree) ∧ Old Z n0 h ∧ o56 ≠ o72 ∧ h0.size ≤ o72 ∧ n0 ≤ o72) ∨ (∃ (o76 : Addr), v = some (.ref o76) ∧ ¬ (XT.cmpL t santa) < (0 : Int32) ∧ Keep h0 h [o56] ∧ Exa Z h o56 "com/example/tinsel_tally/tinseltally/Figures" ∧ Fld Z h o56 "com/example/tinsel_tally/tinseltally/Figures" "floor" "J" (.long (0 : Int64)) ∧ Fld Z h o56 "com/example/tinsel_tally/tinseltally/Figures" "dDayFirst" "J" (.long (0 : Int64)) ∧ Fld Z h o56 "com/example/tinsel_tally/tinseltally/Figures" "dDayRise" "J" (.long (0 : Int64)) ∧ Fld Z h o56 "com/example/tinsel_tally/tinseltally/Figures" "perDessert" "J" (.long (0 : Int64)) ∧ Fld Z h o56 "com/example/tinsel_tally/tinseltally/Figures" "perMain" "J" (.long (0 : Int64)) ∧ Fld Z h o56 "com/example/tinsel_tally/tinseltally/Figures" "specialDiscount" "J" (.long (0 : Int64)) ∧ Fld Z h o56 "com/example/tinsel_tally/tinseltally/Figures" "giftThreshold" "J" (.long (0 : Int64)) ∧ Fld Z h o56 "com/example/tinsel_tally/tinseltally/Figures" "giftDish" "Ljava/lang/String;" (.ref t57) ∧ Fld Z h o56 "com/example/tinsel_tally/tinseltally/Figures" "starThreshold" "J" (.long star) ∧ Fld Z h o56 "com/example/tinsel_tally/tinseltally/Figures" "treeThreshold" "J" (.long tree) ∧ Fld Z h o56 "com/example/tinsel_tally/tinseltally/Figures" "santaThreshold" "J" (.long santa) ∧ Exa Z h o76 "java/util/Optional" ∧ Fld Z h o76 "java/util/Optional" "value" "Ljava/lang/Object;" (.ref aSanta) ∧ Old Z n0 h ∧ o56 ≠ o76 ∧ h0.size ≤ o76 ∧ n0 ≤ o76)) := by
  refine Met.mk (tabs := tables_1) (a0 := a0) (ls0 := #[.val (.long t), .second, .val (.ref o56), .unset]) (plainFor_of_name pn_com_example_tinsel_tally_tinseltally_Badge) hw Z0 (fun m => by first | (simp [entryFrame, mkF, argsToLocals, Value.category]; done) | rfl) ?_
  intro p e s m below meth c T C X
  have Kp : Keep h0 h0 [o56] := Keep.refl _ _
  refine s_callS 3 [] [] 0 C X d3_0 (List.mem_of_getElem? (i := 45) rfl) (List.mem_of_getElem? (i := 46) rfl) (List.mem_of_getElem? (i := 47) rfl) (List.mem_of_getElem? (i := 48) rfl) (rm_a60 l Z a0 hw aSanta aTree aStar aE _ n0 X.sz Od S_E S_SANTA S_TREE S_STAR) (lenOf pd___Ljava_util_Optional_ rfl) rfl rfl rfl (fun T v hh X q => ?_)
  obtain ⟨rfl, Od, Kc⟩ := q
  have E_o56 := E_o56.keep Kc
  have F_o56_floor := F_o56_floor.keep Kc nin0
  have F_o56_dDayFirst := F_o56_dDayFirst.keep Kc nin0
  have F_o56_dDayRise := F_o56_dDayRise.keep Kc nin0
  have F_o56_perDessert := F_o56_perDessert.keep Kc nin0
  have F_o56_perMain := F_o56_perMain.keep Kc nin0
  have F_o56_specialDiscount := F_o56_specialDiscount.keep Kc nin0
  have F_o56_giftThreshold := F_o56_giftThreshold.keep Kc nin0
  have F_o56_giftDish := F_o56_giftDish.keep Kc nin0
  have F_o56_starThreshold := F_o56_starThreshold.keep Kc nin0
  have F_o56_treeThreshold := F_o56_treeThreshold.keep Kc nin0
  have F_o56_santaThreshold := F_o56_santaThreshold.keep Kc nin0
  have Kp := Kp.trans Kc all0
  refine Run.cast (st' := [(.ref aE)]) rfl ?_
  refine s_astoreN 4 C X (l' := #[.val (.long t), .second, .val (.ref o56), .val (.ref aE)]) d3_3 rfl rfl ?_
  refine s_lloadN 5 C X d3_4 rfl ?_
  refine s_aloadN 6 C X d3_5 rfl rfl ?_
  refine s_callV 9 [] [(.long t)] 2 C X d3_6 (List.mem_of_getElem? (i := 50) rfl) (List.mem_of_getElem? (i := 51) rfl) (notFace_of_selects (args := #[]) (mvT C.2.1 (C.w (List.mem_of_getElem? (i := 53) rfl)))) (List.mem_of_getElem? (i := 53) rfl) (List.mem_of_getElem? (i := 52) rfl) (List.mem_of_getElem? (i := 4) rfl) (List.mem_of_getElem? (i := 54) rfl) E_o56 (rm_a61 l Z a0 hw aSanta aTree aStar aE star tree santa o56 t57 _ n0 X.sz E_o56 F_o56_floor F_o56_dDayFirst F_o56_dDayRise F_o56_perDessert F_o56_perMain F_o56_specialDiscount F_o56_giftThreshold F_o56_giftDish F_o56_starThreshold F_o56_treeThreshold F_o56_santaThreshold Od S_E S_SANTA S_TREE S_STAR g_o56) (lenOf pd___J rfl) rfl rfl rfl (fun T v hh X q => ?_)
  obtain ⟨rfl, E_o56, F_o56_floor, F_o56_dDayFirst, F_o56_dDayRise, F_o56_perDessert, F_o56_perMain, F_o56_specialDiscount, F_o56_giftThreshold, F_o56_giftDish, F_o56_starThreshold, F_o56_treeThreshold, F_o56_santaThreshold, Od, Kc⟩ := q
  have Kp := Kp.trans Kc (allS (Or.inl (by simp)) all0)
  refine Run.cast (st' := [(.long santa), (.long t)]) rfl ?_
  refine s_lcmp 10 C X d3_9 ?_
  refine s_if_lt 23 13 C X d3_10 (fun c10_62 => ?_) (fun c10_62 => ?_)
  · have t_c10_62 : (t).toInt < (santa).toInt := cl_lt.mp c10_62
    refine s_lloadN 24 C X d3_23 rfl ?_
    refine s_aloadN 25 C X d3_24 rfl rfl ?_
    refine s_callV 28 [] [(.long t)] 2 C X d3_25 (List.mem_of_getElem? (i := 81) rfl) (List.mem_of_getElem? (i := 82) rfl) (notFace_of_selects (args := #[]) (mvT C.2.1 (C.w (List.mem_of_getElem? (i := 84) rfl)))) (List.mem_of_getElem? (i := 84) rfl) (List.mem_of_getElem? (i := 83) rfl) (List.mem_of_getElem? (i := 4) rfl) (List.mem_of_getElem? (i := 85) rfl) E_o56 (rm_a63 l Z a0 hw aSanta aTree aStar aE star tree santa o56 t57 _ n0 X.sz E_o56 F_o56_floor F_o56_dDayFirst F_o56_dDayRise F_o56_perDessert F_o56_perMain F_o56_specialDiscount F_o56_giftThreshold F_o56_giftDish F_o56_starThreshold F_o56_treeThreshold F_o56_santaThreshold Od S_E S_SANTA S_TREE S_STAR g_o56) (lenOf pd___J rfl) rfl rfl rfl (fun T v hh X q => ?_)
    obtain ⟨rfl, E_o56, F_o56_floor, F_o56_dDayFirst, F_o56_dDayRise, F_o56_perDessert, F_o56_perMain, F_o56_specialDiscount, F_o56_giftThreshold, F_o56_giftDish, F_o56_starThreshold, F_o56_treeThreshold, F_o56_santaThreshold, Od, Kc⟩ := q
    have Kp := Kp.trans Kc (allS (Or.inl (by simp)) all0)
    refine Run.cast (st' := [(.long tree), (.long t)]) rfl ?_
    refine s_lcmp 29 C X d3_28 ?_
    refine s_if_lt 42 32 C X d3_29 (fun c29_64 => ?_) (fun c29_64 => ?_)
    · have t_c29_64 : (t).toInt < (tree).toInt := cl_lt.mp c29_64
      refine s_lloadN 43 C X d3_42 rfl ?_
      refine s_aloadN 44 C X d3_43 rfl rfl ?_
      refine s_callV 47 [] [(.long t)] 2 C X d3_44 (List.mem_of_getElem? (i := 89) rfl) (List.mem_of_getElem? (i := 90) rfl) (notFace_of_selects (args := #[]) (mvT C.2.1 (C.w (List.mem_of_getElem? (i := 92) rfl)))) (List.mem_of_getElem? (i := 92) rfl) (List.mem_of_getElem? (i := 91) rfl) (List.mem_of_getElem? (i := 4) rfl) (List.mem_of_getElem? (i := 93) rfl) E_o56 (rm_a65 l Z a0 hw aSanta aTree aStar aE star tree santa o56 t57 _ n0 X.sz E_o56 F_o56_floor F_o56_dDayFirst F_o56_dDayRise F_o56_perDessert F_o56_perMain F_o56_specialDiscount F_o56_giftThreshold F_o56_giftDish F_o56_starThreshold F_o56_treeThreshold F_o56_santaThreshold Od S_E S_SANTA S_TREE S_STAR g_o56) (lenOf pd___J rfl) rfl rfl rfl (fun T v hh X q => ?_)
      obtain ⟨rfl, E_o56, F_o56_floor, F_o56_dDayFirst, F_o56_dDayRise, F_o56_perDessert, F_o56_perMain, F_o56_specialDiscount, F_o56_giftThreshold, F_o56_giftDish, F_o56_starThreshold, F_o56_treeThreshold, F_o56_santaThreshold, Od, Kc⟩ := q
      have Kp := Kp.trans Kc (allS (Or.inl (by simp)) all0)
      refine Run.cast (st' := [(.long star), (.long t)]) rfl ?_
      refine s_lcmp 48 C X d3_47 ?_
      refine s_if_lt 58 51 C X d3_48 (fun c48_66 => ?_) (fun c48_66 => ?_)
      · have t_c48_66 : (t).toInt < (star).toInt := cl_lt.mp c48_66
        refine s_aloadN 59 C X d3_58 rfl rfl ?_
        refine s_areturn C X d3_59 rfl rfl rfl ?_
        exact (Or.inl ⟨rfl, c10_62, c29_64, c48_66, Kp, E_o56, F_o56_floor, F_o56_dDayFirst, F_o56_dDayRise, F_o56_perDessert, F_o56_perMain, F_o56_specialDiscount, F_o56_giftThreshold, F_o56_giftDish, F_o56_starThreshold, F_o56_treeThreshold, F_o56_santaThreshold, Od⟩)
      have t_c48_66 : ¬ ((t).toInt < (star).toInt) := fun q => c48_66 (cl_lt.mpr q)
      refine s_getstatic 54 C X (host := "") d3_51 (Or.inl (List.mem_of_getElem? (i := 94) rfl)) Via.refl (S_STAR.ext Od.2) (fun T X => ?_)
      refine s_callS 57 [(.ref aStar)] [] 0 C X d3_54 (List.mem_of_getElem? (i := 57) rfl) (List.mem_of_getElem? (i := 58) rfl) (List.mem_of_getElem? (i := 47) rfl) (List.mem_of_getElem? (i := 59) rfl) (rm_a67 l Z a0 hw aSanta aTree aStar aE _ n0 X.sz Od S_E S_SANTA S_TREE S_STAR) (lenOf pd__Ljava_lang_Object__Ljava_util_Optional_ rfl) rfl rfl rfl (fun T v hh X q => ?_)
      obtain ⟨o68, rfl, Kc, E_o68, F_o68_value, Od, sz_o68', g_o68⟩ := q
      have ne_o56_o68 : o56 ≠ o68 := Nat.ne_of_lt (Nat.lt_of_lt_of_le E_o56.lt sz_o68')
      have sz_o68 : h0.size ≤ o68 := Nat.le_trans Kp.1 sz_o68'
      have Kp := Kp.trans Kc all0
      have E_o56 := E_o56.keep Kc
      have F_o56_floor := F_o56_floor.keep Kc nin0
      have F_o56_dDayFirst := F_o56_dDayFirst.keep Kc nin0
      have F_o56_dDayRise := F_o56_dDayRise.keep Kc nin0
      have F_o56_perDessert := F_o56_perDessert.keep Kc nin0
      have F_o56_perMain := F_o56_perMain.keep Kc nin0
      have F_o56_specialDiscount := F_o56_specialDiscount.keep Kc nin0
      have F_o56_giftThreshold := F_o56_giftThreshold.keep Kc nin0
      have F_o56_giftDish := F_o56_giftDish.keep Kc nin0
      have F_o56_starThreshold := F_o56_starThreshold.keep Kc nin0
      have F_o56_treeThreshold := F_o56_treeThreshold.keep Kc nin0
      have F_o56_santaThreshold := F_o56_santaThreshold.keep Kc nin0
      refine Run.cast (st' := [(.ref o68)]) rfl ?_
      refine s_astoreN 58 C X (l' := #[.val (.long t), .second, .val (.ref o56), .val (.ref o68)]) d3_57 rfl rfl ?_
      refine s_aloadN 59 C X d3_58 rfl rfl ?_
      refine s_areturn C X d3_59 rfl rfl rfl ?_
      exact (Or.inr (Or.inl ⟨o68, rfl, c10_62, c29_64, c48_66, Kp, E_o56, F_o56_floor, F_o56_dDayFirst, F_o56_dDayRise, F_o56_perDessert, F_o56_perMain, F_o56_specialDiscount, F_o56_giftThreshold, F_o56_giftDish, F_o56_starThreshold, F_o56_treeThreshold, F_o56_santaThreshold, E_o68, F_o68_value, Od, ne_o56_o68, sz_o68, g_o68⟩))
    have t_c29_64 : ¬ ((t).toInt < (tree).toInt) := fun q => c29_64 (cl_lt.mpr q)
    refine s_getstatic 35 C X (host := "") d3_32 (Or.inl (List.mem_of_getElem? (i := 86) rfl)) Via.refl (S_TREE.ext Od.2) (fun T X => ?_)
    refine s_callS 38 [(.ref aTree)] [] 0 C X d3_35 (List.mem_of_getElem? (i := 57) rfl) (List.mem_of_getElem? (i := 58) rfl) (List.mem_of_getElem? (i := 47) rfl) (List.mem_of_getElem? (i := 59) rfl) (rm_a71 l Z a0 hw aSanta aTree aStar aE _ n0 X.sz Od S_E S_SANTA S_TREE S_STAR) (lenOf pd__Ljava_lang_Object__Ljava_util_Optional_ rfl) rfl rfl rfl (fun T v hh X q => ?_)
    obtain ⟨o72, rfl, Kc, E_o72, F_o72_value, Od, sz_o72', g_o72⟩ := q
    have ne_o56_o72 : o56 ≠ o72 := Nat.ne_of_lt (Nat.lt_of_lt_of_le E_o56.lt sz_o72')
    have sz_o72 : h0.size ≤ o72 := Nat.le_trans Kp.1 sz_o72'
    have Kp := Kp.trans Kc all0
    have E_o56 := E_o56.keep Kc
    have F_o56_floor := F_o56_floor.keep Kc nin0
    have F_o56_dDayFirst := F_o56_dDayFirst.keep Kc nin0
    have F_o56_dDayRise := F_o56_dDayRise.keep Kc nin0
    have F_o56_perDessert := F_o56_perDessert.keep Kc nin0
    have F_o56_perMain := F_o56_perMain.keep Kc nin0
    have F_o56_specialDiscount := F_o56_specialDiscount.keep Kc nin0
    have F_o56_giftThreshold := F_o56_giftThreshold.keep Kc nin0
    have F_o56_giftDish := F_o56_giftDish.keep Kc nin0
    have F_o56_starThreshold := F_o56_starThreshold.keep Kc nin0
    have F_o56_treeThreshold := F_o56_treeThreshold.keep Kc nin0
    have F_o56_santaThreshold := F_o56_santaThreshold.keep Kc nin0
    refine Run.cast (st' := [(.ref o72)]) rfl ?_
    refine s_astoreN 39 C X (l' := #[.val (.long t), .second, .val (.ref o56), .val (.ref o72)]) d3_38 rfl rfl ?_
    refine s_goto 58 C X d3_39 ?_
    refine s_aloadN 59 C X d3_58 rfl rfl ?_
    refine s_areturn C X d3_59 rfl rfl rfl ?_
    exact (Or.inr (Or.inr (Or.inl ⟨o72, rfl, c10_62, c29_64, Kp, E_o56, F_o56_floor, F_o56_dDayFirst, F_o56_dDayRise, F_o56_perDessert, F_o56_perMain, F_o56_specialDiscount, F_o56_giftThreshold, F_o56_giftDish, F_o56_starThreshold, F_o56_treeThreshold, F_o56_santaThreshold, E_o72, F_o72_value, Od, ne_o56_o72, sz_o72, g_o72⟩)))
  have t_c10_62 : ¬ ((t).toInt < (santa).toInt) := fun q => c10_62 (cl_lt.mpr q)
  refine s_getstatic 16 C X (host := "") d3_13 (Or.inl (List.mem_of_getElem? (i := 55) rfl)) Via.refl (S_SANTA.ext Od.2) (fun T X => ?_)
  refine s_callS 19 [(.ref aSanta)] [] 0 C X d3_16 (List.mem_of_getElem? (i := 57) rfl) (List.mem_of_getElem? (i := 58) rfl) (List.mem_of_getElem? (i := 47) rfl) (List.mem_of_getElem? (i := 59) rfl) (rm_a75 l Z a0 hw aSanta aTree aStar aE _ n0 X.sz Od S_E S_SANTA S_TREE S_STAR) (lenOf pd__Ljava_lang_Object__Ljava_util_Optional_ rfl) rfl rfl rfl (fun T v hh X q => ?_)
  obtain ⟨o76, rfl, Kc, E_o76, F_o76_value, Od, sz_o76', g_o76⟩ := q
  have ne_o56_o76 : o56 ≠ o76 := Nat.ne_of_lt (Nat.lt_of_lt_of_le E_o56.lt sz_o76')
  have sz_o76 : h0.size ≤ o76 := Nat.le_trans Kp.1 sz_o76'
  have Kp := Kp.trans Kc all0
  have E_o56 := E_o56.keep Kc
  have F_o56_floor := F_o56_floor.keep Kc nin0
  have F_o56_dDayFirst := F_o56_dDayFirst.keep Kc nin0
  have F_o56_dDayRise := F_o56_dDayRise.keep Kc nin0
  have F_o56_perDessert := F_o56_perDessert.keep Kc nin0
  have F_o56_perMain := F_o56_perMain.keep Kc nin0
  have F_o56_specialDiscount := F_o56_specialDiscount.keep Kc nin0
  have F_o56_giftThreshold := F_o56_giftThreshold.keep Kc nin0
  have F_o56_giftDish := F_o56_giftDish.keep Kc nin0
  have F_o56_starThreshold := F_o56_starThreshold.keep Kc nin0
  have F_o56_treeThreshold := F_o56_treeThreshold.keep Kc nin0
  have F_o56_santaThreshold := F_o56_santaThreshold.keep Kc nin0
  refine Run.cast (st' := [(.ref o76)]) rfl ?_
  refine s_astoreN 20 C X (l' := #[.val (.long t), .second, .val (.ref o56), .val (.ref o76)]) d3_19 rfl rfl ?_
  refine s_goto 58 C X d3_20 ?_
  refine s_aloadN 59 C X d3_58 rfl rfl ?_
  refine s_areturn C X d3_59 rfl rfl rfl ?_
  exact (Or.inr (Or.inr (Or.inr ⟨o76, rfl, c10_62, Kp, E_o56, F_o56_floor, F_o56_dDayFirst, F_o56_dDayRise, F_o56_perDessert, F_o56_perMain, F_o56_specialDiscount, F_o56_giftThreshold, F_o56_giftDish, F_o56_starThreshold, F_o56_treeThreshold, F_o56_santaThreshold, E_o76, F_o76_value, Od, ne_o56_o76, sz_o76, g_o76⟩)))
set_option maxRecDepth 65536 in
set_option maxHeartbeats 40000000 in
theorem rm_a79 (l : Launch) (Z : State) (a0 : Array Value) (hw : ∀ d ∈ tables_1, d.before a0 Z = true) (aSanta : Addr) (aTree : Addr) (aStar : Addr) (aE : Addr) (h0 : Heap) (n0 : Nat) (Z0 : n0 ≤ h0.size) (E_aE : Exa Z h0 aE "java/util/Optional") (F_aE_value : Fld Z h0 aE "java/util/Optional" "value" "Ljava/lang/Object;" .null) (Od : Old Z n0 h0) (S_E : Sta Z Z.heap "java/util/Optional" "EMPTY" "Ljava/util/Optional;" (.ref aE)) (S_SANTA : Sta Z Z.heap "com/example/tinsel_tally/tinseltally/Badge" "SANTA" "Lcom/example/tinsel_tally/tinseltally/Badge;" (.ref aSanta)) (S_TREE : Sta Z Z.heap "com/example/tinsel_tally/tinseltally/Badge" "TREE" "Lcom/example/tinsel_tally/tinseltally/Badge;" (.ref aTree)) (S_STAR : Sta Z Z.heap "com/example/tinsel_tally/tinseltally/Badge" "STAR" "Lcom/example/tinsel_tally/tinseltally/Badge;" (.ref aStar)) :
    Met l Z (⟨"java/util/Optional", "orElse", "(Ljava/lang/Object;)Ljava/lang/Object;"⟩ : MethodName) jdk_32_method_15_code 2 (some (.object "java/lang/Object")) { frames := 0, cells := 0, slots := 0, locals := 0 } [] #[(.ref aE), .null] h0 n0 (fun v h => v = some .null ∧ Exa Z h aE "java/util/Optional" ∧ Fld Z h aE "java/util/Optional" "value" "Ljava/lang/Object;" .null ∧ Old Z n0 h ∧ Keep h0 h [aE]) := by
  refine Met.mk (tabs := tables_1) (a0 := a0) (ls0 := #[.val (.ref aE), .val .null]) (plainFor_of_name pn_java_util_Optional) hw Z0 (fun m => by first | (simp [entryFrame, mkF, argsToLocals, Value.category]; done) | rfl) ?_
  intro p e s m below meth c T C X
  have Kp : Keep h0 h0 [aE] := Keep.refl _ _
  refine s_aloadN 1 C X d9_0 rfl rfl ?_
  refine s_getfield 4 C X (host := "") d9_1 (Or.inl (List.mem_of_getElem? (i := 71) rfl)) Via.refl F_aE_value (fun T X => ?_)
  refine s_ifnullY 14 C X d9_4 ?_
  refine s_aloadN 15 C X d9_14 rfl rfl ?_
  refine s_areturn C X d9_15 rfl rfl rfl ?_
  exact ⟨rfl, E_aE, F_aE_value, Od, Kp⟩
set_option maxRecDepth 65536 in
set_option maxHeartbeats 40000000 in
theorem rm_a85 (l : Launch) (Z : State) (a0 : Array Value) (hw : ∀ d ∈ tables_1, d.before a0 Z = true) (aSanta : Addr) (aTree : Addr) (aStar : Addr) (aE : Addr) (o68 : Addr) (h0 : Heap) (n0 : Nat) (Z0 : n0 ≤ h0.size) (E_aStar : Exa Z h0 aStar "com/example/tinsel_tally/tinseltally/Badge") (E_o68 : Exa Z h0 o68 "java/util/Optional") (F_o68_value : Fld Z h0 o68 "java/util/Optional" "value" "Ljava/lang/Object;" (.ref aStar)) (Od : Old Z n0 h0) (S_E : Sta Z Z.heap "java/util/Optional" "EMPTY" "Ljava/util/Optional;" (.ref aE)) (S_SANTA : Sta Z Z.heap "com/example/tinsel_tally/tinseltally/Badge" "SANTA" "Lcom/example/tinsel_tally/tinseltally/Badge;" (.ref aSanta)) (S_TREE : Sta Z Z.heap "com/example/tinsel_tally/tinseltally/Badge" "TREE" "Lcom/example/tinsel_tally/tinseltally/Badge;" (.ref aTree)) (S_STAR : Sta Z Z.heap "com/example/tinsel_tally/tinseltally/Badge" "STAR" "Lcom/example/tinsel_tally/tinseltally/Badge;" (.ref aStar)) (ne_aStar_o68 : aStar ≠ o68) (g_o68 : n0 ≤ o68) :
    Met l Z (⟨"java/util/Optional", "orElse", "(Ljava/lang/Object;)Ljava/lang/Object;"⟩ : MethodName) jdk_32_method_15_code 2 (some (.object "java/lang/Object")) { frames := 0, cells := 0, slots := 0, locals := 0 } [] #[(.ref o68), .null] h0 n0 (fun v h => v = some (.ref aStar) ∧ Exa Z h aStar "com/example/tinsel_tally/tinseltally/Badge" ∧ Exa Z h o68 "java/util/Optional" ∧ Fld Z h o68 "java/util/Optional" "value" "Ljava/lang/Object;" (.ref aStar) ∧ Old Z n0 h ∧ Keep h0 h [o68, aStar]) := by
  refine Met.mk (tabs := tables_1) (a0 := a0) (ls0 := #[.val (.ref o68), .val .null]) (plainFor_of_name pn_java_util_Optional) hw Z0 (fun m => by first | (simp [entryFrame, mkF, argsToLocals, Value.category]; done) | rfl) ?_
  intro p e s m below meth c T C X
  have Kp : Keep h0 h0 [o68, aStar] := Keep.refl _ _
  refine s_aloadN 1 C X d9_0 rfl rfl ?_
  refine s_getfield 4 C X (host := "") d9_1 (Or.inl (List.mem_of_getElem? (i := 71) rfl)) Via.refl F_o68_value (fun T X => ?_)
  refine s_ifnullN 7 C X d9_4 ?_
  refine s_aloadN 8 C X d9_7 rfl rfl ?_
  refine s_getfield 11 C X (host := "") d9_8 (Or.inl (List.mem_of_getElem? (i := 71) rfl)) Via.refl F_o68_value (fun T X => ?_)
  refine s_goto 15 C X d9_11 ?_
  refine s_areturn C X d9_15 rfl rfl rfl ?_
  exact ⟨rfl, E_aStar, E_o68, F_o68_value, Od, Kp⟩
set_option maxRecDepth 65536 in
set_option maxHeartbeats 40000000 in
theorem rm_a92 (l : Launch) (Z : State) (a0 : Array Value) (hw : ∀ d ∈ tables_1, d.before a0 Z = true) (aSanta : Addr) (aTree : Addr) (aStar : Addr) (aE : Addr) (o72 : Addr) (h0 : Heap) (n0 : Nat) (Z0 : n0 ≤ h0.size) (E_aTree : Exa Z h0 aTree "com/example/tinsel_tally/tinseltally/Badge") (E_o72 : Exa Z h0 o72 "java/util/Optional") (F_o72_value : Fld Z h0 o72 "java/util/Optional" "value" "Ljava/lang/Object;" (.ref aTree)) (Od : Old Z n0 h0) (S_E : Sta Z Z.heap "java/util/Optional" "EMPTY" "Ljava/util/Optional;" (.ref aE)) (S_SANTA : Sta Z Z.heap "com/example/tinsel_tally/tinseltally/Badge" "SANTA" "Lcom/example/tinsel_tally/tinseltally/Badge;" (.ref aSanta)) (S_TREE : Sta Z Z.heap "com/example/tinsel_tally/tinseltally/Badge" "TREE" "Lcom/example/tinsel_tally/tinseltally/Badge;" (.ref aTree)) (S_STAR : Sta Z Z.heap "com/example/tinsel_tally/tinseltally/Badge" "STAR" "Lcom/example/tinsel_tally/tinseltally/Badge;" (.ref aStar)) (ne_aTree_o72 : aTree ≠ o72) (g_o72 : n0 ≤ o72) :
    Met l Z (⟨"java/util/Optional", "orElse", "(Ljava/lang/Object;)Ljava/lang/Object;"⟩ : MethodName) jdk_32_method_15_code 2 (some (.object "java/lang/Object")) { frames := 0, cells := 0, slots := 0, locals := 0 } [] #[(.ref o72), .null] h0 n0 (fun v h => v = some (.ref aTree) ∧ Exa Z h aTree "com/example/tinsel_tally/tinseltally/Badge" ∧ Exa Z h o72 "java/util/Optional" ∧ Fld Z h o72 "java/util/Optional" "value" "Ljava/lang/Object;" (.ref aTree) ∧ Old Z n0 h ∧ Keep h0 h [o72, aTree]) := by
  refine Met.mk (tabs := tables_1) (a0 := a0) (ls0 := #[.val (.ref o72), .val .null]) (plainFor_of_name pn_java_util_Optional) hw Z0 (fun m => by first | (simp [entryFrame, mkF, argsToLocals, Value.category]; done) | rfl) ?_
  intro p e s m below meth c T C X
  have Kp : Keep h0 h0 [o72, aTree] := Keep.refl _ _
  refine s_aloadN 1 C X d9_0 rfl rfl ?_
  refine s_getfield 4 C X (host := "") d9_1 (Or.inl (List.mem_of_getElem? (i := 71) rfl)) Via.refl F_o72_value (fun T X => ?_)
  refine s_ifnullN 7 C X d9_4 ?_
  refine s_aloadN 8 C X d9_7 rfl rfl ?_
  refine s_getfield 11 C X (host := "") d9_8 (Or.inl (List.mem_of_getElem? (i := 71) rfl)) Via.refl F_o72_value (fun T X => ?_)
  refine s_goto 15 C X d9_11 ?_
  refine s_areturn C X d9_15 rfl rfl rfl ?_
  exact ⟨rfl, E_aTree, E_o72, F_o72_value, Od, Kp⟩
set_option maxRecDepth 65536 in
set_option maxHeartbeats 40000000 in
theorem rm_a100 (l : Launch) (Z : State) (a0 : Array Value) (hw : ∀ d ∈ tables_1, d.before a0 Z = true) (aSanta : Addr) (aTree : Addr) (aStar : Addr) (aE : Addr) (o76 : Addr) (h0 : Heap) (n0 : Nat) (Z0 : n0 ≤ h0.size) (E_aSanta : Exa Z h0 aSanta "com/example/tinsel_tally/tinseltally/Badge") (E_o76 : Exa Z h0 o76 "java/util/Optional") (F_o76_value : Fld Z h0 o76 "java/util/Optional" "value" "Ljava/lang/Object;" (.ref aSanta)) (Od : Old Z n0 h0) (S_E : Sta Z Z.heap "java/util/Optional" "EMPTY" "Ljava/util/Optional;" (.ref aE)) (S_SANTA : Sta Z Z.heap "com/example/tinsel_tally/tinseltally/Badge" "SANTA" "Lcom/example/tinsel_tally/tinseltally/Badge;" (.ref aSanta)) (S_TREE : Sta Z Z.heap "com/example/tinsel_tally/tinseltally/Badge" "TREE" "Lcom/example/tinsel_tally/tinseltally/Badge;" (.ref aTree)) (S_STAR : Sta Z Z.heap "com/example/tinsel_tally/tinseltally/Badge" "STAR" "Lcom/example/tinsel_tally/tinseltally/Badge;" (.ref aStar)) (ne_aSanta_o76 : aSanta ≠ o76) (g_o76 : n0 ≤ o76) :
    Met l Z (⟨"java/util/Optional", "orElse", "(Ljava/lang/Object;)Ljava/lang/Object;"⟩ : MethodName) jdk_32_method_15_code 2 (some (.object "java/lang/Object")) { frames := 0, cells := 0, slots := 0, locals := 0 } [] #[(.ref o76), .null] h0 n0 (fun v h => v = some (.ref aSanta) ∧ Exa Z h aSanta "com/example/tinsel_tally/tinseltally/Badge" ∧ Exa Z h o76 "java/util/Optional" ∧ Fld Z h o76 "java/util/Optional" "value" "Ljava/lang/Object;" (.ref aSanta) ∧ Old Z n0 h ∧ Keep h0 h [o76, aSanta]) := by
  refine Met.mk (tabs := tables_1) (a0 := a0) (ls0 := #[.val (.ref o76), .val .null]) (plainFor_of_name pn_java_util_Optional) hw Z0 (fun m => by first | (simp [entryFrame, mkF, argsToLocals, Value.category]; done) | rfl) ?_
  intro p e s m below meth c T C X
  have Kp : Keep h0 h0 [o76, aSanta] := Keep.refl _ _
  refine s_aloadN 1 C X d9_0 rfl rfl ?_
  refine s_getfield 4 C X (host := "") d9_1 (Or.inl (List.mem_of_getElem? (i := 71) rfl)) Via.refl F_o76_value (fun T X => ?_)
  refine s_ifnullN 7 C X d9_4 ?_
  refine s_aloadN 8 C X d9_7 rfl rfl ?_
  refine s_getfield 11 C X (host := "") d9_8 (Or.inl (List.mem_of_getElem? (i := 71) rfl)) Via.refl F_o76_value (fun T X => ?_)
  refine s_goto 15 C X d9_11 ?_
  refine s_areturn C X d9_15 rfl rfl rfl ?_
  exact ⟨rfl, E_aSanta, E_o76, F_o76_value, Od, Kp⟩
set_option maxRecDepth 65536 in
set_option maxHeartbeats 40000000 in
theorem rm_a110 (l : Launch) (Z : State) (a0 : Array Value) (hw : ∀ d ∈ tables_1, d.before a0 Z = true) (aSanta : Addr) (aTree : Addr) (aStar : Addr) (aE : Addr) (star : Int64) (tree : Int64) (santa : Int64) (t : Int64) (o108 : Addr) (t109 : Addr) (h0 : Heap) (n0 : Nat) (Z0 : n0 ≤ h0.size) (Od : Old Z n0 h0) (S_E : Sta Z Z.heap "java/util/Optional" "EMPTY" "Ljava/util/Optional;" (.ref aE)) (S_SANTA : Sta Z Z.heap "com/example/tinsel_tally/tinseltally/Badge" "SANTA" "Lcom/example/tinsel_tally/tinseltally/Badge;" (.ref aSanta)) (S_TREE : Sta Z Z.heap "com/example/tinsel_tally/tinseltally/Badge" "TREE" "Lcom/example/tinsel_tally/tinseltally/Badge;" (.ref aTree)) (S_STAR : Sta Z Z.heap "com/example/tinsel_tally/tinseltally/Badge" "STAR" "Lcom/example/tinsel_tally/tinseltally/Badge;" (.ref aStar)) (E_o108 : Exa Z h0 o108 "com/example/tinsel_tally/tinseltally/Figures") (F_o108_floor : Fld Z h0 o108 "com/example/tinsel_tally/tinseltally/Figures" "floor" "J" (.long (0 : Int64))) (F_o108_dDayFirst : Fld Z h0 o108 "com/example/tinsel_tally/tinseltally/Figures" "dDayFirst" "J" (.long (0 : Int64))) (F_o108_dDayRise : Fld Z h0 o108 "com/example/tinsel_tally/tinseltally/Figures" "dDayRise" "J" (.long (0 : Int64))) (F_o108_perDessert : Fld Z h0 o108 "com/example/tinsel_tally/tinseltally/Figures" "perDessert" "J" (.long (0 : Int64))) (F_o108_perMain : Fld Z h0 o108 "com/example/tinsel_tally/tinseltally/Figures" "perMain" "J" (.long (0 : Int64))) (F_o108_specialDiscount : Fld Z h0 o108 "com/example/tinsel_tally/tinseltally/Figures" "specialDiscount" "J" (.long (0 : Int64))) (F_o108_giftThreshold : Fld Z h0 o108 "com/example/tinsel_tally/tinseltally/Figures" "giftThreshold" "J" (.long (0 : Int64))) (F_o108_giftDish : Fld Z h0 o108 "com/example/tinsel_tally/tinseltally/Figures" "giftDish" "Ljava/lang/String;" .null) (F_o108_starThreshold : Fld Z h0 o108 "com/example/tinsel_tally/tinseltally/Figures" "starThreshold" "J" (.long (0 : Int64))) (F_o108_treeThreshold : Fld Z h0 o108 "com/example/tinsel_tally/tinseltally/Figures" "treeThreshold" "J" (.long (0 : Int64))) (F_o108_santaThreshold : Fld Z h0 o108 "com/example/tinsel_tally/tinseltally/Figures" "santaThreshold" "J" (.long (0 : Int64))) (g_o108 : n0 ≤ o108) :
    Met l Z (⟨"com/example/tinsel_tally/tinseltally/Figures", "<init>", "(JJJJJJJLjava/lang/String;JJJ)V"⟩ : MethodName) prog_9_method_1_code 22 none { frames := 1, cells := 0, slots := 0, locals := 12 } [] #[(.ref o108), (.long (0 : Int64)), (.long (0 : Int64)), (.long (0 : Int64)), (.long (0 : Int64)), (.long (0 : Int64)), (.long (0 : Int64)), (.long (0 : Int64)), (.ref t109), (.long star), (.long tree), (.long santa)] h0 n0 (fun v h => v = none ∧ Old Z n0 h ∧ Exa Z h o108 "com/example/tinsel_tally/tinseltally/Figures" ∧ Fld Z h o108 "com/example/tinsel_tally/tinseltally/Figures" "floor" "J" (.long (0 : Int64)) ∧ Fld Z h o108 "com/example/tinsel_tally/tinseltally/Figures" "dDayFirst" "J" (.long (0 : Int64)) ∧ Fld Z h o108 "com/example/tinsel_tally/tinseltally/Figures" "dDayRise" "J" (.long (0 : Int64)) ∧ Fld Z h o108 "com/example/tinsel_tally/tinseltally/Figures" "perDessert" "J" (.long (0 : Int64)) ∧ Fld Z h o108 "com/example/tinsel_tally/tinseltally/Figures" "perMain" "J" (.long (0 : Int64)) ∧ Fld Z h o108 "com/example/tinsel_tally/tinseltally/Figures" "specialDiscount" "J" (.long (0 : Int64)) ∧ Fld Z h o108 "com/example/tinsel_tally/tinseltally/Figures" "giftThreshold" "J" (.long (0 : Int64)) ∧ Fld Z h o108 "com/example/tinsel_tally/tinseltally/Figures" "giftDish" "Ljava/lang/String;" (.ref t109) ∧ Fld Z h o108 "com/example/tinsel_tally/tinseltally/Figures" "starThreshold" "J" (.long star) ∧ Fld Z h o108 "com/example/tinsel_tally/tinseltally/Figures" "treeThreshold" "J" (.long tree) ∧ Fld Z h o108 "com/example/tinsel_tally/tinseltally/Figures" "santaThreshold" "J" (.long santa) ∧ Keep h0 h [o108]) := by
  refine Met.mk (tabs := tables_1) (a0 := a0) (ls0 := #[.val (.ref o108), .val (.long (0 : Int64)), .second, .val (.long (0 : Int64)), .second, .val (.long (0 : Int64)), .second, .val (.long (0 : Int64)), .second, .val (.long (0 : Int64)), .second, .val (.long (0 : Int64)), .second, .val (.long (0 : Int64)), .second, .val (.ref t109), .val (.long star), .second, .val (.long tree), .second, .val (.long santa), .second]) (plainFor_of_name pn_com_example_tinsel_tally_tinseltally_Figures) hw Z0 (fun m => by first | (simp [entryFrame, mkF, argsToLocals, Value.category]; done) | rfl) ?_
  intro p e s m below meth c T C X
  have Kp : Keep h0 h0 [o108] := Keep.refl _ _
  refine s_aloadN 1 C X d1_0 rfl rfl ?_
  refine s_objInit 4 C X d1_1 (List.mem_of_getElem? (i := 16) rfl) (List.mem_of_getElem? (i := 17) rfl) (List.mem_of_getElem? (i := 18) rfl) rfl (W := 0) rfl (by decide) (fun T X => ?_)
  refine s_aloadN 5 C X d1_4 rfl rfl ?_
  refine s_lloadN 6 C X d1_5 rfl ?_
  refine s_putfield 9 C X (host := "") d1_6 (Or.inl (List.mem_of_getElem? (i := 19) rfl)) Via.refl F_o108_floor E_o108 (Or.inr ⟨(List.mem_of_getElem? (i := 20) rfl), rfl, rfl⟩) (List.mem_of_getElem? (i := 3) rfl) (ty := .long) (by decide) rfl rfl g_o108 (fun T hh X W => ?_)
  have Od := Od.wr W g_o108
  have E_o108 := E_o108.wr W
  have F_o108_floor := F_o108_floor.same W
  have F_o108_dDayFirst := F_o108_dDayFirst.other W (Or.inr (slot_ne (Or.inr (hw _ (List.mem_of_getElem? (i := 22) rfl))) (Or.inr (hw _ (List.mem_of_getElem? (i := 20) rfl))) (by decide) (t := .long) (t' := .long) (by decide) (by decide)))
  have F_o108_dDayRise := F_o108_dDayRise.other W (Or.inr (slot_ne (Or.inr (hw _ (List.mem_of_getElem? (i := 24) rfl))) (Or.inr (hw _ (List.mem_of_getElem? (i := 20) rfl))) (by decide) (t := .long) (t' := .long) (by decide) (by decide)))
  have F_o108_perDessert := F_o108_perDessert.other W (Or.inr (slot_ne (Or.inr (hw _ (List.mem_of_getElem? (i := 26) rfl))) (Or.inr (hw _ (List.mem_of_getElem? (i := 20) rfl))) (by decide) (t := .long) (t' := .long) (by decide) (by decide)))
  have F_o108_perMain := F_o108_perMain.other W (Or.inr (slot_ne (Or.inr (hw _ (List.mem_of_getElem? (i := 28) rfl))) (Or.inr (hw _ (List.mem_of_getElem? (i := 20) rfl))) (by decide) (t := .long) (t' := .long) (by decide) (by decide)))
  have F_o108_specialDiscount := F_o108_specialDiscount.other W (Or.inr (slot_ne (Or.inr (hw _ (List.mem_of_getElem? (i := 30) rfl))) (Or.inr (hw _ (List.mem_of_getElem? (i := 20) rfl))) (by decide) (t := .long) (t' := .long) (by decide) (by decide)))
  have F_o108_giftThreshold := F_o108_giftThreshold.other W (Or.inr (slot_ne (Or.inr (hw _ (List.mem_of_getElem? (i := 32) rfl))) (Or.inr (hw _ (List.mem_of_getElem? (i := 20) rfl))) (by decide) (t := .long) (t' := .long) (by decide) (by decide)))
  have F_o108_giftDish := F_o108_giftDish.other W (Or.inr (slot_ne (Or.inr (hw _ (List.mem_of_getElem? (i := 34) rfl))) (Or.inr (hw _ (List.mem_of_getElem? (i := 20) rfl))) (by decide) (t := (.object "java/lang/String")) (t' := .long) (by decide) (by decide)))
  have F_o108_starThreshold := F_o108_starThreshold.other W (Or.inr (slot_ne (Or.inr (hw _ (List.mem_of_getElem? (i := 36) rfl))) (Or.inr (hw _ (List.mem_of_getElem? (i := 20) rfl))) (by decide) (t := .long) (t' := .long) (by decide) (by decide)))
  have F_o108_treeThreshold := F_o108_treeThreshold.other W (Or.inr (slot_ne (Or.inr (hw _ (List.mem_of_getElem? (i := 38) rfl))) (Or.inr (hw _ (List.mem_of_getElem? (i := 20) rfl))) (by decide) (t := .long) (t' := .long) (by decide) (by decide)))
  have F_o108_santaThreshold := F_o108_santaThreshold.other W (Or.inr (slot_ne (Or.inr (hw _ (List.mem_of_getElem? (i := 40) rfl))) (Or.inr (hw _ (List.mem_of_getElem? (i := 20) rfl))) (by decide) (t := .long) (t' := .long) (by decide) (by decide)))
  have Kp := Kp.wr W (Or.inl (by simp))
  refine s_aloadN 10 C X d1_9 rfl rfl ?_
  refine s_lloadN 11 C X d1_10 rfl ?_
  refine s_putfield 14 C X (host := "") d1_11 (Or.inl (List.mem_of_getElem? (i := 21) rfl)) Via.refl F_o108_dDayFirst E_o108 (Or.inr ⟨(List.mem_of_getElem? (i := 22) rfl), rfl, rfl⟩) (List.mem_of_getElem? (i := 3) rfl) (ty := .long) (by decide) rfl rfl g_o108 (fun T hh X W => ?_)
  have Od := Od.wr W g_o108
  have E_o108 := E_o108.wr W
  have F_o108_floor := F_o108_floor.other W (Or.inr (slot_ne (Or.inr (hw _ (List.mem_of_getElem? (i := 20) rfl))) (Or.inr (hw _ (List.mem_of_getElem? (i := 22) rfl))) (by decide) (t := .long) (t' := .long) (by decide) (by decide)))
  have F_o108_dDayFirst := F_o108_dDayFirst.same W
  have F_o108_dDayRise := F_o108_dDayRise.other W (Or.inr (slot_ne (Or.inr (hw _ (List.mem_of_getElem? (i := 24) rfl))) (Or.inr (hw _ (List.mem_of_getElem? (i := 22) rfl))) (by decide) (t := .long) (t' := .long) (by decide) (by decide)))
  have F_o108_perDessert := F_o108_perDessert.other W (Or.inr (slot_ne (Or.inr (hw _ (List.mem_of_getElem? (i := 26) rfl))) (Or.inr (hw _ (List.mem_of_getElem? (i := 22) rfl))) (by decide) (t := .long) (t' := .long) (by decide) (by decide)))
  have F_o108_perMain := F_o108_perMain.other W (Or.inr (slot_ne (Or.inr (hw _ (List.mem_of_getElem? (i := 28) rfl))) (Or.inr (hw _ (List.mem_of_getElem? (i := 22) rfl))) (by decide) (t := .long) (t' := .long) (by decide) (by decide)))
  have F_o108_specialDiscount := F_o108_specialDiscount.other W (Or.inr (slot_ne (Or.inr (hw _ (List.mem_of_getElem? (i := 30) rfl))) (Or.inr (hw _ (List.mem_of_getElem? (i := 22) rfl))) (by decide) (t := .long) (t' := .long) (by decide) (by decide)))
  have F_o108_giftThreshold := F_o108_giftThreshold.other W (Or.inr (slot_ne (Or.inr (hw _ (List.mem_of_getElem? (i := 32) rfl))) (Or.inr (hw _ (List.mem_of_getElem? (i := 22) rfl))) (by decide) (t := .long) (t' := .long) (by decide) (by decide)))
  have F_o108_giftDish := F_o108_giftDish.other W (Or.inr (slot_ne (Or.inr (hw _ (List.mem_of_getElem? (i := 34) rfl))) (Or.inr (hw _ (List.mem_of_getElem? (i := 22) rfl))) (by decide) (t := (.object "java/lang/String")) (t' := .long) (by decide) (by decide)))
  have F_o108_starThreshold := F_o108_starThreshold.other W (Or.inr (slot_ne (Or.inr (hw _ (List.mem_of_getElem? (i := 36) rfl))) (Or.inr (hw _ (List.mem_of_getElem? (i := 22) rfl))) (by decide) (t := .long) (t' := .long) (by decide) (by decide)))
  have F_o108_treeThreshold := F_o108_treeThreshold.other W (Or.inr (slot_ne (Or.inr (hw _ (List.mem_of_getElem? (i := 38) rfl))) (Or.inr (hw _ (List.mem_of_getElem? (i := 22) rfl))) (by decide) (t := .long) (t' := .long) (by decide) (by decide)))
  have F_o108_santaThreshold := F_o108_santaThreshold.other W (Or.inr (slot_ne (Or.inr (hw _ (List.mem_of_getElem? (i := 40) rfl))) (Or.inr (hw _ (List.mem_of_getElem? (i := 22) rfl))) (by decide) (t := .long) (t' := .long) (by decide) (by decide)))
  have Kp := Kp.wr W (Or.inl (by simp))
  refine s_aloadN 15 C X d1_14 rfl rfl ?_
  refine s_lload 17 C X d1_15 rfl ?_
  refine s_putfield 20 C X (host := "") d1_17 (Or.inl (List.mem_of_getElem? (i := 23) rfl)) Via.refl F_o108_dDayRise E_o108 (Or.inr ⟨(List.mem_of_getElem? (i := 24) rfl), rfl, rfl⟩) (List.mem_of_getElem? (i := 3) rfl) (ty := .long) (by decide) rfl rfl g_o108 (fun T hh X W => ?_)
  have Od := Od.wr W g_o108
  have E_o108 := E_o108.wr W
  have F_o108_floor := F_o108_floor.other W (Or.inr (slot_ne (Or.inr (hw _ (List.mem_of_getElem? (i := 20) rfl))) (Or.inr (hw _ (List.mem_of_getElem? (i := 24) rfl))) (by decide) (t := .long) (t' := .long) (by decide) (by decide)))
  have F_o108_dDayFirst := F_o108_dDayFirst.other W (Or.inr (slot_ne (Or.inr (hw _ (List.mem_of_getElem? (i := 22) rfl))) (Or.inr (hw _ (List.mem_of_getElem? (i := 24) rfl))) (by decide) (t := .long) (t' := .long) (by decide) (by decide)))
  have F_o108_dDayRise := F_o108_dDayRise.same W
  have F_o108_perDessert := F_o108_perDessert.other W (Or.inr (slot_ne (Or.inr (hw _ (List.mem_of_getElem? (i := 26) rfl))) (Or.inr (hw _ (List.mem_of_getElem? (i := 24) rfl))) (by decide) (t := .long) (t' := .long) (by decide) (by decide)))
  have F_o108_perMain := F_o108_perMain.other W (Or.inr (slot_ne (Or.inr (hw _ (List.mem_of_getElem? (i := 28) rfl))) (Or.inr (hw _ (List.mem_of_getElem? (i := 24) rfl))) (by decide) (t := .long) (t' := .long) (by decide) (by decide)))
  have F_o108_specialDiscount := F_o108_specialDiscount.other W (Or.inr (slot_ne (Or.inr (hw _ (List.mem_of_getElem? (i := 30) rfl))) (Or.inr (hw _ (List.mem_of_getElem? (i := 24) rfl))) (by decide) (t := .long) (t' := .long) (by decide) (by decide)))
  have F_o108_giftThreshold := F_o108_giftThreshold.other W (Or.inr (slot_ne (Or.inr (hw _ (List.mem_of_getElem? (i := 32) rfl))) (Or.inr (hw _ (List.mem_of_getElem? (i := 24) rfl))) (by decide) (t := .long) (t' := .long) (by decide) (by decide)))
  have F_o108_giftDish := F_o108_giftDish.other W (Or.inr (slot_ne (Or.inr (hw _ (List.mem_of_getElem? (i := 34) rfl))) (Or.inr (hw _ (List.mem_of_getElem? (i := 24) rfl))) (by decide) (t := (.object "java/lang/String")) (t' := .long) (by decide) (by decide)))
  have F_o108_starThreshold := F_o108_starThreshold.other W (Or.inr (slot_ne (Or.inr (hw _ (List.mem_of_getElem? (i := 36) rfl))) (Or.inr (hw _ (List.mem_of_getElem? (i := 24) rfl))) (by decide) (t := .long) (t' := .long) (by decide) (by decide)))
  have F_o108_treeThreshold := F_o108_treeThreshold.other W (Or.inr (slot_ne (Or.inr (hw _ (List.mem_of_getElem? (i := 38) rfl))) (Or.inr (hw _ (List.mem_of_getElem? (i := 24) rfl))) (by decide) (t := .long) (t' := .long) (by decide) (by decide)))
  have F_o108_santaThreshold := F_o108_santaThreshold.other W (Or.inr (slot_ne (Or.inr (hw _ (List.mem_of_getElem? (i := 40) rfl))) (Or.inr (hw _ (List.mem_of_getElem? (i := 24) rfl))) (by decide) (t := .long) (t' := .long) (by decide) (by decide)))
  have Kp := Kp.wr W (Or.inl (by simp))
  refine s_aloadN 21 C X d1_20 rfl rfl ?_
  refine s_lload 23 C X d1_21 rfl ?_
  refine s_putfield 26 C X (host := "") d1_23 (Or.inl (List.mem_of_getElem? (i := 25) rfl)) Via.refl F_o108_perDessert E_o108 (Or.inr ⟨(List.mem_of_getElem? (i := 26) rfl), rfl, rfl⟩) (List.mem_of_getElem? (i := 3) rfl) (ty := .long) (by decide) rfl rfl g_o108 (fun T hh X W => ?_)
  have Od := Od.wr W g_o108
  have E_o108 := E_o108.wr W
  have F_o108_floor := F_o108_floor.other W (Or.inr (slot_ne (Or.inr (hw _ (List.mem_of_getElem? (i := 20) rfl))) (Or.inr (hw _ (List.mem_of_getElem? (i := 26) rfl))) (by decide) (t := .long) (t' := .long) (by decide) (by decide)))
  have F_o108_dDayFirst := F_o108_dDayFirst.other W (Or.inr (slot_ne (Or.inr (hw _ (List.mem_of_getElem? (i := 22) rfl))) (Or.inr (hw _ (List.mem_of_getElem? (i := 26) rfl))) (by decide) (t := .long) (t' := .long) (by decide) (by decide)))
  have F_o108_dDayRise := F_o108_dDayRise.other W (Or.inr (slot_ne (Or.inr (hw _ (List.mem_of_getElem? (i := 24) rfl))) (Or.inr (hw _ (List.mem_of_getElem? (i := 26) rfl))) (by decide) (t := .long) (t' := .long) (by decide) (by decide)))
  have F_o108_perDessert := F_o108_perDessert.same W
  have F_o108_perMain := F_o108_perMain.other W (Or.inr (slot_ne (Or.inr (hw _ (List.mem_of_getElem? (i := 28) rfl))) (Or.inr (hw _ (List.mem_of_getElem? (i := 26) rfl))) (by decide) (t := .long) (t' := .long) (by decide) (by decide)))
  have F_o108_specialDiscount := F_o108_specialDiscount.other W (Or.inr (slot_ne (Or.inr (hw _ (List.mem_of_getElem? (i := 30) rfl))) (Or.inr (hw _ (List.mem_of_getElem? (i := 26) rfl))) (by decide) (t := .long) (t' := .long) (by decide) (by decide)))
  have F_o108_giftThreshold := F_o108_giftThreshold.other W (Or.inr (slot_ne (Or.inr (hw _ (List.mem_of_getElem? (i := 32) rfl))) (Or.inr (hw _ (List.mem_of_getElem? (i := 26) rfl))) (by decide) (t := .long) (t' := .long) (by decide) (by decide)))
  have F_o108_giftDish := F_o108_giftDish.other W (Or.inr (slot_ne (Or.inr (hw _ (List.mem_of_getElem? (i := 34) rfl))) (Or.inr (hw _ (List.mem_of_getElem? (i := 26) rfl))) (by decide) (t := (.object "java/lang/String")) (t' := .long) (by decide) (by decide)))
  have F_o108_starThreshold := F_o108_starThreshold.other W (Or.inr (slot_ne (Or.inr (hw _ (List.mem_of_getElem? (i := 36) rfl))) (Or.inr (hw _ (List.mem_of_getElem? (i := 26) rfl))) (by decide) (t := .long) (t' := .long) (by decide) (by decide)))
  have F_o108_treeThreshold := F_o108_treeThreshold.other W (Or.inr (slot_ne (Or.inr (hw _ (List.mem_of_getElem? (i := 38) rfl))) (Or.inr (hw _ (List.mem_of_getElem? (i := 26) rfl))) (by decide) (t := .long) (t' := .long) (by decide) (by decide)))
  have F_o108_santaThreshold := F_o108_santaThreshold.other W (Or.inr (slot_ne (Or.inr (hw _ (List.mem_of_getElem? (i := 40) rfl))) (Or.inr (hw _ (List.mem_of_getElem? (i := 26) rfl))) (by decide) (t := .long) (t' := .long) (by decide) (by decide)))
  have Kp := Kp.wr W (Or.inl (by simp))
  refine s_aloadN 27 C X d1_26 rfl rfl ?_
  refine s_lload 29 C X d1_27 rfl ?_
  refine s_putfield 32 C X (host := "") d1_29 (Or.inl (List.mem_of_getElem? (i := 27) rfl)) Via.refl F_o108_perMain E_o108 (Or.inr ⟨(List.mem_of_getElem? (i := 28) rfl), rfl, rfl⟩) (List.mem_of_getElem? (i := 3) rfl) (ty := .long) (by decide) rfl rfl g_o108 (fun T hh X W => ?_)
  have Od := Od.wr W g_o108
  have E_o108 := E_o108.wr W
  have F_o108_floor := F_o108_floor.other W (Or.inr (slot_ne (Or.inr (hw _ (List.mem_of_getElem? (i := 20) rfl))) (Or.inr (hw _ (List.mem_of_getElem? (i := 28) rfl))) (by decide) (t := .long) (t' := .long) (by decide) (by decide)))
  have F_o108_dDayFirst := F_o108_dDayFirst.other W (Or.inr (slot_ne (Or.inr (hw _ (List.mem_of_getElem? (i := 22) rfl))) (Or.inr (hw _ (List.mem_of_getElem? (i := 28) rfl))) (by decide) (t := .long) (t' := .long) (by decide) (by decide)))
  have F_o108_dDayRise := F_o108_dDayRise.other W (Or.inr (slot_ne (Or.inr (hw _ (List.mem_of_getElem? (i := 24) rfl))) (Or.inr (hw _ (List.mem_of_getElem? (i := 28) rfl))) (by decide) (t := .long) (t' := .long) (by decide) (by decide)))
  have F_o108_perDessert := F_o108_perDessert.other W (Or.inr (slot_ne (Or.inr (hw _ (List.mem_of_getElem? (i := 26) rfl))) (Or.inr (hw _ (List.mem_of_getElem? (i := 28) rfl))) (by decide) (t := .long) (t' := .long) (by decide) (by decide)))
  have F_o108_perMain := F_o108_perMain.same W
  have F_o108_specialDiscount := F_o108_specialDiscount.other W (Or.inr (slot_ne (Or.inr (hw _ (List.mem_of_getElem? (i := 30) rfl))) (Or.inr (hw _ (List.mem_of_getElem? (i := 28) rfl))) (by decide) (t := .long) (t' := .long) (by decide) (by decide)))
  have F_o108_giftThreshold := F_o108_giftThreshold.other W (Or.inr (slot_ne (Or.inr (hw _ (List.mem_of_getElem? (i := 32) rfl))) (Or.inr (hw _ (List.mem_of_getElem? (i := 28) rfl))) (by decide) (t := .long) (t' := .long) (by decide) (by decide)))
  have F_o108_giftDish := F_o108_giftDish.other W (Or.inr (slot_ne (Or.inr (hw _ (List.mem_of_getElem? (i := 34) rfl))) (Or.inr (hw _ (List.mem_of_getElem? (i := 28) rfl))) (by decide) (t := (.object "java/lang/String")) (t' := .long) (by decide) (by decide)))
  have F_o108_starThreshold := F_o108_starThreshold.other W (Or.inr (slot_ne (Or.inr (hw _ (List.mem_of_getElem? (i := 36) rfl))) (Or.inr (hw _ (List.mem_of_getElem? (i := 28) rfl))) (by decide) (t := .long) (t' := .long) (by decide) (by decide)))
  have F_o108_treeThreshold := F_o108_treeThreshold.other W (Or.inr (slot_ne (Or.inr (hw _ (List.mem_of_getElem? (i := 38) rfl))) (Or.inr (hw _ (List.mem_of_getElem? (i := 28) rfl))) (by decide) (t := .long) (t' := .long) (by decide) (by decide)))
  have F_o108_santaThreshold := F_o108_santaThreshold.other W (Or.inr (slot_ne (Or.inr (hw _ (List.mem_of_getElem? (i := 40) rfl))) (Or.inr (hw _ (List.mem_of_getElem? (i := 28) rfl))) (by decide) (t := .long) (t' := .long) (by decide) (by decide)))
  have Kp := Kp.wr W (Or.inl (by simp))
  refine s_aloadN 33 C X d1_32 rfl rfl ?_
  refine s_lload 35 C X d1_33 rfl ?_
  refine s_putfield 38 C X (host := "") d1_35 (Or.inl (List.mem_of_getElem? (i := 29) rfl)) Via.refl F_o108_specialDiscount E_o108 (Or.inr ⟨(List.mem_of_getElem? (i := 30) rfl), rfl, rfl⟩) (List.mem_of_getElem? (i := 3) rfl) (ty := .long) (by decide) rfl rfl g_o108 (fun T hh X W => ?_)
  have Od := Od.wr W g_o108
  have E_o108 := E_o108.wr W
  have F_o108_floor := F_o108_floor.other W (Or.inr (slot_ne (Or.inr (hw _ (List.mem_of_getElem? (i := 20) rfl))) (Or.inr (hw _ (List.mem_of_getElem? (i := 30) rfl))) (by decide) (t := .long) (t' := .long) (by decide) (by decide)))
  have F_o108_dDayFirst := F_o108_dDayFirst.other W (Or.inr (slot_ne (Or.inr (hw _ (List.mem_of_getElem? (i := 22) rfl))) (Or.inr (hw _ (List.mem_of_getElem? (i := 30) rfl))) (by decide) (t := .long) (t' := .long) (by decide) (by decide)))
  have F_o108_dDayRise := F_o108_dDayRise.other W (Or.inr (slot_ne (Or.inr (hw _ (List.mem_of_getElem? (i := 24) rfl))) (Or.inr (hw _ (List.mem_of_getElem? (i := 30) rfl))) (by decide) (t := .long) (t' := .long) (by decide) (by decide)))
  have F_o108_perDessert := F_o108_perDessert.other W (Or.inr (slot_ne (Or.inr (hw _ (List.mem_of_getElem? (i := 26) rfl))) (Or.inr (hw _ (List.mem_of_getElem? (i := 30) rfl))) (by decide) (t := .long) (t' := .long) (by decide) (by decide)))
  have F_o108_perMain := F_o108_perMain.other W (Or.inr (slot_ne (Or.inr (hw _ (List.mem_of_getElem? (i := 28) rfl))) (Or.inr (hw _ (List.mem_of_getElem? (i := 30) rfl))) (by decide) (t := .long) (t' := .long) (by decide) (by decide)))
  have F_o108_specialDiscount := F_o108_specialDiscount.same W
  have F_o108_giftThreshold := F_o108_giftThreshold.other W (Or.inr (slot_ne (Or.inr (hw _ (List.mem_of_getElem? (i := 32) rfl))) (Or.inr (hw _ (List.mem_of_getElem? (i := 30) rfl))) (by decide) (t := .long) (t' := .long) (by decide) (by decide)))
  have F_o108_giftDish := F_o108_giftDish.other W (Or.inr (slot_ne (Or.inr (hw _ (List.mem_of_getElem? (i := 34) rfl))) (Or.inr (hw _ (List.mem_of_getElem? (i := 30) rfl))) (by decide) (t := (.object "java/lang/String")) (t' := .long) (by decide) (by decide)))
  have F_o108_starThreshold := F_o108_starThreshold.other W (Or.inr (slot_ne (Or.inr (hw _ (List.mem_of_getElem? (i := 36) rfl))) (Or.inr (hw _ (List.mem_of_getElem? (i := 30) rfl))) (by decide) (t := .long) (t' := .long) (by decide) (by decide)))
  have F_o108_treeThreshold := F_o108_treeThreshold.other W (Or.inr (slot_ne (Or.inr (hw _ (List.mem_of_getElem? (i := 38) rfl))) (Or.inr (hw _ (List.mem_of_getElem? (i := 30) rfl))) (by decide) (t := .long) (t' := .long) (by decide) (by decide)))
  have F_o108_santaThreshold := F_o108_santaThreshold.other W (Or.inr (slot_ne (Or.inr (hw _ (List.mem_of_getElem? (i := 40) rfl))) (Or.inr (hw _ (List.mem_of_getElem? (i := 30) rfl))) (by decide) (t := .long) (t' := .long) (by decide) (by decide)))
  have Kp := Kp.wr W (Or.inl (by simp))
  refine s_aloadN 39 C X d1_38 rfl rfl ?_
  refine s_lload 41 C X d1_39 rfl ?_
  refine s_putfield 44 C X (host := "") d1_41 (Or.inl (List.mem_of_getElem? (i := 31) rfl)) Via.refl F_o108_giftThreshold E_o108 (Or.inr ⟨(List.mem_of_getElem? (i := 32) rfl), rfl, rfl⟩) (List.mem_of_getElem? (i := 3) rfl) (ty := .long) (by decide) rfl rfl g_o108 (fun T hh X W => ?_)
  have Od := Od.wr W g_o108
  have E_o108 := E_o108.wr W
  have F_o108_floor := F_o108_floor.other W (Or.inr (slot_ne (Or.inr (hw _ (List.mem_of_getElem? (i := 20) rfl))) (Or.inr (hw _ (List.mem_of_getElem? (i := 32) rfl))) (by decide) (t := .long) (t' := .long) (by decide) (by decide)))
  have F_o108_dDayFirst := F_o108_dDayFirst.other W (Or.inr (slot_ne (Or.inr (hw _ (List.mem_of_getElem? (i := 22) rfl))) (Or.inr (hw _ (List.mem_of_getElem? (i := 32) rfl))) (by decide) (t := .long) (t' := .long) (by decide) (by decide)))
  have F_o108_dDayRise := F_o108_dDayRise.other W (Or.inr (slot_ne (Or.inr (hw _ (List.mem_of_getElem? (i := 24) rfl))) (Or.inr (hw _ (List.mem_of_getElem? (i := 32) rfl))) (by decide) (t := .long) (t' := .long) (by decide) (by decide)))
  have F_o108_perDessert := F_o108_perDessert.other W (Or.inr (slot_ne (Or.inr (hw _ (List.mem_of_getElem? (i := 26) rfl))) (Or.inr (hw _ (List.mem_of_getElem? (i := 32) rfl))) (by decide) (t := .long) (t' := .long) (by decide) (by decide)))
  have F_o108_perMain := F_o108_perMain.other W (Or.inr (slot_ne (Or.inr (hw _ (List.mem_of_getElem? (i := 28) rfl))) (Or.inr (hw _ (List.mem_of_getElem? (i := 32) rfl))) (by decide) (t := .long) (t' := .long) (by decide) (by decide)))
  have F_o108_specialDiscount := F_o108_specialDiscount.other W (Or.inr (slot_ne (Or.inr (hw _ (List.mem_of_getElem? (i := 30) rfl))) (Or.inr (hw _ (List.mem_of_getElem? (i := 32) rfl))) (by decide) (t := .long) (t' := .long) (by decide) (by decide)))
  have F_o108_giftThreshold := F_o108_giftThreshold.same W
  have F_o108_giftDish := F_o108_giftDish.other W (Or.inr (slot_ne (Or.inr (hw _ (List.mem_of_getElem? (i := 34) rfl))) (Or.inr (hw _ (List.mem_of_getElem? (i := 32) rfl))) (by decide) (t := (.object "java/lang/String")) (t' := .long) (by decide) (by decide)))
  have F_o108_starThreshold := F_o108_starThreshold.other W (Or.inr (slot_ne (Or.inr (hw _ (List.mem_of_getElem? (i := 36) rfl))) (Or.inr (hw _ (List.mem_of_getElem? (i := 32) rfl))) (by decide) (t := .long) (t' := .long) (by decide) (by decide)))
  have F_o108_treeThreshold := F_o108_treeThreshold.other W (Or.inr (slot_ne (Or.inr (hw _ (List.mem_of_getElem? (i := 38) rfl))) (Or.inr (hw _ (List.mem_of_getElem? (i := 32) rfl))) (by decide) (t := .long) (t' := .long) (by decide) (by decide)))
  have F_o108_santaThreshold := F_o108_santaThreshold.other W (Or.inr (slot_ne (Or.inr (hw _ (List.mem_of_getElem? (i := 40) rfl))) (Or.inr (hw _ (List.mem_of_getElem? (i := 32) rfl))) (by decide) (t := .long) (t' := .long) (by decide) (by decide)))
  have Kp := Kp.wr W (Or.inl (by simp))
  refine s_aloadN 45 C X d1_44 rfl rfl ?_
  refine s_aload 47 C X d1_45 rfl rfl ?_
  refine s_putfield 50 C X (host := "") d1_47 (Or.inl (List.mem_of_getElem? (i := 33) rfl)) Via.refl F_o108_giftDish E_o108 (Or.inr ⟨(List.mem_of_getElem? (i := 34) rfl), rfl, rfl⟩) (List.mem_of_getElem? (i := 3) rfl) (ty := (.object "java/lang/String")) (by decide) rfl rfl g_o108 (fun T hh X W => ?_)
  have Od := Od.wr W g_o108
  have E_o108 := E_o108.wr W
  have F_o108_floor := F_o108_floor.other W (Or.inr (slot_ne (Or.inr (hw _ (List.mem_of_getElem? (i := 20) rfl))) (Or.inr (hw _ (List.mem_of_getElem? (i := 34) rfl))) (by decide) (t := .long) (t' := (.object "java/lang/String")) (by decide) (by decide)))
  have F_o108_dDayFirst := F_o108_dDayFirst.other W (Or.inr (slot_ne (Or.inr (hw _ (List.mem_of_getElem? (i := 22) rfl))) (Or.inr (hw _ (List.mem_of_getElem? (i := 34) rfl))) (by decide) (t := .long) (t' := (.object "java/lang/String")) (by decide) (by decide)))
  have F_o108_dDayRise := F_o108_dDayRise.other W (Or.inr (slot_ne (Or.inr (hw _ (List.mem_of_getElem? (i := 24) rfl))) (Or.inr (hw _ (List.mem_of_getElem? (i := 34) rfl))) (by decide) (t := .long) (t' := (.object "java/lang/String")) (by decide) (by decide)))
  have F_o108_perDessert := F_o108_perDessert.other W (Or.inr (slot_ne (Or.inr (hw _ (List.mem_of_getElem? (i := 26) rfl))) (Or.inr (hw _ (List.mem_of_getElem? (i := 34) rfl))) (by decide) (t := .long) (t' := (.object "java/lang/String")) (by decide) (by decide)))
  have F_o108_perMain := F_o108_perMain.other W (Or.inr (slot_ne (Or.inr (hw _ (List.mem_of_getElem? (i := 28) rfl))) (Or.inr (hw _ (List.mem_of_getElem? (i := 34) rfl))) (by decide) (t := .long) (t' := (.object "java/lang/String")) (by decide) (by decide)))
  have F_o108_specialDiscount := F_o108_specialDiscount.other W (Or.inr (slot_ne (Or.inr (hw _ (List.mem_of_getElem? (i := 30) rfl))) (Or.inr (hw _ (List.mem_of_getElem? (i := 34) rfl))) (by decide) (t := .long) (t' := (.object "java/lang/String")) (by decide) (by decide)))
  have F_o108_giftThreshold := F_o108_giftThreshold.other W (Or.inr (slot_ne (Or.inr (hw _ (List.mem_of_getElem? (i := 32) rfl))) (Or.inr (hw _ (List.mem_of_getElem? (i := 34) rfl))) (by decide) (t := .long) (t' := (.object "java/lang/String")) (by decide) (by decide)))
  have F_o108_giftDish := F_o108_giftDish.same W
  have F_o108_starThreshold := F_o108_starThreshold.other W (Or.inr (slot_ne (Or.inr (hw _ (List.mem_of_getElem? (i := 36) rfl))) (Or.inr (hw _ (List.mem_of_getElem? (i := 34) rfl))) (by decide) (t := .long) (t' := (.object "java/lang/String")) (by decide) (by decide)))
  have F_o108_treeThreshold := F_o108_treeThreshold.other W (Or.inr (slot_ne (Or.inr (hw _ (List.mem_of_getElem? (i := 38) rfl))) (Or.inr (hw _ (List.mem_of_getElem? (i := 34) rfl))) (by decide) (t := .long) (t' := (.object "java/lang/String")) (by decide) (by decide)))
  have F_o108_santaThreshold := F_o108_santaThreshold.other W (Or.inr (slot_ne (Or.inr (hw _ (List.mem_of_getElem? (i := 40) rfl))) (Or.inr (hw _ (List.mem_of_getElem? (i := 34) rfl))) (by decide) (t := .long) (t' := (.object "java/lang/String")) (by decide) (by decide)))
  have Kp := Kp.wr W (Or.inl (by simp))
  refine s_aloadN 51 C X d1_50 rfl rfl ?_
  refine s_lload 53 C X d1_51 rfl ?_
  refine s_putfield 56 C X (host := "") d1_53 (Or.inl (List.mem_of_getElem? (i := 35) rfl)) Via.refl F_o108_starThreshold E_o108 (Or.inr ⟨(List.mem_of_getElem? (i := 36) rfl), rfl, rfl⟩) (List.mem_of_getElem? (i := 3) rfl) (ty := .long) (by decide) rfl rfl g_o108 (fun T hh X W => ?_)
  have Od := Od.wr W g_o108
  have E_o108 := E_o108.wr W
  have F_o108_floor := F_o108_floor.other W (Or.inr (slot_ne (Or.inr (hw _ (List.mem_of_getElem? (i := 20) rfl))) (Or.inr (hw _ (List.mem_of_getElem? (i := 36) rfl))) (by decide) (t := .long) (t' := .long) (by decide) (by decide)))
  have F_o108_dDayFirst := F_o108_dDayFirst.other W (Or.inr (slot_ne (Or.inr (hw _ (List.mem_of_getElem? (i := 22) rfl))) (Or.inr (hw _ (List.mem_of_getElem? (i := 36) rfl))) (by decide) (t := .long) (t' := .long) (by decide) (by decide)))
  have F_o108_dDayRise := F_o108_dDayRise.other W (Or.inr (slot_ne (Or.inr (hw _ (List.mem_of_getElem? (i := 24) rfl))) (Or.inr (hw _ (List.mem_of_getElem? (i := 36) rfl))) (by decide) (t := .long) (t' := .long) (by decide) (by decide)))
  have F_o108_perDessert := F_o108_perDessert.other W (Or.inr (slot_ne (Or.inr (hw _ (List.mem_of_getElem? (i := 26) rfl))) (Or.inr (hw _ (List.mem_of_getElem? (i := 36) rfl))) (by decide) (t := .long) (t' := .long) (by decide) (by decide)))
  have F_o108_perMain := F_o108_perMain.other W (Or.inr (slot_ne (Or.inr (hw _ (List.mem_of_getElem? (i := 28) rfl))) (Or.inr (hw _ (List.mem_of_getElem? (i := 36) rfl))) (by decide) (t := .long) (t' := .long) (by decide) (by decide)))
  have F_o108_specialDiscount := F_o108_specialDiscount.other W (Or.inr (slot_ne (Or.inr (hw _ (List.mem_of_getElem? (i := 30) rfl))) (Or.inr (hw _ (List.mem_of_getElem? (i := 36) rfl))) (by decide) (t := .long) (t' := .long) (by decide) (by decide)))
  have F_o108_giftThreshold := F_o108_giftThreshold.other W (Or.inr (slot_ne (Or.inr (hw _ (List.mem_of_getElem? (i := 32) rfl))) (Or.inr (hw _ (List.mem_of_getElem? (i := 36) rfl))) (by decide) (t := .long) (t' := .long) (by decide) (by decide)))
  have F_o108_giftDish := F_o108_giftDish.other W (Or.inr (slot_ne (Or.inr (hw _ (List.mem_of_getElem? (i := 34) rfl))) (Or.inr (hw _ (List.mem_of_getElem? (i := 36) rfl))) (by decide) (t := (.object "java/lang/String")) (t' := .long) (by decide) (by decide)))
  have F_o108_starThreshold := F_o108_starThreshold.same W
  have F_o108_treeThreshold := F_o108_treeThreshold.other W (Or.inr (slot_ne (Or.inr (hw _ (List.mem_of_getElem? (i := 38) rfl))) (Or.inr (hw _ (List.mem_of_getElem? (i := 36) rfl))) (by decide) (t := .long) (t' := .long) (by decide) (by decide)))
  have F_o108_santaThreshold := F_o108_santaThreshold.other W (Or.inr (slot_ne (Or.inr (hw _ (List.mem_of_getElem? (i := 40) rfl))) (Or.inr (hw _ (List.mem_of_getElem? (i := 36) rfl))) (by decide) (t := .long) (t' := .long) (by decide) (by decide)))
  have Kp := Kp.wr W (Or.inl (by simp))
  refine s_aloadN 57 C X d1_56 rfl rfl ?_
  refine s_lload 59 C X d1_57 rfl ?_
  refine s_putfield 62 C X (host := "") d1_59 (Or.inl (List.mem_of_getElem? (i := 37) rfl)) Via.refl F_o108_treeThreshold E_o108 (Or.inr ⟨(List.mem_of_getElem? (i := 38) rfl), rfl, rfl⟩) (List.mem_of_getElem? (i := 3) rfl) (ty := .long) (by decide) rfl rfl g_o108 (fun T hh X W => ?_)
  have Od := Od.wr W g_o108
  have E_o108 := E_o108.wr W
  have F_o108_floor := F_o108_floor.other W (Or.inr (slot_ne (Or.inr (hw _ (List.mem_of_getElem? (i := 20) rfl))) (Or.inr (hw _ (List.mem_of_getElem? (i := 38) rfl))) (by decide) (t := .long) (t' := .long) (by decide) (by decide)))
  have F_o108_dDayFirst := F_o108_dDayFirst.other W (Or.inr (slot_ne (Or.inr (hw _ (List.mem_of_getElem? (i := 22) rfl))) (Or.inr (hw _ (List.mem_of_getElem? (i := 38) rfl))) (by decide) (t := .long) (t' := .long) (by decide) (by decide)))
  have F_o108_dDayRise := F_o108_dDayRise.other W (Or.inr (slot_ne (Or.inr (hw _ (List.mem_of_getElem? (i := 24) rfl))) (Or.inr (hw _ (List.mem_of_getElem? (i := 38) rfl))) (by decide) (t := .long) (t' := .long) (by decide) (by decide)))
  have F_o108_perDessert := F_o108_perDessert.other W (Or.inr (slot_ne (Or.inr (hw _ (List.mem_of_getElem? (i := 26) rfl))) (Or.inr (hw _ (List.mem_of_getElem? (i := 38) rfl))) (by decide) (t := .long) (t' := .long) (by decide) (by decide)))
  have F_o108_perMain := F_o108_perMain.other W (Or.inr (slot_ne (Or.inr (hw _ (List.mem_of_getElem? (i := 28) rfl))) (Or.inr (hw _ (List.mem_of_getElem? (i := 38) rfl))) (by decide) (t := .long) (t' := .long) (by decide) (by decide)))
  have F_o108_specialDiscount := F_o108_specialDiscount.other W (Or.inr (slot_ne (Or.inr (hw _ (List.mem_of_getElem? (i := 30) rfl))) (Or.inr (hw _ (List.mem_of_getElem? (i := 38) rfl))) (by decide) (t := .long) (t' := .long) (by decide) (by decide)))
  have F_o108_giftThreshold := F_o108_giftThreshold.other W (Or.inr (slot_ne (Or.inr (hw _ (List.mem_of_getElem? (i := 32) rfl))) (Or.inr (hw _ (List.mem_of_getElem? (i := 38) rfl))) (by decide) (t := .long) (t' := .long) (by decide) (by decide)))
  have F_o108_giftDish := F_o108_giftDish.other W (Or.inr (slot_ne (Or.inr (hw _ (List.mem_of_getElem? (i := 34) rfl))) (Or.inr (hw _ (List.mem_of_getElem? (i := 38) rfl))) (by decide) (t := (.object "java/lang/String")) (t' := .long) (by decide) (by decide)))
  have F_o108_starThreshold := F_o108_starThreshold.other W (Or.inr (slot_ne (Or.inr (hw _ (List.mem_of_getElem? (i := 36) rfl))) (Or.inr (hw _ (List.mem_of_getElem? (i := 38) rfl))) (by decide) (t := .long) (t' := .long) (by decide) (by decide)))
  have F_o108_treeThreshold := F_o108_treeThreshold.same W
  have F_o108_santaThreshold := F_o108_santaThreshold.other W (Or.inr (slot_ne (Or.inr (hw _ (List.mem_of_getElem? (i := 40) rfl))) (Or.inr (hw _ (List.mem_of_getElem? (i := 38) rfl))) (by decide) (t := .long) (t' := .long) (by decide) (by decide)))
  have Kp := Kp.wr W (Or.inl (by simp))
  refine s_aloadN 63 C X d1_62 rfl rfl ?_
  refine s_lload 65 C X d1_63 rfl ?_
  refine s_putfield 68 C X (host := "") d1_65 (Or.inl (List.mem_of_getElem? (i := 39) rfl)) Via.refl F_o108_santaThreshold E_o108 (Or.inr ⟨(List.mem_of_getElem? (i := 40) rfl), rfl, rfl⟩) (List.mem_of_getElem? (i := 3) rfl) (ty := .long) (by decide) rfl rfl g_o108 (fun T hh X W => ?_)
  have Od := Od.wr W g_o108
  have E_o108 := E_o108.wr W
  have F_o108_floor := F_o108_floor.other W (Or.inr (slot_ne (Or.inr (hw _ (List.mem_of_getElem? (i := 20) rfl))) (Or.inr (hw _ (List.mem_of_getElem? (i := 40) rfl))) (by decide) (t := .long) (t' := .long) (by decide) (by decide)))
  have F_o108_dDayFirst := F_o108_dDayFirst.other W (Or.inr (slot_ne (Or.inr (hw _ (List.mem_of_getElem? (i := 22) rfl))) (Or.inr (hw _ (List.mem_of_getElem? (i := 40) rfl))) (by decide) (t := .long) (t' := .long) (by decide) (by decide)))
  have F_o108_dDayRise := F_o108_dDayRise.other W (Or.inr (slot_ne (Or.inr (hw _ (List.mem_of_getElem? (i := 24) rfl))) (Or.inr (hw _ (List.mem_of_getElem? (i := 40) rfl))) (by decide) (t := .long) (t' := .long) (by decide) (by decide)))
  have F_o108_perDessert := F_o108_perDessert.other W (Or.inr (slot_ne (Or.inr (hw _ (List.mem_of_getElem? (i := 26) rfl))) (Or.inr (hw _ (List.mem_of_getElem? (i := 40) rfl))) (by decide) (t := .long) (t' := .long) (by decide) (by decide)))
  have F_o108_perMain := F_o108_perMain.other W (Or.inr (slot_ne (Or.inr (hw _ (List.mem_of_getElem? (i := 28) rfl))) (Or.inr (hw _ (List.mem_of_getElem? (i := 40) rfl))) (by decide) (t := .long) (t' := .long) (by decide) (by decide)))
  have F_o108_specialDiscount := F_o108_specialDiscount.other W (Or.inr (slot_ne (Or.inr (hw _ (List.mem_of_getElem? (i := 30) rfl))) (Or.inr (hw _ (List.mem_of_getElem? (i := 40) rfl))) (by decide) (t := .long) (t' := .long) (by decide) (by decide)))
  have F_o108_giftThreshold := F_o108_giftThreshold.other W (Or.inr (slot_ne (Or.inr (hw _ (List.mem_of_getElem? (i := 32) rfl))) (Or.inr (hw _ (List.mem_of_getElem? (i := 40) rfl))) (by decide) (t := .long) (t' := .long) (by decide) (by decide)))
  have F_o108_giftDish := F_o108_giftDish.other W (Or.inr (slot_ne (Or.inr (hw _ (List.mem_of_getElem? (i := 34) rfl))) (Or.inr (hw _ (List.mem_of_getElem? (i := 40) rfl))) (by decide) (t := (.object "java/lang/String")) (t' := .long) (by decide) (by decide)))
  have F_o108_starThreshold := F_o108_starThreshold.other W (Or.inr (slot_ne (Or.inr (hw _ (List.mem_of_getElem? (i := 36) rfl))) (Or.inr (hw _ (List.mem_of_getElem? (i := 40) rfl))) (by decide) (t := .long) (t' := .long) (by decide) (by decide)))
  have F_o108_treeThreshold := F_o108_treeThreshold.other W (Or.inr (slot_ne (Or.inr (hw _ (List.mem_of_getElem? (i := 38) rfl))) (Or.inr (hw _ (List.mem_of_getElem? (i := 40) rfl))) (by decide) (t := .long) (t' := .long) (by decide) (by decide)))
  have F_o108_santaThreshold := F_o108_santaThreshold.same W
  have Kp := Kp.wr W (Or.inl (by simp))
  refine s_return C X d1_68 rfl ?_
  exact ⟨rfl, Od, E_o108, F_o108_floor, F_o108_dDayFirst, F_o108_dDayRise, F_o108_perDessert, F_o108_perMain, F_o108_specialDiscount, F_o108_giftThreshold, F_o108_giftDish, F_o108_starThreshold, F_o108_treeThreshold, F_o108_santaThreshold, Kp⟩
set_option maxRecDepth 65536 in
set_option maxHeartbeats 40000000 in
theorem rm_a112 (l : Launch) (Z : State) (a0 : Array Value) (hw : ∀ d ∈ tables_1, d.before a0 Z = true) (aSanta : Addr) (aTree : Addr) (aStar : Addr) (aE : Addr) (h0 : Heap) (n0 : Nat) (Z0 : n0 ≤ h0.size) (Od : Old Z n0 h0) (S_E : Sta Z Z.heap "java/util/Optional" "EMPTY" "Ljava/util/Optional;" (.ref aE)) (S_SANTA : Sta Z Z.heap "com/example/tinsel_tally/tinseltally/Badge" "SANTA" "Lcom/example/tinsel_tally/tinseltally/Badge;" (.ref aSanta)) (S_TREE : Sta Z Z.heap "com/example/tinsel_tally/tinseltally/Badge" "TREE" "Lcom/example/tinsel_tally/tinseltally/Badge;" (.ref aTree)) (S_STAR : Sta Z Z.heap "com/example/tinsel_tally/tinseltally/Badge" "STAR" "Lcom/example/tinsel_tally/tinseltally/Badge;" (.ref aStar)) :
    Met l Z (⟨"java/util/Optional", "empty", "()Ljava/util/Optional;"⟩ : MethodName) jdk_32_method_1_code 1 (some (.object "java/util/Optional")) { frames := 0, cells := 0, slots := 0, locals := 0 } [] #[] h0 n0 (fun v h => v = some (.ref aE) ∧ Old Z n0 h ∧ Keep h0 h []) := by
  refine Met.mk (tabs := tables_1) (a0 := a0) (ls0 := #[.unset]) (plainFor_of_name pn_java_util_Optional) hw Z0 (fun m => by first | (simp [entryFrame, mkF, argsToLocals, Value.category]; done) | rfl) ?_
  intro p e s m below meth c T C X
  have Kp : Keep h0 h0 [] := Keep.refl _ _
  refine s_getstatic 3 C X (host := "") d4_0 (Or.inl (List.mem_of_getElem? (i := 49) rfl)) Via.refl (S_E.ext Od.2) (fun T X => ?_)
  refine s_astoreN 4 C X (l' := #[.val (.ref aE)]) d4_3 rfl rfl ?_
  refine s_aloadN 5 C X d4_4 rfl rfl ?_
  refine s_areturn C X d4_5 rfl rfl rfl ?_
  exact ⟨rfl, Od, Kp⟩
set_option maxRecDepth 65536 in
set_option maxHeartbeats 40000000 in
theorem rm_a113 (l : Launch) (Z : State) (a0 : Array Value) (hw : ∀ d ∈ tables_1, d.before a0 Z = true) (aSanta : Addr) (aTree : Addr) (aStar : Addr) (aE : Addr) (star : Int64) (tree : Int64) (santa : Int64) (o108 : Addr) (t109 : Addr) (h0 : Heap) (n0 : Nat) (Z0 : n0 ≤ h0.size) (E_o108 : Exa Z h0 o108 "com/example/tinsel_tally/tinseltally/Figures") (F_o108_floor : Fld Z h0 o108 "com/example/tinsel_tally/tinseltally/Figures" "floor" "J" (.long (0 : Int64))) (F_o108_dDayFirst : Fld Z h0 o108 "com/example/tinsel_tally/tinseltally/Figures" "dDayFirst" "J" (.long (0 : Int64))) (F_o108_dDayRise : Fld Z h0 o108 "com/example/tinsel_tally/tinseltally/Figures" "dDayRise" "J" (.long (0 : Int64))) (F_o108_perDessert : Fld Z h0 o108 "com/example/tinsel_tally/tinseltally/Figures" "perDessert" "J" (.long (0 : Int64))) (F_o108_perMain : Fld Z h0 o108 "com/example/tinsel_tally/tinseltally/Figures" "perMain" "J" (.long (0 : Int64))) (F_o108_specialDiscount : Fld Z h0 o108 "com/example/tinsel_tally/tinseltally/Figures" "specialDiscount" "J" (.long (0 : Int64))) (F_o108_giftThreshold : Fld Z h0 o108 "com/example/tinsel_tally/tinseltally/Figures" "giftThreshold" "J" (.long (0 : Int64))) (F_o108_giftDish : Fld Z h0 o108 "com/example/tinsel_tally/tinseltally/Figures" "giftDish" "Ljava/lang/String;" (.ref t109)) (F_o108_starThreshold : Fld Z h0 o108 "com/example/tinsel_tally/tinseltally/Figures" "starThreshold" "J" (.long star)) (F_o108_treeThreshold : Fld Z h0 o108 "com/example/tinsel_tally/tinseltally/Figures" "treeThreshold" "J" (.long tree)) (F_o108_santaThreshold : Fld Z h0 o108 "com/example/tinsel_tally/tinseltally/Figures" "santaThreshold" "J" (.long santa)) (Od : Old Z n0 h0) (S_E : Sta Z Z.heap "java/util/Optional" "EMPTY" "Ljava/util/Optional;" (.ref aE)) (S_SANTA : Sta Z Z.heap "com/example/tinsel_tally/tinseltally/Badge" "SANTA" "Lcom/example/tinsel_tally/tinseltally/Badge;" (.ref aSanta)) (S_TREE : Sta Z Z.heap "com/example/tinsel_tally/tinseltally/Badge" "TREE" "Lcom/example/tinsel_tally/tinseltally/Badge;" (.ref aTree)) (S_STAR : Sta Z Z.heap "com/example/tinsel_tally/tinseltally/Badge" "STAR" "Lcom/example/tinsel_tally/tinseltally/Badge;" (.ref aStar)) (g_o108 : n0 ≤ o108) :
    Met l Z (⟨"com/example/tinsel_tally/tinseltally/Figures", "santaThreshold", "()J"⟩ : MethodName) prog_9_method_12_code 1 (some .long) { frames := 0, cells := 0, slots := 0, locals := 0 } [] #[(.ref o108)] h0 n0 (fun v h => v = some (.long santa) ∧ Exa Z h o108 "com/example/tinsel_tally/tinseltally/Figures" ∧ Fld Z h o108 "com/example/tinsel_tally/tinseltally/Figures" "floor" "J" (.long (0 : Int64)) ∧ Fld Z h o108 "com/example/tinsel_tally/tinseltally/Figures" "dDayFirst" "J" (.long (0 : Int64)) ∧ Fld Z h o108 "com/example/tinsel_tally/tinseltally/Figures" "dDayRise" "J" (.long (0 : Int64)) ∧ Fld Z h o108 "com/example/tinsel_tally/tinseltally/Figures" "perDessert" "J" (.long (0 : Int64)) ∧ Fld Z h o108 "com/example/tinsel_tally/tinseltally/Figures" "perMain" "J" (.long (0 : Int64)) ∧ Fld Z h o108 "com/example/tinsel_tally/tinseltally/Figures" "specialDiscount" "J" (.long (0 : Int64)) ∧ Fld Z h o108 "com/example/tinsel_tally/tinseltally/Figures" "giftThreshold" "J" (.long (0 : Int64)) ∧ Fld Z h o108 "com/example/tinsel_tally/tinseltally/Figures" "giftDish" "Ljava/lang/String;" (.ref t109) ∧ Fld Z h o108 "com/example/tinsel_tally/tinseltally/Figures" "starThreshold" "J" (.long star) ∧ Fld Z h o108 "com/example/tinsel_tally/tinseltally/Figures" "treeThreshold" "J" (.long tree) ∧ Fld Z h o108 "com/example/tinsel_tally/tinseltally/Figures" "santaThreshold" "J" (.long santa) ∧ Old Z n0 h ∧ Keep h0 h [o108]) := by
  refine Met.mk (tabs := tables_1) (a0 := a0) (ls0 := #[.val (.ref o108)]) (plainFor_of_name pn_com_example_tinsel_tally_tinseltally_Figures) hw Z0 (fun m => by first | (simp [entryFrame, mkF, argsToLocals, Value.category]; done) | rfl) ?_
  intro p e s m below meth c T C X
  have Kp : Keep h0 h0 [o108] := Keep.refl _ _
  refine s_aloadN 1 C X d5_0 rfl rfl ?_
  refine s_getfield 4 C X (host := "") d5_1 (Or.inl (List.mem_of_getElem? (i := 39) rfl)) Via.refl F_o108_santaThreshold (fun T X => ?_)
  refine s_lreturn C X d5_4 rfl ?_
  exact ⟨rfl, E_o108, F_o108_floor, F_o108_dDayFirst, F_o108_dDayRise, F_o108_perDessert, F_o108_perMain, F_o108_specialDiscount, F_o108_giftThreshold, F_o108_giftDish, F_o108_starThreshold, F_o108_treeThreshold, F_o108_santaThreshold, Od, Kp⟩
set_option maxRecDepth 65536 in
set_option maxHeartbeats 40000000 in
theorem rm_a115 (l : Launch) (Z : State) (a0 : Array Value) (hw : ∀ d ∈ tables_1, d.before a0 Z = true) (aSanta : Addr) (aTree : Addr) (aStar : Addr) (aE : Addr) (star : Int64) (tree : Int64) (santa : Int64) (o108 : Addr) (t109 : Addr) (h0 : Heap) (n0 : Nat) (Z0 : n0 ≤ h0.size) (E_o108 : Exa Z h0 o108 "com/example/tinsel_tally/tinseltally/Figures") (F_o108_floor : Fld Z h0 o108 "com/example/tinsel_tally/tinseltally/Figures" "floor" "J" (.long (0 : Int64))) (F_o108_dDayFirst : Fld Z h0 o108 "com/example/tinsel_tally/tinseltally/Figures" "dDayFirst" "J" (.long (0 : Int64))) (F_o108_dDayRise : Fld Z h0 o108 "com/example/tinsel_tally/tinseltally/Figures" "dDayRise" "J" (.long (0 : Int64))) (F_o108_perDessert : Fld Z h0 o108 "com/example/tinsel_tally/tinseltally/Figures" "perDessert" "J" (.long (0 : Int64))) (F_o108_perMain : Fld Z h0 o108 "com/example/tinsel_tally/tinseltally/Figures" "perMain" "J" (.long (0 : Int64))) (F_o108_specialDiscount : Fld Z h0 o108 "com/example/tinsel_tally/tinseltally/Figures" "specialDiscount" "J" (.long (0 : Int64))) (F_o108_giftThreshold : Fld Z h0 o108 "com/example/tinsel_tally/tinseltally/Figures" "giftThreshold" "J" (.long (0 : Int64))) (F_o108_giftDish : Fld Z h0 o108 "com/example/tinsel_tally/tinseltally/Figures" "giftDish" "Ljava/lang/String;" (.ref t109)) (F_o108_starThreshold : Fld Z h0 o108 "com/example/tinsel_tally/tinseltally/Figures" "starThreshold" "J" (.long star)) (F_o108_treeThreshold : Fld Z h0 o108 "com/example/tinsel_tally/tinseltally/Figures" "treeThreshold" "J" (.long tree)) (F_o108_santaThreshold : Fld Z h0 o108 "com/example/tinsel_tally/tinseltally/Figures" "santaThreshold" "J" (.long santa)) (Od : Old Z n0 h0) (S_E : Sta Z Z.heap "java/util/Optional" "EMPTY" "Ljava/util/Optional;" (.ref aE)) (S_SANTA : Sta Z Z.heap "com/example/tinsel_tally/tinseltally/Badge" "SANTA" "Lcom/example/tinsel_tally/tinseltally/Badge;" (.ref aSanta)) (S_TREE : Sta Z Z.heap "com/example/tinsel_tally/tinseltally/Badge" "TREE" "Lcom/example/tinsel_tally/tinseltally/Badge;" (.ref aTree)) (S_STAR : Sta Z Z.heap "com/example/tinsel_tally/tinseltally/Badge" "STAR" "Lcom/example/tinsel_tally/tinseltally/Badge;" (.ref aStar)) (g_o108 : n0 ≤ o108) :
    Met l Z (⟨"com/example/tinsel_tally/tinseltally/Figures", "treeThreshold", "()J"⟩ : MethodName) prog_9_method_11_code 1 (some .long) { frames := 0, cells := 0, slots := 0, locals := 0 } [] #[(.ref o108)] h0 n0 (fun v h => v = some (.long tree) ∧ Exa Z h o108 "com/example/tinsel_tally/tinseltally/Figures" ∧ Fld Z h o108 "com/example/tinsel_tally/tinseltally/Figures" "floor" "J" (.long (0 : Int64)) ∧ Fld Z h o108 "com/example/tinsel_tally/tinseltally/Figures" "dDayFirst" "J" (.long (0 : Int64)) ∧ Fld Z h o108 "com/example/tinsel_tally/tinseltally/Figures" "dDayRise" "J" (.long (0 : Int64)) ∧ Fld Z h o108 "com/example/tinsel_tally/tinseltally/Figures" "perDessert" "J" (.long (0 : Int64)) ∧ Fld Z h o108 "com/example/tinsel_tally/tinseltally/Figures" "perMain" "J" (.long (0 : Int64)) ∧ Fld Z h o108 "com/example/tinsel_tally/tinseltally/Figures" "specialDiscount" "J" (.long (0 : Int64)) ∧ Fld Z h o108 "com/example/tinsel_tally/tinseltally/Figures" "giftThreshold" "J" (.long (0 : Int64)) ∧ Fld Z h o108 "com/example/tinsel_tally/tinseltally/Figures" "giftDish" "Ljava/lang/String;" (.ref t109) ∧ Fld Z h o108 "com/example/tinsel_tally/tinseltally/Figures" "starThreshold" "J" (.long star) ∧ Fld Z h o108 "com/example/tinsel_tally/tinseltally/Figures" "treeThreshold" "J" (.long tree) ∧ Fld Z h o108 "com/example/tinsel_tally/tinseltally/Figures" "santaThreshold" "J" (.long santa) ∧ Old Z n0 h ∧ Keep h0 h [o108]) := by
  refine Met.mk (tabs := tables_1) (a0 := a0) (ls0 := #[.val (.ref o108)]) (plainFor_of_name pn_com_example_tinsel_tally_tinseltally_Figures) hw Z0 (fun m => by first | (simp [entryFrame, mkF, argsToLocals, Value.category]; done) | rfl) ?_
  intro p e s m below meth c T C X
  have Kp : Keep h0 h0 [o108] := Keep.refl _ _
  refine s_aloadN 1 C X d10_0 rfl rfl ?_
  refine s_getfield 4 C X (host := "") d10_1 (Or.inl (List.mem_of_getElem? (i := 37) rfl)) Via.refl F_o108_treeThreshold (fun T X => ?_)
  refine s_lreturn C X d10_4 rfl ?_
  exact ⟨rfl, E_o108, F_o108_floor, F_o108_dDayFirst, F_o108_dDayRise, F_o108_perDessert, F_o108_perMain, F_o108_specialDiscount, F_o108_giftThreshold, F_o108_giftDish, F_o108_starThreshold, F_o108_treeThreshold, F_o108_santaThreshold, Od, Kp⟩
set_option maxRecDepth 65536 in
set_option maxHeartbeats 40000000 in
theorem rm_a117 (l : Launch) (Z : State) (a0 : Array Value) (hw : ∀ d ∈ tables_1, d.before a0 Z = true) (aSanta : Addr) (aTree : Addr) (aStar : Addr) (aE : Addr) (star : Int64) (tree : Int64) (santa : Int64) (o108 : Addr) (t109 : Addr) (h0 : Heap) (n0 : Nat) (Z0 : n0 ≤ h0.size) (E_o108 : Exa Z h0 o108 "com/example/tinsel_tally/tinseltally/Figures") (F_o108_floor : Fld Z h0 o108 "com/example/tinsel_tally/tinseltally/Figures" "floor" "J" (.long (0 : Int64))) (F_o108_dDayFirst : Fld Z h0 o108 "com/example/tinsel_tally/tinseltally/Figures" "dDayFirst" "J" (.long (0 : Int64))) (F_o108_dDayRise : Fld Z h0 o108 "com/example/tinsel_tally/tinseltally/Figures" "dDayRise" "J" (.long (0 : Int64))) (F_o108_perDessert : Fld Z h0 o108 "com/example/tinsel_tally/tinseltally/Figures" "perDessert" "J" (.long (0 : Int64))) (F_o108_perMain : Fld Z h0 o108 "com/example/tinsel_tally/tinseltally/Figures" "perMain" "J" (.long (0 : Int64))) (F_o108_specialDiscount : Fld Z h0 o108 "com/example/tinsel_tally/tinseltally/Figures" "specialDiscount" "J" (.long (0 : Int64))) (F_o108_giftThreshold : Fld Z h0 o108 "com/example/tinsel_tally/tinseltally/Figures" "giftThreshold" "J" (.long (0 : Int64))) (F_o108_giftDish : Fld Z h0 o108 "com/example/tinsel_tally/tinseltally/Figures" "giftDish" "Ljava/lang/String;" (.ref t109)) (F_o108_starThreshold : Fld Z h0 o108 "com/example/tinsel_tally/tinseltally/Figures" "starThreshold" "J" (.long star)) (F_o108_treeThreshold : Fld Z h0 o108 "com/example/tinsel_tally/tinseltally/Figures" "treeThreshold" "J" (.long tree)) (F_o108_santaThreshold : Fld Z h0 o108 "com/example/tinsel_tally/tinseltally/Figures" "santaThreshold" "J" (.long santa)) (Od : Old Z n0 h0) (S_E : Sta Z Z.heap "java/util/Optional" "EMPTY" "Ljava/util/Optional;" (.ref aE)) (S_SANTA : Sta Z Z.heap "com/example/tinsel_tally/tinseltally/Badge" "SANTA" "Lcom/example/tinsel_tally/tinseltally/Badge;" (.ref aSanta)) (S_TREE : Sta Z Z.heap "com/example/tinsel_tally/tinseltally/Badge" "TREE" "Lcom/example/tinsel_tally/tinseltally/Badge;" (.ref aTree)) (S_STAR : Sta Z Z.heap "com/example/tinsel_tally/tinseltally/Badge" "STAR" "Lcom/example/tinsel_tally/tinseltally/Badge;" (.ref aStar)) (g_o108 : n0 ≤ o108) :
    Met l Z (⟨"com/example/tinsel_tally/tinseltally/Figures", "starThreshold", "()J"⟩ : MethodName) prog_9_method_10_code 1 (some .long) { frames := 0, cells := 0, slots := 0, locals := 0 } [] #[(.ref o108)] h0 n0 (fun v h => v = some (.long star) ∧ Exa Z h o108 "com/example/tinsel_tally/tinseltally/Figures" ∧ Fld Z h o108 "com/example/tinsel_tally/tinseltally/Figures" "floor" "J" (.long (0 : Int64)) ∧ Fld Z h o108 "com/example/tinsel_tally/tinseltally/Figures" "dDayFirst" "J" (.long (0 : Int64)) ∧ Fld Z h o108 "com/example/tinsel_tally/tinseltally/Figures" "dDayRise" "J" (.long (0 : Int64)) ∧ Fld Z h o108 "com/example/tinsel_tally/tinseltally/Figures" "perDessert" "J" (.long (0 : Int64)) ∧ Fld Z h o108 "com/example/tinsel_tally/tinseltally/Figures" "perMain" "J" (.long (0 : Int64)) ∧ Fld Z h o108 "com/example/tinsel_tally/tinseltally/Figures" "specialDiscount" "J" (.long (0 : Int64)) ∧ Fld Z h o108 "com/example/tinsel_tally/tinseltally/Figures" "giftThreshold" "J" (.long (0 : Int64)) ∧ Fld Z h o108 "com/example/tinsel_tally/tinseltally/Figures" "giftDish" "Ljava/lang/String;" (.ref t109) ∧ Fld Z h o108 "com/example/tinsel_tally/tinseltally/Figures" "starThreshold" "J" (.long star) ∧ Fld Z h o108 "com/example/tinsel_tally/tinseltally/Figures" "treeThreshold" "J" (.long tree) ∧ Fld Z h o108 "com/example/tinsel_tally/tinseltally/Figures" "santaThreshold" "J" (.long santa) ∧ Old Z n0 h ∧ Keep h0 h [o108]) := by
  refine Met.mk (tabs := tables_1) (a0 := a0) (ls0 := #[.val (.ref o108)]) (plainFor_of_name pn_com_example_tinsel_tally_tinseltally_Figures) hw Z0 (fun m => by first | (simp [entryFrame, mkF, argsToLocals, Value.category]; done) | rfl) ?_
  intro p e s m below meth c T C X
  have Kp : Keep h0 h0 [o108] := Keep.refl _ _
  refine s_aloadN 1 C X d11_0 rfl rfl ?_
  refine s_getfield 4 C X (host := "") d11_1 (Or.inl (List.mem_of_getElem? (i := 35) rfl)) Via.refl F_o108_starThreshold (fun T X => ?_)
  refine s_lreturn C X d11_4 rfl ?_
  exact ⟨rfl, E_o108, F_o108_floor, F_o108_dDayFirst, F_o108_dDayRise, F_o108_perDessert, F_o108_perMain, F_o108_specialDiscount, F_o108_giftThreshold, F_o108_giftDish, F_o108_starThreshold, F_o108_treeThreshold, F_o108_santaThreshold, Od, Kp⟩
set_option maxRecDepth 65536 in
set_option maxHeartbeats 40000000 in
theorem rm_a121 (l : Launch) (Z : State) (a0 : Array Value) (hw : ∀ d ∈ tables_1, d.before a0 Z = true) (aSanta : Addr) (aTree : Addr) (aStar : Addr) (aE : Addr) (h0 : Heap) (n0 : Nat) (Z0 : n0 ≤ h0.size) (Od : Old Z n0 h0) (S_E : Sta Z Z.heap "java/util/Optional" "EMPTY" "Ljava/util/Optional;" (.ref aE)) (S_SANTA : Sta Z Z.heap "com/example/tinsel_tally/tinseltally/Badge" "SANTA" "Lcom/example/tinsel_tally/tinseltally/Badge;" (.ref aSanta)) (S_TREE : Sta Z Z.heap "com/example/tinsel_tally/tinseltally/Badge" "TREE" "Lcom/example/tinsel_tally/tinseltally/Badge;" (.ref aTree)) (S_STAR : Sta Z Z.heap "com/example/tinsel_tally/tinseltally/Badge" "STAR" "Lcom/example/tinsel_tally/tinseltally/Badge;" (.ref aStar)) :
    Met l Z (⟨"java/util/Objects", "requireNonNull", "(Ljava/lang/Object;)Ljava/lang/Object;"⟩ : MethodName) jdk_31_method_10_code 1 (some (.object "java/lang/Object")) { frames := 0, cells := 0, slots := 0, locals := 0 } [] #[(.ref aStar)] h0 n0 (fun v h => v = some (.ref aStar) ∧ Old Z n0 h ∧ Keep h0 h []) := by
  refine Met.mk (tabs := tables_1) (a0 := a0) (ls0 := #[.val (.ref aStar)]) (plainFor_of_name pn_java_util_Objects) hw Z0 (fun m => by first | (simp [entryFrame, mkF, argsToLocals, Value.category]; done) | rfl) ?_
  intro p e s m below meth c T C X
  have Kp : Keep h0 h0 [] := Keep.refl _ _
  refine s_aloadN 1 C X d7_0 rfl rfl ?_
  refine s_ifnonnullY 12 C X d7_1 ?_
  refine s_aloadN 13 C X d7_12 rfl rfl ?_
  refine s_areturn C X d7_13 rfl rfl rfl ?_
  exact ⟨rfl, Od, Kp⟩
set_option maxRecDepth 65536 in
set_option maxHeartbeats 40000000 in
theorem rm_a122 (l : Launch) (Z : State) (a0 : Array Value) (hw : ∀ d ∈ tables_1, d.before a0 Z = true) (aSanta : Addr) (aTree : Addr) (aStar : Addr) (aE : Addr) (o120 : Addr) (h0 : Heap) (n0 : Nat) (Z0 : n0 ≤ h0.size) (E_o120 : Exa Z h0 o120 "java/util/Optional") (F_o120_value : Fld Z h0 o120 "java/util/Optional" "value" "Ljava/lang/Object;" .null) (Od : Old Z n0 h0) (S_E : Sta Z Z.heap "java/util/Optional" "EMPTY" "Ljava/util/Optional;" (.ref aE)) (S_SANTA : Sta Z Z.heap "com/example/tinsel_tally/tinseltally/Badge" "SANTA" "Lcom/example/tinsel_tally/tinseltally/Badge;" (.ref aSanta)) (S_TREE : Sta Z Z.heap "com/example/tinsel_tally/tinseltally/Badge" "TREE" "Lcom/example/tinsel_tally/tinseltally/Badge;" (.ref aTree)) (S_STAR : Sta Z Z.heap "com/example/tinsel_tally/tinseltally/Badge" "STAR" "Lcom/example/tinsel_tally/tinseltally/Badge;" (.ref aStar)) (g_o120 : n0 ≤ o120) :
    Met l Z (⟨"java/util/Optional", "<init>", "(Ljava/lang/Object;)V"⟩ : MethodName) jdk_32_method_2_code 2 none { frames := 1, cells := 0, slots := 0, locals := 12 } [] #[(.ref o120), (.ref aStar)] h0 n0 (fun v h => v = none ∧ Exa Z h o120 "java/util/Optional" ∧ Fld Z h o120 "java/util/Optional" "value" "Ljava/lang/Object;" (.ref aStar) ∧ Old Z n0 h ∧ Keep h0 h [o120]) := by
  refine Met.mk (tabs := tables_1) (a0 := a0) (ls0 := #[.val (.ref o120), .val (.ref aStar)]) (plainFor_of_name pn_java_util_Optional) hw Z0 (fun m => by first | (simp [entryFrame, mkF, argsToLocals, Value.category]; done) | rfl) ?_
  intro p e s m below meth c T C X
  have Kp : Keep h0 h0 [o120] := Keep.refl _ _
  refine s_aloadN 1 C X d8_0 rfl rfl ?_
  refine s_objInit 4 C X d8_1 (List.mem_of_getElem? (i := 70) rfl) (List.mem_of_getElem? (i := 17) rfl) (List.mem_of_getElem? (i := 18) rfl) rfl (W := 0) rfl (by decide) (fun T X => ?_)
  refine s_aloadN 5 C X d8_4 rfl rfl ?_
  refine s_aloadN 6 C X d8_5 rfl rfl ?_
  refine s_putfield 9 C X (host := "") d8_6 (Or.inl (List.mem_of_getElem? (i := 71) rfl)) Via.refl F_o120_value E_o120 (Or.inr ⟨(List.mem_of_getElem? (i := 72) rfl), rfl, rfl⟩) (List.mem_of_getElem? (i := 61) rfl) (ty := (.object "java/lang/Object")) (by decide) rfl rfl g_o120 (fun T hh X W => ?_)
  have E_o120 := E_o120.wr W
  have F_o120_value := F_o120_value.same W
  have Od := Od.wr W g_o120
  have Kp := Kp.wr W (Or.inl (by simp))
  refine s_return C X d8_9 rfl ?_
  exact ⟨rfl, E_o120, F_o120_value, Od, Kp⟩
set_option maxRecDepth 65536 in
set_option maxHeartbeats 40000000 in
theorem rm_a119 (l : Launch) (Z : State) (a0 : Array Value) (hw : ∀ d ∈ tables_1, d.before a0 Z = true) (aSanta : Addr) (aTree : Addr) (aStar : Addr) (aE : Addr) (h0 : Heap) (n0 : Nat) (Z0 : n0 ≤ h0.size) (Od : Old Z n0 h0) (S_E : Sta Z Z.heap "java/util/Optional" "EMPTY" "Ljava/util/Optional;" (.ref aE)) (S_SANTA : Sta Z Z.heap "com/example/tinsel_tally/tinseltally/Badge" "SANTA" "Lcom/example/tinsel_tally/tinseltally/Badge;" (.ref aSanta)) (S_TREE : Sta Z Z.heap "com/example/tinsel_tally/tinseltally/Badge" "TREE" "Lcom/example/tinsel_tally/tinseltally/Badge;" (.ref aTree)) (S_STAR : Sta Z Z.heap "com/example/tinsel_tally/tinseltally/Badge" "STAR" "Lcom/example/tinsel_tally/tinseltally/Badge;" (.ref aStar)) :
    Met l Z (⟨"java/util/Optional", "of", "(Ljava/lang/Object;)Ljava/util/Optional;"⟩ : MethodName) jdk_32_method_3_code 1 (some (.object "java/util/Optional")) { frames := 2, cells := 1, slots := 1, locals := 26 } [] #[(.ref aStar)] h0 n0 (fun v h => ∃ (o120 : Addr), v = some (.ref o120) ∧ Keep h0 h [] ∧ Exa Z h o120 "java/util/Optional" ∧ Fld Z h o120 "java/util/Optional" "value" "Ljava/lang/Object;" (.ref aStar) ∧ Old Z n0 h ∧ h0.size ≤ o120 ∧ n0 ≤ o120) := by
  refine Met.mk (tabs := tables_1) (a0 := a0) (ls0 := #[.val (.ref aStar)]) (plainFor_of_name pn_java_util_Optional) hw Z0 (fun m => by first | (simp [entryFrame, mkF, argsToLocals, Value.category]; done) | rfl) ?_
  intro p e s m below meth c T C X
  have Kp : Keep h0 h0 [] := Keep.refl _ _
  refine s_new 3 C X d6_0 (List.mem_of_getElem? (i := 60) rfl) (List.mem_of_getElem? (i := 61) rfl) (List.mem_of_getElem? (i := 47) rfl) (fun T hh o120 hb_o120 X E E_o120 D g_o120 => ?_)
  have sz_o120 : h0.size ≤ o120 := Nat.le_trans Kp.1 (Nat.le_of_eq hb_o120)
  have Od := Od.ext E
  have Kp := Kp.ext E
  have F_o120_value : Fld Z _ o120 "java/util/Optional" "value" "Ljava/lang/Object;" .null := D (Or.inr (hw _ (List.mem_of_getElem? (i := 72) rfl))) (ty := (.object "java/lang/Object")) (by decide)
  refine s_dup 4 C X d6_3 rfl ?_
  refine s_aloadN 5 C X d6_4 rfl rfl ?_
  refine s_callS 8 [(.ref aStar)] [(.ref o120), (.ref o120)] 2 C X d6_5 (List.mem_of_getElem? (i := 62) rfl) (List.mem_of_getElem? (i := 63) rfl) (List.mem_of_getElem? (i := 64) rfl) (List.mem_of_getElem? (i := 65) rfl) (rm_a121 l Z a0 hw aSanta aTree aStar aE _ n0 X.sz Od S_E S_SANTA S_TREE S_STAR) (lenOf pd__Ljava_lang_Object__Ljava_lang_Object_ rfl) rfl rfl rfl (fun T v hh X q => ?_)
  obtain ⟨rfl, Od, Kc⟩ := q
  have Kp := Kp.trans Kc all0
  have E_o120 := E_o120.keep Kc
  have F_o120_value := F_o120_value.keep Kc nin0
  refine Run.cast (st' := [(.ref aStar), (.ref o120), (.ref o120)]) rfl ?_
  refine s_callC 11 [(.ref aStar)] [(.ref o120)] 1 C X d6_8 rfl (List.mem_of_getElem? (i := 66) rfl) (List.mem_of_getElem? (i := 67) rfl) (List.mem_of_getElem? (i := 47) rfl) (List.mem_of_getElem? (i := 69) rfl) (rm_a122 l Z a0 hw aSanta aTree aStar aE o120 _ n0 X.sz E_o120 F_o120_value Od S_E S_SANTA S_TREE S_STAR g_o120) (lenOf pd__Ljava_lang_Object__V rfl) rfl rfl rfl (fun T v hh X q => ?_)
  obtain ⟨rfl, E_o120, F_o120_value, Od, Kc⟩ := q
  have Kp := Kp.trans Kc (allS (Or.inr sz_o120) all0)
  refine Run.cast (st' := [(.ref o120)]) rfl ?_
  refine s_areturn C X d6_11 rfl rfl rfl ?_
  exact ⟨o120, rfl, Kp, E_o120, F_o120_value, Od, sz_o120, g_o120⟩
set_option maxRecDepth 65536 in
set_option maxHeartbeats 40000000 in
theorem rm_a125 (l : Launch) (Z : State) (a0 : Array Value) (hw : ∀ d ∈ tables_1, d.before a0 Z = true) (aSanta : Addr) (aTree : Addr) (aStar : Addr) (aE : Addr) (h0 : Heap) (n0 : Nat) (Z0 : n0 ≤ h0.size) (Od : Old Z n0 h0) (S_E : Sta Z Z.heap "java/util/Optional" "EMPTY" "Ljava/util/Optional;" (.ref aE)) (S_SANTA : Sta Z Z.heap "com/example/tinsel_tally/tinseltally/Badge" "SANTA" "Lcom/example/tinsel_tally/tinseltally/Badge;" (.ref aSanta)) (S_TREE : Sta Z Z.heap "com/example/tinsel_tally/tinseltally/Badge" "TREE" "Lcom/example/tinsel_tally/tinseltally/Badge;" (.ref aTree)) (S_STAR : Sta Z Z.heap "com/example/tinsel_tally/tinseltally/Badge" "STAR" "Lcom/example/tinsel_tally/tinseltally/Badge;" (.ref aStar)) :
    Met l Z (⟨"java/util/Objects", "requireNonNull", "(Ljava/lang/Object;)Ljava/lang/Object;"⟩ : MethodName) jdk_31_method_10_code 1 (some (.object "java/lang/Object")) { frames := 0, cells := 0, slots := 0, locals := 0 } [] #[(.ref aTree)] h0 n0 (fun v h => v = some (.ref aTree) ∧ Old Z n0 h ∧ Keep h0 h []) := by
  refine Met.mk (tabs := tables_1) (a0 := a0) (ls0 := #[.val (.ref aTree)]) (plainFor_of_name pn_java_util_Objects) hw Z0 (fun m => by first | (simp [entryFrame, mkF, argsToLocals, Value.category]; done) | rfl) ?_
  intro p e s m below meth c T C X
  have Kp : Keep h0 h0 [] := Keep.refl _ _
  refine s_aloadN 1 C X d7_0 rfl rfl ?_
  refine s_ifnonnullY 12 C X d7_1 ?_
  refine s_aloadN 13 C X d7_12 rfl rfl ?_
  refine s_areturn C X d7_13 rfl rfl rfl ?_
  exact ⟨rfl, Od, Kp⟩
set_option maxRecDepth 65536 in
set_option maxHeartbeats 40000000 in
theorem rm_a126 (l : Launch) (Z : State) (a0 : Array Value) (hw : ∀ d ∈ tables_1, d.before a0 Z = true) (aSanta : Addr) (aTree : Addr) (aStar : Addr) (aE : Addr) (o124 : Addr) (h0 : Heap) (n0 : Nat) (Z0 : n0 ≤ h0.size) (E_o124 : Exa Z h0 o124 "java/util/Optional") (F_o124_value : Fld Z h0 o124 "java/util/Optional" "value" "Ljava/lang/Object;" .null) (Od : Old Z n0 h0) (S_E : Sta Z Z.heap "java/util/Optional" "EMPTY" "Ljava/util/Optional;" (.ref aE)) (S_SANTA : Sta Z Z.heap "com/example/tinsel_tally/tinseltally/Badge" "SANTA" "Lcom/example/tinsel_tally/tinseltally/Badge;" (.ref aSanta)) (S_TREE : Sta Z Z.heap "com/example/tinsel_tally/tinseltally/Badge" "TREE" "Lcom/example/tinsel_tally/tinseltally/Badge;" (.ref aTree)) (S_STAR : Sta Z Z.heap "com/example/tinsel_tally/tinseltally/Badge" "STAR" "Lcom/example/tinsel_tally/tinseltally/Badge;" (.ref aStar)) (g_o124 : n0 ≤ o124) :
    Met l Z (⟨"java/util/Optional", "<init>", "(Ljava/lang/Object;)V"⟩ : MethodName) jdk_32_method_2_code 2 none { frames := 1, cells := 0, slots := 0, locals := 12 } [] #[(.ref o124), (.ref aTree)] h0 n0 (fun v h => v = none ∧ Exa Z h o124 "java/util/Optional" ∧ Fld Z h o124 "java/util/Optional" "value" "Ljava/lang/Object;" (.ref aTree) ∧ Old Z n0 h ∧ Keep h0 h [o124]) := by
  refine Met.mk (tabs := tables_1) (a0 := a0) (ls0 := #[.val (.ref o124), .val (.ref aTree)]) (plainFor_of_name pn_java_util_Optional) hw Z0 (fun m => by first | (simp [entryFrame, mkF, argsToLocals, Value.category]; done) | rfl) ?_
  intro p e s m below meth c T C X
  have Kp : Keep h0 h0 [o124] := Keep.refl _ _
  refine s_aloadN 1 C X d8_0 rfl rfl ?_
  refine s_objInit 4 C X d8_1 (List.mem_of_getElem? (i := 70) rfl) (List.mem_of_getElem? (i := 17) rfl) (List.mem_of_getElem? (i := 18) rfl) rfl (W := 0) rfl (by decide) (fun T X => ?_)
  refine s_aloadN 5 C X d8_4 rfl rfl ?_
  refine s_aloadN 6 C X d8_5 rfl rfl ?_
  refine s_putfield 9 C X (host := "") d8_6 (Or.inl (List.mem_of_getElem? (i := 71) rfl)) Via.refl F_o124_value E_o124 (Or.inr ⟨(List.mem_of_getElem? (i := 72) rfl), rfl, rfl⟩) (List.mem_of_getElem? (i := 61) rfl) (ty := (.object "java/lang/Object")) (by decide) rfl rfl g_o124 (fun T hh X W => ?_)
  have E_o124 := E_o124.wr W
  have F_o124_value := F_o124_value.same W
  have Od := Od.wr W g_o124
  have Kp := Kp.wr W (Or.inl (by simp))
  refine s_return C X d8_9 rfl ?_
  exact ⟨rfl, E_o124, F_o124_value, Od, Kp⟩
set_option maxRecDepth 65536 in
set_option maxHeartbeats 40000000 in
theorem rm_a123 (l : Launch) (Z : State) (a0 : Array Value) (hw : ∀ d ∈ tables_1, d.before a0 Z = true) (aSanta : Addr) (aTree : Addr) (aStar : Addr) (aE : Addr) (h0 : Heap) (n0 : Nat) (Z0 : n0 ≤ h0.size) (Od : Old Z n0 h0) (S_E : Sta Z Z.heap "java/util/Optional" "EMPTY" "Ljava/util/Optional;" (.ref aE)) (S_SANTA : Sta Z Z.heap "com/example/tinsel_tally/tinseltally/Badge" "SANTA" "Lcom/example/tinsel_tally/tinseltally/Badge;" (.ref aSanta)) (S_TREE : Sta Z Z.heap "com/example/tinsel_tally/tinseltally/Badge" "TREE" "Lcom/example/tinsel_tally/tinseltally/Badge;" (.ref aTree)) (S_STAR : Sta Z Z.heap "com/example/tinsel_tally/tinseltally/Badge" "STAR" "Lcom/example/tinsel_tally/tinseltally/Badge;" (.ref aStar)) :
    Met l Z (⟨"java/util/Optional", "of", "(Ljava/lang/Object;)Ljava/util/Optional;"⟩ : MethodName) jdk_32_method_3_code 1 (some (.object "java/util/Optional")) { frames := 2, cells := 1, slots := 1, locals := 26 } [] #[(.ref aTree)] h0 n0 (fun v h => ∃ (o124 : Addr), v = some (.ref o124) ∧ Keep h0 h [] ∧ Exa Z h o124 "java/util/Optional" ∧ Fld Z h o124 "java/util/Optional" "value" "Ljava/lang/Object;" (.ref aTree) ∧ Old Z n0 h ∧ h0.size ≤ o124 ∧ n0 ≤ o124) := by
  refine Met.mk (tabs := tables_1) (a0 := a0) (ls0 := #[.val (.ref aTree)]) (plainFor_of_name pn_java_util_Optional) hw Z0 (fun m => by first | (simp [entryFrame, mkF, argsToLocals, Value.category]; done) | rfl) ?_
  intro p e s m below meth c T C X
  have Kp : Keep h0 h0 [] := Keep.refl _ _
  refine s_new 3 C X d6_0 (List.mem_of_getElem? (i := 60) rfl) (List.mem_of_getElem? (i := 61) rfl) (List.mem_of_getElem? (i := 47) rfl) (fun T hh o124 hb_o124 X E E_o124 D g_o124 => ?_)
  have sz_o124 : h0.size ≤ o124 := Nat.le_trans Kp.1 (Nat.le_of_eq hb_o124)
  have Od := Od.ext E
  have Kp := Kp.ext E
  have F_o124_value : Fld Z _ o124 "java/util/Optional" "value" "Ljava/lang/Object;" .null := D (Or.inr (hw _ (List.mem_of_getElem? (i := 72) rfl))) (ty := (.object "java/lang/Object")) (by decide)
  refine s_dup 4 C X d6_3 rfl ?_
  refine s_aloadN 5 C X d6_4 rfl rfl ?_
  refine s_callS 8 [(.ref aTree)] [(.ref o124), (.ref o124)] 2 C X d6_5 (List.mem_of_getElem? (i := 62) rfl) (List.mem_of_getElem? (i := 63) rfl) (List.mem_of_getElem? (i := 64) rfl) (List.mem_of_getElem? (i := 65) rfl) (rm_a125 l Z a0 hw aSanta aTree aStar aE _ n0 X.sz Od S_E S_SANTA S_TREE S_STAR) (lenOf pd__Ljava_lang_Object__Ljava_lang_Object_ rfl) rfl rfl rfl (fun T v hh X q => ?_)
  obtain ⟨rfl, Od, Kc⟩ := q
  have Kp := Kp.trans Kc all0
  have E_o124 := E_o124.keep Kc
  have F_o124_value := F_o124_value.keep Kc nin0
  refine Run.cast (st' := [(.ref aTree), (.ref o124), (.ref o124)]) rfl ?_
  refine s_callC 11 [(.ref aTree)] [(.ref o124)] 1 C X d6_8 rfl (List.mem_of_getElem? (i := 66) rfl) (List.mem_of_getElem? (i := 67) rfl) (List.mem_of_getElem? (i := 47) rfl) (List.mem_of_getElem? (i := 69) rfl) (rm_a126 l Z a0 hw aSanta aTree aStar aE o124 _ n0 X.sz E_o124 F_o124_value Od S_E S_SANTA S_TREE S_STAR g_o124) (lenOf pd__Ljava_lang_Object__V rfl) rfl rfl rfl (fun T v hh X q => ?_)
  obtain ⟨rfl, E_o124, F_o124_value, Od, Kc⟩ := q
  have Kp := Kp.trans Kc (allS (Or.inr sz_o124) all0)
  refine Run.cast (st' := [(.ref o124)]) rfl ?_
  refine s_areturn C X d6_11 rfl rfl rfl ?_
  exact ⟨o124, rfl, Kp, E_o124, F_o124_value, Od, sz_o124, g_o124⟩
set_option maxRecDepth 65536 in
set_option maxHeartbeats 40000000 in
theorem rm_a129 (l : Launch) (Z : State) (a0 : Array Value) (hw : ∀ d ∈ tables_1, d.before a0 Z = true) (aSanta : Addr) (aTree : Addr) (aStar : Addr) (aE : Addr) (h0 : Heap) (n0 : Nat) (Z0 : n0 ≤ h0.size) (Od : Old Z n0 h0) (S_E : Sta Z Z.heap "java/util/Optional" "EMPTY" "Ljava/util/Optional;" (.ref aE)) (S_SANTA : Sta Z Z.heap "com/example/tinsel_tally/tinseltally/Badge" "SANTA" "Lcom/example/tinsel_tally/tinseltally/Badge;" (.ref aSanta)) (S_TREE : Sta Z Z.heap "com/example/tinsel_tally/tinseltally/Badge" "TREE" "Lcom/example/tinsel_tally/tinseltally/Badge;" (.ref aTree)) (S_STAR : Sta Z Z.heap "com/example/tinsel_tally/tinseltally/Badge" "STAR" "Lcom/example/tinsel_tally/tinseltally/Badge;" (.ref aStar)) :
    Met l Z (⟨"java/util/Objects", "requireNonNull", "(Ljava/lang/Object;)Ljava/lang/Object;"⟩ : MethodName) jdk_31_method_10_code 1 (some (.object "java/lang/Object")) { frames := 0, cells := 0, slots := 0, locals := 0 } [] #[(.ref aSanta)] h0 n0 (fun v h => v = some (.ref aSanta) ∧ Old Z n0 h ∧ Keep h0 h []) := by
  refine Met.mk (tabs := tables_1) (a0 := a0) (ls0 := #[.val (.ref aSanta)]) (plainFor_of_name pn_java_util_Objects) hw Z0 (fun m => by first | (simp [entryFrame, mkF, argsToLocals, Value.category]; done) | rfl) ?_
  intro p e s m below meth c T C X
  have Kp : Keep h0 h0 [] := Keep.refl _ _
  refine s_aloadN 1 C X d7_0 rfl rfl ?_
  refine s_ifnonnullY 12 C X d7_1 ?_
  refine s_aloadN 13 C X d7_12 rfl rfl ?_
  refine s_areturn C X d7_13 rfl rfl rfl ?_
  exact ⟨rfl, Od, Kp⟩
set_option maxRecDepth 65536 in
set_option maxHeartbeats 40000000 in
theorem rm_a130 (l : Launch) (Z : State) (a0 : Array Value) (hw : ∀ d ∈ tables_1, d.before a0 Z = true) (aSanta : Addr) (aTree : Addr) (aStar : Addr) (aE : Addr) (o128 : Addr) (h0 : Heap) (n0 : Nat) (Z0 : n0 ≤ h0.size) (E_o128 : Exa Z h0 o128 "java/util/Optional") (F_o128_value : Fld Z h0 o128 "java/util/Optional" "value" "Ljava/lang/Object;" .null) (Od : Old Z n0 h0) (S_E : Sta Z Z.heap "java/util/Optional" "EMPTY" "Ljava/util/Optional;" (.ref aE)) (S_SANTA : Sta Z Z.heap "com/example/tinsel_tally/tinseltally/Badge" "SANTA" "Lcom/example/tinsel_tally/tinseltally/Badge;" (.ref aSanta)) (S_TREE : Sta Z Z.heap "com/example/tinsel_tally/tinseltally/Badge" "TREE" "Lcom/example/tinsel_tally/tinseltally/Badge;" (.ref aTree)) (S_STAR : Sta Z Z.heap "com/example/tinsel_tally/tinseltally/Badge" "STAR" "Lcom/example/tinsel_tally/tinseltally/Badge;" (.ref aStar)) (g_o128 : n0 ≤ o128) :
    Met l Z (⟨"java/util/Optional", "<init>", "(Ljava/lang/Object;)V"⟩ : MethodName) jdk_32_method_2_code 2 none { frames := 1, cells := 0, slots := 0, locals := 12 } [] #[(.ref o128), (.ref aSanta)] h0 n0 (fun v h => v = none ∧ Exa Z h o128 "java/util/Optional" ∧ Fld Z h o128 "java/util/Optional" "value" "Ljava/lang/Object;" (.ref aSanta) ∧ Old Z n0 h ∧ Keep h0 h [o128]) := by
  refine Met.mk (tabs := tables_1) (a0 := a0) (ls0 := #[.val (.ref o128), .val (.ref aSanta)]) (plainFor_of_name pn_java_util_Optional) hw Z0 (fun m => by first | (simp [entryFrame, mkF, argsToLocals, Value.category]; done) | rfl) ?_
  intro p e s m below meth c T C X
  have Kp : Keep h0 h0 [o128] := Keep.refl _ _
  refine s_aloadN 1 C X d8_0 rfl rfl ?_
  refine s_objInit 4 C X d8_1 (List.mem_of_getElem? (i := 70) rfl) (List.mem_of_getElem? (i := 17) rfl) (List.mem_of_getElem? (i := 18) rfl) rfl (W := 0) rfl (by decide) (fun T X => ?_)
  refine s_aloadN 5 C X d8_4 rfl rfl ?_
  refine s_aloadN 6 C X d8_5 rfl rfl ?_
  refine s_putfield 9 C X (host := "") d8_6 (Or.inl (List.mem_of_getElem? (i := 71) rfl)) Via.refl F_o128_value E_o128 (Or.inr ⟨(List.mem_of_getElem? (i := 72) rfl), rfl, rfl⟩) (List.mem_of_getElem? (i := 61) rfl) (ty := (.object "java/lang/Object")) (by decide) rfl rfl g_o128 (fun T hh X W => ?_)
  have E_o128 := E_o128.wr W
  have F_o128_value := F_o128_value.same W
  have Od := Od.wr W g_o128
  have Kp := Kp.wr W (Or.inl (by simp))
  refine s_return C X d8_9 rfl ?_
  exact ⟨rfl, E_o128, F_o128_value, Od, Kp⟩
set_option maxRecDepth 65536 in
set_option maxHeartbeats 40000000 in
theorem rm_a127 (l : Launch) (Z : State) (a0 : Array Value) (hw : ∀ d ∈ tables_1, d.before a0 Z = true) (aSanta : Addr) (aTree : Addr) (aStar : Addr) (aE : Addr) (h0 : Heap) (n0 : Nat) (Z0 : n0 ≤ h0.size) (Od : Old Z n0 h0) (S_E : Sta Z Z.heap "java/util/Optional" "EMPTY" "Ljava/util/Optional;" (.ref aE)) (S_SANTA : Sta Z Z.heap "com/example/tinsel_tally/tinseltally/Badge" "SANTA" "Lcom/example/tinsel_tally/tinseltally/Badge;" (.ref aSanta)) (S_TREE : Sta Z Z.heap "com/example/tinsel_tally/tinseltally/Badge" "TREE" "Lcom/example/tinsel_tally/tinseltally/Badge;" (.ref aTree)) (S_STAR : Sta Z Z.heap "com/example/tinsel_tally/tinseltally/Badge" "STAR" "Lcom/example/tinsel_tally/tinseltally/Badge;" (.ref aStar)) :
    Met l Z (⟨"java/util/Optional", "of", "(Ljava/lang/Object;)Ljava/util/Optional;"⟩ : MethodName) jdk_32_method_3_code 1 (some (.object "java/util/Optional")) { frames := 2, cells := 1, slots := 1, locals := 26 } [] #[(.ref aSanta)] h0 n0 (fun v h => ∃ (o128 : Addr), v = some (.ref o128) ∧ Keep h0 h [] ∧ Exa Z h o128 "java/util/Optional" ∧ Fld Z h o128 "java/util/Optional" "value" "Ljava/lang/Object;" (.ref aSanta) ∧ Old Z n0 h ∧ h0.size ≤ o128 ∧ n0 ≤ o128) := by
  refine Met.mk (tabs := tables_1) (a0 := a0) (ls0 := #[.val (.ref aSanta)]) (plainFor_of_name pn_java_util_Optional) hw Z0 (fun m => by first | (simp [entryFrame, mkF, argsToLocals, Value.category]; done) | rfl) ?_
  intro p e s m below meth c T C X
  have Kp : Keep h0 h0 [] := Keep.refl _ _
  refine s_new 3 C X d6_0 (List.mem_of_getElem? (i := 60) rfl) (List.mem_of_getElem? (i := 61) rfl) (List.mem_of_getElem? (i := 47) rfl) (fun T hh o128 hb_o128 X E E_o128 D g_o128 => ?_)
  have sz_o128 : h0.size ≤ o128 := Nat.le_trans Kp.1 (Nat.le_of_eq hb_o128)
  have Od := Od.ext E
  have Kp := Kp.ext E
  have F_o128_value : Fld Z _ o128 "java/util/Optional" "value" "Ljava/lang/Object;" .null := D (Or.inr (hw _ (List.mem_of_getElem? (i := 72) rfl))) (ty := (.object "java/lang/Object")) (by decide)
  refine s_dup 4 C X d6_3 rfl ?_
  refine s_aloadN 5 C X d6_4 rfl rfl ?_
  refine s_callS 8 [(.ref aSanta)] [(.ref o128), (.ref o128)] 2 C X d6_5 (List.mem_of_getElem? (i := 62) rfl) (List.mem_of_getElem? (i := 63) rfl) (List.mem_of_getElem? (i := 64) rfl) (List.mem_of_getElem? (i := 65) rfl) (rm_a129 l Z a0 hw aSanta aTree aStar aE _ n0 X.sz Od S_E S_SANTA S_TREE S_STAR) (lenOf pd__Ljava_lang_Object__Ljava_lang_Object_ rfl) rfl rfl rfl (fun T v hh X q => ?_)
  obtain ⟨rfl, Od, Kc⟩ := q
  have Kp := Kp.trans Kc all0
  have E_o128 := E_o128.keep Kc
  have F_o128_value := F_o128_value.keep Kc nin0
  refine Run.cast (st' := [(.ref aSanta), (.ref o128), (.ref o128)]) rfl ?_
  refine s_callC 11 [(.ref aSanta)] [(.ref o128)] 1 C X d6_8 rfl (List.mem_of_getElem? (i := 66) rfl) (List.mem_of_getElem? (i := 67) rfl) (List.mem_of_getElem? (i := 47) rfl) (List.mem_of_getElem? (i := 69) rfl) (rm_a130 l Z a0 hw aSanta aTree aStar aE o128 _ n0 X.sz E_o128 F_o128_value Od S_E S_SANTA S_TREE S_STAR g_o128) (lenOf pd__Ljava_lang_Object__V rfl) rfl rfl rfl (fun T v hh X q => ?_)
  obtain ⟨rfl, E_o128, F_o128_value, Od, Kc⟩ := q
  have Kp := Kp.trans Kc (allS (Or.inr sz_o128) all0)
  refine Run.cast (st' := [(.ref o128)]) rfl ?_
  refine s_areturn C X d6_11 rfl rfl rfl ?_
  exact ⟨o128, rfl, Kp, E_o128, F_o128_value, Od, sz_o128, g_o128⟩
set_option maxRecDepth 65536 in
set_option maxHeartbeats 40000000 in
theorem rm_a111 (l : Launch) (Z : State) (a0 : Array Value) (hw : ∀ d ∈ tables_1, d.before a0 Z = true) (aSanta : Addr) (aTree : Addr) (aStar : Addr) (aE : Addr) (star : Int64) (tree : Int64) (santa : Int64) (t : Int64) (o108 : Addr) (t109 : Addr) (h0 : Heap) (n0 : Nat) (Z0 : n0 ≤ h0.size) (Od : Old Z n0 h0) (E_o108 : Exa Z h0 o108 "com/example/tinsel_tally/tinseltally/Figures") (F_o108_floor : Fld Z h0 o108 "com/example/tinsel_tally/tinseltally/Figures" "floor" "J" (.long (0 : Int64))) (F_o108_dDayFirst : Fld Z h0 o108 "com/example/tinsel_tally/tinseltally/Figures" "dDayFirst" "J" (.long (0 : Int64))) (F_o108_dDayRise : Fld Z h0 o108 "com/example/tinsel_tally/tinseltally/Figures" "dDayRise" "J" (.long (0 : Int64))) (F_o108_perDessert : Fld Z h0 o108 "com/example/tinsel_tally/tinseltally/Figures" "perDessert" "J" (.long (0 : Int64))) (F_o108_perMain : Fld Z h0 o108 "com/example/tinsel_tally/tinseltally/Figures" "perMain" "J" (.long (0 : Int64))) (F_o108_specialDiscount : Fld Z h0 o108 "com/example/tinsel_tally/tinseltally/Figures" "specialDiscount" "J" (.long (0 : Int64))) (F_o108_giftThreshold : Fld Z h0 o108 "com/example/tinsel_tally/tinseltally/Figures" "giftThreshold" "J" (.long (0 : Int64))) (F_o108_giftDish : Fld Z h0 o108 "com/example/tinsel_tally/tinseltally/Figures" "giftDish" "Ljava/lang/String;" (.ref t109)) (F_o108_starThreshold : Fld Z h0 o108 "com/example/tinsel_tally/tinseltally/Figures" "starThreshold" "J" (.long star)) (F_o108_treeThreshold : Fld Z h0 o108 "com/example/tinsel_tally/tinseltally/Figures" "treeThreshold" "J" (.long tree)) (F_o108_santaThreshold : Fld Z h0 o108 "com/example/tinsel_tally/tinseltally/Figures" "santaThreshold" "J" (.long santa)) (S_E : Sta Z Z.heap "java/util/Optional" "EMPTY" "Ljava/util/Optional;" (.ref aE)) (S_SANTA : Sta Z Z.heap "com/example/tinsel_tally/tinseltally/Badge" "SANTA" "Lcom/example/tinsel_tally/tinseltally/Badge;" (.ref aSanta)) (S_TREE : Sta Z Z.heap "com/example/tinsel_tally/tinseltally/Badge" "TREE" "Lcom/example/tinsel_tally/tinseltally/Badge;" (.ref aTree)) (S_STAR : Sta Z Z.heap "com/example/tinsel_tally/tinseltally/Badge" "STAR" "Lcom/example/tinsel_tally/tinseltally/Badge;" (.ref aStar)) (g_o108 : n0 ≤ o108) :
    Met l Z (⟨"com/example/tinsel_tally/tinseltally/Badge", "forTotalBenefit", "(JLcom/example/tinsel_tally/tinseltally/Figures;)Ljava/util/Optional;"⟩ : MethodName) prog_2_method_4_code 4 (some (.object "java/util/Optional")) { frames := 3, cells := 1, slots := 1, locals := 38 } [] #[(.long t), (.ref o108)] h0 n0 (fun v h => (v = some (.ref aE) ∧ (XT.cmpL t santa) < (0 : Int32) ∧ (XT.cmpL t tree) < (0 : Int32) ∧ (XT.cmpL t star) < (0 : Int32) ∧ Keep h0 h [o108] ∧ Exa Z h o108 "com/example/tinsel_tally/tinseltally/Figures" ∧ Fld Z h o108 "com/example/tinsel_tally/tinseltally/Figures" "floor" "J" (.long (0 : Int64)) ∧ Fld Z h o108 "com/example/tinsel_tally/tinseltally/Figures" "dDayFirst" "J" (.long (0 : Int64)) ∧ Fld Z h o108 "com/example/tinsel_tally/tinseltally/Figures" "dDayRise" "J" (.long (0 : Int64)) ∧ Fld Z h o108 "com/example/tinsel_tally/tinseltally/Figures" "perDessert" "J" (.long (0 : Int64)) ∧ Fld Z h o108 "com/example/tinsel_tally/tinseltally/Figures" "perMain" "J" (.long (0 : Int64)) ∧ Fld Z h o108 "com/example/tinsel_tally/tinseltally/Figures" "specialDiscount" "J" (.long (0 : Int64)) ∧ Fld Z h o108 "com/example/tinsel_tally/tinseltally/Figures" "giftThreshold" "J" (.long (0 : Int64)) ∧ Fld Z h o108 "com/example/tinsel_tally/tinseltally/Figures" "giftDish" "Ljava/lang/String;" (.ref t109) ∧ Fld Z h o108 "com/example/tinsel_tally/tinseltally/Figures" "starThreshold" "J" (.long star) ∧ Fld Z h o108 "com/example/tinsel_tally/tinseltally/Figures" "treeThreshold" "J" (.long tree) ∧ Fld Z h o108 "com/example/tinsel_tally/tinseltally/Figures" "santaThreshold" "J" (.long santa) ∧ Old Z n0 h) ∨ (∃ (o120 : Addr), v = some (.ref o120) ∧ (XT.cmpL t santa) < (0 : Int32) ∧ (XT.cmpL t tree) < (0 : Int32) ∧ ¬ (XT.cmpL t star) < (0 : Int32) ∧ Keep h0 h [o108] ∧ Exa Z h o108 "com/example/tinsel_tally/tinseltally/Figures" ∧ Fld Z h o108 "com/example/tinsel_tally/tinseltally/Figures" "floor" "J" (.long (0 : Int64)) ∧ Fld Z h o108 "com/example/tinsel_tally/tinseltally/Figures" "dDayFirst" "J" (.long (0 : Int64)) ∧ Fld Z h o108 "com/example/tinsel_tally/tinseltally/Figures" "dDayRise" "J" (.long (0 : Int64)) ∧ Fld Z h o108 "com/example/tinsel_tally/tinseltally/Figures" "perDessert" "J" (.long (0 : Int64)) ∧ Fld Z h o108 "com/example/tinsel_tally/tinseltally/Figures" "perMain" "J" (.long (0 : Int64)) ∧ Fld Z h o108 "com/example/tinsel_tally/tinseltally/Figures" "specialDiscount" "J" (.long (0 : Int64)) ∧ Fld Z h o108 "com/example/tinsel_tally/tinseltally/Figures" "giftThreshold" "J" (.long (0 : Int64)) ∧ Fld Z h o108 "com/example/tinsel_tally/tinseltally/Figures" "giftDish" "Ljava/lang/String;" (.ref t109) ∧ Fld Z h o108 "com/example/tinsel_tally/tinseltally/Figures" "starThreshold" "J" (.long star) ∧ Fld Z h o108 "com/example/tinsel_tally/tinseltally/Figures" "treeThreshold" "J" (.long tree) ∧ Fld Z h o108 "com/example/tinsel_tally/tinseltally/Figures" "santaThreshold" "J" (.long santa) ∧ Exa Z h o120 "java/util/Optional" ∧ Fld Z h o120 "java/util/Optional" "value" "Ljava/lang/Object;" (.ref aStar) ∧ Old Z n0 h ∧ o108 ≠ o120 ∧ h0.size ≤ o120 ∧ n0 ≤ o120) ∨ (∃ (o124 : Addr), v = some (.ref o124) ∧ (XT.cmpL t santa) < (0 : Int32) ∧ ¬ (XT.cmpL t tree) < (0 : Int32) ∧ Keep h0 h [o108] ∧ Exa Z h o108 "com/example/tinsel_tally/tinseltally/Figures" ∧ Fld Z h o108 "com/example/tinsel_tally/tinseltally/Figures" "floor" "J" (.long (0 : Int64)) ∧ Fld Z h o108 "com/example/tinsel_tally/tinseltally/Figures" "dDayFirst" "J" (.long (0 : Int64)) ∧ Fld Z h o108 "com/example/tinsel_tally/tinseltally/Figures" "dDayRise" "J" (.long (0 : Int64)) ∧ Fld Z h o108 "com/example/tinsel_tally/tinseltally/Figures" "perDessert" "J" (.long (0 : Int64)) ∧ Fld Z h o108 "com/example/tinsel_tally/tinseltally/Figures" "perMain" "J" (.long (0 : Int64)) ∧ Fld Z h o108 "com/example/tinsel_tally/tinseltally/Figures" "specialDiscount" "J" (.long (0 : Int64)) ∧ Fld Z h o108 "com/example/tinsel_tally/tinseltally/Figures" "giftThreshold" "J" (.long (0 : Int64)) ∧ Fld Z h o108 "com/example/tinsel_tally/tinseltally/Figures" "giftDish" "Ljava/lang/String;" (.ref t109) ∧ Fld Z h o108 "com/example/tinsel_tally/tinseltally/Figures" "starThreshold" "J" (.long star) ∧ Fld Z h o108 "com/example/tinsel_tally/tinseltally/Figures" "treeThreshold" "J" (.long tree) ∧ Fld Z h o108 "com/example/tinsel_tally/tinseltally/Figures" "santaThreshold" "J" (.long santa) ∧ Exa Z h o124 "java/util/Optional" ∧ Fld Z h o124 "java/util/Optional" "value" "Ljava/lang/Object;" (.ref aTree) ∧ Old Z n0 h ∧ o108 ≠ o124 ∧ h0.size ≤ o124 ∧ n0 ≤ o124) ∨ (∃ (o128 : Addr), v = some (.ref o128) ∧ ¬ (XT.cmpL t santa) < (0 : Int32) ∧ Keep h0 h [o108] ∧ Exa Z h o108 "com/example/tinsel_tally/tinseltally/Figures" ∧ Fld Z h o108 "com/example/tinsel_tally/tinseltally/Figures" "floor" "J" (.long (0 : Int64)) ∧ Fld Z h o108 "com/example/tinsel_tally/tinseltally/Figures" "dDayFirst" "J" (.long (0 : Int64)) ∧ Fld Z h o108 "com/example/tinsel_tally/tinseltally/Figures" "dDayRise" "J" (.long (0 : Int64)) ∧ Fld Z h o108 "com/example/tinsel_tally/tinseltally/Figures" "perDessert" "J" (.long (0 : Int64)) ∧ Fld Z h o108 "com/example/tinsel_tally/tinseltally/Figures" "perMain" "J" (.long (0 : Int64)) ∧ Fld Z h o108 "com/example/tinsel_tally/tinseltally/Figures" "specialDiscount" "J" (.long (0 : Int64)) ∧ Fld Z h o108 "com/example/tinsel_tally/tinseltally/Figures" "giftThreshold" "J" (.long (0 : Int64)) ∧ Fld Z h o108 "com/example/tinsel_tally/tinseltally/Figures" "giftDish" "Ljava/lang/String;" (.ref t109) ∧ Fld Z h o108 "com/example/tinsel_tally/tinseltally/Figures" "starThreshold" "J" (.long star) ∧ Fld Z h o108 "com/example/tinsel_tally/tinseltally/Figures" "treeThreshold" "J" (.long tree) ∧ Fld Z h o108 "com/example/tinsel_tally/tinseltally/Figures" "santaThreshold" "J" (.long santa) ∧ Exa Z h o128 "java/util/Optional" ∧ Fld Z h o128 "java/util/Optional" "value" "Ljava/lang/Object;" (.ref aSanta) ∧ Old Z n0 h ∧ o108 ≠ o128 ∧ h0.size ≤ o128 ∧ n0 ≤ o128)) := by
  refine Met.mk (tabs := tables_1) (a0 := a0) (ls0 := #[.val (.long t), .second, .val (.ref o108), .unset]) (plainFor_of_name pn_com_example_tinsel_tally_tinseltally_Badge) hw Z0 (fun m => by first | (simp [entryFrame, mkF, argsToLocals, Value.category]; done) | rfl) ?_
  intro p e s m below meth c T C X
  have Kp : Keep h0 h0 [o108] := Keep.refl _ _
  refine s_callS 3 [] [] 0 C X d3_0 (List.mem_of_getElem? (i := 45) rfl) (List.mem_of_getElem? (i := 46) rfl) (List.mem_of_getElem? (i := 47) rfl) (List.mem_of_getElem? (i := 48) rfl) (rm_a112 l Z a0 hw aSanta aTree aStar aE _ n0 X.sz Od S_E S_SANTA S_TREE S_STAR) (lenOf pd___Ljava_util_Optional_ rfl) rfl rfl rfl (fun T v hh X q => ?_)
  obtain ⟨rfl, Od, Kc⟩ := q
  have E_o108 := E_o108.keep Kc
  have F_o108_floor := F_o108_floor.keep Kc nin0
  have F_o108_dDayFirst := F_o108_dDayFirst.keep Kc nin0
  have F_o108_dDayRise := F_o108_dDayRise.keep Kc nin0
  have F_o108_perDessert := F_o108_perDessert.keep Kc nin0
  have F_o108_perMain := F_o108_perMain.keep Kc nin0
  have F_o108_specialDiscount := F_o108_specialDiscount.keep Kc nin0
  have F_o108_giftThreshold := F_o108_giftThreshold.keep Kc nin0
  have F_o108_giftDish := F_o108_giftDish.keep Kc nin0
  have F_o108_starThreshold := F_o108_starThreshold.keep Kc nin0
  have F_o108_treeThreshold := F_o108_treeThreshold.keep Kc nin0
  have F_o108_santaThreshold := F_o108_santaThreshold.keep Kc nin0
  have Kp := Kp.trans Kc all0
  refine Run.cast (st' := [(.ref aE)]) rfl ?_
  refine s_astoreN 4 C X (l' := #[.val (.long t), .second, .val (.ref o108), .val (.ref aE)]) d3_3 rfl rfl ?_
  refine s_lloadN 5 C X d3_4 rfl ?_
  refine s_aloadN 6 C X d3_5 rfl rfl ?_
  refine s_callV 9 [] [(.long t)] 2 C X d3_6 (List.mem_of_getElem? (i := 50) rfl) (List.mem_of_getElem? (i := 51) rfl) (notFace_of_selects (args := #[]) (mvT C.2.1 (C.w (List.mem_of_getElem? (i := 53) rfl)))) (List.mem_of_getElem? (i := 53) rfl) (List.mem_of_getElem? (i := 52) rfl) (List.mem_of_getElem? (i := 4) rfl) (List.mem_of_getElem? (i := 54) rfl) E_o108 (rm_a113 l Z a0 hw aSanta aTree aStar aE star tree santa o108 t109 _ n0 X.sz E_o108 F_o108_floor F_o108_dDayFirst F_o108_dDayRise F_o108_perDessert F_o108_perMain F_o108_specialDiscount F_o108_giftThreshold F_o108_giftDish F_o108_starThreshold F_o108_treeThreshold F_o108_santaThreshold Od S_E S_SANTA S_TREE S_STAR g_o108) (lenOf pd___J rfl) rfl rfl rfl (fun T v hh X q => ?_)
  obtain ⟨rfl, E_o108, F_o108_floor, F_o108_dDayFirst, F_o108_dDayRise, F_o108_perDessert, F_o108_perMain, F_o108_specialDiscount, F_o108_giftThreshold, F_o108_giftDish, F_o108_starThreshold, F_o108_treeThreshold, F_o108_santaThreshold, Od, Kc⟩ := q
  have Kp := Kp.trans Kc (allS (Or.inl (by simp)) all0)
  refine Run.cast (st' := [(.long santa), (.long t)]) rfl ?_
  refine s_lcmp 10 C X d3_9 ?_
  refine s_if_lt 23 13 C X d3_10 (fun c10_114 => ?_) (fun c10_114 => ?_)
  · have t_c10_114 : (t).toInt < (santa).toInt := cl_lt.mp c10_114
    refine s_lloadN 24 C X d3_23 rfl ?_
    refine s_aloadN 25 C X d3_24 rfl rfl ?_
    refine s_callV 28 [] [(.long t)] 2 C X d3_25 (List.mem_of_getElem? (i := 81) rfl) (List.mem_of_getElem? (i := 82) rfl) (notFace_of_selects (args := #[]) (mvT C.2.1 (C.w (List.mem_of_getElem? (i := 84) rfl)))) (List.mem_of_getElem? (i := 84) rfl) (List.mem_of_getElem? (i := 83) rfl) (List.mem_of_getElem? (i := 4) rfl) (List.mem_of_getElem? (i := 85) rfl) E_o108 (rm_a115 l Z a0 hw aSanta aTree aStar aE star tree santa o108 t109 _ n0 X.sz E_o108 F_o108_floor F_o108_dDayFirst F_o108_dDayRise F_o108_perDessert F_o108_perMain F_o108_specialDiscount F_o108_giftThreshold F_o108_giftDish F_o108_starThreshold F_o108_treeThreshold F_o108_santaThreshold Od S_E S_SANTA S_TREE S_STAR g_o108) (lenOf pd___J rfl) rfl rfl rfl (fun T v hh X q => ?_)
    obtain ⟨rfl, E_o108, F_o108_floor, F_o108_dDayFirst, F_o108_dDayRise, F_o108_perDessert, F_o108_perMain, F_o108_specialDiscount, F_o108_giftThreshold, F_o108_giftDish, F_o108_starThreshold, F_o108_treeThreshold, F_o108_santaThreshold, Od, Kc⟩ := q
    have Kp := Kp.trans Kc (allS (Or.inl (by simp)) all0)
    refine Run.cast (st' := [(.long tree), (.long t)]) rfl ?_
    refine s_lcmp 29 C X d3_28 ?_
    refine s_if_lt 42 32 C X d3_29 (fun c29_116 => ?_) (fun c29_116 => ?_)
    · have t_c29_116 : (t).toInt < (tree).toInt := cl_lt.mp c29_116
      refine s_lloadN 43 C X d3_42 rfl ?_
      refine s_aloadN 44 C X d3_43 rfl rfl ?_
      refine s_callV 47 [] [(.long t)] 2 C X d3_44 (List.mem_of_getElem? (i := 89) rfl) (List.mem_of_getElem? (i := 90) rfl) (notFace_of_selects (args := #[]) (mvT C.2.1 (C.w (List.mem_of_getElem? (i := 92) rfl)))) (List.mem_of_getElem? (i := 92) rfl) (List.mem_of_getElem? (i := 91) rfl) (List.mem_of_getElem? (i := 4) rfl) (List.mem_of_getElem? (i := 93) rfl) E_o108 (rm_a117 l Z a0 hw aSanta aTree aStar aE star tree santa o108 t109 _ n0 X.sz E_o108 F_o108_floor F_o108_dDayFirst F_o108_dDayRise F_o108_perDessert F_o108_perMain F_o108_specialDiscount F_o108_giftThreshold F_o108_giftDish F_o108_starThreshold F_o108_treeThreshold F_o108_santaThreshold Od S_E S_SANTA S_TREE S_STAR g_o108) (lenOf pd___J rfl) rfl rfl rfl (fun T v hh X q => ?_)
      obtain ⟨rfl, E_o108, F_o108_floor, F_o108_dDayFirst, F_o108_dDayRise, F_o108_perDessert, F_o108_perMain, F_o108_specialDiscount, F_o108_giftThreshold, F_o108_giftDish, F_o108_starThreshold, F_o108_treeThreshold, F_o108_santaThreshold, Od, Kc⟩ := q
      have Kp := Kp.trans Kc (allS (Or.inl (by simp)) all0)
      refine Run.cast (st' := [(.long star), (.long t)]) rfl ?_
      refine s_lcmp 48 C X d3_47 ?_
      refine s_if_lt 58 51 C X d3_48 (fun c48_118 => ?_) (fun c48_118 => ?_)
      · have t_c48_118 : (t).toInt < (star).toInt := cl_lt.mp c48_118
        refine s_aloadN 59 C X d3_58 rfl rfl ?_
        refine s_areturn C X d3_59 rfl rfl rfl ?_
        exact (Or.inl ⟨rfl, c10_114, c29_116, c48_118, Kp, E_o108, F_o108_floor, F_o108_dDayFirst, F_o108_dDayRise, F_o108_perDessert, F_o108_perMain, F_o108_specialDiscount, F_o108_giftThreshold, F_o108_giftDish, F_o108_starThreshold, F_o108_treeThreshold, F_o108_santaThreshold, Od⟩)
      have t_c48_118 : ¬ ((t).toInt < (star).toInt) := fun q => c48_118 (cl_lt.mpr q)
      refine s_getstatic 54 C X (host := "") d3_51 (Or.inl (List.mem_of_getElem? (i := 94) rfl)) Via.refl (S_STAR.ext Od.2) (fun T X => ?_)
      refine s_callS 57 [(.ref aStar)] [] 0 C X d3_54 (List.mem_of_getElem? (i := 57) rfl) (List.mem_of_getElem? (i := 58) rfl) (List.mem_of_getElem? (i := 47) rfl) (List.mem_of_getElem? (i := 59) rfl) (rm_a119 l Z a0 hw aSanta aTree aStar aE _ n0 X.sz Od S_E S_SANTA S_TREE S_STAR) (lenOf pd__Ljava_lang_Object__Ljava_util_Optional_ rfl) rfl rfl rfl (fun T v hh X q => ?_)
      obtain ⟨o120, rfl, Kc, E_o120, F_o120_value, Od, sz_o120', g_o120⟩ := q
      have ne_o108_o120 : o108 ≠ o120 := Nat.ne_of_lt (Nat.lt_of_lt_of_le E_o108.lt sz_o120')
      have sz_o120 : h0.size ≤ o120 := Nat.le_trans Kp.1 sz_o120'
      have Kp := Kp.trans Kc all0
      have E_o108 := E_o108.keep Kc
      have F_o108_floor := F_o108_floor.keep Kc nin0
      have F_o108_dDayFirst := F_o108_dDayFirst.keep Kc nin0
      have F_o108_dDayRise := F_o108_dDayRise.keep Kc nin0
      have F_o108_perDessert := F_o108_perDessert.keep Kc nin0
      have F_o108_perMain := F_o108_perMain.keep Kc nin0
      have F_o108_specialDiscount := F_o108_specialDiscount.keep Kc nin0
      have F_o108_giftThreshold := F_o108_giftThreshold.keep Kc nin0
      have F_o108_giftDish := F_o108_giftDish.keep Kc nin0
      have F_o108_starThreshold := F_o108_starThreshold.keep Kc nin0
      have F_o108_treeThreshold := F_o108_treeThreshold.keep Kc nin0
      have F_o108_santaThreshold := F_o108_santaThreshold.keep Kc nin0
      refine Run.cast (st' := [(.ref o120)]) rfl ?_
      refine s_astoreN 58 C X (l' := #[.val (.long t), .second, .val (.ref o108), .val (.ref o120)]) d3_57 rfl rfl ?_
      refine s_aloadN 59 C X d3_58 rfl rfl ?_
      refine s_areturn C X d3_59 rfl rfl rfl ?_
      exact (Or.inr (Or.inl ⟨o120, rfl, c10_114, c29_116, c48_118, Kp, E_o108, F_o108_floor, F_o108_dDayFirst, F_o108_dDayRise, F_o108_perDessert, F_o108_perMain, F_o108_specialDiscount, F_o108_giftThreshold, F_o108_giftDish, F_o108_starThreshold, F_o108_treeThreshold, F_o108_santaThreshold, E_o120, F_o120_value, Od, ne_o108_o120, sz_o120, g_o120⟩))
    have t_c29_116 : ¬ ((t).toInt < (tree).toInt) := fun q => c29_116 (cl_lt.mpr q)
    refine s_getstatic 35 C X (host := "") d3_32 (Or.inl (List.mem_of_getElem? (i := 86) rfl)) Via.refl (S_TREE.ext Od.2) (fun T X => ?_)
    refine s_callS 38 [(.ref aTree)] [] 0 C X d3_35 (List.mem_of_getElem? (i := 57) rfl) (List.mem_of_getElem? (i := 58) rfl) (List.mem_of_getElem? (i := 47) rfl) (List.mem_of_getElem? (i := 59) rfl) (rm_a123 l Z a0 hw aSanta aTree aStar aE _ n0 X.sz Od S_E S_SANTA S_TREE S_STAR) (lenOf pd__Ljava_lang_Object__Ljava_util_Optional_ rfl) rfl rfl rfl (fun T v hh X q => ?_)
    obtain ⟨o124, rfl, Kc, E_o124, F_o124_value, Od, sz_o124', g_o124⟩ := q
    have ne_o108_o124 : o108 ≠ o124 := Nat.ne_of_lt (Nat.lt_of_lt_of_le E_o108.lt sz_o124')
    have sz_o124 : h0.size ≤ o124 := Nat.le_trans Kp.1 sz_o124'
    have Kp := Kp.trans Kc all0
    have E_o108 := E_o108.keep Kc
    have F_o108_floor := F_o108_floor.keep Kc nin0
    have F_o108_dDayFirst := F_o108_dDayFirst.keep Kc nin0
    have F_o108_dDayRise := F_o108_dDayRise.keep Kc nin0
    have F_o108_perDessert := F_o108_perDessert.keep Kc nin0
    have F_o108_perMain := F_o108_perMain.keep Kc nin0
    have F_o108_specialDiscount := F_o108_specialDiscount.keep Kc nin0
    have F_o108_giftThreshold := F_o108_giftThreshold.keep Kc nin0
    have F_o108_giftDish := F_o108_giftDish.keep Kc nin0
    have F_o108_starThreshold := F_o108_starThreshold.keep Kc nin0
    have F_o108_treeThreshold := F_o108_treeThreshold.keep Kc nin0
    have F_o108_santaThreshold := F_o108_santaThreshold.keep Kc nin0
    refine Run.cast (st' := [(.ref o124)]) rfl ?_
    refine s_astoreN 39 C X (l' := #[.val (.long t), .second, .val (.ref o108), .val (.ref o124)]) d3_38 rfl rfl ?_
    refine s_goto 58 C X d3_39 ?_
    refine s_aloadN 59 C X d3_58 rfl rfl ?_
    refine s_areturn C X d3_59 rfl rfl rfl ?_
    exact (Or.inr (Or.inr (Or.inl ⟨o124, rfl, c10_114, c29_116, Kp, E_o108, F_o108_floor, F_o108_dDayFirst, F_o108_dDayRise, F_o108_perDessert, F_o108_perMain, F_o108_specialDiscount, F_o108_giftThreshold, F_o108_giftDish, F_o108_starThreshold, F_o108_treeThreshold, F_o108_santaThreshold, E_o124, F_o124_value, Od, ne_o108_o124, sz_o124, g_o124⟩)))
  have t_c10_114 : ¬ ((t).toInt < (santa).toInt) := fun q => c10_114 (cl_lt.mpr q)
  refine s_getstatic 16 C X (host := "") d3_13 (Or.inl (List.mem_of_getElem? (i := 55) rfl)) Via.refl (S_SANTA.ext Od.2) (fun T X => ?_)
  refine s_callS 19 [(.ref aSanta)] [] 0 C X d3_16 (List.mem_of_getElem? (i := 57) rfl) (List.mem_of_getElem? (i := 58) rfl) (List.mem_of_getElem? (i := 47) rfl) (List.mem_of_getElem? (i := 59) rfl) (rm_a127 l Z a0 hw aSanta aTree aStar aE _ n0 X.sz Od S_E S_SANTA S_TREE S_STAR) (lenOf pd__Ljava_lang_Object__Ljava_util_Optional_ rfl) rfl rfl rfl (fun T v hh X q => ?_)
  obtain ⟨o128, rfl, Kc, E_o128, F_o128_value, Od, sz_o128', g_o128⟩ := q
  have ne_o108_o128 : o108 ≠ o128 := Nat.ne_of_lt (Nat.lt_of_lt_of_le E_o108.lt sz_o128')
  have sz_o128 : h0.size ≤ o128 := Nat.le_trans Kp.1 sz_o128'
  have Kp := Kp.trans Kc all0
  have E_o108 := E_o108.keep Kc
  have F_o108_floor := F_o108_floor.keep Kc nin0
  have F_o108_dDayFirst := F_o108_dDayFirst.keep Kc nin0
  have F_o108_dDayRise := F_o108_dDayRise.keep Kc nin0
  have F_o108_perDessert := F_o108_perDessert.keep Kc nin0
  have F_o108_perMain := F_o108_perMain.keep Kc nin0
  have F_o108_specialDiscount := F_o108_specialDiscount.keep Kc nin0
  have F_o108_giftThreshold := F_o108_giftThreshold.keep Kc nin0
  have F_o108_giftDish := F_o108_giftDish.keep Kc nin0
  have F_o108_starThreshold := F_o108_starThreshold.keep Kc nin0
  have F_o108_treeThreshold := F_o108_treeThreshold.keep Kc nin0
  have F_o108_santaThreshold := F_o108_santaThreshold.keep Kc nin0
  refine Run.cast (st' := [(.ref o128)]) rfl ?_
  refine s_astoreN 20 C X (l' := #[.val (.long t), .second, .val (.ref o108), .val (.ref o128)]) d3_19 rfl rfl ?_
  refine s_goto 58 C X d3_20 ?_
  refine s_aloadN 59 C X d3_58 rfl rfl ?_
  refine s_areturn C X d3_59 rfl rfl rfl ?_
  exact (Or.inr (Or.inr (Or.inr ⟨o128, rfl, c10_114, Kp, E_o108, F_o108_floor, F_o108_dDayFirst, F_o108_dDayRise, F_o108_perDessert, F_o108_perMain, F_o108_specialDiscount, F_o108_giftThreshold, F_o108_giftDish, F_o108_starThreshold, F_o108_treeThreshold, F_o108_santaThreshold, E_o128, F_o128_value, Od, ne_o108_o128, sz_o128, g_o128⟩)))
set_option maxRecDepth 65536 in
set_option maxHeartbeats 40000000 in
theorem rm_a131 (l : Launch) (Z : State) (a0 : Array Value) (hw : ∀ d ∈ tables_1, d.before a0 Z = true) (aSanta : Addr) (aTree : Addr) (aStar : Addr) (aE : Addr) (h0 : Heap) (n0 : Nat) (Z0 : n0 ≤ h0.size) (E_aE : Exa Z h0 aE "java/util/Optional") (F_aE_value : Fld Z h0 aE "java/util/Optional" "value" "Ljava/lang/Object;" .null) (Od : Old Z n0 h0) (S_E : Sta Z Z.heap "java/util/Optional" "EMPTY" "Ljava/util/Optional;" (.ref aE)) (S_SANTA : Sta Z Z.heap "com/example/tinsel_tally/tinseltally/Badge" "SANTA" "Lcom/example/tinsel_tally/tinseltally/Badge;" (.ref aSanta)) (S_TREE : Sta Z Z.heap "com/example/tinsel_tally/tinseltally/Badge" "TREE" "Lcom/example/tinsel_tally/tinseltally/Badge;" (.ref aTree)) (S_STAR : Sta Z Z.heap "com/example/tinsel_tally/tinseltally/Badge" "STAR" "Lcom/example/tinsel_tally/tinseltally/Badge;" (.ref aStar)) :
    Met l Z (⟨"java/util/Optional", "orElse", "(Ljava/lang/Object;)Ljava/lang/Object;"⟩ : MethodName) jdk_32_method_15_code 2 (some (.object "java/lang/Object")) { frames := 0, cells := 0, slots := 0, locals := 0 } [] #[(.ref aE), .null] h0 n0 (fun v h => v = some .null ∧ Exa Z h aE "java/util/Optional" ∧ Fld Z h aE "java/util/Optional" "value" "Ljava/lang/Object;" .null ∧ Old Z n0 h ∧ Keep h0 h [aE]) := by
  refine Met.mk (tabs := tables_1) (a0 := a0) (ls0 := #[.val (.ref aE), .val .null]) (plainFor_of_name pn_java_util_Optional) hw Z0 (fun m => by first | (simp [entryFrame, mkF, argsToLocals, Value.category]; done) | rfl) ?_
  intro p e s m below meth c T C X
  have Kp : Keep h0 h0 [aE] := Keep.refl _ _
  refine s_aloadN 1 C X d9_0 rfl rfl ?_
  refine s_getfield 4 C X (host := "") d9_1 (Or.inl (List.mem_of_getElem? (i := 71) rfl)) Via.refl F_aE_value (fun T X => ?_)
  refine s_ifnullY 14 C X d9_4 ?_
  refine s_aloadN 15 C X d9_14 rfl rfl ?_
  refine s_areturn C X d9_15 rfl rfl rfl ?_
  exact ⟨rfl, E_aE, F_aE_value, Od, Kp⟩
set_option maxRecDepth 65536 in
set_option maxHeartbeats 40000000 in
theorem rm_a137 (l : Launch) (Z : State) (a0 : Array Value) (hw : ∀ d ∈ tables_1, d.before a0 Z = true) (aSanta : Addr) (aTree : Addr) (aStar : Addr) (aE : Addr) (o120 : Addr) (h0 : Heap) (n0 : Nat) (Z0 : n0 ≤ h0.size) (E_aStar : Exa Z h0 aStar "com/example/tinsel_tally/tinseltally/Badge") (E_o120 : Exa Z h0 o120 "java/util/Optional") (F_o120_value : Fld Z h0 o120 "java/util/Optional" "value" "Ljava/lang/Object;" (.ref aStar)) (Od : Old Z n0 h0) (S_E : Sta Z Z.heap "java/util/Optional" "EMPTY" "Ljava/util/Optional;" (.ref aE)) (S_SANTA : Sta Z Z.heap "com/example/tinsel_tally/tinseltally/Badge" "SANTA" "Lcom/example/tinsel_tally/tinseltally/Badge;" (.ref aSanta)) (S_TREE : Sta Z Z.heap "com/example/tinsel_tally/tinseltally/Badge" "TREE" "Lcom/example/tinsel_tally/tinseltally/Badge;" (.ref aTree)) (S_STAR : Sta Z Z.heap "com/example/tinsel_tally/tinseltally/Badge" "STAR" "Lcom/example/tinsel_tally/tinseltally/Badge;" (.ref aStar)) (ne_aStar_o120 : aStar ≠ o120) (g_o120 : n0 ≤ o120) :
    Met l Z (⟨"java/util/Optional", "orElse", "(Ljava/lang/Object;)Ljava/lang/Object;"⟩ : MethodName) jdk_32_method_15_code 2 (some (.object "java/lang/Object")) { frames := 0, cells := 0, slots := 0, locals := 0 } [] #[(.ref o120), .null] h0 n0 (fun v h => v = some (.ref aStar) ∧ Exa Z h aStar "com/example/tinsel_tally/tinseltally/Badge" ∧ Exa Z h o120 "java/util/Optional" ∧ Fld Z h o120 "java/util/Optional" "value" "Ljava/lang/Object;" (.ref aStar) ∧ Old Z n0 h ∧ Keep h0 h [o120, aStar]) := by
  refine Met.mk (tabs := tables_1) (a0 := a0) (ls0 := #[.val (.ref o120), .val .null]) (plainFor_of_name pn_java_util_Optional) hw Z0 (fun m => by first | (simp [entryFrame, mkF, argsToLocals, Value.category]; done) | rfl) ?_
  intro p e s m below meth c T C X
  have Kp : Keep h0 h0 [o120, aStar] := Keep.refl _ _
  refine s_aloadN 1 C X d9_0 rfl rfl ?_
  refine s_getfield 4 C X (host := "") d9_1 (Or.inl (List.mem_of_getElem? (i := 71) rfl)) Via.refl F_o120_value (fun T X => ?_)
  refine s_ifnullN 7 C X d9_4 ?_
  refine s_aloadN 8 C X d9_7 rfl rfl ?_
  refine s_getfield 11 C X (host := "") d9_8 (Or.inl (List.mem_of_getElem? (i := 71) rfl)) Via.refl F_o120_value (fun T X => ?_)
  refine s_goto 15 C X d9_11 ?_
  refine s_areturn C X d9_15 rfl rfl rfl ?_
  exact ⟨rfl, E_aStar, E_o120, F_o120_value, Od, Kp⟩
set_option maxRecDepth 65536 in
set_option maxHeartbeats 40000000 in
theorem rm_a144 (l : Launch) (Z : State) (a0 : Array Value) (hw : ∀ d ∈ tables_1, d.before a0 Z = true) (aSanta : Addr) (aTree : Addr) (aStar : Addr) (aE : Addr) (o124 : Addr) (h0 : Heap) (n0 : Nat) (Z0 : n0 ≤ h0.size) (E_aTree : Exa Z h0 aTree "com/example/tinsel_tally/tinseltally/Badge") (E_o124 : Exa Z h0 o124 "java/util/Optional") (F_o124_value : Fld Z h0 o124 "java/util/Optional" "value" "Ljava/lang/Object;" (.ref aTree)) (Od : Old Z n0 h0) (S_E : Sta Z Z.heap "java/util/Optional" "EMPTY" "Ljava/util/Optional;" (.ref aE)) (S_SANTA : Sta Z Z.heap "com/example/tinsel_tally/tinseltally/Badge" "SANTA" "Lcom/example/tinsel_tally/tinseltally/Badge;" (.ref aSanta)) (S_TREE : Sta Z Z.heap "com/example/tinsel_tally/tinseltally/Badge" "TREE" "Lcom/example/tinsel_tally/tinseltally/Badge;" (.ref aTree)) (S_STAR : Sta Z Z.heap "com/example/tinsel_tally/tinseltally/Badge" "STAR" "Lcom/example/tinsel_tally/tinseltally/Badge;" (.ref aStar)) (ne_aTree_o124 : aTree ≠ o124) (g_o124 : n0 ≤ o124) :
    Met l Z (⟨"java/util/Optional", "orElse", "(Ljava/lang/Object;)Ljava/lang/Object;"⟩ : MethodName) jdk_32_method_15_code 2 (some (.object "java/lang/Object")) { frames := 0, cells := 0, slots := 0, locals := 0 } [] #[(.ref o124), .null] h0 n0 (fun v h => v = some (.ref aTree) ∧ Exa Z h aTree "com/example/tinsel_tally/tinseltally/Badge" ∧ Exa Z h o124 "java/util/Optional" ∧ Fld Z h o124 "java/util/Optional" "value" "Ljava/lang/Object;" (.ref aTree) ∧ Old Z n0 h ∧ Keep h0 h [o124, aTree]) := by
  refine Met.mk (tabs := tables_1) (a0 := a0) (ls0 := #[.val (.ref o124), .val .null]) (plainFor_of_name pn_java_util_Optional) hw Z0 (fun m => by first | (simp [entryFrame, mkF, argsToLocals, Value.category]; done) | rfl) ?_
  intro p e s m below meth c T C X
  have Kp : Keep h0 h0 [o124, aTree] := Keep.refl _ _
  refine s_aloadN 1 C X d9_0 rfl rfl ?_
  refine s_getfield 4 C X (host := "") d9_1 (Or.inl (List.mem_of_getElem? (i := 71) rfl)) Via.refl F_o124_value (fun T X => ?_)
  refine s_ifnullN 7 C X d9_4 ?_
  refine s_aloadN 8 C X d9_7 rfl rfl ?_
  refine s_getfield 11 C X (host := "") d9_8 (Or.inl (List.mem_of_getElem? (i := 71) rfl)) Via.refl F_o124_value (fun T X => ?_)
  refine s_goto 15 C X d9_11 ?_
  refine s_areturn C X d9_15 rfl rfl rfl ?_
  exact ⟨rfl, E_aTree, E_o124, F_o124_value, Od, Kp⟩
set_option maxRecDepth 65536 in
set_option maxHeartbeats 40000000 in
theorem rm_a152 (l : Launch) (Z : State) (a0 : Array Value) (hw : ∀ d ∈ tables_1, d.before a0 Z = true) (aSanta : Addr) (aTree : Addr) (aStar : Addr) (aE : Addr) (o128 : Addr) (h0 : Heap) (n0 : Nat) (Z0 : n0 ≤ h0.size) (E_aSanta : Exa Z h0 aSanta "com/example/tinsel_tally/tinseltally/Badge") (E_o128 : Exa Z h0 o128 "java/util/Optional") (F_o128_value : Fld Z h0 o128 "java/util/Optional" "value" "Ljava/lang/Object;" (.ref aSanta)) (Od : Old Z n0 h0) (S_E : Sta Z Z.heap "java/util/Optional" "EMPTY" "Ljava/util/Optional;" (.ref aE)) (S_SANTA : Sta Z Z.heap "com/example/tinsel_tally/tinseltally/Badge" "SANTA" "Lcom/example/tinsel_tally/tinseltally/Badge;" (.ref aSanta)) (S_TREE : Sta Z Z.heap "com/example/tinsel_tally/tinseltally/Badge" "TREE" "Lcom/example/tinsel_tally/tinseltally/Badge;" (.ref aTree)) (S_STAR : Sta Z Z.heap "com/example/tinsel_tally/tinseltally/Badge" "STAR" "Lcom/example/tinsel_tally/tinseltally/Badge;" (.ref aStar)) (ne_aSanta_o128 : aSanta ≠ o128) (g_o128 : n0 ≤ o128) :
    Met l Z (⟨"java/util/Optional", "orElse", "(Ljava/lang/Object;)Ljava/lang/Object;"⟩ : MethodName) jdk_32_method_15_code 2 (some (.object "java/lang/Object")) { frames := 0, cells := 0, slots := 0, locals := 0 } [] #[(.ref o128), .null] h0 n0 (fun v h => v = some (.ref aSanta) ∧ Exa Z h aSanta "com/example/tinsel_tally/tinseltally/Badge" ∧ Exa Z h o128 "java/util/Optional" ∧ Fld Z h o128 "java/util/Optional" "value" "Ljava/lang/Object;" (.ref aSanta) ∧ Old Z n0 h ∧ Keep h0 h [o128, aSanta]) := by
  refine Met.mk (tabs := tables_1) (a0 := a0) (ls0 := #[.val (.ref o128), .val .null]) (plainFor_of_name pn_java_util_Optional) hw Z0 (fun m => by first | (simp [entryFrame, mkF, argsToLocals, Value.category]; done) | rfl) ?_
  intro p e s m below meth c T C X
  have Kp : Keep h0 h0 [o128, aSanta] := Keep.refl _ _
  refine s_aloadN 1 C X d9_0 rfl rfl ?_
  refine s_getfield 4 C X (host := "") d9_1 (Or.inl (List.mem_of_getElem? (i := 71) rfl)) Via.refl F_o128_value (fun T X => ?_)
  refine s_ifnullN 7 C X d9_4 ?_
  refine s_aloadN 8 C X d9_7 rfl rfl ?_
  refine s_getfield 11 C X (host := "") d9_8 (Or.inl (List.mem_of_getElem? (i := 71) rfl)) Via.refl F_o128_value (fun T X => ?_)
  refine s_goto 15 C X d9_11 ?_
  refine s_areturn C X d9_15 rfl rfl rfl ?_
  exact ⟨rfl, E_aSanta, E_o128, F_o128_value, Od, Kp⟩
set_option maxRecDepth 65536 in
set_option maxHeartbeats 40000000 in
theorem rm_a162 (l : Launch) (Z : State) (a0 : Array Value) (hw : ∀ d ∈ tables_1, d.before a0 Z = true) (aSanta : Addr) (aTree : Addr) (aStar : Addr) (aE : Addr) (star : Int64) (tree : Int64) (santa : Int64) (t : Int64) (o160 : Addr) (t161 : Addr) (h0 : Heap) (n0 : Nat) (Z0 : n0 ≤ h0.size) (Od : Old Z n0 h0) (S_E : Sta Z Z.heap "java/util/Optional" "EMPTY" "Ljava/util/Optional;" (.ref aE)) (S_SANTA : Sta Z Z.heap "com/example/tinsel_tally/tinseltally/Badge" "SANTA" "Lcom/example/tinsel_tally/tinseltally/Badge;" (.ref aSanta)) (S_TREE : Sta Z Z.heap "com/example/tinsel_tally/tinseltally/Badge" "TREE" "Lcom/example/tinsel_tally/tinseltally/Badge;" (.ref aTree)) (S_STAR : Sta Z Z.heap "com/example/tinsel_tally/tinseltally/Badge" "STAR" "Lcom/example/tinsel_tally/tinseltally/Badge;" (.ref aStar)) (E_o160 : Exa Z h0 o160 "com/example/tinsel_tally/tinseltally/Figures") (F_o160_floor : Fld Z h0 o160 "com/example/tinsel_tally/tinseltally/Figures" "floor" "J" (.long (0 : Int64))) (F_o160_dDayFirst : Fld Z h0 o160 "com/example/tinsel_tally/tinseltally/Figures" "dDayFirst" "J" (.long (0 : Int64))) (F_o160_dDayRise : Fld Z h0 o160 "com/example/tinsel_tally/tinseltally/Figures" "dDayRise" "J" (.long (0 : Int64))) (F_o160_perDessert : Fld Z h0 o160 "com/example/tinsel_tally/tinseltally/Figures" "perDessert" "J" (.long (0 : Int64))) (F_o160_perMain : Fld Z h0 o160 "com/example/tinsel_tally/tinseltally/Figures" "perMain" "J" (.long (0 : Int64))) (F_o160_specialDiscount : Fld Z h0 o160 "com/example/tinsel_tally/tinseltally/Figures" "specialDiscount" "J" (.long (0 : Int64))) (F_o160_giftThreshold : Fld Z h0 o160 "com/example/tinsel_tally/tinseltally/Figures" "giftThreshold" "J" (.long (0 : Int64))) (F_o160_giftDish : Fld Z h0 o160 "com/example/tinsel_tally/tinseltally/Figures" "giftDish" "Ljava/lang/String;" .null) (F_o160_starThreshold : Fld Z h0 o160 "com/example/tinsel_tally/tinseltally/Figures" "starThreshold" "J" (.long (0 : Int64))) (F_o160_treeThreshold : Fld Z h0 o160 "com/example/tinsel_tally/tinseltally/Figures" "treeThreshold" "J" (.long (0 : Int64))) (F_o160_santaThreshold : Fld Z h0 o160 "com/example/tinsel_tally/tinseltally/Figures" "santaThreshold" "J" (.long (0 : Int64))) (g_o160 : n0 ≤ o160) :
    Met l Z (⟨"com/example/tinsel_tally/tinseltally/Figures", "<init>", "(JJJJJJJLjava/lang/String;JJJ)V"⟩ : MethodName) prog_9_method_1_code 22 none { frames := 1, cells := 0, slots := 0, locals := 12 } [] #[(.ref o160), (.long (0 : Int64)), (.long (0 : Int64)), (.long (0 : Int64)), (.long (0 : Int64)), (.long (0 : Int64)), (.long (0 : Int64)), (.long (0 : Int64)), (.ref t161), (.long star), (.long tree), (.long santa)] h0 n0 (fun v h => v = none ∧ Old Z n0 h ∧ Exa Z h o160 "com/example/tinsel_tally/tinseltally/Figures" ∧ Fld Z h o160 "com/example/tinsel_tally/tinseltally/Figures" "floor" "J" (.long (0 : Int64)) ∧ Fld Z h o160 "com/example/tinsel_tally/tinseltally/Figures" "dDayFirst" "J" (.long (0 : Int64)) ∧ Fld Z h o160 "com/example/tinsel_tally/tinseltally/Figures" "dDayRise" "J" (.long (0 : Int64)) ∧ Fld Z h o160 "com/example/tinsel_tally/tinseltally/Figures" "perDessert" "J" (.long (0 : Int64)) ∧ Fld Z h o160 "com/example/tinsel_tally/tinseltally/Figures" "perMain" "J" (.long (0 : Int64)) ∧ Fld Z h o160 "com/example/tinsel_tally/tinseltally/Figures" "specialDiscount" "J" (.long (0 : Int64)) ∧ Fld Z h o160 "com/example/tinsel_tally/tinseltally/Figures" "giftThreshold" "J" (.long (0 : Int64)) ∧ Fld Z h o160 "com/example/tinsel_tally/tinseltally/Figures" "giftDish" "Ljava/lang/String;" (.ref t161) ∧ Fld Z h o160 "com/example/tinsel_tally/tinseltally/Figures" "starThreshold" "J" (.long star) ∧ Fld Z h o160 "com/example/tinsel_tally/tinseltally/Figures" "treeThreshold" "J" (.long tree) ∧ Fld Z h o160 "com/example/tinsel_tally/tinseltally/Figures" "santaThreshold" "J" (.long santa) ∧ Keep h0 h [o160]) := by
  refine Met.mk (tabs := tables_1) (a0 := a0) (ls0 := #[.val (.ref o160), .val (.long (0 : Int64)), .second, .val (.long (0 : Int64)), .second, .val (.long (0 : Int64)), .second, .val (.long (0 : Int64)), .second, .val (.long (0 : Int64)), .second, .val (.long (0 : Int64)), .second, .val (.long (0 : Int64)), .second, .val (.ref t161), .val (.long star), .second, .val (.long tree), .second, .val (.long santa), .second]) (plainFor_of_name pn_com_example_tinsel_tally_tinseltally_Figures) hw Z0 (fun m => by first | (simp [entryFrame, mkF, argsToLocals, Value.category]; done) | rfl) ?_
  intro p e s m below meth c T C X
  have Kp : Keep h0 h0 [o160] := Keep.refl _ _
  refine s_aloadN 1 C X d1_0 rfl rfl ?_
  refine s_objInit 4 C X d1_1 (List.mem_of_getElem? (i := 16) rfl) (List.mem_of_getElem? (i := 17) rfl) (List.mem_of_getElem? (i := 18) rfl) rfl (W := 0) rfl (by decide) (fun T X => ?_)
  refine s_aloadN 5 C X d1_4 rfl rfl ?_
  refine s_lloadN 6 C X d1_5 rfl ?_
  refine s_putfield 9 C X (host := "") d1_6 (Or.inl (List.mem_of_getElem? (i := 19) rfl)) Via.refl F_o160_floor E_o160 (Or.inr ⟨(List.mem_of_getElem? (i := 20) rfl), rfl, rfl⟩) (List.mem_of_getElem? (i := 3) rfl) (ty := .long) (by decide) rfl rfl g_o160 (fun T hh X W => ?_)
  have Od := Od.wr W g_o160
  have E_o160 := E_o160.wr W
  have F_o160_floor := F_o160_floor.same W
  have F_o160_dDayFirst := F_o160_dDayFirst.other W (Or.inr (slot_ne (Or.inr (hw _ (List.mem_of_getElem? (i := 22) rfl))) (Or.inr (hw _ (List.mem_of_getElem? (i := 20) rfl))) (by decide) (t := .long) (t' := .long) (by decide) (by decide)))
  have F_o160_dDayRise := F_o160_dDayRise.other W (Or.inr (slot_ne (Or.inr (hw _ (List.mem_of_getElem? (i := 24) rfl))) (Or.inr (hw _ (List.mem_of_getElem? (i := 20) rfl))) (by decide) (t := .long) (t' := .long) (by decide) (by decide)))
  have F_o160_perDessert := F_o160_perDessert.other W (Or.inr (slot_ne (Or.inr (hw _ (List.mem_of_getElem? (i := 26) rfl))) (Or.inr (hw _ (List.mem_of_getElem? (i := 20) rfl))) (by decide) (t := .long) (t' := .long) (by decide) (by decide)))
  have F_o160_perMain := F_o160_perMain.other W (Or.inr (slot_ne (Or.inr (hw _ (List.mem_of_getElem? (i := 28) rfl))) (Or.inr (hw _ (List.mem_of_getElem? (i := 20) rfl))) (by decide) (t := .long) (t' := .long) (by decide) (by decide)))
  have F_o160_specialDiscount := F_o160_specialDiscount.other W (Or.inr (slot_ne (Or.inr (hw _ (List.mem_of_getElem? (i := 30) rfl))) (Or.inr (hw _ (List.mem_of_getElem? (i := 20) rfl))) (by decide) (t := .long) (t' := .long) (by decide) (by decide)))
  have F_o160_giftThreshold := F_o160_giftThreshold.other W (Or.inr (slot_ne (Or.inr (hw _ (List.mem_of_getElem? (i := 32) rfl))) (Or.inr (hw _ (List.mem_of_getElem? (i := 20) rfl))) (by decide) (t := .long) (t' := .long) (by decide) (by decide)))
  have F_o160_giftDish := F_o160_giftDish.other W (Or.inr (slot_ne (Or.inr (hw _ (List.mem_of_getElem? (i := 34) rfl))) (Or.inr (hw _ (List.mem_of_getElem? (i := 20) rfl))) (by decide) (t := (.object "java/lang/String")) (t' := .long) (by decide) (by decide)))
  have F_o160_starThreshold := F_o160_starThreshold.other W (Or.inr (slot_ne (Or.inr (hw _ (List.mem_of_getElem? (i := 36) rfl))) (Or.inr (hw _ (List.mem_of_getElem? (i := 20) rfl))) (by decide) (t := .long) (t' := .long) (by decide) (by decide)))
  have F_o160_treeThreshold := F_o160_treeThreshold.other W (Or.inr (slot_ne (Or.inr (hw _ (List.mem_of_getElem? (i := 38) rfl))) (Or.inr (hw _ (List.mem_of_getElem? (i := 20) rfl))) (by decide) (t := .long) (t' := .long) (by decide) (by decide)))
  have F_o160_santaThreshold := F_o160_santaThreshold.other W (Or.inr (slot_ne (Or.inr (hw _ (List.mem_of_getElem? (i := 40) rfl))) (Or.inr (hw _ (List.mem_of_getElem? (i := 20) rfl))) (by decide) (t := .long) (t' := .long) (by decide) (by decide)))
  have Kp := Kp.wr W (Or.inl (by simp))
  refine s_aloadN 10 C X d1_9 rfl rfl ?_
  refine s_lloadN 11 C X d1_10 rfl ?_
  refine s_putfield 14 C X (host := "") d1_11 (Or.inl (List.mem_of_getElem? (i := 21) rfl)) Via.refl F_o160_dDayFirst E_o160 (Or.inr ⟨(List.mem_of_getElem? (i := 22) rfl), rfl, rfl⟩) (List.mem_of_getElem? (i := 3) rfl) (ty := .long) (by decide) rfl rfl g_o160 (fun T hh X W => ?_)
  have Od := Od.wr W g_o160
  have E_o160 := E_o160.wr W
  have F_o160_floor := F_o160_floor.other W (Or.inr (slot_ne (Or.inr (hw _ (List.mem_of_getElem? (i := 20) rfl))) (Or.inr (hw _ (List.mem_of_getElem? (i := 22) rfl))) (by decide) (t := .long) (t' := .long) (by decide) (by decide)))
  have F_o160_dDayFirst := F_o160_dDayFirst.same W
  have F_o160_dDayRise := F_o160_dDayRise.other W (Or.inr (slot_ne (Or.inr (hw _ (List.mem_of_getElem? (i := 24) rfl))) (Or.inr (hw _ (List.mem_of_getElem? (i := 22) rfl))) (by decide) (t := .long) (t' := .long) (by decide) (by decide)))
  have F_o160_perDessert := F_o160_perDessert.other W (Or.inr (slot_ne (Or.inr (hw _ (List.mem_of_getElem? (i := 26) rfl))) (Or.inr (hw _ (List.mem_of_getElem? (i := 22) rfl))) (by decide) (t := .long) (t' := .long) (by decide) (by decide)))
  have F_o160_perMain := F_o160_perMain.other W (Or.inr (slot_ne (Or.inr (hw _ (List.mem_of_getElem? (i := 28) rfl))) (Or.inr (hw _ (List.mem_of_getElem? (i := 22) rfl))) (by decide) (t := .long) (t' := .long) (by decide) (by decide)))
  have F_o160_specialDiscount := F_o160_specialDiscount.other W (Or.inr (slot_ne (Or.inr (hw _ (List.mem_of_getElem? (i := 30) rfl))) (Or.inr (hw _ (List.mem_of_getElem? (i := 22) rfl))) (by decide) (t := .long) (t' := .long) (by decide) (by decide)))
  have F_o160_giftThreshold := F_o160_giftThreshold.other W (Or.inr (slot_ne (Or.inr (hw _ (List.mem_of_getElem? (i := 32) rfl))) (Or.inr (hw _ (List.mem_of_getElem? (i := 22) rfl))) (by decide) (t := .long) (t' := .long) (by decide) (by decide)))
  have F_o160_giftDish := F_o160_giftDish.other W (Or.inr (slot_ne (Or.inr (hw _ (List.mem_of_getElem? (i := 34) rfl))) (Or.inr (hw _ (List.mem_of_getElem? (i := 22) rfl))) (by decide) (t := (.object "java/lang/String")) (t' := .long) (by decide) (by decide)))
  have F_o160_starThreshold := F_o160_starThreshold.other W (Or.inr (slot_ne (Or.inr (hw _ (List.mem_of_getElem? (i := 36) rfl))) (Or.inr (hw _ (List.mem_of_getElem? (i := 22) rfl))) (by decide) (t := .long) (t' := .long) (by decide) (by decide)))
  have F_o160_treeThreshold := F_o160_treeThreshold.other W (Or.inr (slot_ne (Or.inr (hw _ (List.mem_of_getElem? (i := 38) rfl))) (Or.inr (hw _ (List.mem_of_getElem? (i := 22) rfl))) (by decide) (t := .long) (t' := .long) (by decide) (by decide)))
  have F_o160_santaThreshold := F_o160_santaThreshold.other W (Or.inr (slot_ne (Or.inr (hw _ (List.mem_of_getElem? (i := 40) rfl))) (Or.inr (hw _ (List.mem_of_getElem? (i := 22) rfl))) (by decide) (t := .long) (t' := .long) (by decide) (by decide)))
  have Kp := Kp.wr W (Or.inl (by simp))
  refine s_aloadN 15 C X d1_14 rfl rfl ?_
  refine s_lload 17 C X d1_15 rfl ?_
  refine s_putfield 20 C X (host := "") d1_17 (Or.inl (List.mem_of_getElem? (i := 23) rfl)) Via.refl F_o160_dDayRise E_o160 (Or.inr ⟨(List.mem_of_getElem? (i := 24) rfl), rfl, rfl⟩) (List.mem_of_getElem? (i := 3) rfl) (ty := .long) (by decide) rfl rfl g_o160 (fun T hh X W => ?_)
  have Od := Od.wr W g_o160
  have E_o160 := E_o160.wr W
  have F_o160_floor := F_o160_floor.other W (Or.inr (slot_ne (Or.inr (hw _ (List.mem_of_getElem? (i := 20) rfl))) (Or.inr (hw _ (List.mem_of_getElem? (i := 24) rfl))) (by decide) (t := .long) (t' := .long) (by decide) (by decide)))
  have F_o160_dDayFirst := F_o160_dDayFirst.other W (Or.inr (slot_ne (Or.inr (hw _ (List.mem_of_getElem? (i := 22) rfl))) (Or.inr (hw _ (List.mem_of_getElem? (i := 24) rfl))) (by decide) (t := .long) (t' := .long) (by decide) (by decide)))
  have F_o160_dDayRise := F_o160_dDayRise.same W
  have F_o160_perDessert := F_o160_perDessert.other W (Or.inr (slot_ne (Or.inr (hw _ (List.mem_of_getElem? (i := 26) rfl))) (Or.inr (hw _ (List.mem_of_getElem? (i := 24) rfl))) (by decide) (t := .long) (t' := .long) (by decide) (by decide)))
  have F_o160_perMain := F_o160_perMain.other W (Or.inr (slot_ne (Or.inr (hw _ (List.mem_of_getElem? (i := 28) rfl))) (Or.inr (hw _ (List.mem_of_getElem? (i := 24) rfl))) (by decide) (t := .long) (t' := .long) (by decide) (by decide)))
  have F_o160_specialDiscount := F_o160_specialDiscount.other W (Or.inr (slot_ne (Or.inr (hw _ (List.mem_of_getElem? (i := 30) rfl))) (Or.inr (hw _ (List.mem_of_getElem? (i := 24) rfl))) (by decide) (t := .long) (t' := .long) (by decide) (by decide)))
  have F_o160_giftThreshold := F_o160_giftThreshold.other W (Or.inr (slot_ne (Or.inr (hw _ (List.mem_of_getElem? (i := 32) rfl))) (Or.inr (hw _ (List.mem_of_getElem? (i := 24) rfl))) (by decide) (t := .long) (t' := .long) (by decide) (by decide)))
  have F_o160_giftDish := F_o160_giftDish.other W (Or.inr (slot_ne (Or.inr (hw _ (List.mem_of_getElem? (i := 34) rfl))) (Or.inr (hw _ (List.mem_of_getElem? (i := 24) rfl))) (by decide) (t := (.object "java/lang/String")) (t' := .long) (by decide) (by decide)))
  have F_o160_starThreshold := F_o160_starThreshold.other W (Or.inr (slot_ne (Or.inr (hw _ (List.mem_of_getElem? (i := 36) rfl))) (Or.inr (hw _ (List.mem_of_getElem? (i := 24) rfl))) (by decide) (t := .long) (t' := .long) (by decide) (by decide)))
  have F_o160_treeThreshold := F_o160_treeThreshold.other W (Or.inr (slot_ne (Or.inr (hw _ (List.mem_of_getElem? (i := 38) rfl))) (Or.inr (hw _ (List.mem_of_getElem? (i := 24) rfl))) (by decide) (t := .long) (t' := .long) (by decide) (by decide)))
  have F_o160_santaThreshold := F_o160_santaThreshold.other W (Or.inr (slot_ne (Or.inr (hw _ (List.mem_of_getElem? (i := 40) rfl))) (Or.inr (hw _ (List.mem_of_getElem? (i := 24) rfl))) (by decide) (t := .long) (t' := .long) (by decide) (by decide)))
  have Kp := Kp.wr W (Or.inl (by simp))
  refine s_aloadN 21 C X d1_20 rfl rfl ?_
  refine s_lload 23 C X d1_21 rfl ?_
  refine s_putfield 26 C X (host := "") d1_23 (Or.inl (List.mem_of_getElem? (i := 25) rfl)) Via.refl F_o160_perDessert E_o160 (Or.inr ⟨(List.mem_of_getElem? (i := 26) rfl), rfl, rfl⟩) (List.mem_of_getElem? (i := 3) rfl) (ty := .long) (by decide) rfl rfl g_o160 (fun T hh X W => ?_)
  have Od := Od.wr W g_o160
  have E_o160 := E_o160.wr W
  have F_o160_floor := F_o160_floor.other W (Or.inr (slot_ne (Or.inr (hw _ (List.mem_of_getElem? (i := 20) rfl))) (Or.inr (hw _ (List.mem_of_getElem? (i := 26) rfl))) (by decide) (t := .long) (t' := .long) (by decide) (by decide)))
  have F_o160_dDayFirst := F_o160_dDayFirst.other W (Or.inr (slot_ne (Or.inr (hw _ (List.mem_of_getElem? (i := 22) rfl))) (Or.inr (hw _ (List.mem_of_getElem? (i := 26) rfl))) (by decide) (t := .long) (t' := .long) (by decide) (by decide)))
  have F_o160_dDayRise := F_o160_dDayRise.other W (Or.inr (slot_ne (Or.inr (hw _ (List.mem_of_getElem? (i := 24) rfl))) (Or.inr (hw _ (List.mem_of_getElem? (i := 26) rfl))) (by decide) (t := .long) (t' := .long) (by decide) (by decide)))
  have F_o160_perDessert := F_o160_perDessert.same W
  have F_o160_perMain := F_o160_perMain.other W (Or.inr (slot_ne (Or.inr (hw _ (List.mem_of_getElem? (i := 28) rfl))) (Or.inr (hw _ (List.mem_of_getElem? (i := 26) rfl))) (by decide) (t := .long) (t' := .long) (by decide) (by decide)))
  have F_o160_specialDiscount := F_o160_specialDiscount.other W (Or.inr (slot_ne (Or.inr (hw _ (List.mem_of_getElem? (i := 30) rfl))) (Or.inr (hw _ (List.mem_of_getElem? (i := 26) rfl))) (by decide) (t := .long) (t' := .long) (by decide) (by decide)))
  have F_o160_giftThreshold := F_o160_giftThreshold.other W (Or.inr (slot_ne (Or.inr (hw _ (List.mem_of_getElem? (i := 32) rfl))) (Or.inr (hw _ (List.mem_of_getElem? (i := 26) rfl))) (by decide) (t := .long) (t' := .long) (by decide) (by decide)))
  have F_o160_giftDish := F_o160_giftDish.other W (Or.inr (slot_ne (Or.inr (hw _ (List.mem_of_getElem? (i := 34) rfl))) (Or.inr (hw _ (List.mem_of_getElem? (i := 26) rfl))) (by decide) (t := (.object "java/lang/String")) (t' := .long) (by decide) (by decide)))
  have F_o160_starThreshold := F_o160_starThreshold.other W (Or.inr (slot_ne (Or.inr (hw _ (List.mem_of_getElem? (i := 36) rfl))) (Or.inr (hw _ (List.mem_of_getElem? (i := 26) rfl))) (by decide) (t := .long) (t' := .long) (by decide) (by decide)))
  have F_o160_treeThreshold := F_o160_treeThreshold.other W (Or.inr (slot_ne (Or.inr (hw _ (List.mem_of_getElem? (i := 38) rfl))) (Or.inr (hw _ (List.mem_of_getElem? (i := 26) rfl))) (by decide) (t := .long) (t' := .long) (by decide) (by decide)))
  have F_o160_santaThreshold := F_o160_santaThreshold.other W (Or.inr (slot_ne (Or.inr (hw _ (List.mem_of_getElem? (i := 40) rfl))) (Or.inr (hw _ (List.mem_of_getElem? (i := 26) rfl))) (by decide) (t := .long) (t' := .long) (by decide) (by decide)))
  have Kp := Kp.wr W (Or.inl (by simp))
  refine s_aloadN 27 C X d1_26 rfl rfl ?_
  refine s_lload 29 C X d1_27 rfl ?_
  refine s_putfield 32 C X (host := "") d1_29 (Or.inl (List.mem_of_getElem? (i := 27) rfl)) Via.refl F_o160_perMain E_o160 (Or.inr ⟨(List.mem_of_getElem? (i := 28) rfl), rfl, rfl⟩) (List.mem_of_getElem? (i := 3) rfl) (ty := .long) (by decide) rfl rfl g_o160 (fun T hh X W => ?_)
  have Od := Od.wr W g_o160
  have E_o160 := E_o160.wr W
  have F_o160_floor := F_o160_floor.other W (Or.inr (slot_ne (Or.inr (hw _ (List.mem_of_getElem? (i := 20) rfl))) (Or.inr (hw _ (List.mem_of_getElem? (i := 28) rfl))) (by decide) (t := .long) (t' := .long) (by decide) (by decide)))
  have F_o160_dDayFirst := F_o160_dDayFirst.other W (Or.inr (slot_ne (Or.inr (hw _ (List.mem_of_getElem? (i := 22) rfl))) (Or.inr (hw _ (List.mem_of_getElem? (i := 28) rfl))) (by decide) (t := .long) (t' := .long) (by decide) (by decide)))
  have F_o160_dDayRise := F_o160_dDayRise.other W (Or.inr (slot_ne (Or.inr (hw _ (List.mem_of_getElem? (i := 24) rfl))) (Or.inr (hw _ (List.mem_of_getElem? (i := 28) rfl))) (by decide) (t := .long) (t' := .long) (by decide) (by decide)))
  have F_o160_perDessert := F_o160_perDessert.other W (Or.inr (slot_ne (Or.inr (hw _ (List.mem_of_getElem? (i := 26) rfl))) (Or.inr (hw _ (List.mem_of_getElem? (i := 28) rfl))) (by decide) (t := .long) (t' := .long) (by decide) (by decide)))
  have F_o160_perMain := F_o160_perMain.same W
  have F_o160_specialDiscount := F_o160_specialDiscount.other W (Or.inr (slot_ne (Or.inr (hw _ (List.mem_of_getElem? (i := 30) rfl))) (Or.inr (hw _ (List.mem_of_getElem? (i := 28) rfl))) (by decide) (t := .long) (t' := .long) (by decide) (by decide)))
  have F_o160_giftThreshold := F_o160_giftThreshold.other W (Or.inr (slot_ne (Or.inr (hw _ (List.mem_of_getElem? (i := 32) rfl))) (Or.inr (hw _ (List.mem_of_getElem? (i := 28) rfl))) (by decide) (t := .long) (t' := .long) (by decide) (by decide)))
  have F_o160_giftDish := F_o160_giftDish.other W (Or.inr (slot_ne (Or.inr (hw _ (List.mem_of_getElem? (i := 34) rfl))) (Or.inr (hw _ (List.mem_of_getElem? (i := 28) rfl))) (by decide) (t := (.object "java/lang/String")) (t' := .long) (by decide) (by decide)))
  have F_o160_starThreshold := F_o160_starThreshold.other W (Or.inr (slot_ne (Or.inr (hw _ (List.mem_of_getElem? (i := 36) rfl))) (Or.inr (hw _ (List.mem_of_getElem? (i := 28) rfl))) (by decide) (t := .long) (t' := .long) (by decide) (by decide)))
  have F_o160_treeThreshold := F_o160_treeThreshold.other W (Or.inr (slot_ne (Or.inr (hw _ (List.mem_of_getElem? (i := 38) rfl))) (Or.inr (hw _ (List.mem_of_getElem? (i := 28) rfl))) (by decide) (t := .long) (t' := .long) (by decide) (by decide)))
  have F_o160_santaThreshold := F_o160_santaThreshold.other W (Or.inr (slot_ne (Or.inr (hw _ (List.mem_of_getElem? (i := 40) rfl))) (Or.inr (hw _ (List.mem_of_getElem? (i := 28) rfl))) (by decide) (t := .long) (t' := .long) (by decide) (by decide)))
  have Kp := Kp.wr W (Or.inl (by simp))
  refine s_aloadN 33 C X d1_32 rfl rfl ?_
  refine s_lload 35 C X d1_33 rfl ?_
  refine s_putfield 38 C X (host := "") d1_35 (Or.inl (List.mem_of_getElem? (i := 29) rfl)) Via.refl F_o160_specialDiscount E_o160 (Or.inr ⟨(List.mem_of_getElem? (i := 30) rfl), rfl, rfl⟩) (List.mem_of_getElem? (i := 3) rfl) (ty := .long) (by decide) rfl rfl g_o160 (fun T hh X W => ?_)
  have Od := Od.wr W g_o160
  have E_o160 := E_o160.wr W
  have F_o160_floor := F_o160_floor.other W (Or.inr (slot_ne (Or.inr (hw _ (List.mem_of_getElem? (i := 20) rfl))) (Or.inr (hw _ (List.mem_of_getElem? (i := 30) rfl))) (by decide) (t := .long) (t' := .long) (by decide) (by decide)))
  have F_o160_dDayFirst := F_o160_dDayFirst.other W (Or.inr (slot_ne (Or.inr (hw _ (List.mem_of_getElem? (i := 22) rfl))) (Or.inr (hw _ (List.mem_of_getElem? (i := 30) rfl))) (by decide) (t := .long) (t' := .long) (by decide) (by decide)))
  have F_o160_dDayRise := F_o160_dDayRise.other W (Or.inr (slot_ne (Or.inr (hw _ (List.mem_of_getElem? (i := 24) rfl))) (Or.inr (hw _ (List.mem_of_getElem? (i := 30) rfl))) (by decide) (t := .long) (t' := .long) (by decide) (by decide)))
  have F_o160_perDessert := F_o160_perDessert.other W (Or.inr (slot_ne (Or.inr (hw _ (List.mem_of_getElem? (i := 26) rfl))) (Or.inr (hw _ (List.mem_of_getElem? (i := 30) rfl))) (by decide) (t := .long) (t' := .long) (by decide) (by decide)))
  have F_o160_perMain := F_o160_perMain.other W (Or.inr (slot_ne (Or.inr (hw _ (List.mem_of_getElem? (i := 28) rfl))) (Or.inr (hw _ (List.mem_of_getElem? (i := 30) rfl))) (by decide) (t := .long) (t' := .long) (by decide) (by decide)))
  have F_o160_specialDiscount := F_o160_specialDiscount.same W
  have F_o160_giftThreshold := F_o160_giftThreshold.other W (Or.inr (slot_ne (Or.inr (hw _ (List.mem_of_getElem? (i := 32) rfl))) (Or.inr (hw _ (List.mem_of_getElem? (i := 30) rfl))) (by decide) (t := .long) (t' := .long) (by decide) (by decide)))
  have F_o160_giftDish := F_o160_giftDish.other W (Or.inr (slot_ne (Or.inr (hw _ (List.mem_of_getElem? (i := 34) rfl))) (Or.inr (hw _ (List.mem_of_getElem? (i := 30) rfl))) (by decide) (t := (.object "java/lang/String")) (t' := .long) (by decide) (by decide)))
  have F_o160_starThreshold := F_o160_starThreshold.other W (Or.inr (slot_ne (Or.inr (hw _ (List.mem_of_getElem? (i := 36) rfl))) (Or.inr (hw _ (List.mem_of_getElem? (i := 30) rfl))) (by decide) (t := .long) (t' := .long) (by decide) (by decide)))
  have F_o160_treeThreshold := F_o160_treeThreshold.other W (Or.inr (slot_ne (Or.inr (hw _ (List.mem_of_getElem? (i := 38) rfl))) (Or.inr (hw _ (List.mem_of_getElem? (i := 30) rfl))) (by decide) (t := .long) (t' := .long) (by decide) (by decide)))
  have F_o160_santaThreshold := F_o160_santaThreshold.other W (Or.inr (slot_ne (Or.inr (hw _ (List.mem_of_getElem? (i := 40) rfl))) (Or.inr (hw _ (List.mem_of_getElem? (i := 30) rfl))) (by decide) (t := .long) (t' := .long) (by decide) (by decide)))
  have Kp := Kp.wr W (Or.inl (by simp))
  refine s_aloadN 39 C X d1_38 rfl rfl ?_
  refine s_lload 41 C X d1_39 rfl ?_
  refine s_putfield 44 C X (host := "") d1_41 (Or.inl (List.mem_of_getElem? (i := 31) rfl)) Via.refl F_o160_giftThreshold E_o160 (Or.inr ⟨(List.mem_of_getElem? (i := 32) rfl), rfl, rfl⟩) (List.mem_of_getElem? (i := 3) rfl) (ty := .long) (by decide) rfl rfl g_o160 (fun T hh X W => ?_)
  have Od := Od.wr W g_o160
  have E_o160 := E_o160.wr W
  have F_o160_floor := F_o160_floor.other W (Or.inr (slot_ne (Or.inr (hw _ (List.mem_of_getElem? (i := 20) rfl))) (Or.inr (hw _ (List.mem_of_getElem? (i := 32) rfl))) (by decide) (t := .long) (t' := .long) (by decide) (by decide)))
  have F_o160_dDayFirst := F_o160_dDayFirst.other W (Or.inr (slot_ne (Or.inr (hw _ (List.mem_of_getElem? (i := 22) rfl))) (Or.inr (hw _ (List.mem_of_getElem? (i := 32) rfl))) (by decide) (t := .long) (t' := .long) (by decide) (by decide)))
  have F_o160_dDayRise := F_o160_dDayRise.other W (Or.inr (slot_ne (Or.inr (hw _ (List.mem_of_getElem? (i := 24) rfl))) (Or.inr (hw _ (List.mem_of_getElem? (i := 32) rfl))) (by decide) (t := .long) (t' := .long) (by decide) (by decide)))
  have F_o160_perDessert := F_o160_perDessert.other W (Or.inr (slot_ne (Or.inr (hw _ (List.mem_of_getElem? (i := 26) rfl))) (Or.inr (hw _ (List.mem_of_getElem? (i := 32) rfl))) (by decide) (t := .long) (t' := .long) (by decide) (by decide)))
  have F_o160_perMain := F_o160_perMain.other W (Or.inr (slot_ne (Or.inr (hw _ (List.mem_of_getElem? (i := 28) rfl))) (Or.inr (hw _ (List.mem_of_getElem? (i := 32) rfl))) (by decide) (t := .long) (t' := .long) (by decide) (by decide)))
  have F_o160_specialDiscount := F_o160_specialDiscount.other W (Or.inr (slot_ne (Or.inr (hw _ (List.mem_of_getElem? (i := 30) rfl))) (Or.inr (hw _ (List.mem_of_getElem? (i := 32) rfl))) (by decide) (t := .long) (t' := .long) (by decide) (by decide)))
  have F_o160_giftThreshold := F_o160_giftThreshold.same W
  have F_o160_giftDish := F_o160_giftDish.other W (Or.inr (slot_ne (Or.inr (hw _ (List.mem_of_getElem? (i := 34) rfl))) (Or.inr (hw _ (List.mem_of_getElem? (i := 32) rfl))) (by decide) (t := (.object "java/lang/String")) (t' := .long) (by decide) (by decide)))
  have F_o160_starThreshold := F_o160_starThreshold.other W (Or.inr (slot_ne (Or.inr (hw _ (List.mem_of_getElem? (i := 36) rfl))) (Or.inr (hw _ (List.mem_of_getElem? (i := 32) rfl))) (by decide) (t := .long) (t' := .long) (by decide) (by decide)))
  have F_o160_treeThreshold := F_o160_treeThreshold.other W (Or.inr (slot_ne (Or.inr (hw _ (List.mem_of_getElem? (i := 38) rfl))) (Or.inr (hw _ (List.mem_of_getElem? (i := 32) rfl))) (by decide) (t := .long) (t' := .long) (by decide) (by decide)))
  have F_o160_santaThreshold := F_o160_santaThreshold.other W (Or.inr (slot_ne (Or.inr (hw _ (List.mem_of_getElem? (i := 40) rfl))) (Or.inr (hw _ (List.mem_of_getElem? (i := 32) rfl))) (by decide) (t := .long) (t' := .long) (by decide) (by decide)))
  have Kp := Kp.wr W (Or.inl (by simp))
  refine s_aloadN 45 C X d1_44 rfl rfl ?_
  refine s_aload 47 C X d1_45 rfl rfl ?_
  refine s_putfield 50 C X (host := "") d1_47 (Or.inl (List.mem_of_getElem? (i := 33) rfl)) Via.refl F_o160_giftDish E_o160 (Or.inr ⟨(List.mem_of_getElem? (i := 34) rfl), rfl, rfl⟩) (List.mem_of_getElem? (i := 3) rfl) (ty := (.object "java/lang/String")) (by decide) rfl rfl g_o160 (fun T hh X W => ?_)
  have Od := Od.wr W g_o160
  have E_o160 := E_o160.wr W
  have F_o160_floor := F_o160_floor.other W (Or.inr (slot_ne (Or.inr (hw _ (List.mem_of_getElem? (i := 20) rfl))) (Or.inr (hw _ (List.mem_of_getElem? (i := 34) rfl))) (by decide) (t := .long) (t' := (.object "java/lang/String")) (by decide) (by decide)))
  have F_o160_dDayFirst := F_o160_dDayFirst.other W (Or.inr (slot_ne (Or.inr (hw _ (List.mem_of_getElem? (i := 22) rfl))) (Or.inr (hw _ (List.mem_of_getElem? (i := 34) rfl))) (by decide) (t := .long) (t' := (.object "java/lang/String")) (by decide) (by decide)))
  have F_o160_dDayRise := F_o160_dDayRise.other W (Or.inr (slot_ne (Or.inr (hw _ (List.mem_of_getElem? (i := 24) rfl))) (Or.inr (hw _ (List.mem_of_getElem? (i := 34) rfl))) (by decide) (t := .long) (t' := (.object "java/lang/String")) (by decide) (by decide)))
  have F_o160_perDessert := F_o160_perDessert.other W (Or.inr (slot_ne (Or.inr (hw _ (List.mem_of_getElem? (i := 26) rfl))) (Or.inr (hw _ (List.mem_of_getElem? (i := 34) rfl))) (by decide) (t := .long) (t' := (.object "java/lang/String")) (by decide) (by decide)))
  have F_o160_perMain := F_o160_perMain.other W (Or.inr (slot_ne (Or.inr (hw _ (List.mem_of_getElem? (i := 28) rfl))) (Or.inr (hw _ (List.mem_of_getElem? (i := 34) rfl))) (by decide) (t := .long) (t' := (.object "java/lang/String")) (by decide) (by decide)))
  have F_o160_specialDiscount := F_o160_specialDiscount.other W (Or.inr (slot_ne (Or.inr (hw _ (List.mem_of_getElem? (i := 30) rfl))) (Or.inr (hw _ (List.mem_of_getElem? (i := 34) rfl))) (by decide) (t := .long) (t' := (.object "java/lang/String")) (by decide) (by decide)))
  have F_o160_giftThreshold := F_o160_giftThreshold.other W (Or.inr (slot_ne (Or.inr (hw _ (List.mem_of_getElem? (i := 32) rfl))) (Or.inr (hw _ (List.mem_of_getElem? (i := 34) rfl))) (by decide) (t := .long) (t' := (.object "java/lang/String")) (by decide) (by decide)))
  have F_o160_giftDish := F_o160_giftDish.same W
  have F_o160_starThreshold := F_o160_starThreshold.other W (Or.inr (slot_ne (Or.inr (hw _ (List.mem_of_getElem? (i := 36) rfl))) (Or.inr (hw _ (List.mem_of_getElem? (i := 34) rfl))) (by decide) (t := .long) (t' := (.object "java/lang/String")) (by decide) (by decide)))
  have F_o160_treeThreshold := F_o160_treeThreshold.other W (Or.inr (slot_ne (Or.inr (hw _ (List.mem_of_getElem? (i := 38) rfl))) (Or.inr (hw _ (List.mem_of_getElem? (i := 34) rfl))) (by decide) (t := .long) (t' := (.object "java/lang/String")) (by decide) (by decide)))
  have F_o160_santaThreshold := F_o160_santaThreshold.other W (Or.inr (slot_ne (Or.inr (hw _ (List.mem_of_getElem? (i := 40) rfl))) (Or.inr (hw _ (List.mem_of_getElem? (i := 34) rfl))) (by decide) (t := .long) (t' := (.object "java/lang/String")) (by decide) (by decide)))
  have Kp := Kp.wr W (Or.inl (by simp))
  refine s_aloadN 51 C X d1_50 rfl rfl ?_
  refine s_lload 53 C X d1_51 rfl ?_
  refine s_putfield 56 C X (host := "") d1_53 (Or.inl (List.mem_of_getElem? (i := 35) rfl)) Via.refl F_o160_starThreshold E_o160 (Or.inr ⟨(List.mem_of_getElem? (i := 36) rfl), rfl, rfl⟩) (List.mem_of_getElem? (i := 3) rfl) (ty := .long) (by decide) rfl rfl g_o160 (fun T hh X W => ?_)
  have Od := Od.wr W g_o160
  have E_o160 := E_o160.wr W
  have F_o160_floor := F_o160_floor.other W (Or.inr (slot_ne (Or.inr (hw _ (List.mem_of_getElem? (i := 20) rfl))) (Or.inr (hw _ (List.mem_of_getElem? (i := 36) rfl))) (by decide) (t := .long) (t' := .long) (by decide) (by decide)))
  have F_o160_dDayFirst := F_o160_dDayFirst.other W (Or.inr (slot_ne (Or.inr (hw _ (List.mem_of_getElem? (i := 22) rfl))) (Or.inr (hw _ (List.mem_of_getElem? (i := 36) rfl))) (by decide) (t := .long) (t' := .long) (by decide) (by decide)))
  have F_o160_dDayRise := F_o160_dDayRise.other W (Or.inr (slot_ne (Or.inr (hw _ (List.mem_of_getElem? (i := 24) rfl))) (Or.inr (hw _ (List.mem_of_getElem? (i := 36) rfl))) (by decide) (t := .long) (t' := .long) (by decide) (by decide)))
  have F_o160_perDessert := F_o160_perDessert.other W (Or.inr (slot_ne (Or.inr (hw _ (List.mem_of_getElem? (i := 26) rfl))) (Or.inr (hw _ (List.mem_of_getElem? (i := 36) rfl))) (by decide) (t := .long) (t' := .long) (by decide) (by decide)))
  have F_o160_perMain := F_o160_perMain.other W (Or.inr (slot_ne (Or.inr (hw _ (List.mem_of_getElem? (i := 28) rfl))) (Or.inr (hw _ (List.mem_of_getElem? (i := 36) rfl))) (by decide) (t := .long) (t' := .long) (by decide) (by decide)))
  have F_o160_specialDiscount := F_o160_specialDiscount.other W (Or.inr (slot_ne (Or.inr (hw _ (List.mem_of_getElem? (i := 30) rfl))) (Or.inr (hw _ (List.mem_of_getElem? (i := 36) rfl))) (by decide) (t := .long) (t' := .long) (by decide) (by decide)))
  have F_o160_giftThreshold := F_o160_giftThreshold.other W (Or.inr (slot_ne (Or.inr (hw _ (List.mem_of_getElem? (i := 32) rfl))) (Or.inr (hw _ (List.mem_of_getElem? (i := 36) rfl))) (by decide) (t := .long) (t' := .long) (by decide) (by decide)))
  have F_o160_giftDish := F_o160_giftDish.other W (Or.inr (slot_ne (Or.inr (hw _ (List.mem_of_getElem? (i := 34) rfl))) (Or.inr (hw _ (List.mem_of_getElem? (i := 36) rfl))) (by decide) (t := (.object "java/lang/String")) (t' := .long) (by decide) (by decide)))
  have F_o160_starThreshold := F_o160_starThreshold.same W
  have F_o160_treeThreshold := F_o160_treeThreshold.other W (Or.inr (slot_ne (Or.inr (hw _ (List.mem_of_getElem? (i := 38) rfl))) (Or.inr (hw _ (List.mem_of_getElem? (i := 36) rfl))) (by decide) (t := .long) (t' := .long) (by decide) (by decide)))
  have F_o160_santaThreshold := F_o160_santaThreshold.other W (Or.inr (slot_ne (Or.inr (hw _ (List.mem_of_getElem? (i := 40) rfl))) (Or.inr (hw _ (List.mem_of_getElem? (i := 36) rfl))) (by decide) (t := .long) (t' := .long) (by decide) (by decide)))
  have Kp := Kp.wr W (Or.inl (by simp))
  refine s_aloadN 57 C X d1_56 rfl rfl ?_
  refine s_lload 59 C X d1_57 rfl ?_
  refine s_putfield 62 C X (host := "") d1_59 (Or.inl (List.mem_of_getElem? (i := 37) rfl)) Via.refl F_o160_treeThreshold E_o160 (Or.inr ⟨(List.mem_of_getElem? (i := 38) rfl), rfl, rfl⟩) (List.mem_of_getElem? (i := 3) rfl) (ty := .long) (by decide) rfl rfl g_o160 (fun T hh X W => ?_)
  have Od := Od.wr W g_o160
  have E_o160 := E_o160.wr W
  have F_o160_floor := F_o160_floor.other W (Or.inr (slot_ne (Or.inr (hw _ (List.mem_of_getElem? (i := 20) rfl))) (Or.inr (hw _ (List.mem_of_getElem? (i := 38) rfl))) (by decide) (t := .long) (t' := .long) (by decide) (by decide)))
  have F_o160_dDayFirst := F_o160_dDayFirst.other W (Or.inr (slot_ne (Or.inr (hw _ (List.mem_of_getElem? (i := 22) rfl))) (Or.inr (hw _ (List.mem_of_getElem? (i := 38) rfl))) (by decide) (t := .long) (t' := .long) (by decide) (by decide)))
  have F_o160_dDayRise := F_o160_dDayRise.other W (Or.inr (slot_ne (Or.inr (hw _ (List.mem_of_getElem? (i := 24) rfl))) (Or.inr (hw _ (List.mem_of_getElem? (i := 38) rfl))) (by decide) (t := .long) (t' := .long) (by decide) (by decide)))
  have F_o160_perDessert := F_o160_perDessert.other W (Or.inr (slot_ne (Or.inr (hw _ (List.mem_of_getElem? (i := 26) rfl))) (Or.inr (hw _ (List.mem_of_getElem? (i := 38) rfl))) (by decide) (t := .long) (t' := .long) (by decide) (by decide)))
  have F_o160_perMain := F_o160_perMain.other W (Or.inr (slot_ne (Or.inr (hw _ (List.mem_of_getElem? (i := 28) rfl))) (Or.inr (hw _ (List.mem_of_getElem? (i := 38) rfl))) (by decide) (t := .long) (t' := .long) (by decide) (by decide)))
  have F_o160_specialDiscount := F_o160_specialDiscount.other W (Or.inr (slot_ne (Or.inr (hw _ (List.mem_of_getElem? (i := 30) rfl))) (Or.inr (hw _ (List.mem_of_getElem? (i := 38) rfl))) (by decide) (t := .long) (t' := .long) (by decide) (by decide)))
  have F_o160_giftThreshold := F_o160_giftThreshold.other W (Or.inr (slot_ne (Or.inr (hw _ (List.mem_of_getElem? (i := 32) rfl))) (Or.inr (hw _ (List.mem_of_getElem? (i := 38) rfl))) (by decide) (t := .long) (t' := .long) (by decide) (by decide)))
  have F_o160_giftDish := F_o160_giftDish.other W (Or.inr (slot_ne (Or.inr (hw _ (List.mem_of_getElem? (i := 34) rfl))) (Or.inr (hw _ (List.mem_of_getElem? (i := 38) rfl))) (by decide) (t := (.object "java/lang/String")) (t' := .long) (by decide) (by decide)))
  have F_o160_starThreshold := F_o160_starThreshold.other W (Or.inr (slot_ne (Or.inr (hw _ (List.mem_of_getElem? (i := 36) rfl))) (Or.inr (hw _ (List.mem_of_getElem? (i := 38) rfl))) (by decide) (t := .long) (t' := .long) (by decide) (by decide)))
  have F_o160_treeThreshold := F_o160_treeThreshold.same W
  have F_o160_santaThreshold := F_o160_santaThreshold.other W (Or.inr (slot_ne (Or.inr (hw _ (List.mem_of_getElem? (i := 40) rfl))) (Or.inr (hw _ (List.mem_of_getElem? (i := 38) rfl))) (by decide) (t := .long) (t' := .long) (by decide) (by decide)))
  have Kp := Kp.wr W (Or.inl (by simp))
  refine s_aloadN 63 C X d1_62 rfl rfl ?_
  refine s_lload 65 C X d1_63 rfl ?_
  refine s_putfield 68 C X (host := "") d1_65 (Or.inl (List.mem_of_getElem? (i := 39) rfl)) Via.refl F_o160_santaThreshold E_o160 (Or.inr ⟨(List.mem_of_getElem? (i := 40) rfl), rfl, rfl⟩) (List.mem_of_getElem? (i := 3) rfl) (ty := .long) (by decide) rfl rfl g_o160 (fun T hh X W => ?_)
  have Od := Od.wr W g_o160
  have E_o160 := E_o160.wr W
  have F_o160_floor := F_o160_floor.other W (Or.inr (slot_ne (Or.inr (hw _ (List.mem_of_getElem? (i := 20) rfl))) (Or.inr (hw _ (List.mem_of_getElem? (i := 40) rfl))) (by decide) (t := .long) (t' := .long) (by decide) (by decide)))
  have F_o160_dDayFirst := F_o160_dDayFirst.other W (Or.inr (slot_ne (Or.inr (hw _ (List.mem_of_getElem? (i := 22) rfl))) (Or.inr (hw _ (List.mem_of_getElem? (i := 40) rfl))) (by decide) (t := .long) (t' := .long) (by decide) (by decide)))
  have F_o160_dDayRise := F_o160_dDayRise.other W (Or.inr (slot_ne (Or.inr (hw _ (List.mem_of_getElem? (i := 24) rfl))) (Or.inr (hw _ (List.mem_of_getElem? (i := 40) rfl))) (by decide) (t := .long) (t' := .long) (by decide) (by decide)))
  have F_o160_perDessert := F_o160_perDessert.other W (Or.inr (slot_ne (Or.inr (hw _ (List.mem_of_getElem? (i := 26) rfl))) (Or.inr (hw _ (List.mem_of_getElem? (i := 40) rfl))) (by decide) (t := .long) (t' := .long) (by decide) (by decide)))
  have F_o160_perMain := F_o160_perMain.other W (Or.inr (slot_ne (Or.inr (hw _ (List.mem_of_getElem? (i := 28) rfl))) (Or.inr (hw _ (List.mem_of_getElem? (i := 40) rfl))) (by decide) (t := .long) (t' := .long) (by decide) (by decide)))
  have F_o160_specialDiscount := F_o160_specialDiscount.other W (Or.inr (slot_ne (Or.inr (hw _ (List.mem_of_getElem? (i := 30) rfl))) (Or.inr (hw _ (List.mem_of_getElem? (i := 40) rfl))) (by decide) (t := .long) (t' := .long) (by decide) (by decide)))
  have F_o160_giftThreshold := F_o160_giftThreshold.other W (Or.inr (slot_ne (Or.inr (hw _ (List.mem_of_getElem? (i := 32) rfl))) (Or.inr (hw _ (List.mem_of_getElem? (i := 40) rfl))) (by decide) (t := .long) (t' := .long) (by decide) (by decide)))
  have F_o160_giftDish := F_o160_giftDish.other W (Or.inr (slot_ne (Or.inr (hw _ (List.mem_of_getElem? (i := 34) rfl))) (Or.inr (hw _ (List.mem_of_getElem? (i := 40) rfl))) (by decide) (t := (.object "java/lang/String")) (t' := .long) (by decide) (by decide)))
  have F_o160_starThreshold := F_o160_starThreshold.other W (Or.inr (slot_ne (Or.inr (hw _ (List.mem_of_getElem? (i := 36) rfl))) (Or.inr (hw _ (List.mem_of_getElem? (i := 40) rfl))) (by decide) (t := .long) (t' := .long) (by decide) (by decide)))
  have F_o160_treeThreshold := F_o160_treeThreshold.other W (Or.inr (slot_ne (Or.inr (hw _ (List.mem_of_getElem? (i := 38) rfl))) (Or.inr (hw _ (List.mem_of_getElem? (i := 40) rfl))) (by decide) (t := .long) (t' := .long) (by decide) (by decide)))
  have F_o160_santaThreshold := F_o160_santaThreshold.same W
  have Kp := Kp.wr W (Or.inl (by simp))
  refine s_return C X d1_68 rfl ?_
  exact ⟨rfl, Od, E_o160, F_o160_floor, F_o160_dDayFirst, F_o160_dDayRise, F_o160_perDessert, F_o160_perMain, F_o160_specialDiscount, F_o160_giftThreshold, F_o160_giftDish, F_o160_starThreshold, F_o160_treeThreshold, F_o160_santaThreshold, Kp⟩
set_option maxRecDepth 65536 in
set_option maxHeartbeats 40000000 in
theorem rm_a164 (l : Launch) (Z : State) (a0 : Array Value) (hw : ∀ d ∈ tables_1, d.before a0 Z = true) (aSanta : Addr) (aTree : Addr) (aStar : Addr) (aE : Addr) (h0 : Heap) (n0 : Nat) (Z0 : n0 ≤ h0.size) (Od : Old Z n0 h0) (S_E : Sta Z Z.heap "java/util/Optional" "EMPTY" "Ljava/util/Optional;" (.ref aE)) (S_SANTA : Sta Z Z.heap "com/example/tinsel_tally/tinseltally/Badge" "SANTA" "Lcom/example/tinsel_tally/tinseltally/Badge;" (.ref aSanta)) (S_TREE : Sta Z Z.heap "com/example/tinsel_tally/tinseltally/Badge" "TREE" "Lcom/example/tinsel_tally/tinseltally/Badge;" (.ref aTree)) (S_STAR : Sta Z Z.heap "com/example/tinsel_tally/tinseltally/Badge" "STAR" "Lcom/example/tinsel_tally/tinseltally/Badge;" (.ref aStar)) :
    Met l Z (⟨"java/util/Optional", "empty", "()Ljava/util/Optional;"⟩ : MethodName) jdk_32_method_1_code 1 (some (.object "java/util/Optional")) { frames := 0, cells := 0, slots := 0, locals := 0 } [] #[] h0 n0 (fun v h => v = some (.ref aE) ∧ Old Z n0 h ∧ Keep h0 h []) := by
  refine Met.mk (tabs := tables_1) (a0 := a0) (ls0 := #[.unset]) (plainFor_of_name pn_java_util_Optional) hw Z0 (fun m => by first | (simp [entryFrame, mkF, argsToLocals, Value.category]; done) | rfl) ?_
  intro p e s m below meth c T C X
  have Kp : Keep h0 h0 [] := Keep.refl _ _
  refine s_getstatic 3 C X (host := "") d4_0 (Or.inl (List.mem_of_getElem? (i := 49) rfl)) Via.refl (S_E.ext Od.2) (fun T X => ?_)
  refine s_astoreN 4 C X (l' := #[.val (.ref aE)]) d4_3 rfl rfl ?_
  refine s_aloadN 5 C X d4_4 rfl rfl ?_
  refine s_areturn C X d4_5 rfl rfl rfl ?_
  exact ⟨rfl, Od, Kp⟩
set_option maxRecDepth 65536 in
set_option maxHeartbeats 40000000 in
theorem rm_a165 (l : Launch) (Z : State) (a0 : Array Value) (hw : ∀ d ∈ tables_1, d.before a0 Z = true) (aSanta : Addr) (aTree : Addr) (aStar : Addr) (aE : Addr) (star : Int64) (tree : Int64) (santa : Int64) (o160 : Addr) (t161 : Addr) (h0 : Heap) (n0 : Nat) (Z0 : n0 ≤ h0.size) (E_o160 : Exa Z h0 o160 "com/example/tinsel_tally/tinseltally/Figures") (F_o160_floor : Fld Z h0 o160 "com/example/tinsel_tally/tinseltally/Figures" "floor" "J" (.long (0 : Int64))) (F_o160_dDayFirst : Fld Z h0 o160 "com/example/tinsel_tally/tinseltally/Figures" "dDayFirst" "J" (.long (0 : Int64))) (F_o160_dDayRise : Fld Z h0 o160 "com/example/tinsel_tally/tinseltally/Figures" "dDayRise" "J" (.long (0 : Int64))) (F_o160_perDessert : Fld Z h0 o160 "com/example/tinsel_tally/tinseltally/Figures" "perDessert" "J" (.long (0 : Int64))) (F_o160_perMain : Fld Z h0 o160 "com/example/tinsel_tally/tinseltally/Figures" "perMain" "J" (.long (0 : Int64))) (F_o160_specialDiscount : Fld Z h0 o160 "com/example/tinsel_tally/tinseltally/Figures" "specialDiscount" "J" (.long (0 : Int64))) (F_o160_giftThreshold : Fld Z h0 o160 "com/example/tinsel_tally/tinseltally/Figures" "giftThreshold" "J" (.long (0 : Int64))) (F_o160_giftDish : Fld Z h0 o160 "com/example/tinsel_tally/tinseltally/Figures" "giftDish" "Ljava/lang/String;" (.ref t161)) (F_o160_starThreshold : Fld Z h0 o160 "com/example/tinsel_tally/tinseltally/Figures" "starThreshold" "J" (.long star)) (F_o160_treeThreshold : Fld Z h0 o160 "com/example/tinsel_tally/tinseltally/Figures" "treeThreshold" "J" (.long tree)) (F_o160_santaThreshold : Fld Z h0 o160 "com/example/tinsel_tally/tinseltally/Figures" "santaThreshold" "J" (.long santa)) (Od : Old Z n0 h0) (S_E : Sta Z Z.heap "java/util/Optional" "EMPTY" "Ljava/util/Optional;" (.ref aE)) (S_SANTA : Sta Z Z.heap "com/example/tinsel_tally/tinseltally/Badge" "SANTA" "Lcom/example/tinsel_tally/tinseltally/Badge;" (.ref aSanta)) (S_TREE : Sta Z Z.heap "com/example/tinsel_tally/tinseltally/Badge" "TREE" "Lcom/example/tinsel_tally/tinseltally/Badge;" (.ref aTree)) (S_STAR : Sta Z Z.heap "com/example/tinsel_tally/tinseltally/Badge" "STAR" "Lcom/example/tinsel_tally/tinseltally/Badge;" (.ref aStar)) (g_o160 : n0 ≤ o160) :
    Met l Z (⟨"com/example/tinsel_tally/tinseltally/Figures", "santaThreshold", "()J"⟩ : MethodName) prog_9_method_12_code 1 (some .long) { frames := 0, cells := 0, slots := 0, locals := 0 } [] #[(.ref o160)] h0 n0 (fun v h => v = some (.long santa) ∧ Exa Z h o160 "com/example/tinsel_tally/tinseltally/Figures" ∧ Fld Z h o160 "com/example/tinsel_tally/tinseltally/Figures" "floor" "J" (.long (0 : Int64)) ∧ Fld Z h o160 "com/example/tinsel_tally/tinseltally/Figures" "dDayFirst" "J" (.long (0 : Int64)) ∧ Fld Z h o160 "com/example/tinsel_tally/tinseltally/Figures" "dDayRise" "J" (.long (0 : Int64)) ∧ Fld Z h o160 "com/example/tinsel_tally/tinseltally/Figures" "perDessert" "J" (.long (0 : Int64)) ∧ Fld Z h o160 "com/example/tinsel_tally/tinseltally/Figures" "perMain" "J" (.long (0 : Int64)) ∧ Fld Z h o160 "com/example/tinsel_tally/tinseltally/Figures" "specialDiscount" "J" (.long (0 : Int64)) ∧ Fld Z h o160 "com/example/tinsel_tally/tinseltally/Figures" "giftThreshold" "J" (.long (0 : Int64)) ∧ Fld Z h o160 "com/example/tinsel_tally/tinseltally/Figures" "giftDish" "Ljava/lang/String;" (.ref t161) ∧ Fld Z h o160 "com/example/tinsel_tally/tinseltally/Figures" "starThreshold" "J" (.long star) ∧ Fld Z h o160 "com/example/tinsel_tally/tinseltally/Figures" "treeThreshold" "J" (.long tree) ∧ Fld Z h o160 "com/example/tinsel_tally/tinseltally/Figures" "santaThreshold" "J" (.long santa) ∧ Old Z n0 h ∧ Keep h0 h [o160]) := by
  refine Met.mk (tabs := tables_1) (a0 := a0) (ls0 := #[.val (.ref o160)]) (plainFor_of_name pn_com_example_tinsel_tally_tinseltally_Figures) hw Z0 (fun m => by first | (simp [entryFrame, mkF, argsToLocals, Value.category]; done) | rfl) ?_
  intro p e s m below meth c T C X
  have Kp : Keep h0 h0 [o160] := Keep.refl _ _
  refine s_aloadN 1 C X d5_0 rfl rfl ?_
  refine s_getfield 4 C X (host := "") d5_1 (Or.inl (List.mem_of_getElem? (i := 39) rfl)) Via.refl F_o160_santaThreshold (fun T X => ?_)
  refine s_lreturn C X d5_4 rfl ?_
  exact ⟨rfl, E_o160, F_o160_floor, F_o160_dDayFirst, F_o160_dDayRise, F_o160_perDessert, F_o160_perMain, F_o160_specialDiscount, F_o160_giftThreshold, F_o160_giftDish, F_o160_starThreshold, F_o160_treeThreshold, F_o160_santaThreshold, Od, Kp⟩
set_option maxRecDepth 65536 in
set_option maxHeartbeats 40000000 in
theorem rm_a167 (l : Launch) (Z : State) (a0 : Array Value) (hw : ∀ d ∈ tables_1, d.before a0 Z = true) (aSanta : Addr) (aTree : Addr) (aStar : Addr) (aE : Addr) (star : Int64) (tree : Int64) (santa : Int64) (o160 : Addr) (t161 : Addr) (h0 : Heap) (n0 : Nat) (Z0 : n0 ≤ h0.size) (E_o160 : Exa Z h0 o160 "com/example/tinsel_tally/tinseltally/Figures") (F_o160_floor : Fld Z h0 o160 "com/example/tinsel_tally/tinseltally/Figures" "floor" "J" (.long (0 : Int64))) (F_o160_dDayFirst : Fld Z h0 o160 "com/example/tinsel_tally/tinseltally/Figures" "dDayFirst" "J" (.long (0 : Int64))) (F_o160_dDayRise : Fld Z h0 o160 "com/example/tinsel_tally/tinseltally/Figures" "dDayRise" "J" (.long (0 : Int64))) (F_o160_perDessert : Fld Z h0 o160 "com/example/tinsel_tally/tinseltally/Figures" "perDessert" "J" (.long (0 : Int64))) (F_o160_perMain : Fld Z h0 o160 "com/example/tinsel_tally/tinseltally/Figures" "perMain" "J" (.long (0 : Int64))) (F_o160_specialDiscount : Fld Z h0 o160 "com/example/tinsel_tally/tinseltally/Figures" "specialDiscount" "J" (.long (0 : Int64))) (F_o160_giftThreshold : Fld Z h0 o160 "com/example/tinsel_tally/tinseltally/Figures" "giftThreshold" "J" (.long (0 : Int64))) (F_o160_giftDish : Fld Z h0 o160 "com/example/tinsel_tally/tinseltally/Figures" "giftDish" "Ljava/lang/String;" (.ref t161)) (F_o160_starThreshold : Fld Z h0 o160 "com/example/tinsel_tally/tinseltally/Figures" "starThreshold" "J" (.long star)) (F_o160_treeThreshold : Fld Z h0 o160 "com/example/tinsel_tally/tinseltally/Figures" "treeThreshold" "J" (.long tree)) (F_o160_santaThreshold : Fld Z h0 o160 "com/example/tinsel_tally/tinseltally/Figures" "santaThreshold" "J" (.long santa)) (Od : Old Z n0 h0) (S_E : Sta Z Z.heap "java/util/Optional" "EMPTY" "Ljava/util/Optional;" (.ref aE)) (S_SANTA : Sta Z Z.heap "com/example/tinsel_tally/tinseltally/Badge" "SANTA" "Lcom/example/tinsel_tally/tinseltally/Badge;" (.ref aSanta)) (S_TREE : Sta Z Z.heap "com/example/tinsel_tally/tinseltally/Badge" "TREE" "Lcom/example/tinsel_tally/tinseltally/Badge;" (.ref aTree)) (S_STAR : Sta Z Z.heap "com/example/tinsel_tally/tinseltally/Badge" "STAR" "Lcom/example/tinsel_tally/tinseltally/Badge;" (.ref aStar)) (g_o160 : n0 ≤ o160) :
    Met l Z (⟨"com/example/tinsel_tally/tinseltally/Figures", "treeThreshold", "()J"⟩ : MethodName) prog_9_method_11_code 1 (some .long) { frames := 0, cells := 0, slots := 0, locals := 0 } [] #[(.ref o160)] h0 n0 (fun v h => v = some (.long tree) ∧ Exa Z h o160 "com/example/tinsel_tally/tinseltally/Figures" ∧ Fld Z h o160 "com/example/tinsel_tally/tinseltally/Figures" "floor" "J" (.long (0 : Int64)) ∧ Fld Z h o160 "com/example/tinsel_tally/tinseltally/Figures" "dDayFirst" "J" (.long (0 : Int64)) ∧ Fld Z h o160 "com/example/tinsel_tally/tinseltally/Figures" "dDayRise" "J" (.long (0 : Int64)) ∧ Fld Z h o160 "com/example/tinsel_tally/tinseltally/Figures" "perDessert" "J" (.long (0 : Int64)) ∧ Fld Z h o160 "com/example/tinsel_tally/tinseltally/Figures" "perMain" "J" (.long (0 : Int64)) ∧ Fld Z h o160 "com/example/tinsel_tally/tinseltally/Figures" "specialDiscount" "J" (.long (0 : Int64)) ∧ Fld Z h o160 "com/example/tinsel_tally/tinseltally/Figures" "giftThreshold" "J" (.long (0 : Int64)) ∧ Fld Z h o160 "com/example/tinsel_tally/tinseltally/Figures" "giftDish" "Ljava/lang/String;" (.ref t161) ∧ Fld Z h o160 "com/example/tinsel_tally/tinseltally/Figures" "starThreshold" "J" (.long star) ∧ Fld Z h o160 "com/example/tinsel_tally/tinseltally/Figures" "treeThreshold" "J" (.long tree) ∧ Fld Z h o160 "com/example/tinsel_tally/tinseltally/Figures" "santaThreshold" "J" (.long santa) ∧ Old Z n0 h ∧ Keep h0 h [o160]) := by
  refine Met.mk (tabs := tables_1) (a0 := a0) (ls0 := #[.val (.ref o160)]) (plainFor_of_name pn_com_example_tinsel_tally_tinseltally_Figures) hw Z0 (fun m => by first | (simp [entryFrame, mkF, argsToLocals, Value.category]; done) | rfl) ?_
  intro p e s m below meth c T C X
  have Kp : Keep h0 h0 [o160] := Keep.refl _ _
  refine s_aloadN 1 C X d10_0 rfl rfl ?_
  refine s_getfield 4 C X (host := "") d10_1 (Or.inl (List.mem_of_getElem? (i := 37) rfl)) Via.refl F_o160_treeThreshold (fun T X => ?_)
  refine s_lreturn C X d10_4 rfl ?_
  exact ⟨rfl, E_o160, F_o160_floor, F_o160_dDayFirst, F_o160_dDayRise, F_o160_perDessert, F_o160_perMain, F_o160_specialDiscount, F_o160_giftThreshold, F_o160_giftDish, F_o160_starThreshold, F_o160_treeThreshold, F_o160_santaThreshold, Od, Kp⟩
set_option maxRecDepth 65536 in
set_option maxHeartbeats 40000000 in
theorem rm_a169 (l : Launch) (Z : State) (a0 : Array Value) (hw : ∀ d ∈ tables_1, d.before a0 Z = true) (aSanta : Addr) (aTree : Addr) (aStar : Addr) (aE : Addr) (star : Int64) (tree : Int64) (santa : Int64) (o160 : Addr) (t161 : Addr) (h0 : Heap) (n0 : Nat) (Z0 : n0 ≤ h0.size) (E_o160 : Exa Z h0 o160 "com/example/tinsel_tally/tinseltally/Figures") (F_o160_floor : Fld Z h0 o160 "com/example/tinsel_tally/tinseltally/Figures" "floor" "J" (.long (0 : Int64))) (F_o160_dDayFirst : Fld Z h0 o160 "com/example/tinsel_tally/tinseltally/Figures" "dDayFirst" "J" (.long (0 : Int64))) (F_o160_dDayRise : Fld Z h0 o160 "com/example/tinsel_tally/tinseltally/Figures" "dDayRise" "J" (.long (0 : Int64))) (F_o160_perDessert : Fld Z h0 o160 "com/example/tinsel_tally/tinseltally/Figures" "perDessert" "J" (.long (0 : Int64))) (F_o160_perMain : Fld Z h0 o160 "com/example/tinsel_tally/tinseltally/Figures" "perMain" "J" (.long (0 : Int64))) (F_o160_specialDiscount : Fld Z h0 o160 "com/example/tinsel_tally/tinseltally/Figures" "specialDiscount" "J" (.long (0 : Int64))) (F_o160_giftThreshold : Fld Z h0 o160 "com/example/tinsel_tally/tinseltally/Figures" "giftThreshold" "J" (.long (0 : Int64))) (F_o160_giftDish : Fld Z h0 o160 "com/example/tinsel_tally/tinseltally/Figures" "giftDish" "Ljava/lang/String;" (.ref t161)) (F_o160_starThreshold : Fld Z h0 o160 "com/example/tinsel_tally/tinseltally/Figures" "starThreshold" "J" (.long star)) (F_o160_treeThreshold : Fld Z h0 o160 "com/example/tinsel_tally/tinseltally/Figures" "treeThreshold" "J" (.long tree)) (F_o160_santaThreshold : Fld Z h0 o160 "com/example/tinsel_tally/tinseltally/Figures" "santaThreshold" "J" (.long santa)) (Od : Old Z n0 h0) (S_E : Sta Z Z.heap "java/util/Optional" "EMPTY" "Ljava/util/Optional;" (.ref aE)) (S_SANTA : Sta Z Z.heap "com/example/tinsel_tally/tinseltally/Badge" "SANTA" "Lcom/example/tinsel_tally/tinseltally/Badge;" (.ref aSanta)) (S_TREE : Sta Z Z.heap "com/example/tinsel_tally/tinseltally/Badge" "TREE" "Lcom/example/tinsel_tally/tinseltally/Badge;" (.ref aTree)) (S_STAR : Sta Z Z.heap "com/example/tinsel_tally/tinseltally/Badge" "STAR" "Lcom/example/tinsel_tally/tinseltally/Badge;" (.ref aStar)) (g_o160 : n0 ≤ o160) :
    Met l Z (⟨"com/example/tinsel_tally/tinseltally/Figures", "starThreshold", "()J"⟩ : MethodName) prog_9_method_10_code 1 (some .long) { frames := 0, cells := 0, slots := 0, locals := 0 } [] #[(.ref o160)] h0 n0 (fun v h => v = some (.long star) ∧ Exa Z h o160 "com/example/tinsel_tally/tinseltally/Figures" ∧ Fld Z h o160 "com/example/tinsel_tally/tinseltally/Figures" "floor" "J" (.long (0 : Int64)) ∧ Fld Z h o160 "com/example/tinsel_tally/tinseltally/Figures" "dDayFirst" "J" (.long (0 : Int64)) ∧ Fld Z h o160 "com/example/tinsel_tally/tinseltally/Figures" "dDayRise" "J" (.long (0 : Int64)) ∧ Fld Z h o160 "com/example/tinsel_tally/tinseltally/Figures" "perDessert" "J" (.long (0 : Int64)) ∧ Fld Z h o160 "com/example/tinsel_tally/tinseltally/Figures" "perMain" "J" (.long (0 : Int64)) ∧ Fld Z h o160 "com/example/tinsel_tally/tinseltally/Figures" "specialDiscount" "J" (.long (0 : Int64)) ∧ Fld Z h o160 "com/example/tinsel_tally/tinseltally/Figures" "giftThreshold" "J" (.long (0 : Int64)) ∧ Fld Z h o160 "com/example/tinsel_tally/tinseltally/Figures" "giftDish" "Ljava/lang/String;" (.ref t161) ∧ Fld Z h o160 "com/example/tinsel_tally/tinseltally/Figures" "starThreshold" "J" (.long star) ∧ Fld Z h o160 "com/example/tinsel_tally/tinseltally/Figures" "treeThreshold" "J" (.long tree) ∧ Fld Z h o160 "com/example/tinsel_tally/tinseltally/Figures" "santaThreshold" "J" (.long santa) ∧ Old Z n0 h ∧ Keep h0 h [o160]) := by
  refine Met.mk (tabs := tables_1) (a0 := a0) (ls0 := #[.val (.ref o160)]) (plainFor_of_name pn_com_example_tinsel_tally_tinseltally_Figures) hw Z0 (fun m => by first | (simp [entryFrame, mkF, argsToLocals, Value.category]; done) | rfl) ?_
  intro p e s m below meth c T C X
  have Kp : Keep h0 h0 [o160] := Keep.refl _ _
  refine s_aloadN 1 C X d11_0 rfl rfl ?_
  refine s_getfield 4 C X (host := "") d11_1 (Or.inl (List.mem_of_getElem? (i := 35) rfl)) Via.refl F_o160_starThreshold (fun T X => ?_)
  refine s_lreturn C X d11_4 rfl ?_
  exact ⟨rfl, E_o160, F_o160_floor, F_o160_dDayFirst, F_o160_dDayRise, F_o160_perDessert, F_o160_perMain, F_o160_specialDiscount, F_o160_giftThreshold, F_o160_giftDish, F_o160_starThreshold, F_o160_treeThreshold, F_o160_santaThreshold, Od, Kp⟩
set_option maxRecDepth 65536 in
set_option maxHeartbeats 40000000 in
theorem rm_a173 (l : Launch) (Z : State) (a0 : Array Value) (hw : ∀ d ∈ tables_1, d.before a0 Z = true) (aSanta : Addr) (aTree : Addr) (aStar : Addr) (aE : Addr) (h0 : Heap) (n0 : Nat) (Z0 : n0 ≤ h0.size) (Od : Old Z n0 h0) (S_E : Sta Z Z.heap "java/util/Optional" "EMPTY" "Ljava/util/Optional;" (.ref aE)) (S_SANTA : Sta Z Z.heap "com/example/tinsel_tally/tinseltally/Badge" "SANTA" "Lcom/example/tinsel_tally/tinseltally/Badge;" (.ref aSanta)) (S_TREE : Sta Z Z.heap "com/example/tinsel_tally/tinseltally/Badge" "TREE" "Lcom/example/tinsel_tally/tinseltally/Badge;" (.ref aTree)) (S_STAR : Sta Z Z.heap "com/example/tinsel_tally/tinseltally/Badge" "STAR" "Lcom/example/tinsel_tally/tinseltally/Badge;" (.ref aStar)) :
    Met l Z (⟨"java/util/Objects", "requireNonNull", "(Ljava/lang/Object;)Ljava/lang/Object;"⟩ : MethodName) jdk_31_method_10_code 1 (some (.object "java/lang/Object")) { frames := 0, cells := 0, slots := 0, locals := 0 } [] #[(.ref aStar)] h0 n0 (fun v h => v = some (.ref aStar) ∧ Old Z n0 h ∧ Keep h0 h []) := by
  refine Met.mk (tabs := tables_1) (a0 := a0) (ls0 := #[.val (.ref aStar)]) (plainFor_of_name pn_java_util_Objects) hw Z0 (fun m => by first | (simp [entryFrame, mkF, argsToLocals, Value.category]; done) | rfl) ?_
  intro p e s m below meth c T C X
  have Kp : Keep h0 h0 [] := Keep.refl _ _
  refine s_aloadN 1 C X d7_0 rfl rfl ?_
  refine s_ifnonnullY 12 C X d7_1 ?_
  refine s_aloadN 13 C X d7_12 rfl rfl ?_
  refine s_areturn C X d7_13 rfl rfl rfl ?_
  exact ⟨rfl, Od, Kp⟩
set_option maxRecDepth 65536 in
set_option maxHeartbeats 40000000 in
theorem rm_a174 (l : Launch) (Z : State) (a0 : Array Value) (hw : ∀ d ∈ tables_1, d.before a0 Z = true) (aSanta : Addr) (aTree : Addr) (aStar : Addr) (aE : Addr) (o172 : Addr) (h0 : Heap) (n0 : Nat) (Z0 : n0 ≤ h0.size) (E_o172 : Exa Z h0 o172 "java/util/Optional") (F_o172_value : Fld Z h0 o172 "java/util/Optional" "value" "Ljava/lang/Object;" .null) (Od : Old Z n0 h0) (S_E : Sta Z Z.heap "java/util/Optional" "EMPTY" "Ljava/util/Optional;" (.ref aE)) (S_SANTA : Sta Z Z.heap "com/example/tinsel_tally/tinseltally/Badge" "SANTA" "Lcom/example/tinsel_tally/tinseltally/Badge;" (.ref aSanta)) (S_TREE : Sta Z Z.heap "com/example/tinsel_tally/tinseltally/Badge" "TREE" "Lcom/example/tinsel_tally/tinseltally/Badge;" (.ref aTree)) (S_STAR : Sta Z Z.heap "com/example/tinsel_tally/tinseltally/Badge" "STAR" "Lcom/example/tinsel_tally/tinseltally/Badge;" (.ref aStar)) (g_o172 : n0 ≤ o172) :
    Met l Z (⟨"java/util/Optional", "<init>", "(Ljava/lang/Object;)V"⟩ : MethodName) jdk_32_method_2_code 2 none { frames := 1, cells := 0, slots := 0, locals := 12 } [] #[(.ref o172), (.ref aStar)] h0 n0 (fun v h => v = none ∧ Exa Z h o172 "java/util/Optional" ∧ Fld Z h o172 "java/util/Optional" "value" "Ljava/lang/Object;" (.ref aStar) ∧ Old Z n0 h ∧ Keep h0 h [o172]) := by
  refine Met.mk (tabs := tables_1) (a0 := a0) (ls0 := #[.val (.ref o172), .val (.ref aStar)]) (plainFor_of_name pn_java_util_Optional) hw Z0 (fun m => by first | (simp [entryFrame, mkF, argsToLocals, Value.category]; done) | rfl) ?_
  intro p e s m below meth c T C X
  have Kp : Keep h0 h0 [o172] := Keep.refl _ _
  refine s_aloadN 1 C X d8_0 rfl rfl ?_
  refine s_objInit 4 C X d8_1 (List.mem_of_getElem? (i := 70) rfl) (List.mem_of_getElem? (i := 17) rfl) (List.mem_of_getElem? (i := 18) rfl) rfl (W := 0) rfl (by decide) (fun T X => ?_)
  refine s_aloadN 5 C X d8_4 rfl rfl ?_
  refine s_aloadN 6 C X d8_5 rfl rfl ?_
  refine s_putfield 9 C X (host := "") d8_6 (Or.inl (List.mem_of_getElem? (i := 71) rfl)) Via.refl F_o172_value E_o172 (Or.inr ⟨(List.mem_of_getElem? (i := 72) rfl), rfl, rfl⟩) (List.mem_of_getElem? (i := 61) rfl) (ty := (.object "java/lang/Object")) (by decide) rfl rfl g_o172 (fun T hh X W => ?_)
  have E_o172 := E_o172.wr W
  have F_o172_value := F_o172_value.same W
  have Od := Od.wr W g_o172
  have Kp := Kp.wr W (Or.inl (by simp))
  refine s_return C X d8_9 rfl ?_
  exact ⟨rfl, E_o172, F_o172_value, Od, Kp⟩
set_option maxRecDepth 65536 in
set_option maxHeartbeats 40000000 in
theorem rm_a171 (l : Launch) (Z : State) (a0 : Array Value) (hw : ∀ d ∈ tables_1, d.before a0 Z = true) (aSanta : Addr) (aTree : Addr) (aStar : Addr) (aE : Addr) (h0 : Heap) (n0 : Nat) (Z0 : n0 ≤ h0.size) (Od : Old Z n0 h0) (S_E : Sta Z Z.heap "java/util/Optional" "EMPTY" "Ljava/util/Optional;" (.ref aE)) (S_SANTA : Sta Z Z.heap "com/example/tinsel_tally/tinseltally/Badge" "SANTA" "Lcom/example/tinsel_tally/tinseltally/Badge;" (.ref aSanta)) (S_TREE : Sta Z Z.heap "com/example/tinsel_tally/tinseltally/Badge" "TREE" "Lcom/example/tinsel_tally/tinseltally/Badge;" (.ref aTree)) (S_STAR : Sta Z Z.heap "com/example/tinsel_tally/tinseltally/Badge" "STAR" "Lcom/example/tinsel_tally/tinseltally/Badge;" (.ref aStar)) :
    Met l Z (⟨"java/util/Optional", "of", "(Ljava/lang/Object;)Ljava/util/Optional;"⟩ : MethodName) jdk_32_method_3_code 1 (some (.object "java/util/Optional")) { frames := 2, cells := 1, slots := 1, locals := 26 } [] #[(.ref aStar)] h0 n0 (fun v h => ∃ (o172 : Addr), v = some (.ref o172) ∧ Keep h0 h [] ∧ Exa Z h o172 "java/util/Optional" ∧ Fld Z h o172 "java/util/Optional" "value" "Ljava/lang/Object;" (.ref aStar) ∧ Old Z n0 h ∧ h0.size ≤ o172 ∧ n0 ≤ o172) := by
  refine Met.mk (tabs := tables_1) (a0 := a0) (ls0 := #[.val (.ref aStar)]) (plainFor_of_name pn_java_util_Optional) hw Z0 (fun m => by first | (simp [entryFrame, mkF, argsToLocals, Value.category]; done) | rfl) ?_
  intro p e s m below meth c T C X
  have Kp : Keep h0 h0 [] := Keep.refl _ _
  refine s_new 3 C X d6_0 (List.mem_of_getElem? (i := 60) rfl) (List.mem_of_getElem? (i := 61) rfl) (List.mem_of_getElem? (i := 47) rfl) (fun T hh o172 hb_o172 X E E_o172 D g_o172 => ?_)
  have sz_o172 : h0.size ≤ o172 := Nat.le_trans Kp.1 (Nat.le_of_eq hb_o172)
  have Od := Od.ext E
  have Kp := Kp.ext E
  have F_o172_value : Fld Z _ o172 "java/util/Optional" "value" "Ljava/lang/Object;" .null := D (Or.inr (hw _ (List.mem_of_getElem? (i := 72) rfl))) (ty := (.object "java/lang/Object")) (by decide)
  refine s_dup 4 C X d6_3 rfl ?_
  refine s_aloadN 5 C X d6_4 rfl rfl ?_
  refine s_callS 8 [(.ref aStar)] [(.ref o172), (.ref o172)] 2 C X d6_5 (List.mem_of_getElem? (i := 62) rfl) (List.mem_of_getElem? (i := 63) rfl) (List.mem_of_getElem? (i := 64) rfl) (List.mem_of_getElem? (i := 65) rfl) (rm_a173 l Z a0 hw aSanta aTree aStar aE _ n0 X.sz Od S_E S_SANTA S_TREE S_STAR) (lenOf pd__Ljava_lang_Object__Ljava_lang_Object_ rfl) rfl rfl rfl (fun T v hh X q => ?_)
  obtain ⟨rfl, Od, Kc⟩ := q
  have Kp := Kp.trans Kc all0
  have E_o172 := E_o172.keep Kc
  have F_o172_value := F_o172_value.keep Kc nin0
  refine Run.cast (st' := [(.ref aStar), (.ref o172), (.ref o172)]) rfl ?_
  refine s_callC 11 [(.ref aStar)] [(.ref o172)] 1 C X d6_8 rfl (List.mem_of_getElem? (i := 66) rfl) (List.mem_of_getElem? (i := 67) rfl) (List.mem_of_getElem? (i := 47) rfl) (List.mem_of_getElem? (i := 69) rfl) (rm_a174 l Z a0 hw aSanta aTree aStar aE o172 _ n0 X.sz E_o172 F_o172_value Od S_E S_SANTA S_TREE S_STAR g_o172) (lenOf pd__Ljava_lang_Object__V rfl) rfl rfl rfl (fun T v hh X q => ?_)
  obtain ⟨rfl, E_o172, F_o172_value, Od, Kc⟩ := q
  have Kp := Kp.trans Kc (allS (Or.inr sz_o172) all0)
  refine Run.cast (st' := [(.ref o172)]) rfl ?_
  refine s_areturn C X d6_11 rfl rfl rfl ?_
  exact ⟨o172, rfl, Kp, E_o172, F_o172_value, Od, sz_o172, g_o172⟩
set_option maxRecDepth 65536 in
set_option maxHeartbeats 40000000 in
theorem rm_a177 (l : Launch) (Z : State) (a0 : Array Value) (hw : ∀ d ∈ tables_1, d.before a0 Z = true) (aSanta : Addr) (aTree : Addr) (aStar : Addr) (aE : Addr) (h0 : Heap) (n0 : Nat) (Z0 : n0 ≤ h0.size) (Od : Old Z n0 h0) (S_E : Sta Z Z.heap "java/util/Optional" "EMPTY" "Ljava/util/Optional;" (.ref aE)) (S_SANTA : Sta Z Z.heap "com/example/tinsel_tally/tinseltally/Badge" "SANTA" "Lcom/example/tinsel_tally/tinseltally/Badge;" (.ref aSanta)) (S_TREE : Sta Z Z.heap "com/example/tinsel_tally/tinseltally/Badge" "TREE" "Lcom/example/tinsel_tally/tinseltally/Badge;" (.ref aTree)) (S_STAR : Sta Z Z.heap "com/example/tinsel_tally/tinseltally/Badge" "STAR" "Lcom/example/tinsel_tally/tinseltally/Badge;" (.ref aStar)) :
    Met l Z (⟨"java/util/Objects", "requireNonNull", "(Ljava/lang/Object;)Ljava/lang/Object;"⟩ : MethodName) jdk_31_method_10_code 1 (some (.object "java/lang/Object")) { frames := 0, cells := 0, slots := 0, locals := 0 } [] #[(.ref aTree)] h0 n0 (fun v h => v = some (.ref aTree) ∧ Old Z n0 h ∧ Keep h0 h []) := by
  refine Met.mk (tabs := tables_1) (a0 := a0) (ls0 := #[.val (.ref aTree)]) (plainFor_of_name pn_java_util_Objects) hw Z0 (fun m => by first | (simp [entryFrame, mkF, argsToLocals, Value.category]; done) | rfl) ?_
  intro p e s m below meth c T C X
  have Kp : Keep h0 h0 [] := Keep.refl _ _
  refine s_aloadN 1 C X d7_0 rfl rfl ?_
  refine s_ifnonnullY 12 C X d7_1 ?_
  refine s_aloadN 13 C X d7_12 rfl rfl ?_
  refine s_areturn C X d7_13 rfl rfl rfl ?_
  exact ⟨rfl, Od, Kp⟩
set_option maxRecDepth 65536 in
set_option maxHeartbeats 40000000 in
theorem rm_a178 (l : Launch) (Z : State) (a0 : Array Value) (hw : ∀ d ∈ tables_1, d.before a0 Z = true) (aSanta : Addr) (aTree : Addr) (aStar : Addr) (aE : Addr) (o176 : Addr) (h0 : Heap) (n0 : Nat) (Z0 : n0 ≤ h0.size) (E_o176 : Exa Z h0 o176 "java/util/Optional") (F_o176_value : Fld Z h0 o176 "java/util/Optional" "value" "Ljava/lang/Object;" .null) (Od : Old Z n0 h0) (S_E : Sta Z Z.heap "java/util/Optional" "EMPTY" "Ljava/util/Optional;" (.ref aE)) (S_SANTA : Sta Z Z.heap "com/example/tinsel_tally/tinseltally/Badge" "SANTA" "Lcom/example/tinsel_tally/tinseltally/Badge;" (.ref aSanta)) (S_TREE : Sta Z Z.heap "com/example/tinsel_tally/tinseltally/Badge" "TREE" "Lcom/example/tinsel_tally/tinseltally/Badge;" (.ref aTree)) (S_STAR : Sta Z Z.heap "com/example/tinsel_tally/tinseltally/Badge" "STAR" "Lcom/example/tinsel_tally/tinseltally/Badge;" (.ref aStar)) (g_o176 : n0 ≤ o176) :
    Met l Z (⟨"java/util/Optional", "<init>", "(Ljava/lang/Object;)V"⟩ : MethodName) jdk_32_method_2_code 2 none { frames := 1, cells := 0, slots := 0, locals := 12 } [] #[(.ref o176), (.ref aTree)] h0 n0 (fun v h => v = none ∧ Exa Z h o176 "java/util/Optional" ∧ Fld Z h o176 "java/util/Optional" "value" "Ljava/lang/Object;" (.ref aTree) ∧ Old Z n0 h ∧ Keep h0 h [o176]) := by
  refine Met.mk (tabs := tables_1) (a0 := a0) (ls0 := #[.val (.ref o176), .val (.ref aTree)]) (plainFor_of_name pn_java_util_Optional) hw Z0 (fun m => by first | (simp [entryFrame, mkF, argsToLocals, Value.category]; done) | rfl) ?_
  intro p e s m below meth c T C X
  have Kp : Keep h0 h0 [o176] := Keep.refl _ _
  refine s_aloadN 1 C X d8_0 rfl rfl ?_
  refine s_objInit 4 C X d8_1 (List.mem_of_getElem? (i := 70) rfl) (List.mem_of_getElem? (i := 17) rfl) (List.mem_of_getElem? (i := 18) rfl) rfl (W := 0) rfl (by decide) (fun T X => ?_)
  refine s_aloadN 5 C X d8_4 rfl rfl ?_
  refine s_aloadN 6 C X d8_5 rfl rfl ?_
  refine s_putfield 9 C X (host := "") d8_6 (Or.inl (List.mem_of_getElem? (i := 71) rfl)) Via.refl F_o176_value E_o176 (Or.inr ⟨(List.mem_of_getElem? (i := 72) rfl), rfl, rfl⟩) (List.mem_of_getElem? (i := 61) rfl) (ty := (.object "java/lang/Object")) (by decide) rfl rfl g_o176 (fun T hh X W => ?_)
  have E_o176 := E_o176.wr W
  have F_o176_value := F_o176_value.same W
  have Od := Od.wr W g_o176
  have Kp := Kp.wr W (Or.inl (by simp))
  refine s_return C X d8_9 rfl ?_
  exact ⟨rfl, E_o176, F_o176_value, Od, Kp⟩
set_option maxRecDepth 65536 in
set_option maxHeartbeats 40000000 in
theorem rm_a175 (l : Launch) (Z : State) (a0 : Array Value) (hw : ∀ d ∈ tables_1, d.before a0 Z = true) (aSanta : Addr) (aTree : Addr) (aStar : Addr) (aE : Addr) (h0 : Heap) (n0 : Nat) (Z0 : n0 ≤ h0.size) (Od : Old Z n0 h0) (S_E : Sta Z Z.heap "java/util/Optional" "EMPTY" "Ljava/util/Optional;" (.ref aE)) (S_SANTA : Sta Z Z.heap "com/example/tinsel_tally/tinseltally/Badge" "SANTA" "Lcom/example/tinsel_tally/tinseltally/Badge;" (.ref aSanta)) (S_TREE : Sta Z Z.heap "com/example/tinsel_tally/tinseltally/Badge" "TREE" "Lcom/example/tinsel_tally/tinseltally/Badge;" (.ref aTree)) (S_STAR : Sta Z Z.heap "com/example/tinsel_tally/tinseltally/Badge" "STAR" "Lcom/example/tinsel_tally/tinseltally/Badge;" (.ref aStar)) :
    Met l Z (⟨"java/util/Optional", "of", "(Ljava/lang/Object;)Ljava/util/Optional;"⟩ : MethodName) jdk_32_method_3_code 1 (some (.object "java/util/Optional")) { frames := 2, cells := 1, slots := 1, locals := 26 } [] #[(.ref aTree)] h0 n0 (fun v h => ∃ (o176 : Addr), v = some (.ref o176) ∧ Keep h0 h [] ∧ Exa Z h o176 "java/util/Optional" ∧ Fld Z h o176 "java/util/Optional" "value" "Ljava/lang/Object;" (.ref aTree) ∧ Old Z n0 h ∧ h0.size ≤ o176 ∧ n0 ≤ o176) := by
  refine Met.mk (tabs := tables_1) (a0 := a0) (ls0 := #[.val (.ref aTree)]) (plainFor_of_name pn_java_util_Optional) hw Z0 (fun m => by first | (simp [entryFrame, mkF, argsToLocals, Value.category]; done) | rfl) ?_
  intro p e s m below meth c T C X
  have Kp : Keep h0 h0 [] := Keep.refl _ _
  refine s_new 3 C X d6_0 (List.mem_of_getElem? (i := 60) rfl) (List.mem_of_getElem? (i := 61) rfl) (List.mem_of_getElem? (i := 47) rfl) (fun T hh o176 hb_o176 X E E_o176 D g_o176 => ?_)
  have sz_o176 : h0.size ≤ o176 := Nat.le_trans Kp.1 (Nat.le_of_eq hb_o176)
  have Od := Od.ext E
  have Kp := Kp.ext E
  have F_o176_value : Fld Z _ o176 "java/util/Optional" "value" "Ljava/lang/Object;" .null := D (Or.inr (hw _ (List.mem_of_getElem? (i := 72) rfl))) (ty := (.object "java/lang/Object")) (by decide)
  refine s_dup 4 C X d6_3 rfl ?_
  refine s_aloadN 5 C X d6_4 rfl rfl ?_
  refine s_callS 8 [(.ref aTree)] [(.ref o176), (.ref o176)] 2 C X d6_5 (List.mem_of_getElem? (i := 62) rfl) (List.mem_of_getElem? (i := 63) rfl) (List.mem_of_getElem? (i := 64) rfl) (List.mem_of_getElem? (i := 65) rfl) (rm_a177 l Z a0 hw aSanta aTree aStar aE _ n0 X.sz Od S_E S_SANTA S_TREE S_STAR) (lenOf pd__Ljava_lang_Object__Ljava_lang_Object_ rfl) rfl rfl rfl (fun T v hh X q => ?_)
  obtain ⟨rfl, Od, Kc⟩ := q
  have Kp := Kp.trans Kc all0
  have E_o176 := E_o176.keep Kc
  have F_o176_value := F_o176_value.keep Kc nin0
  refine Run.cast (st' := [(.ref aTree), (.ref o176), (.ref o176)]) rfl ?_
  refine s_callC 11 [(.ref aTree)] [(.ref o176)] 1 C X d6_8 rfl (List.mem_of_getElem? (i := 66) rfl) (List.mem_of_getElem? (i := 67) rfl) (List.mem_of_getElem? (i := 47) rfl) (List.mem_of_getElem? (i := 69) rfl) (rm_a178 l Z a0 hw aSanta aTree aStar aE o176 _ n0 X.sz E_o176 F_o176_value Od S_E S_SANTA S_TREE S_STAR g_o176) (lenOf pd__Ljava_lang_Object__V rfl) rfl rfl rfl (fun T v hh X q => ?_)
  obtain ⟨rfl, E_o176, F_o176_value, Od, Kc⟩ := q
  have Kp := Kp.trans Kc (allS (Or.inr sz_o176) all0)
  refine Run.cast (st' := [(.ref o176)]) rfl ?_
  refine s_areturn C X d6_11 rfl rfl rfl ?_
  exact ⟨o176, rfl, Kp, E_o176, F_o176_value, Od, sz_o176, g_o176⟩
set_option maxRecDepth 65536 in
set_option maxHeartbeats 40000000 in
theorem rm_a181 (l : Launch) (Z : State) (a0 : Array Value) (hw : ∀ d ∈ tables_1, d.before a0 Z = true) (aSanta : Addr) (aTree : Addr) (aStar : Addr) (aE : Addr) (h0 : Heap) (n0 : Nat) (Z0 : n0 ≤ h0.size) (Od : Old Z n0 h0) (S_E : Sta Z Z.heap "java/util/Optional" "EMPTY" "Ljava/util/Optional;" (.ref aE)) (S_SANTA : Sta Z Z.heap "com/example/tinsel_tally/tinseltally/Badge" "SANTA" "Lcom/example/tinsel_tally/tinseltally/Badge;" (.ref aSanta)) (S_TREE : Sta Z Z.heap "com/example/tinsel_tally/tinseltally/Badge" "TREE" "Lcom/example/tinsel_tally/tinseltally/Badge;" (.ref aTree)) (S_STAR : Sta Z Z.heap "com/example/tinsel_tally/tinseltally/Badge" "STAR" "Lcom/example/tinsel_tally/tinseltally/Badge;" (.ref aStar)) :
    Met l Z (⟨"java/util/Objects", "requireNonNull", "(Ljava/lang/Object;)Ljava/lang/Object;"⟩ : MethodName) jdk_31_method_10_code 1 (some (.object "java/lang/Object")) { frames := 0, cells := 0, slots := 0, locals := 0 } [] #[(.ref aSanta)] h0 n0 (fun v h => v = some (.ref aSanta) ∧ Old Z n0 h ∧ Keep h0 h []) := by
  refine Met.mk (tabs := tables_1) (a0 := a0) (ls0 := #[.val (.ref aSanta)]) (plainFor_of_name pn_java_util_Objects) hw Z0 (fun m => by first | (simp [entryFrame, mkF, argsToLocals, Value.category]; done) | rfl) ?_
  intro p e s m below meth c T C X
  have Kp : Keep h0 h0 [] := Keep.refl _ _
  refine s_aloadN 1 C X d7_0 rfl rfl ?_
  refine s_ifnonnullY 12 C X d7_1 ?_
  refine s_aloadN 13 C X d7_12 rfl rfl ?_
  refine s_areturn C X d7_13 rfl rfl rfl ?_
  exact ⟨rfl, Od, Kp⟩
set_option maxRecDepth 65536 in
set_option maxHeartbeats 40000000 in
theorem rm_a182 (l : Launch) (Z : State) (a0 : Array Value) (hw : ∀ d ∈ tables_1, d.before a0 Z = true) (aSanta : Addr) (aTree : Addr) (aStar : Addr) (aE : Addr) (o180 : Addr) (h0 : Heap) (n0 : Nat) (Z0 : n0 ≤ h0.size) (E_o180 : Exa Z h0 o180 "java/util/Optional") (F_o180_value : Fld Z h0 o180 "java/util/Optional" "value" "Ljava/lang/Object;" .null) (Od : Old Z n0 h0) (S_E : Sta Z Z.heap "java/util/Optional" "EMPTY" "Ljava/util/Optional;" (.ref aE)) (S_SANTA : Sta Z Z.heap "com/example/tinsel_tally/tinseltally/Badge" "SANTA" "Lcom/example/tinsel_tally/tinseltally/Badge;" (.ref aSanta)) (S_TREE : Sta Z Z.heap "com/example/tinsel_tally/tinseltally/Badge" "TREE" "Lcom/example/tinsel_tally/tinseltally/Badge;" (.ref aTree)) (S_STAR : Sta Z Z.heap "com/example/tinsel_tally/tinseltally/Badge" "STAR" "Lcom/example/tinsel_tally/tinseltally/Badge;" (.ref aStar)) (g_o180 : n0 ≤ o180) :
    Met l Z (⟨"java/util/Optional", "<init>", "(Ljava/lang/Object;)V"⟩ : MethodName) jdk_32_method_2_code 2 none { frames := 1, cells := 0, slots := 0, locals := 12 } [] #[(.ref o180), (.ref aSanta)] h0 n0 (fun v h => v = none ∧ Exa Z h o180 "java/util/Optional" ∧ Fld Z h o180 "java/util/Optional" "value" "Ljava/lang/Object;" (.ref aSanta) ∧ Old Z n0 h ∧ Keep h0 h [o180]) := by
  refine Met.mk (tabs := tables_1) (a0 := a0) (ls0 := #[.val (.ref o180), .val (.ref aSanta)]) (plainFor_of_name pn_java_util_Optional) hw Z0 (fun m => by first | (simp [entryFrame, mkF, argsToLocals, Value.category]; done) | rfl) ?_
  intro p e s m below meth c T C X
  have Kp : Keep h0 h0 [o180] := Keep.refl _ _
  refine s_aloadN 1 C X d8_0 rfl rfl ?_
  refine s_objInit 4 C X d8_1 (List.mem_of_getElem? (i := 70) rfl) (List.mem_of_getElem? (i := 17) rfl) (List.mem_of_getElem? (i := 18) rfl) rfl (W := 0) rfl (by decide) (fun T X => ?_)
  refine s_aloadN 5 C X d8_4 rfl rfl ?_
  refine s_aloadN 6 C X d8_5 rfl rfl ?_
  refine s_putfield 9 C X (host := "") d8_6 (Or.inl (List.mem_of_getElem? (i := 71) rfl)) Via.refl F_o180_value E_o180 (Or.inr ⟨(List.mem_of_getElem? (i := 72) rfl), rfl, rfl⟩) (List.mem_of_getElem? (i := 61) rfl) (ty := (.object "java/lang/Object")) (by decide) rfl rfl g_o180 (fun T hh X W => ?_)
  have E_o180 := E_o180.wr W
  have F_o180_value := F_o180_value.same W
  have Od := Od.wr W g_o180
  have Kp := Kp.wr W (Or.inl (by simp))
  refine s_return C X d8_9 rfl ?_
  exact ⟨rfl, E_o180, F_o180_value, Od, Kp⟩
set_option maxRecDepth 65536 in
set_option maxHeartbeats 40000000 in
theorem rm_a179 (l : Launch) (Z : State) (a0 : Array Value) (hw : ∀ d ∈ tables_1, d.before a0 Z = true) (aSanta : Addr) (aTree : Addr) (aStar : Addr) (aE : Addr) (h0 : Heap) (n0 : Nat) (Z0 : n0 ≤ h0.size) (Od : Old Z n0 h0) (S_E : Sta Z Z.heap "java/util/Optional" "EMPTY" "Ljava/util/Optional;" (.ref aE)) (S_SANTA : Sta Z Z.heap "com/example/tinsel_tally/tinseltally/Badge" "SANTA" "Lcom/example/tinsel_tally/tinseltally/Badge;" (.ref aSanta)) (S_TREE : Sta Z Z.heap "com/example/tinsel_tally/tinseltally/Badge" "TREE" "Lcom/example/tinsel_tally/tinseltally/Badge;" (.ref aTree)) (S_STAR : Sta Z Z.heap "com/example/tinsel_tally/tinseltally/Badge" "STAR" "Lcom/example/tinsel_tally/tinseltally/Badge;" (.ref aStar)) :
    Met l Z (⟨"java/util/Optional", "of", "(Ljava/lang/Object;)Ljava/util/Optional;"⟩ : MethodName) jdk_32_method_3_code 1 (some (.object "java/util/Optional")) { frames := 2, cells := 1, slots := 1, locals := 26 } [] #[(.ref aSanta)] h0 n0 (fun v h => ∃ (o180 : Addr), v = some (.ref o180) ∧ Keep h0 h [] ∧ Exa Z h o180 "java/util/Optional" ∧ Fld Z h o180 "java/util/Optional" "value" "Ljava/lang/Object;" (.ref aSanta) ∧ Old Z n0 h ∧ h0.size ≤ o180 ∧ n0 ≤ o180) := by
  refine Met.mk (tabs := tables_1) (a0 := a0) (ls0 := #[.val (.ref aSanta)]) (plainFor_of_name pn_java_util_Optional) hw Z0 (fun m => by first | (simp [entryFrame, mkF, argsToLocals, Value.category]; done) | rfl) ?_
  intro p e s m below meth c T C X
  have Kp : Keep h0 h0 [] := Keep.refl _ _
  refine s_new 3 C X d6_0 (List.mem_of_getElem? (i := 60) rfl) (List.mem_of_getElem? (i := 61) rfl) (List.mem_of_getElem? (i := 47) rfl) (fun T hh o180 hb_o180 X E E_o180 D g_o180 => ?_)
  have sz_o180 : h0.size ≤ o180 := Nat.le_trans Kp.1 (Nat.le_of_eq hb_o180)
  have Od := Od.ext E
  have Kp := Kp.ext E
  have F_o180_value : Fld Z _ o180 "java/util/Optional" "value" "Ljava/lang/Object;" .null := D (Or.inr (hw _ (List.mem_of_getElem? (i := 72) rfl))) (ty := (.object "java/lang/Object")) (by decide)
  refine s_dup 4 C X d6_3 rfl ?_
  refine s_aloadN 5 C X d6_4 rfl rfl ?_
  refine s_callS 8 [(.ref aSanta)] [(.ref o180), (.ref o180)] 2 C X d6_5 (List.mem_of_getElem? (i := 62) rfl) (List.mem_of_getElem? (i := 63) rfl) (List.mem_of_getElem? (i := 64) rfl) (List.mem_of_getElem? (i := 65) rfl) (rm_a181 l Z a0 hw aSanta aTree aStar aE _ n0 X.sz Od S_E S_SANTA S_TREE S_STAR) (lenOf pd__Ljava_lang_Object__Ljava_lang_Object_ rfl) rfl rfl rfl (fun T v hh X q => ?_)
  obtain ⟨rfl, Od, Kc⟩ := q
  have Kp := Kp.trans Kc all0
  have E_o180 := E_o180.keep Kc
  have F_o180_value := F_o180_value.keep Kc nin0
  refine Run.cast (st' := [(.ref aSanta), (.ref o180), (.ref o180)]) rfl ?_
  refine s_callC 11 [(.ref aSanta)] [(.ref o180)] 1 C X d6_8 rfl (List.mem_of_getElem? (i := 66) rfl) (List.mem_of_getElem? (i := 67) rfl) (List.mem_of_getElem? (i := 47) rfl) (List.mem_of_getElem? (i := 69) rfl) (rm_a182 l Z a0 hw aSanta aTree aStar aE o180 _ n0 X.sz E_o180 F_o180_value Od S_E S_SANTA S_TREE S_STAR g_o180) (lenOf pd__Ljava_lang_Object__V rfl) rfl rfl rfl (fun T v hh X q => ?_)
  obtain ⟨rfl, E_o180, F_o180_value, Od, Kc⟩ := q
  have Kp := Kp.trans Kc (allS (Or.inr sz_o180) all0)
  refine Run.cast (st' := [(.ref o180)]) rfl ?_
  refine s_areturn C X d6_11 rfl rfl rfl ?_
  exact ⟨o180, rfl, Kp, E_o180, F_o180_value, Od, sz_o180, g_o180⟩
set_option maxRecDepth 65536 in
set_option maxHeartbeats 40000000 in
theorem rm_a163 (l : Launch) (Z : State) (a0 : Array Value) (hw : ∀ d ∈ tables_1, d.before a0 Z = true) (aSanta : Addr) (aTree : Addr) (aStar : Addr) (aE : Addr) (star : Int64) (tree : Int64) (santa : Int64) (t : Int64) (o160 : Addr) (t161 : Addr) (h0 : Heap) (n0 : Nat) (Z0 : n0 ≤ h0.size) (Od : Old Z n0 h0) (E_o160 : Exa Z h0 o160 "com/example/tinsel_tally/tinseltally/Figures") (F_o160_floor : Fld Z h0 o160 "com/example/tinsel_tally/tinseltally/Figures" "floor" "J" (.long (0 : Int64))) (F_o160_dDayFirst : Fld Z h0 o160 "com/example/tinsel_tally/tinseltally/Figures" "dDayFirst" "J" (.long (0 : Int64))) (F_o160_dDayRise : Fld Z h0 o160 "com/example/tinsel_tally/tinseltally/Figures" "dDayRise" "J" (.long (0 : Int64))) (F_o160_perDessert : Fld Z h0 o160 "com/example/tinsel_tally/tinseltally/Figures" "perDessert" "J" (.long (0 : Int64))) (F_o160_perMain : Fld Z h0 o160 "com/example/tinsel_tally/tinseltally/Figures" "perMain" "J" (.long (0 : Int64))) (F_o160_specialDiscount : Fld Z h0 o160 "com/example/tinsel_tally/tinseltally/Figures" "specialDiscount" "J" (.long (0 : Int64))) (F_o160_giftThreshold : Fld Z h0 o160 "com/example/tinsel_tally/tinseltally/Figures" "giftThreshold" "J" (.long (0 : Int64))) (F_o160_giftDish : Fld Z h0 o160 "com/example/tinsel_tally/tinseltally/Figures" "giftDish" "Ljava/lang/String;" (.ref t161)) (F_o160_starThreshold : Fld Z h0 o160 "com/example/tinsel_tally/tinseltally/Figures" "starThreshold" "J" (.long star)) (F_o160_treeThreshold : Fld Z h0 o160 "com/example/tinsel_tally/tinseltally/Figures" "treeThreshold" "J" (.long tree)) (F_o160_santaThreshold : Fld Z h0 o160 "com/example/tinsel_tally/tinseltally/Figures" "santaThreshold" "J" (.long santa)) (S_E : Sta Z Z.heap "java/util/Optional" "EMPTY" "Ljava/util/Optional;" (.ref aE)) (S_SANTA : Sta Z Z.heap "com/example/tinsel_tally/tinseltally/Badge" "SANTA" "Lcom/example/tinsel_tally/tinseltally/Badge;" (.ref aSanta)) (S_TREE : Sta Z Z.heap "com/example/tinsel_tally/tinseltally/Badge" "TREE" "Lcom/example/tinsel_tally/tinseltally/Badge;" (.ref aTree)) (S_STAR : Sta Z Z.heap "com/example/tinsel_tally/tinseltally/Badge" "STAR" "Lcom/example/tinsel_tally/tinseltally/Badge;" (.ref aStar)) (g_o160 : n0 ≤ o160) :
    Met l Z (⟨"com/example/tinsel_tally/tinseltally/Badge", "forTotalBenefit", "(JLcom/example/tinsel_tally/tinseltally/Figures;)Ljava/util/Optional;"⟩ : MethodName) prog_2_method_4_code 4 (some (.object "java/util/Optional")) { frames := 3, cells := 1, slots := 1, locals := 38 } [] #[(.long t), (.ref o160)] h0 n0 (fun v h => (v = some (.ref aE) ∧ (XT.cmpL t santa) < (0 : Int32) ∧ (XT.cmpL t tree) < (0 : Int32) ∧ (XT.cmpL t star) < (0 : Int32) ∧ Keep h0 h [o160] ∧ Exa Z h o160 "com/example/tinsel_tally/tinseltally/Figures" ∧ Fld Z h o160 "com/example/tinsel_tally/tinseltally/Figures" "floor" "J" (.long (0 : Int64)) ∧ Fld Z h o160 "com/example/tinsel_tally/tinseltally/Figures" "dDayFirst" "J" (.long (0 : Int64)) ∧ Fld Z h o160 "com/example/tinsel_tally/tinseltally/Figures" "dDayRise" "J" (.long (0 : Int64)) ∧ Fld Z h o160 "com/example/tinsel_tally/tinseltally/Figures" "perDessert" "J" (.long (0 : Int64)) ∧ Fld Z h o160 "com/example/tinsel_tally/tinseltally/Figures" "perMain" "J" (.long (0 : Int64)) ∧ Fld Z h o160 "com/example/tinsel_tally/tinseltally/Figures" "specialDiscount" "J" (.long (0 : Int64)) ∧ Fld Z h o160 "com/example/tinsel_tally/tinseltally/Figures" "giftThreshold" "J" (.long (0 : Int64)) ∧ Fld Z h o160 "com/example/tinsel_tally/tinseltally/Figures" "giftDish" "Ljava/lang/String;" (.ref t161) ∧ Fld Z h o160 "com/example/tinsel_tally/tinseltally/Figures" "starThreshold" "J" (.long star) ∧ Fld Z h o160 "com/example/tinsel_tally/tinseltally/Figures" "treeThreshold" "J" (.long tree) ∧ Fld Z h o160 "com/example/tinsel_tally/tinseltally/Figures" "santaThreshold" "J" (.long santa) ∧ Old Z n0 h) ∨ (∃ (o172 : Addr), v = some (.ref o172) ∧ (XT.cmpL t santa) < (0 : Int32) ∧ (XT.cmpL t tree) < (0 : Int32) ∧ ¬ (XT.cmpL t star) < (0 : Int32) ∧ Keep h0 h [o160] ∧ Exa Z h o160 "com/example/tinsel_tally/tinseltally/Figures" ∧ Fld Z h o160 "com/example/tinsel_tally/tinseltally/Figures" "floor" "J" (.long (0 : Int64)) ∧ Fld Z h o160 "com/example/tinsel_tally/tinseltally/Figures" "dDayFirst" "J" (.long (0 : Int64)) ∧ Fld Z h o160 "com/example/tinsel_tally/tinseltally/Figures" "dDayRise" "J" (.long (0 : Int64)) ∧ Fld Z h o160 "com/example/tinsel_tally/tinseltally/Figures" "perDessert" "J" (.long (0 : Int64)) ∧ Fld Z h o160 "com/example/tinsel_tally/tinseltally/Figures" "perMain" "J" (.long (0 : Int64)) ∧ Fld Z h o160 "com/example/tinsel_tally/tinseltally/Figures" "specialDiscount" "J" (.long (0 : Int64)) ∧ Fld Z h o160 "com/example/tinsel_tally/tinseltally/Figures" "giftThreshold" "J" (.long (0 : Int64)) ∧ Fld Z h o160 "com/example/tinsel_tally/tinseltally/Figures" "giftDish" "Ljava/lang/String;" (.ref t161) ∧ Fld Z h o160 "com/example/tinsel_tally/tinseltally/Figures" "starThreshold" "J" (.long star) ∧ Fld Z h o160 "com/example/tinsel_tally/tinseltally/Figures" "treeThreshold" "J" (.long tree) ∧ Fld Z h o160 "com/example/tinsel_tally/tinseltally/Figures" "santaThreshold" "J" (.long santa) ∧ Exa Z h o172 "java/util/Optional" ∧ Fld Z h o172 "java/util/Optional" "value" "Ljava/lang/Object;" (.ref aStar) ∧ Old Z n0 h ∧ o160 ≠ o172 ∧ h0.size ≤ o172 ∧ n0 ≤ o172) ∨ (∃ (o176 : Addr), v = some (.ref o176) ∧ (XT.cmpL t santa) < (0 : Int32) ∧ ¬ (XT.cmpL t tree) < (0 : Int32) ∧ Keep h0 h [o160] ∧ Exa Z h o160 "com/example/tinsel_tally/tinseltally/Figures" ∧ Fld Z h o160 "com/example/tinsel_tally/tinseltally/Figures" "floor" "J" (.long (0 : Int64)) ∧ Fld Z h o160 "com/example/tinsel_tally/tinseltally/Figures" "dDayFirst" "J" (.long (0 : Int64)) ∧ Fld Z h o160 "com/example/tinsel_tally/tinseltally/Figures" "dDayRise" "J" (.long (0 : Int64)) ∧ Fld Z h o160 "com/example/tinsel_tally/tinseltally/Figures" "perDessert" "J" (.long (0 : Int64)) ∧ Fld Z h o160 "com/example/tinsel_tally/tinseltally/Figures" "perMain" "J" (.long (0 : Int64)) ∧ Fld Z h o160 "com/example/tinsel_tally/tinseltally/Figures" "specialDiscount" "J" (.long (0 : Int64)) ∧ Fld Z h o160 "com/example/tinsel_tally/tinseltally/Figures" "giftThreshold" "J" (.long (0 : Int64)) ∧ Fld Z h o160 "com/example/tinsel_tally/tinseltally/Figures" "giftDish" "Ljava/lang/String;" (.ref t161) ∧ Fld Z h o160 "com/example/tinsel_tally/tinseltally/Figures" "starThreshold" "J" (.long star) ∧ Fld Z h o160 "com/example/tinsel_tally/tinseltally/Figures" "treeThreshold" "J" (.long tree) ∧ Fld Z h o160 "com/example/tinsel_tally/tinseltally/Figures" "santaThreshold" "J" (.long santa) ∧ Exa Z h o176 "java/util/Optional" ∧ Fld Z h o176 "java/util/Optional" "value" "Ljava/lang/Object;" (.ref aTree) ∧ Old Z n0 h ∧ o160 ≠ o176 ∧ h0.size ≤ o176 ∧ n0 ≤ o176) ∨ (∃ (o180 : Addr), v = some (.ref o180) ∧ ¬ (XT.cmpL t santa) < (0 : Int32) ∧ Keep h0 h [o160] ∧ Exa Z h o160 "com/example/tinsel_tally/tinseltally/Figures" ∧ Fld Z h o160 "com/example/tinsel_tally/tinseltally/Figures" "floor" "J" (.long (0 : Int64)) ∧ Fld Z h o160 "com/example/tinsel_tally/tinseltally/Figures" "dDayFirst" "J" (.long (0 : Int64)) ∧ Fld Z h o160 "com/example/tinsel_tally/tinseltally/Figures" "dDayRise" "J" (.long (0 : Int64)) ∧ Fld Z h o160 "com/example/tinsel_tally/tinseltally/Figures" "perDessert" "J" (.long (0 : Int64)) ∧ Fld Z h o160 "com/example/tinsel_tally/tinseltally/Figures" "perMain" "J" (.long (0 : Int64)) ∧ Fld Z h o160 "com/example/tinsel_tally/tinseltally/Figures" "specialDiscount" "J" (.long (0 : Int64)) ∧ Fld Z h o160 "com/example/tinsel_tally/tinseltally/Figures" "giftThreshold" "J" (.long (0 : Int64)) ∧ Fld Z h o160 "com/example/tinsel_tally/tinseltally/Figures" "giftDish" "Ljava/lang/String;" (.ref t161) ∧ Fld Z h o160 "com/example/tinsel_tally/tinseltally/Figures" "starThreshold" "J" (.long star) ∧ Fld Z h o160 "com/example/tinsel_tally/tinseltally/Figures" "treeThreshold" "J" (.long tree) ∧ Fld Z h o160 "com/example/tinsel_tally/tinseltally/Figures" "santaThreshold" "J" (.long santa) ∧ Exa Z h o180 "java/util/Optional" ∧ Fld Z h o180 "java/util/Optional" "value" "Ljava/lang/Object;" (.ref aSanta) ∧ Old Z n0 h ∧ o160 ≠ o180 ∧ h0.size ≤ o180 ∧ n0 ≤ o180)) := by
  refine Met.mk (tabs := tables_1) (a0 := a0) (ls0 := #[.val (.long t), .second, .val (.ref o160), .unset]) (plainFor_of_name pn_com_example_tinsel_tally_tinseltally_Badge) hw Z0 (fun m => by first | (simp [entryFrame, mkF, argsToLocals, Value.category]; done) | rfl) ?_
  intro p e s m below meth c T C X
  have Kp : Keep h0 h0 [o160] := Keep.refl _ _
  refine s_callS 3 [] [] 0 C X d3_0 (List.mem_of_getElem? (i := 45) rfl) (List.mem_of_getElem? (i := 46) rfl) (List.mem_of_getElem? (i := 47) rfl) (List.mem_of_getElem? (i := 48) rfl) (rm_a164 l Z a0 hw aSanta aTree aStar aE _ n0 X.sz Od S_E S_SANTA S_TREE S_STAR) (lenOf pd___Ljava_util_Optional_ rfl) rfl rfl rfl (fun T v hh X q => ?_)
  obtain ⟨rfl, Od, Kc⟩ := q
  have E_o160 := E_o160.keep Kc
  have F_o160_floor := F_o160_floor.keep Kc nin0
  have F_o160_dDayFirst := F_o160_dDayFirst.keep Kc nin0
  have F_o160_dDayRise := F_o160_dDayRise.keep Kc nin0
  have F_o160_perDessert := F_o160_perDessert.keep Kc nin0
  have F_o160_perMain := F_o160_perMain.keep Kc nin0
  have F_o160_specialDiscount := F_o160_specialDiscount.keep Kc nin0
  have F_o160_giftThreshold := F_o160_giftThreshold.keep Kc nin0
  have F_o160_giftDish := F_o160_giftDish.keep Kc nin0
  have F_o160_starThreshold := F_o160_starThreshold.keep Kc nin0
  have F_o160_treeThreshold := F_o160_treeThreshold.keep Kc nin0
  have F_o160_santaThreshold := F_o160_santaThreshold.keep Kc nin0
  have Kp := Kp.trans Kc all0
  refine Run.cast (st' := [(.ref aE)]) rfl ?_
  refine s_astoreN 4 C X (l' := #[.val (.long t), .second, .val (.ref o160), .val (.ref aE)]) d3_3 rfl rfl ?_
  refine s_lloadN 5 C X d3_4 rfl ?_
  refine s_aloadN 6 C X d3_5 rfl rfl ?_
  refine s_callV 9 [] [(.long t)] 2 C X d3_6 (List.mem_of_getElem? (i := 50) rfl) (List.mem_of_getElem? (i := 51) rfl) (notFace_of_selects (args := #[]) (mvT C.2.1 (C.w (List.mem_of_getElem? (i := 53) rfl)))) (List.mem_of_getElem? (i := 53) rfl) (List.mem_of_getElem? (i := 52) rfl) (List.mem_of_getElem? (i := 4) rfl) (List.mem_of_getElem? (i := 54) rfl) E_o160 (rm_a165 l Z a0 hw aSanta aTree aStar aE star tree santa o160 t161 _ n0 X.sz E_o160 F_o160_floor F_o160_dDayFirst F_o160_dDayRise F_o160_perDessert F_o160_perMain F_o160_specialDiscount F_o160_giftThreshold F_o160_giftDish F_o160_starThreshold F_o160_treeThreshold F_o160_santaThreshold Od S_E S_SANTA S_TREE S_STAR g_o160) (lenOf pd___J rfl) rfl rfl rfl (fun T v hh X q => ?_)
  obtain ⟨rfl, E_o160, F_o160_floor, F_o160_dDayFirst, F_o160_dDayRise, F_o160_perDessert, F_o160_perMain, F_o160_specialDiscount, F_o160_giftThreshold, F_o160_giftDish, F_o160_starThreshold, F_o160_treeThreshold, F_o160_santaThreshold, Od, Kc⟩ := q
  have Kp := Kp.trans Kc (allS (Or.inl (by simp)) all0)
  refine Run.cast (st' := [(.long santa), (.long t)]) rfl ?_
  refine s_lcmp 10 C X d3_9 ?_
  refine s_if_lt 23 13 C X d3_10 (fun c10_166 => ?_) (fun c10_166 => ?_)
  · have t_c10_166 : (t).toInt < (santa).toInt := cl_lt.mp c10_166
    refine s_lloadN 24 C X d3_23 rfl ?_
    refine s_aloadN 25 C X d3_24 rfl rfl ?_
    refine s_callV 28 [] [(.long t)] 2 C X d3_25 (List.mem_of_getElem? (i := 81) rfl) (List.mem_of_getElem? (i := 82) rfl) (notFace_of_selects (args := #[]) (mvT C.2.1 (C.w (List.mem_of_getElem? (i := 84) rfl)))) (List.mem_of_getElem? (i := 84) rfl) (List.mem_of_getElem? (i := 83) rfl) (List.mem_of_getElem? (i := 4) rfl) (List.mem_of_getElem? (i := 85) rfl) E_o160 (rm_a167 l Z a0 hw aSanta aTree aStar aE star tree santa o160 t161 _ n0 X.sz E_o160 F_o160_floor F_o160_dDayFirst F_o160_dDayRise F_o160_perDessert F_o160_perMain F_o160_specialDiscount F_o160_giftThreshold F_o160_giftDish F_o160_starThreshold F_o160_treeThreshold F_o160_santaThreshold Od S_E S_SANTA S_TREE S_STAR g_o160) (lenOf pd___J rfl) rfl rfl rfl (fun T v hh X q => ?_)
    obtain ⟨rfl, E_o160, F_o160_floor, F_o160_dDayFirst, F_o160_dDayRise, F_o160_perDessert, F_o160_perMain, F_o160_specialDiscount, F_o160_giftThreshold, F_o160_giftDish, F_o160_starThreshold, F_o160_treeThreshold, F_o160_santaThreshold, Od, Kc⟩ := q
    have Kp := Kp.trans Kc (allS (Or.inl (by simp)) all0)
    refine Run.cast (st' := [(.long tree), (.long t)]) rfl ?_
    refine s_lcmp 29 C X d3_28 ?_
    refine s_if_lt 42 32 C X d3_29 (fun c29_168 => ?_) (fun c29_168 => ?_)
    · have t_c29_168 : (t).toInt < (tree).toInt := cl_lt.mp c29_168
      refine s_lloadN 43 C X d3_42 rfl ?_
      refine s_aloadN 44 C X d3_43 rfl rfl ?_
      refine s_callV 47 [] [(.long t)] 2 C X d3_44 (List.mem_of_getElem? (i := 89) rfl) (List.mem_of_getElem? (i := 90) rfl) (notFace_of_selects (args := #[]) (mvT C.2.1 (C.w (List.mem_of_getElem? (i := 92) rfl)))) (List.mem_of_getElem? (i := 92) rfl) (List.mem_of_getElem? (i := 91) rfl) (List.mem_of_getElem? (i := 4) rfl) (List.mem_of_getElem? (i := 93) rfl) E_o160 (rm_a169 l Z a0 hw aSanta aTree aStar aE star tree santa o160 t161 _ n0 X.sz E_o160 F_o160_floor F_o160_dDayFirst F_o160_dDayRise F_o160_perDessert F_o160_perMain F_o160_specialDiscount F_o160_giftThreshold F_o160_giftDish F_o160_starThreshold F_o160_treeThreshold F_o160_santaThreshold Od S_E S_SANTA S_TREE S_STAR g_o160) (lenOf pd___J rfl) rfl rfl rfl (fun T v hh X q => ?_)
      obtain ⟨rfl, E_o160, F_o160_floor, F_o160_dDayFirst, F_o160_dDayRise, F_o160_perDessert, F_o160_perMain, F_o160_specialDiscount, F_o160_giftThreshold, F_o160_giftDish, F_o160_starThreshold, F_o160_treeThreshold, F_o160_santaThreshold, Od, Kc⟩ := q
      have Kp := Kp.trans Kc (allS (Or.inl (by simp)) all0)
      refine Run.cast (st' := [(.long star), (.long t)]) rfl ?_
      refine s_lcmp 48 C X d3_47 ?_
      refine s_if_lt 58 51 C X d3_48 (fun c48_170 => ?_) (fun c48_170 => ?_)
      · have t_c48_170 : (t).toInt < (star).toInt := cl_lt.mp c48_170
        refine s_aloadN 59 C X d3_58 rfl rfl ?_
        refine s_areturn C X d3_59 rfl rfl rfl ?_
        exact (Or.inl ⟨rfl, c10_166, c29_168, c48_170, Kp, E_o160, F_o160_floor, F_o160_dDayFirst, F_o160_dDayRise, F_o160_perDessert, F_o160_perMain, F_o160_specialDiscount, F_o160_giftThreshold, F_o160_giftDish, F_o160_starThreshold, F_o160_treeThreshold, F_o160_santaThreshold, Od⟩)
      have t_c48_170 : ¬ ((t).toInt < (star).toInt) := fun q => c48_170 (cl_lt.mpr q)
      refine s_getstatic 54 C X (host := "") d3_51 (Or.inl (List.mem_of_getElem? (i := 94) rfl)) Via.refl (S_STAR.ext Od.2) (fun T X => ?_)
      refine s_callS 57 [(.ref aStar)] [] 0 C X d3_54 (List.mem_of_getElem? (i := 57) rfl) (List.mem_of_getElem? (i := 58) rfl) (List.mem_of_getElem? (i := 47) rfl) (List.mem_of_getElem? (i := 59) rfl) (rm_a171 l Z a0 hw aSanta aTree aStar aE _ n0 X.sz Od S_E S_SANTA S_TREE S_STAR) (lenOf pd__Ljava_lang_Object__Ljava_util_Optional_ rfl) rfl rfl rfl (fun T v hh X q => ?_)
      obtain ⟨o172, rfl, Kc, E_o172, F_o172_value, Od, sz_o172', g_o172⟩ := q
      have ne_o160_o172 : o160 ≠ o172 := Nat.ne_of_lt (Nat.lt_of_lt_of_le E_o160.lt sz_o172')
      have sz_o172 : h0.size ≤ o172 := Nat.le_trans Kp.1 sz_o172'
      have Kp := Kp.trans Kc all0
      have E_o160 := E_o160.keep Kc
      have F_o160_floor := F_o160_floor.keep Kc nin0
      have F_o160_dDayFirst := F_o160_dDayFirst.keep Kc nin0
      have F_o160_dDayRise := F_o160_dDayRise.keep Kc nin0
      have F_o160_perDessert := F_o160_perDessert.keep Kc nin0
      have F_o160_perMain := F_o160_perMain.keep Kc nin0
      have F_o160_specialDiscount := F_o160_specialDiscount.keep Kc nin0
      have F_o160_giftThreshold := F_o160_giftThreshold.keep Kc nin0
      have F_o160_giftDish := F_o160_giftDish.keep Kc nin0
      have F_o160_starThreshold := F_o160_starThreshold.keep Kc nin0
      have F_o160_treeThreshold := F_o160_treeThreshold.keep Kc nin0
      have F_o160_santaThreshold := F_o160_santaThreshold.keep Kc nin0
      refine Run.cast (st' := [(.ref o172)]) rfl ?_
      refine s_astoreN 58 C X (l' := #[.val (.long t), .second, .val (.ref o160), .val (.ref o172)]) d3_57 rfl rfl ?_
      refine s_aloadN 59 C X d3_58 rfl rfl ?_
      refine s_areturn C X d3_59 rfl rfl rfl ?_
      exact (Or.inr (Or.inl ⟨o172, rfl, c10_166, c29_168, c48_170, Kp, E_o160, F_o160_floor, F_o160_dDayFirst, F_o160_dDayRise, F_o160_perDessert, F_o160_perMain, F_o160_specialDiscount, F_o160_giftThreshold, F_o160_giftDish, F_o160_starThreshold, F_o160_treeThreshold, F_o160_santaThreshold, E_o172, F_o172_value, Od, ne_o160_o172, sz_o172, g_o172⟩))
    have t_c29_168 : ¬ ((t).toInt < (tree).toInt) := fun q => c29_168 (cl_lt.mpr q)
    refine s_getstatic 35 C X (host := "") d3_32 (Or.inl (List.mem_of_getElem? (i := 86) rfl)) Via.refl (S_TREE.ext Od.2) (fun T X => ?_)
    refine s_callS 38 [(.ref aTree)] [] 0 C X d3_35 (List.mem_of_getElem? (i := 57) rfl) (List.mem_of_getElem? (i := 58) rfl) (List.mem_of_getElem? (i := 47) rfl) (List.mem_of_getElem? (i := 59) rfl) (rm_a175 l Z a0 hw aSanta aTree aStar aE _ n0 X.sz Od S_E S_SANTA S_TREE S_STAR) (lenOf pd__Ljava_lang_Object__Ljava_util_Optional_ rfl) rfl rfl rfl (fun T v hh X q => ?_)
    obtain ⟨o176, rfl, Kc, E_o176, F_o176_value, Od, sz_o176', g_o176⟩ := q
    have ne_o160_o176 : o160 ≠ o176 := Nat.ne_of_lt (Nat.lt_of_lt_of_le E_o160.lt sz_o176')
    have sz_o176 : h0.size ≤ o176 := Nat.le_trans Kp.1 sz_o176'
    have Kp := Kp.trans Kc all0
    have E_o160 := E_o160.keep Kc
    have F_o160_floor := F_o160_floor.keep Kc nin0
    have F_o160_dDayFirst := F_o160_dDayFirst.keep Kc nin0
    have F_o160_dDayRise := F_o160_dDayRise.keep Kc nin0
    have F_o160_perDessert := F_o160_perDessert.keep Kc nin0
    have F_o160_perMain := F_o160_perMain.keep Kc nin0
    have F_o160_specialDiscount := F_o160_specialDiscount.keep Kc nin0
    have F_o160_giftThreshold := F_o160_giftThreshold.keep Kc nin0
    have F_o160_giftDish := F_o160_giftDish.keep Kc nin0
    have F_o160_starThreshold := F_o160_starThreshold.keep Kc nin0
    have F_o160_treeThreshold := F_o160_treeThreshold.keep Kc nin0
    have F_o160_santaThreshold := F_o160_santaThreshold.keep Kc nin0
    refine Run.cast (st' := [(.ref o176)]) rfl ?_
    refine s_astoreN 39 C X (l' := #[.val (.long t), .second, .val (.ref o160), .val (.ref o176)]) d3_38 rfl rfl ?_
    refine s_goto 58 C X d3_39 ?_
    refine s_aloadN 59 C X d3_58 rfl rfl ?_
    refine s_areturn C X d3_59 rfl rfl rfl ?_
    exact (Or.inr (Or.inr (Or.inl ⟨o176, rfl, c10_166, c29_168, Kp, E_o160, F_o160_floor, F_o160_dDayFirst, F_o160_dDayRise, F_o160_perDessert, F_o160_perMain, F_o160_specialDiscount, F_o160_giftThreshold, F_o160_giftDish, F_o160_starThreshold, F_o160_treeThreshold, F_o160_santaThreshold, E_o176, F_o176_value, Od, ne_o160_o176, sz_o176, g_o176⟩)))
  have t_c10_166 : ¬ ((t).toInt < (santa).toInt) := fun q => c10_166 (cl_lt.mpr q)
  refine s_getstatic 16 C X (host := "") d3_13 (Or.inl (List.mem_of_getElem? (i := 55) rfl)) Via.refl (S_SANTA.ext Od.2) (fun T X => ?_)
  refine s_callS 19 [(.ref aSanta)] [] 0 C X d3_16 (List.mem_of_getElem? (i := 57) rfl) (List.mem_of_getElem? (i := 58) rfl) (List.mem_of_getElem? (i := 47) rfl) (List.mem_of_getElem? (i := 59) rfl) (rm_a179 l Z a0 hw aSanta aTree aStar aE _ n0 X.sz Od S_E S_SANTA S_TREE S_STAR) (lenOf pd__Ljava_lang_Object__Ljava_util_Optional_ rfl) rfl rfl rfl (fun T v hh X q => ?_)
  obtain ⟨o180, rfl, Kc, E_o180, F_o180_value, Od, sz_o180', g_o180⟩ := q
  have ne_o160_o180 : o160 ≠ o180 := Nat.ne_of_lt (Nat.lt_of_lt_of_le E_o160.lt sz_o180')
  have sz_o180 : h0.size ≤ o180 := Nat.le_trans Kp.1 sz_o180'
  have Kp := Kp.trans Kc all0
  have E_o160 := E_o160.keep Kc
  have F_o160_floor := F_o160_floor.keep Kc nin0
  have F_o160_dDayFirst := F_o160_dDayFirst.keep Kc nin0
  have F_o160_dDayRise := F_o160_dDayRise.keep Kc nin0
  have F_o160_perDessert := F_o160_perDessert.keep Kc nin0
  have F_o160_perMain := F_o160_perMain.keep Kc nin0
  have F_o160_specialDiscount := F_o160_specialDiscount.keep Kc nin0
  have F_o160_giftThreshold := F_o160_giftThreshold.keep Kc nin0
  have F_o160_giftDish := F_o160_giftDish.keep Kc nin0
  have F_o160_starThreshold := F_o160_starThreshold.keep Kc nin0
  have F_o160_treeThreshold := F_o160_treeThreshold.keep Kc nin0
  have F_o160_santaThreshold := F_o160_santaThreshold.keep Kc nin0
  refine Run.cast (st' := [(.ref o180)]) rfl ?_
  refine s_astoreN 20 C X (l' := #[.val (.long t), .second, .val (.ref o160), .val (.ref o180)]) d3_19 rfl rfl ?_
  refine s_goto 58 C X d3_20 ?_
  refine s_aloadN 59 C X d3_58 rfl rfl ?_
  refine s_areturn C X d3_59 rfl rfl rfl ?_
  exact (Or.inr (Or.inr (Or.inr ⟨o180, rfl, c10_166, Kp, E_o160, F_o160_floor, F_o160_dDayFirst, F_o160_dDayRise, F_o160_perDessert, F_o160_perMain, F_o160_specialDiscount, F_o160_giftThreshold, F_o160_giftDish, F_o160_starThreshold, F_o160_treeThreshold, F_o160_santaThreshold, E_o180, F_o180_value, Od, ne_o160_o180, sz_o180, g_o180⟩)))
set_option maxRecDepth 65536 in
set_option maxHeartbeats 40000000 in
theorem rm_a183 (l : Launch) (Z : State) (a0 : Array Value) (hw : ∀ d ∈ tables_1, d.before a0 Z = true) (aSanta : Addr) (aTree : Addr) (aStar : Addr) (aE : Addr) (h0 : Heap) (n0 : Nat) (Z0 : n0 ≤ h0.size) (E_aE : Exa Z h0 aE "java/util/Optional") (F_aE_value : Fld Z h0 aE "java/util/Optional" "value" "Ljava/lang/Object;" .null) (Od : Old Z n0 h0) (S_E : Sta Z Z.heap "java/util/Optional" "EMPTY" "Ljava/util/Optional;" (.ref aE)) (S_SANTA : Sta Z Z.heap "com/example/tinsel_tally/tinseltally/Badge" "SANTA" "Lcom/example/tinsel_tally/tinseltally/Badge;" (.ref aSanta)) (S_TREE : Sta Z Z.heap "com/example/tinsel_tally/tinseltally/Badge" "TREE" "Lcom/example/tinsel_tally/tinseltally/Badge;" (.ref aTree)) (S_STAR : Sta Z Z.heap "com/example/tinsel_tally/tinseltally/Badge" "STAR" "Lcom/example/tinsel_tally/tinseltally/Badge;" (.ref aStar)) :
    Met l Z (⟨"java/util/Optional", "orElse", "(Ljava/lang/Object;)Ljava/lang/Object;"⟩ : MethodName) jdk_32_method_15_code 2 (some (.object "java/lang/Object")) { frames := 0, cells := 0, slots := 0, locals := 0 } [] #[(.ref aE), .null] h0 n0 (fun v h => v = some .null ∧ Exa Z h aE "java/util/Optional" ∧ Fld Z h aE "java/util/Optional" "value" "Ljava/lang/Object;" .null ∧ Old Z n0 h ∧ Keep h0 h [aE]) := by
  refine Met.mk (tabs := tables_1) (a0 := a0) (ls0 := #[.val (.ref aE), .val .null]) (plainFor_of_name pn_java_util_Optional) hw Z0 (fun m => by first | (simp [entryFrame, mkF, argsToLocals, Value.category]; done) | rfl) ?_
  intro p e s m below meth c T C X
  have Kp : Keep h0 h0 [aE] := Keep.refl _ _
  refine s_aloadN 1 C X d9_0 rfl rfl ?_
  refine s_getfield 4 C X (host := "") d9_1 (Or.inl (List.mem_of_getElem? (i := 71) rfl)) Via.refl F_aE_value (fun T X => ?_)
  refine s_ifnullY 14 C X d9_4 ?_
  refine s_aloadN 15 C X d9_14 rfl rfl ?_
  refine s_areturn C X d9_15 rfl rfl rfl ?_
  exact ⟨rfl, E_aE, F_aE_value, Od, Kp⟩
set_option maxRecDepth 65536 in
set_option maxHeartbeats 40000000 in
theorem rm_a189 (l : Launch) (Z : State) (a0 : Array Value) (hw : ∀ d ∈ tables_1, d.before a0 Z = true) (aSanta : Addr) (aTree : Addr) (aStar : Addr) (aE : Addr) (o172 : Addr) (h0 : Heap) (n0 : Nat) (Z0 : n0 ≤ h0.size) (E_aStar : Exa Z h0 aStar "com/example/tinsel_tally/tinseltally/Badge") (E_o172 : Exa Z h0 o172 "java/util/Optional") (F_o172_value : Fld Z h0 o172 "java/util/Optional" "value" "Ljava/lang/Object;" (.ref aStar)) (Od : Old Z n0 h0) (S_E : Sta Z Z.heap "java/util/Optional" "EMPTY" "Ljava/util/Optional;" (.ref aE)) (S_SANTA : Sta Z Z.heap "com/example/tinsel_tally/tinseltally/Badge" "SANTA" "Lcom/example/tinsel_tally/tinseltally/Badge;" (.ref aSanta)) (S_TREE : Sta Z Z.heap "com/example/tinsel_tally/tinseltally/Badge" "TREE" "Lcom/example/tinsel_tally/tinseltally/Badge;" (.ref aTree)) (S_STAR : Sta Z Z.heap "com/example/tinsel_tally/tinseltally/Badge" "STAR" "Lcom/example/tinsel_tally/tinseltally/Badge;" (.ref aStar)) (ne_aStar_o172 : aStar ≠ o172) (g_o172 : n0 ≤ o172) :
    Met l Z (⟨"java/util/Optional", "orElse", "(Ljava/lang/Object;)Ljava/lang/Object;"⟩ : MethodName) jdk_32_method_15_code 2 (some (.object "java/lang/Object")) { frames := 0, cells := 0, slots := 0, locals := 0 } [] #[(.ref o172), .null] h0 n0 (fun v h => v = some (.ref aStar) ∧ Exa Z h aStar "com/example/tinsel_tally/tinseltally/Badge" ∧ Exa Z h o172 "java/util/Optional" ∧ Fld Z h o172 "java/util/Optional" "value" "Ljava/lang/Object;" (.ref aStar) ∧ Old Z n0 h ∧ Keep h0 h [o172, aStar]) := by
  refine Met.mk (tabs := tables_1) (a0 := a0) (ls0 := #[.val (.ref o172), .val .null]) (plainFor_of_name pn_java_util_Optional) hw Z0 (fun m => by first | (simp [entryFrame, mkF, argsToLocals, Value.category]; done) | rfl) ?_
  intro p e s m below meth c T C X
  have Kp : Keep h0 h0 [o172, aStar] := Keep.refl _ _
  refine s_aloadN 1 C X d9_0 rfl rfl ?_
  refine s_getfield 4 C X (host := "") d9_1 (Or.inl (List.mem_of_getElem? (i := 71) rfl)) Via.refl F_o172_value (fun T X => ?_)
  refine s_ifnullN 7 C X d9_4 ?_
  refine s_aloadN 8 C X d9_7 rfl rfl ?_
  refine s_getfield 11 C X (host := "") d9_8 (Or.inl (List.mem_of_getElem? (i := 71) rfl)) Via.refl F_o172_value (fun T X => ?_)
  refine s_goto 15 C X d9_11 ?_
  refine s_areturn C X d9_15 rfl rfl rfl ?_
  exact ⟨rfl, E_aStar, E_o172, F_o172_value, Od, Kp⟩
set_option maxRecDepth 65536 in
set_option maxHeartbeats 40000000 in
theorem rm_a196 (l : Launch) (Z : State) (a0 : Array Value) (hw : ∀ d ∈ tables_1, d.before a0 Z = true) (aSanta : Addr) (aTree : Addr) (aStar : Addr) (aE : Addr) (o176 : Addr) (h0 : Heap) (n0 : Nat) (Z0 : n0 ≤ h0.size) (E_aTree : Exa Z h0 aTree "com/example/tinsel_tally/tinseltally/Badge") (E_o176 : Exa Z h0 o176 "java/util/Optional") (F_o176_value : Fld Z h0 o176 "java/util/Optional" "value" "Ljava/lang/Object;" (.ref aTree)) (Od : Old Z n0 h0) (S_E : Sta Z Z.heap "java/util/Optional" "EMPTY" "Ljava/util/Optional;" (.ref aE)) (S_SANTA : Sta Z Z.heap "com/example/tinsel_tally/tinseltally/Badge" "SANTA" "Lcom/example/tinsel_tally/tinseltally/Badge;" (.ref aSanta)) (S_TREE : Sta Z Z.heap "com/example/tinsel_tally/tinseltally/Badge" "TREE" "Lcom/example/tinsel_tally/tinseltally/Badge;" (.ref aTree)) (S_STAR : Sta Z Z.heap "com/example/tinsel_tally/tinseltally/Badge" "STAR" "Lcom/example/tinsel_tally/tinseltally/Badge;" (.ref aStar)) (ne_aTree_o176 : aTree ≠ o176) (g_o176 : n0 ≤ o176) :
    Met l Z (⟨"java/util/Optional", "orElse", "(Ljava/lang/Object;)Ljava/lang/Object;"⟩ : MethodName) jdk_32_method_15_code 2 (some (.object "java/lang/Object")) { frames := 0, cells := 0, slots := 0, locals := 0 } [] #[(.ref o176), .null] h0 n0 (fun v h => v = some (.ref aTree) ∧ Exa Z h aTree "com/example/tinsel_tally/tinseltally/Badge" ∧ Exa Z h o176 "java/util/Optional" ∧ Fld Z h o176 "java/util/Optional" "value" "Ljava/lang/Object;" (.ref aTree) ∧ Old Z n0 h ∧ Keep h0 h [o176, aTree]) := by
  refine Met.mk (tabs := tables_1) (a0 := a0) (ls0 := #[.val (.ref o176), .val .null]) (plainFor_of_name pn_java_util_Optional) hw Z0 (fun m => by first | (simp [entryFrame, mkF, argsToLocals, Value.category]; done) | rfl) ?_
  intro p e s m below meth c T C X
  have Kp : Keep h0 h0 [o176, aTree] := Keep.refl _ _
  refine s_aloadN 1 C X d9_0 rfl rfl ?_
  refine s_getfield 4 C X (host := "") d9_1 (Or.inl (List.mem_of_getElem? (i := 71) rfl)) Via.refl F_o176_value (fun T X => ?_)
  refine s_ifnullN 7 C X d9_4 ?_
  refine s_aloadN 8 C X d9_7 rfl rfl ?_
  refine s_getfield 11 C X (host := "") d9_8 (Or.inl (List.mem_of_getElem? (i := 71) rfl)) Via.refl F_o176_value (fun T X => ?_)
  refine s_goto 15 C X d9_11 ?_
  refine s_areturn C X d9_15 rfl rfl rfl ?_
  exact ⟨rfl, E_aTree, E_o176, F_o176_value, Od, Kp⟩
set_option maxRecDepth 65536 in
set_option maxHeartbeats 40000000 in
theorem rm_a204 (l : Launch) (Z : State) (a0 : Array Value) (hw : ∀ d ∈ tables_1, d.before a0 Z = true) (aSanta : Addr) (aTree : Addr) (aStar : Addr) (aE : Addr) (o180 : Addr) (h0 : Heap) (n0 : Nat) (Z0 : n0 ≤ h0.size) (E_aSanta : Exa Z h0 aSanta "com/example/tinsel_tally/tinseltally/Badge") (E_o180 : Exa Z h0 o180 "java/util/Optional") (F_o180_value : Fld Z h0 o180 "java/util/Optional" "value" "Ljava/lang/Object;" (.ref aSanta)) (Od : Old Z n0 h0) (S_E : Sta Z Z.heap "java/util/Optional" "EMPTY" "Ljava/util/Optional;" (.ref aE)) (S_SANTA : Sta Z Z.heap "com/example/tinsel_tally/tinseltally/Badge" "SANTA" "Lcom/example/tinsel_tally/tinseltally/Badge;" (.ref aSanta)) (S_TREE : Sta Z Z.heap "com/example/tinsel_tally/tinseltally/Badge" "TREE" "Lcom/example/tinsel_tally/tinseltally/Badge;" (.ref aTree)) (S_STAR : Sta Z Z.heap "com/example/tinsel_tally/tinseltally/Badge" "STAR" "Lcom/example/tinsel_tally/tinseltally/Badge;" (.ref aStar)) (ne_aSanta_o180 : aSanta ≠ o180) (g_o180 : n0 ≤ o180) :
    Met l Z (⟨"java/util/Optional", "orElse", "(Ljava/lang/Object;)Ljava/lang/Object;"⟩ : MethodName) jdk_32_method_15_code 2 (some (.object "java/lang/Object")) { frames := 0, cells := 0, slots := 0, locals := 0 } [] #[(.ref o180), .null] h0 n0 (fun v h => v = some (.ref aSanta) ∧ Exa Z h aSanta "com/example/tinsel_tally/tinseltally/Badge" ∧ Exa Z h o180 "java/util/Optional" ∧ Fld Z h o180 "java/util/Optional" "value" "Ljava/lang/Object;" (.ref aSanta) ∧ Old Z n0 h ∧ Keep h0 h [o180, aSanta]) := by
  refine Met.mk (tabs := tables_1) (a0 := a0) (ls0 := #[.val (.ref o180), .val .null]) (plainFor_of_name pn_java_util_Optional) hw Z0 (fun m => by first | (simp [entryFrame, mkF, argsToLocals, Value.category]; done) | rfl) ?_
  intro p e s m below meth c T C X
  have Kp : Keep h0 h0 [o180, aSanta] := Keep.refl _ _
  refine s_aloadN 1 C X d9_0 rfl rfl ?_
  refine s_getfield 4 C X (host := "") d9_1 (Or.inl (List.mem_of_getElem? (i := 71) rfl)) Via.refl F_o180_value (fun T X => ?_)
  refine s_ifnullN 7 C X d9_4 ?_
  refine s_aloadN 8 C X d9_7 rfl rfl ?_
  refine s_getfield 11 C X (host := "") d9_8 (Or.inl (List.mem_of_getElem? (i := 71) rfl)) Via.refl F_o180_value (fun T X => ?_)
  refine s_goto 15 C X d9_11 ?_
  refine s_areturn C X d9_15 rfl rfl rfl ?_
  exact ⟨rfl, E_aSanta, E_o180, F_o180_value, Od, Kp⟩
set_option maxRecDepth 65536 in
set_option maxHeartbeats 40000000 in
theorem rm0 (l : Launch) (Z : State) (a0 : Array Value) (hw : ∀ d ∈ tables_1, d.before a0 Z = true) (x0 : Int64) (x1 : Int32) (x2 x3 x4 : Int64) (aE aSanta aTree aStar : Addr) (h0 : Heap) (n0 : Nat) (Z0 : n0 ≤ h0.size) (Od : Old Z n0 h0) (S_E : Sta Z Z.heap "java/util/Optional" "EMPTY" "Ljava/util/Optional;" (.ref aE)) (E_aE : Exa Z h0 aE "java/util/Optional") (F_aE_value : Fld Z h0 aE "java/util/Optional" "value" "Ljava/lang/Object;" .null) (S_SANTA : Sta Z Z.heap "com/example/tinsel_tally/tinseltally/Badge" "SANTA" "Lcom/example/tinsel_tally/tinseltally/Badge;" (.ref aSanta)) (E_aSanta : Exa Z h0 aSanta "com/example/tinsel_tally/tinseltally/Badge") (S_TREE : Sta Z Z.heap "com/example/tinsel_tally/tinseltally/Badge" "TREE" "Lcom/example/tinsel_tally/tinseltally/Badge;" (.ref aTree)) (E_aTree : Exa Z h0 aTree "com/example/tinsel_tally/tinseltally/Badge") (S_STAR : Sta Z Z.heap "com/example/tinsel_tally/tinseltally/Badge" "STAR" "Lcom/example/tinsel_tally/tinseltally/Badge;" (.ref aStar)) (E_aStar : Exa Z h0 aStar "com/example/tinsel_tally/tinseltally/Badge") :
    MetW l Z x code maxLocals ret room_1 tables_1 #[(.long x0), (.int x1), (.long x2), (.long x3), (.long x4)] h0 n0 (fun v h => v = some (.int 1)) := by
  refine MetW.mk (tabs := tables_1) (a0 := a0) (ls0 := #[.val (.long x0), .second, .val (.int x1), .val (.long x2), .second, .val (.long x3), .second, .val (.long x4), .second, .unset, .unset, .unset, .unset, .unset, .unset, .unset, .unset, .unset, .unset, .unset, .unset, .unset, .unset]) (plainFor_of_name pn_com_example_tinsel_tally_tinseltally_BadgeForTotalBenefitPinLaw) hw Z0 (fun m => by first | (simp [entryFrame, mkF, argsToLocals, Value.category, maxLocals]; done) | rfl) ?_
  intro p e s m below meth c T C X
  have ne_aE_aSanta : aE ≠ aSanta := ne_exa E_aE E_aSanta (by decide)
  have ne_aE_aTree : aE ≠ aTree := ne_exa E_aE E_aTree (by decide)
  have ne_aE_aStar : aE ≠ aStar := ne_exa E_aE E_aStar (by decide)
  refine s_lconst 1 C X (z := (1 : Int64)) at_0 rfl ?_
  refine s_lloadN 2 C X at_1 rfl ?_
  refine s_ldc2Long 5 C X at_2 (List.mem_of_getElem? (i := 0) rfl) ?_
  refine s_land 6 C X at_5 ?_
  refine s_ladd 7 C X at_6 ?_
  obtain ⟨star, e_star⟩ : ∃ zz_ : Int64, zz_ = ((1 : Int64) + (x2 &&& (2305843009213693951 : Int64))) := ⟨_, rfl⟩
  refine Run.cast (st' := [(.long star)]) (by subst e_star; rfl) ?_
  have r_star := own_star e_star
  refine s_lstore 9 C X (l' := #[.val (.long x0), .second, .val (.int x1), .val (.long x2), .second, .val (.long x3), .second, .val (.long x4), .second, .val (.long star), .second, .unset, .unset, .unset, .unset, .unset, .unset, .unset, .unset, .unset, .unset, .unset, .unset]) at_7 rfl ?_
  refine s_lload 11 C X at_9 rfl ?_
  refine s_lconst 12 C X (z := (1 : Int64)) at_11 rfl ?_
  refine s_ladd 13 C X at_12 ?_
  refine s_lload 15 C X at_13 rfl ?_
  refine s_ldc2Long 18 C X at_15 (List.mem_of_getElem? (i := 0) rfl) ?_
  refine s_land 19 C X at_18 ?_
  refine s_ladd 20 C X at_19 ?_
  obtain ⟨tree, e_tree⟩ : ∃ zz_ : Int64, zz_ = ((star + (1 : Int64)) + (x3 &&& (2305843009213693951 : Int64))) := ⟨_, rfl⟩
  refine Run.cast (st' := [(.long tree)]) (by subst e_tree; rfl) ?_
  have r_tree := own_next e_tree r_star (by omega)
  refine s_lstore 22 C X (l' := #[.val (.long x0), .second, .val (.int x1), .val (.long x2), .second, .val (.long x3), .second, .val (.long x4), .second, .val (.long star), .second, .val (.long tree), .second, .unset, .unset, .unset, .unset, .unset, .unset, .unset, .unset, .unset, .unset]) at_20 rfl ?_
  refine s_lload 24 C X at_22 rfl ?_
  refine s_lconst 25 C X (z := (1 : Int64)) at_24 rfl ?_
  refine s_ladd 26 C X at_25 ?_
  refine s_lload 28 C X at_26 rfl ?_
  refine s_ldc2Long 31 C X at_28 (List.mem_of_getElem? (i := 0) rfl) ?_
  refine s_land 32 C X at_31 ?_
  refine s_ladd 33 C X at_32 ?_
  obtain ⟨santa, e_santa⟩ : ∃ zz_ : Int64, zz_ = ((tree + (1 : Int64)) + (x4 &&& (2305843009213693951 : Int64))) := ⟨_, rfl⟩
  refine Run.cast (st' := [(.long santa)]) (by subst e_santa; rfl) ?_
  have r_santa := own_next e_santa (B := 4611686018427387904) (by omega) (by omega)
  refine s_lstore 35 C X (l' := #[.val (.long x0), .second, .val (.int x1), .val (.long x2), .second, .val (.long x3), .second, .val (.long x4), .second, .val (.long star), .second, .val (.long tree), .second, .val (.long santa), .second, .unset, .unset, .unset, .unset, .unset, .unset, .unset, .unset]) at_33 rfl ?_
  refine s_iloadN 36 C X at_35 rfl ?_
  refine s_iconst 37 C X at_36 kc_iconst_3 ?_
  refine s_iand 38 C X at_37 ?_
  refine s_istore 40 C X (l' := #[.val (.long x0), .second, .val (.int x1), .val (.long x2), .second, .val (.long x3), .second, .val (.long x4), .second, .val (.long star), .second, .val (.long tree), .second, .val (.long santa), .second, .val (.int (x1 &&& (3 : Int32))), .unset, .unset, .unset, .unset, .unset, .unset, .unset]) at_38 rfl ?_
  refine s_iload 42 C X at_40 rfl ?_
  refine s_iconst 43 C X at_42 kc_iconst_3 ?_
  refine s_icmp_ne 52 46 C X at_43 (fun c43_1 => ?_) (fun c43_1 => ?_)
  · have t_c43_1 : ¬ (((x1 &&& (3 : Int32))).toInt = (3 : Int)) := fun q => c43_1 (Int32.toInt_inj.mp q)
    refine s_iload 54 C X at_52 rfl ?_
    refine s_if_ne 62 57 C X at_54 (fun c54_2 => ?_) (fun c54_2 => ?_)
    · have t_c54_2 : ¬ (((x1 &&& (3 : Int32))).toInt = (0 : Int)) := fun q => c54_2 (Int32.toInt_inj.mp q)
      refine s_iload 64 C X at_62 rfl ?_
      refine s_iconst 65 C X at_64 kc_iconst_1 ?_
      refine s_icmp_ne 73 68 C X at_65 (fun c65_3 => ?_) (fun c65_3 => ?_)
      · have t_c65_3 : ¬ (((x1 &&& (3 : Int32))).toInt = (1 : Int)) := fun q => c65_3 (Int32.toInt_inj.mp q)
        refine s_lload 75 C X at_73 rfl ?_
        refine s_lstore 77 C X (l' := #[.val (.long x0), .second, .val (.int x1), .val (.long x2), .second, .val (.long x3), .second, .val (.long x4), .second, .val (.long star), .second, .val (.long tree), .second, .val (.long santa), .second, .val (.int (x1 &&& (3 : Int32))), .unset, .unset, .val (.long santa), .second, .unset, .unset, .unset]) at_75 rfl ?_
        refine s_lload 79 C X at_77 rfl ?_
        refine s_lloadN 80 C X at_79 rfl ?_
        refine s_ldc2Long 83 C X at_80 (List.mem_of_getElem? (i := 1) rfl) ?_
        refine s_lrem 84 C X at_83 (by decide) ?_
        refine s_ladd 85 C X at_84 ?_
        obtain ⟨t, e_t⟩ : ∃ zz_ : Int64, zz_ = (santa + (x0 - (x0 / (4 : Int64)) * (4 : Int64))) := ⟨_, rfl⟩
        refine Run.cast (st' := [(.long t)]) (by subst e_t; rfl) ?_
        refine s_lstore 87 C X (l' := #[.val (.long x0), .second, .val (.int x1), .val (.long x2), .second, .val (.long x3), .second, .val (.long x4), .second, .val (.long star), .second, .val (.long tree), .second, .val (.long santa), .second, .val (.int (x1 &&& (3 : Int32))), .val (.long t), .second, .val (.long santa), .second, .unset, .unset, .unset]) at_85 rfl ?_
        refine s_new 90 C X at_87 (List.mem_of_getElem? (i := 2) rfl) (List.mem_of_getElem? (i := 3) rfl) (List.mem_of_getElem? (i := 4) rfl) (fun T hh o4 hb_o4 X E E_o4 D g_o4 => ?_)
        have ne_aE_o4 : aE ≠ o4 := Nat.ne_of_lt (Nat.lt_of_lt_of_le E_aE.lt (Nat.le_of_eq hb_o4))
        have ne_aSanta_o4 : aSanta ≠ o4 := Nat.ne_of_lt (Nat.lt_of_lt_of_le E_aSanta.lt (Nat.le_of_eq hb_o4))
        have ne_aTree_o4 : aTree ≠ o4 := Nat.ne_of_lt (Nat.lt_of_lt_of_le E_aTree.lt (Nat.le_of_eq hb_o4))
        have ne_aStar_o4 : aStar ≠ o4 := Nat.ne_of_lt (Nat.lt_of_lt_of_le E_aStar.lt (Nat.le_of_eq hb_o4))
        have Od := Od.ext E
        have E_aE := E_aE.ext E
        have F_aE_value := F_aE_value.ext E
        have E_aSanta := E_aSanta.ext E
        have E_aTree := E_aTree.ext E
        have E_aStar := E_aStar.ext E
        have F_o4_floor : Fld Z _ o4 "com/example/tinsel_tally/tinseltally/Figures" "floor" "J" (.long (0 : Int64)) := D (Or.inr (hw _ (List.mem_of_getElem? (i := 20) rfl))) (ty := .long) (by decide)
        have F_o4_dDayFirst : Fld Z _ o4 "com/example/tinsel_tally/tinseltally/Figures" "dDayFirst" "J" (.long (0 : Int64)) := D (Or.inr (hw _ (List.mem_of_getElem? (i := 22) rfl))) (ty := .long) (by decide)
        have F_o4_dDayRise : Fld Z _ o4 "com/example/tinsel_tally/tinseltally/Figures" "dDayRise" "J" (.long (0 : Int64)) := D (Or.inr (hw _ (List.mem_of_getElem? (i := 24) rfl))) (ty := .long) (by decide)
        have F_o4_perDessert : Fld Z _ o4 "com/example/tinsel_tally/tinseltally/Figures" "perDessert" "J" (.long (0 : Int64)) := D (Or.inr (hw _ (List.mem_of_getElem? (i := 26) rfl))) (ty := .long) (by decide)
        have F_o4_perMain : Fld Z _ o4 "com/example/tinsel_tally/tinseltally/Figures" "perMain" "J" (.long (0 : Int64)) := D (Or.inr (hw _ (List.mem_of_getElem? (i := 28) rfl))) (ty := .long) (by decide)
        have F_o4_specialDiscount : Fld Z _ o4 "com/example/tinsel_tally/tinseltally/Figures" "specialDiscount" "J" (.long (0 : Int64)) := D (Or.inr (hw _ (List.mem_of_getElem? (i := 30) rfl))) (ty := .long) (by decide)
        have F_o4_giftThreshold : Fld Z _ o4 "com/example/tinsel_tally/tinseltally/Figures" "giftThreshold" "J" (.long (0 : Int64)) := D (Or.inr (hw _ (List.mem_of_getElem? (i := 32) rfl))) (ty := .long) (by decide)
        have F_o4_giftDish : Fld Z _ o4 "com/example/tinsel_tally/tinseltally/Figures" "giftDish" "Ljava/lang/String;" .null := D (Or.inr (hw _ (List.mem_of_getElem? (i := 34) rfl))) (ty := (.object "java/lang/String")) (by decide)
        have F_o4_starThreshold : Fld Z _ o4 "com/example/tinsel_tally/tinseltally/Figures" "starThreshold" "J" (.long (0 : Int64)) := D (Or.inr (hw _ (List.mem_of_getElem? (i := 36) rfl))) (ty := .long) (by decide)
        have F_o4_treeThreshold : Fld Z _ o4 "com/example/tinsel_tally/tinseltally/Figures" "treeThreshold" "J" (.long (0 : Int64)) := D (Or.inr (hw _ (List.mem_of_getElem? (i := 38) rfl))) (ty := .long) (by decide)
        have F_o4_santaThreshold : Fld Z _ o4 "com/example/tinsel_tally/tinseltally/Figures" "santaThreshold" "J" (.long (0 : Int64)) := D (Or.inr (hw _ (List.mem_of_getElem? (i := 40) rfl))) (ty := .long) (by decide)
        refine s_dup 91 C X at_90 rfl ?_
        refine s_lconst 92 C X (z := (0 : Int64)) at_91 rfl ?_
        refine s_lconst 93 C X (z := (0 : Int64)) at_92 rfl ?_
        refine s_lconst 94 C X (z := (0 : Int64)) at_93 rfl ?_
        refine s_lconst 95 C X (z := (0 : Int64)) at_94 rfl ?_
        refine s_lconst 96 C X (z := (0 : Int64)) at_95 rfl ?_
        refine s_lconst 97 C X (z := (0 : Int64)) at_96 rfl ?_
        refine s_lconst 98 C X (z := (0 : Int64)) at_97 rfl ?_
        have wS : ∀ a ∈ Bundle.stringAtoms, a.before a0 Z = true := by
          intro a ha
          simp only [Bundle.stringAtoms, List.mem_cons, List.not_mem_nil, or_false] at ha
          rcases ha with rfl | rfl | rfl | rfl | rfl | rfl | rfl
          · exact hw _ (List.mem_of_getElem? (i := 6) rfl)
          · exact hw _ (List.mem_of_getElem? (i := 7) rfl)
          · exact hw _ (List.mem_of_getElem? (i := 8) rfl)
          · exact hw _ (List.mem_of_getElem? (i := 9) rfl)
          · exact hw _ (List.mem_of_getElem? (i := 10) rfl)
          · exact hw _ (List.mem_of_getElem? (i := 11) rfl)
          · exact hw _ (List.mem_of_getElem? (i := 12) rfl)
        refine s_ldcS1 100 4 C X at_98 (List.mem_of_getElem? (i := 5) rfl) wS (fun T hh t5 k1 C X E hS Nk => ?_)
        have Od := Od.ext E
        have E_aE := E_aE.ext E
        have F_aE_value := F_aE_value.ext E
        have E_aSanta := E_aSanta.ext E
        have E_aTree := E_aTree.ext E
        have E_aStar := E_aStar.ext E
        have E_o4 := E_o4.ext E
        have F_o4_floor := F_o4_floor.ext E
        have F_o4_dDayFirst := F_o4_dDayFirst.ext E
        have F_o4_dDayRise := F_o4_dDayRise.ext E
        have F_o4_perDessert := F_o4_perDessert.ext E
        have F_o4_perMain := F_o4_perMain.ext E
        have F_o4_specialDiscount := F_o4_specialDiscount.ext E
        have F_o4_giftThreshold := F_o4_giftThreshold.ext E
        have F_o4_giftDish := F_o4_giftDish.ext E
        have F_o4_starThreshold := F_o4_starThreshold.ext E
        have F_o4_treeThreshold := F_o4_treeThreshold.ext E
        have F_o4_santaThreshold := F_o4_santaThreshold.ext E
        refine s_lload 102 C X at_100 rfl ?_
        refine s_lload 104 C X at_102 rfl ?_
        refine s_lload 106 C X at_104 rfl ?_
        refine s_callC 109 [(.long (0 : Int64)), (.long (0 : Int64)), (.long (0 : Int64)), (.long (0 : Int64)), (.long (0 : Int64)), (.long (0 : Int64)), (.long (0 : Int64)), (.ref t5), (.long star), (.long tree), (.long santa)] [(.ref o4)] 1 C X at_106 rfl (List.mem_of_getElem? (i := 13) rfl) (List.mem_of_getElem? (i := 14) rfl) (List.mem_of_getElem? (i := 4) rfl) (List.mem_of_getElem? (i := 15) rfl) (rm_a6 l Z a0 hw aSanta aTree aStar aE star tree santa t o4 t5 _ n0 X.sz Od S_E S_SANTA S_TREE S_STAR E_o4 F_o4_floor F_o4_dDayFirst F_o4_dDayRise F_o4_perDessert F_o4_perMain F_o4_specialDiscount F_o4_giftThreshold F_o4_giftDish F_o4_starThreshold F_o4_treeThreshold F_o4_santaThreshold g_o4) (lenOf pd__JJJJJJJLjava_lang_String_JJJ_V rfl) rfl rfl rfl (fun T v hh X q => ?_)
        obtain ⟨rfl, Od, E_o4, F_o4_floor, F_o4_dDayFirst, F_o4_dDayRise, F_o4_perDessert, F_o4_perMain, F_o4_specialDiscount, F_o4_giftThreshold, F_o4_giftDish, F_o4_starThreshold, F_o4_treeThreshold, F_o4_santaThreshold, Kc⟩ := q
        have E_aE := E_aE.keep Kc
        have F_aE_value := F_aE_value.keep Kc (ninS ne_aE_o4 nin0)
        have E_aSanta := E_aSanta.keep Kc
        have E_aTree := E_aTree.keep Kc
        have E_aStar := E_aStar.keep Kc
        have Nk := Nat.le_trans Nk Kc.1
        refine Run.cast (st' := [(.ref o4)]) rfl ?_
        refine s_astore 111 C X (l' := #[.val (.long x0), .second, .val (.int x1), .val (.long x2), .second, .val (.long x3), .second, .val (.long x4), .second, .val (.long star), .second, .val (.long tree), .second, .val (.long santa), .second, .val (.int (x1 &&& (3 : Int32))), .val (.long t), .second, .val (.ref o4), .unset, .unset, .unset, .unset]) at_109 rfl rfl ?_
        refine s_lload 113 C X at_111 rfl ?_
        refine s_aload 115 C X at_113 rfl rfl ?_
        refine s_callS 118 [(.long t), (.ref o4)] [] 0 C X at_115 (List.mem_of_getElem? (i := 41) rfl) (List.mem_of_getElem? (i := 42) rfl) (List.mem_of_getElem? (i := 43) rfl) (List.mem_of_getElem? (i := 44) rfl) (rm_a7 l Z a0 hw aSanta aTree aStar aE star tree santa t o4 t5 _ n0 X.sz Od E_o4 F_o4_floor F_o4_dDayFirst F_o4_dDayRise F_o4_perDessert F_o4_perMain F_o4_specialDiscount F_o4_giftThreshold F_o4_giftDish F_o4_starThreshold F_o4_treeThreshold F_o4_santaThreshold S_E S_SANTA S_TREE S_STAR g_o4) (lenOf pd__JLcom_example_tinsel_tally_tinseltally_Figures__Ljava_util_Optional_ rfl) rfl rfl rfl (fun T v hh X q => ?_)
        obtain ⟨rfl, c10_10, c29_12, c48_14, Kc, E_o4, F_o4_floor, F_o4_dDayFirst, F_o4_dDayRise, F_o4_perDessert, F_o4_perMain, F_o4_specialDiscount, F_o4_giftThreshold, F_o4_giftDish, F_o4_starThreshold, F_o4_treeThreshold, F_o4_santaThreshold, Od⟩ | ⟨o16, rfl, c10_10, c29_12, c48_14, Kc, E_o4, F_o4_floor, F_o4_dDayFirst, F_o4_dDayRise, F_o4_perDessert, F_o4_perMain, F_o4_specialDiscount, F_o4_giftThreshold, F_o4_giftDish, F_o4_starThreshold, F_o4_treeThreshold, F_o4_santaThreshold, E_o16, F_o16_value, Od, ne_o4_o16, sz_o16', g_o16⟩ | ⟨o20, rfl, c10_10, c29_12, Kc, E_o4, F_o4_floor, F_o4_dDayFirst, F_o4_dDayRise, F_o4_perDessert, F_o4_perMain, F_o4_specialDiscount, F_o4_giftThreshold, F_o4_giftDish, F_o4_starThreshold, F_o4_treeThreshold, F_o4_santaThreshold, E_o20, F_o20_value, Od, ne_o4_o20, sz_o20', g_o20⟩ | ⟨o24, rfl, c10_10, Kc, E_o4, F_o4_floor, F_o4_dDayFirst, F_o4_dDayRise, F_o4_perDessert, F_o4_perMain, F_o4_specialDiscount, F_o4_giftThreshold, F_o4_giftDish, F_o4_starThreshold, F_o4_treeThreshold, F_o4_santaThreshold, E_o24, F_o24_value, Od, ne_o4_o24, sz_o24', g_o24⟩ := q
        · have E_aE := E_aE.keep Kc
          have F_aE_value := F_aE_value.keep Kc (ninS ne_aE_o4 nin0)
          have E_aSanta := E_aSanta.keep Kc
          have E_aTree := E_aTree.keep Kc
          have E_aStar := E_aStar.keep Kc
          have Nk := Nat.le_trans Nk Kc.1
          have t_c10_10 : (t).toInt < (santa).toInt := cl_lt.mp c10_10
          have t_c29_12 : (t).toInt < (tree).toInt := cl_lt.mp c29_12
          have t_c48_14 : (t).toInt < (star).toInt := cl_lt.mp c48_14
          refine Run.cast (st' := [(.ref aE)]) rfl ?_
          refine s_astore 120 C X (l' := #[.val (.long x0), .second, .val (.int x1), .val (.long x2), .second, .val (.long x3), .second, .val (.long x4), .second, .val (.long star), .second, .val (.long tree), .second, .val (.long santa), .second, .val (.int (x1 &&& (3 : Int32))), .val (.long t), .second, .val (.ref o4), .val (.ref aE), .unset, .unset, .unset]) at_118 rfl rfl ?_
          refine s_aload 122 C X at_120 rfl rfl ?_
          refine s_ifnonnullY 127 C X at_122 ?_
          refine s_aload 129 C X at_127 rfl rfl ?_
          refine s_aconstNull 130 C X at_129 ?_
          refine s_callV 133 [.null] [] 0 C X at_130 (List.mem_of_getElem? (i := 73) rfl) (List.mem_of_getElem? (i := 74) rfl) (notFace_of_selects (args := #[]) (mvT C.2.1 (C.w (List.mem_of_getElem? (i := 76) rfl)))) (List.mem_of_getElem? (i := 76) rfl) (List.mem_of_getElem? (i := 75) rfl) (List.mem_of_getElem? (i := 47) rfl) (List.mem_of_getElem? (i := 77) rfl) E_aE (rm_a27 l Z a0 hw aSanta aTree aStar aE _ n0 X.sz E_aE F_aE_value Od S_E S_SANTA S_TREE S_STAR) (lenOf pd__Ljava_lang_Object__Ljava_lang_Object_ rfl) rfl rfl rfl (fun T v hh X q => ?_)
          obtain ⟨rfl, E_aE, F_aE_value, Od, Kc⟩ := q
          have E_aSanta := E_aSanta.keep Kc
          have E_aTree := E_aTree.keep Kc
          have E_aStar := E_aStar.keep Kc
          have Nk := Nat.le_trans Nk Kc.1
          have E_o4 := E_o4.keep Kc
          have F_o4_floor := F_o4_floor.keep Kc (ninS (Ne.symm ne_aE_o4) nin0)
          have F_o4_dDayFirst := F_o4_dDayFirst.keep Kc (ninS (Ne.symm ne_aE_o4) nin0)
          have F_o4_dDayRise := F_o4_dDayRise.keep Kc (ninS (Ne.symm ne_aE_o4) nin0)
          have F_o4_perDessert := F_o4_perDessert.keep Kc (ninS (Ne.symm ne_aE_o4) nin0)
          have F_o4_perMain := F_o4_perMain.keep Kc (ninS (Ne.symm ne_aE_o4) nin0)
          have F_o4_specialDiscount := F_o4_specialDiscount.keep Kc (ninS (Ne.symm ne_aE_o4) nin0)
          have F_o4_giftThreshold := F_o4_giftThreshold.keep Kc (ninS (Ne.symm ne_aE_o4) nin0)
          have F_o4_giftDish := F_o4_giftDish.keep Kc (ninS (Ne.symm ne_aE_o4) nin0)
          have F_o4_starThreshold := F_o4_starThreshold.keep Kc (ninS (Ne.symm ne_aE_o4) nin0)
          have F_o4_treeThreshold := F_o4_treeThreshold.keep Kc (ninS (Ne.symm ne_aE_o4) nin0)
          have F_o4_santaThreshold := F_o4_santaThreshold.keep Kc (ninS (Ne.symm ne_aE_o4) nin0)
          refine Run.cast (st' := [.null]) rfl ?_
          refine s_castNull 136 C X at_133 ?_
          refine s_astore 138 C X (l' := #[.val (.long x0), .second, .val (.int x1), .val (.long x2), .second, .val (.long x3), .second, .val (.long x4), .second, .val (.long star), .second, .val (.long tree), .second, .val (.long santa), .second, .val (.int (x1 &&& (3 : Int32))), .val (.long t), .second, .val (.ref o4), .val (.ref aE), .val .null, .unset, .unset]) at_136 rfl rfl ?_
          refine s_lload 140 C X at_138 rfl ?_
          refine s_lload 142 C X at_140 rfl ?_
          refine s_lcmp 143 C X at_142 ?_
          refine s_if_lt 150 146 C X at_143 (fun c143_28 => ?_) (fun c => absurd (cl_lt.mpr (by omega)) c)
          have t_c143_28 : (t).toInt < (star).toInt := cl_lt.mp c143_28
          refine s_iconst 151 C X at_150 kc_iconst_0 ?_
          refine s_lload 153 C X at_151 rfl ?_
          refine s_lload 155 C X at_153 rfl ?_
          refine s_lcmp 156 C X at_155 ?_
          refine s_if_lt 163 159 C X at_156 (fun c156_29 => ?_) (fun c => absurd (cl_lt.mpr (by omega)) c)
          have t_c156_29 : (t).toInt < (tree).toInt := cl_lt.mp c156_29
          refine s_iconst 164 C X at_163 kc_iconst_0 ?_
          refine s_iadd 165 C X at_164 ?_
          refine Run.cast (st' := [(.int (0 : Int32))]) (by rw [kf_0]) ?_
          refine s_lload 167 C X at_165 rfl ?_
          refine s_lload 169 C X at_167 rfl ?_
          refine s_lcmp 170 C X at_169 ?_
          refine s_if_lt 177 173 C X at_170 (fun c170_30 => ?_) (fun c => absurd (cl_lt.mpr (by omega)) c)
          have t_c170_30 : (t).toInt < (santa).toInt := cl_lt.mp c170_30
          refine s_iconst 178 C X at_177 kc_iconst_0 ?_
          refine s_iadd 179 C X at_178 ?_
          refine Run.cast (st' := [(.int (0 : Int32))]) (by rw [kf_0]) ?_
          refine s_istore 181 C X (l' := #[.val (.long x0), .second, .val (.int x1), .val (.long x2), .second, .val (.long x3), .second, .val (.long x4), .second, .val (.long star), .second, .val (.long tree), .second, .val (.long santa), .second, .val (.int (x1 &&& (3 : Int32))), .val (.long t), .second, .val (.ref o4), .val (.ref aE), .val .null, .val (.int (0 : Int32)), .unset]) at_179 rfl ?_
          refine s_iload 183 C X at_181 rfl ?_
          refine s_if_ne 192 186 C X at_183 (fun c => absurd (by decide : (0 : Int32) = (0 : Int32)) c) (fun _ => ?_)
          refine s_aconstNull 187 C X at_186 ?_
          refine s_astore 189 C X (l' := #[.val (.long x0), .second, .val (.int x1), .val (.long x2), .second, .val (.long x3), .second, .val (.long x4), .second, .val (.long star), .second, .val (.long tree), .second, .val (.long santa), .second, .val (.int (x1 &&& (3 : Int32))), .val (.long t), .second, .val (.ref o4), .val (.ref aE), .val .null, .val (.int (0 : Int32)), .val .null]) at_187 rfl rfl ?_
          refine s_goto 225 C X at_189 ?_
          refine s_aload 227 C X at_225 rfl rfl ?_
          refine s_aload 229 C X at_227 rfl rfl ?_
          refine s_acmp_ne 236 232 C X at_229 rfl rfl (fun c => absurd rfl c) (fun _ => ?_)
          refine s_iconst 233 C X at_232 kc_iconst_1 ?_
          refine s_goto 237 C X at_233 ?_
          refine s_nreturn C X at_237 rfl (by simp) rfl ?_ (hG := FW_end hS Nk (by decide) (by decide))
          rfl
        · have ne_aE_o16 : aE ≠ o16 := Nat.ne_of_lt (Nat.lt_of_lt_of_le E_aE.lt sz_o16')
          have ne_aSanta_o16 : aSanta ≠ o16 := Nat.ne_of_lt (Nat.lt_of_lt_of_le E_aSanta.lt sz_o16')
          have ne_aTree_o16 : aTree ≠ o16 := Nat.ne_of_lt (Nat.lt_of_lt_of_le E_aTree.lt sz_o16')
          have ne_aStar_o16 : aStar ≠ o16 := Nat.ne_of_lt (Nat.lt_of_lt_of_le E_aStar.lt sz_o16')
          have E_aE := E_aE.keep Kc
          have F_aE_value := F_aE_value.keep Kc (ninS ne_aE_o4 nin0)
          have E_aSanta := E_aSanta.keep Kc
          have E_aTree := E_aTree.keep Kc
          have E_aStar := E_aStar.keep Kc
          have Nk := Nat.le_trans Nk Kc.1
          have t_c10_10 : (t).toInt < (santa).toInt := cl_lt.mp c10_10
          have t_c29_12 : (t).toInt < (tree).toInt := cl_lt.mp c29_12
          have t_c48_14 : ¬ ((t).toInt < (star).toInt) := fun q => c48_14 (cl_lt.mpr q)
          refine Run.cast (st' := [(.ref o16)]) rfl ?_
          refine s_astore 120 C X (l' := #[.val (.long x0), .second, .val (.int x1), .val (.long x2), .second, .val (.long x3), .second, .val (.long x4), .second, .val (.long star), .second, .val (.long tree), .second, .val (.long santa), .second, .val (.int (x1 &&& (3 : Int32))), .val (.long t), .second, .val (.ref o4), .val (.ref o16), .unset, .unset, .unset]) at_118 rfl rfl ?_
          refine s_aload 122 C X at_120 rfl rfl ?_
          refine s_ifnonnullY 127 C X at_122 ?_
          refine s_aload 129 C X at_127 rfl rfl ?_
          refine s_aconstNull 130 C X at_129 ?_
          refine s_callV 133 [.null] [] 0 C X at_130 (List.mem_of_getElem? (i := 73) rfl) (List.mem_of_getElem? (i := 74) rfl) (notFace_of_selects (args := #[]) (mvT C.2.1 (C.w (List.mem_of_getElem? (i := 76) rfl)))) (List.mem_of_getElem? (i := 76) rfl) (List.mem_of_getElem? (i := 75) rfl) (List.mem_of_getElem? (i := 47) rfl) (List.mem_of_getElem? (i := 77) rfl) E_o16 (rm_a33 l Z a0 hw aSanta aTree aStar aE o16 _ n0 X.sz E_aStar E_o16 F_o16_value Od S_E S_SANTA S_TREE S_STAR ne_aStar_o16 g_o16) (lenOf pd__Ljava_lang_Object__Ljava_lang_Object_ rfl) rfl rfl rfl (fun T v hh X q => ?_)
          obtain ⟨rfl, E_aStar, E_o16, F_o16_value, Od, Kc⟩ := q
          have E_aE := E_aE.keep Kc
          have F_aE_value := F_aE_value.keep Kc (ninS ne_aE_o16 (ninS ne_aE_aStar nin0))
          have E_aSanta := E_aSanta.keep Kc
          have E_aTree := E_aTree.keep Kc
          have Nk := Nat.le_trans Nk Kc.1
          have E_o4 := E_o4.keep Kc
          have F_o4_floor := F_o4_floor.keep Kc (ninS ne_o4_o16 (ninS (Ne.symm ne_aStar_o4) nin0))
          have F_o4_dDayFirst := F_o4_dDayFirst.keep Kc (ninS ne_o4_o16 (ninS (Ne.symm ne_aStar_o4) nin0))
          have F_o4_dDayRise := F_o4_dDayRise.keep Kc (ninS ne_o4_o16 (ninS (Ne.symm ne_aStar_o4) nin0))
          have F_o4_perDessert := F_o4_perDessert.keep Kc (ninS ne_o4_o16 (ninS (Ne.symm ne_aStar_o4) nin0))
          have F_o4_perMain := F_o4_perMain.keep Kc (ninS ne_o4_o16 (ninS (Ne.symm ne_aStar_o4) nin0))
          have F_o4_specialDiscount := F_o4_specialDiscount.keep Kc (ninS ne_o4_o16 (ninS (Ne.symm ne_aStar_o4) nin0))
          have F_o4_giftThreshold := F_o4_giftThreshold.keep Kc (ninS ne_o4_o16 (ninS (Ne.symm ne_aStar_o4) nin0))
          have F_o4_giftDish := F_o4_giftDish.keep Kc (ninS ne_o4_o16 (ninS (Ne.symm ne_aStar_o4) nin0))
          have F_o4_starThreshold := F_o4_starThreshold.keep Kc (ninS ne_o4_o16 (ninS (Ne.symm ne_aStar_o4) nin0))
          have F_o4_treeThreshold := F_o4_treeThreshold.keep Kc (ninS ne_o4_o16 (ninS (Ne.symm ne_aStar_o4) nin0))
          have F_o4_santaThreshold := F_o4_santaThreshold.keep Kc (ninS ne_o4_o16 (ninS (Ne.symm ne_aStar_o4) nin0))
          refine Run.cast (st' := [(.ref aStar)]) rfl ?_
          refine s_castY 136 C X at_133 (List.mem_of_getElem? (i := 78) rfl) (Ins.self E_aStar) (fun T X => ?_)
          refine s_astore 138 C X (l' := #[.val (.long x0), .second, .val (.int x1), .val (.long x2), .second, .val (.long x3), .second, .val (.long x4), .second, .val (.long star), .second, .val (.long tree), .second, .val (.long santa), .second, .val (.int (x1 &&& (3 : Int32))), .val (.long t), .second, .val (.ref o4), .val (.ref o16), .val (.ref aStar), .unset, .unset]) at_136 rfl rfl ?_
          refine s_lload 140 C X at_138 rfl ?_
          refine s_lload 142 C X at_140 rfl ?_
          refine s_lcmp 143 C X at_142 ?_
          refine s_if_lt 150 146 C X at_143 (fun c => absurd (cl_lt.mp c) (by omega)) (fun c143_34 => ?_)
          have t_c143_34 : ¬ ((t).toInt < (star).toInt) := fun q => c143_34 (cl_lt.mpr q)
          refine s_iconst 147 C X at_146 kc_iconst_1 ?_
          refine s_goto 151 C X at_147 ?_
          refine s_lload 153 C X at_151 rfl ?_
          refine s_lload 155 C X at_153 rfl ?_
          refine s_lcmp 156 C X at_155 ?_
          refine s_if_lt 163 159 C X at_156 (fun c156_35 => ?_) (fun c => absurd (cl_lt.mpr (by omega)) c)
          have t_c156_35 : (t).toInt < (tree).toInt := cl_lt.mp c156_35
          refine s_iconst 164 C X at_163 kc_iconst_0 ?_
          refine s_iadd 165 C X at_164 ?_
          refine Run.cast (st' := [(.int (1 : Int32))]) (by rw [kf_1]) ?_
          refine s_lload 167 C X at_165 rfl ?_
          refine s_lload 169 C X at_167 rfl ?_
          refine s_lcmp 170 C X at_169 ?_
          refine s_if_lt 177 173 C X at_170 (fun c170_36 => ?_) (fun c => absurd (cl_lt.mpr (by omega)) c)
          have t_c170_36 : (t).toInt < (santa).toInt := cl_lt.mp c170_36
          refine s_iconst 178 C X at_177 kc_iconst_0 ?_
          refine s_iadd 179 C X at_178 ?_
          refine Run.cast (st' := [(.int (1 : Int32))]) (by rw [kf_1]) ?_
          refine s_istore 181 C X (l' := #[.val (.long x0), .second, .val (.int x1), .val (.long x2), .second, .val (.long x3), .second, .val (.long x4), .second, .val (.long star), .second, .val (.long tree), .second, .val (.long santa), .second, .val (.int (x1 &&& (3 : Int32))), .val (.long t), .second, .val (.ref o4), .val (.ref o16), .val (.ref aStar), .val (.int (1 : Int32)), .unset]) at_179 rfl ?_
          refine s_iload 183 C X at_181 rfl ?_
          refine s_if_ne 192 186 C X at_183 (fun _ => ?_) (fun c => absurd c (by decide))
          refine s_iload 194 C X at_192 rfl ?_
          refine s_iconst 195 C X at_194 kc_iconst_1 ?_
          refine s_icmp_ne 206 198 C X at_195 (fun c => absurd (by decide : (1 : Int32) = (1 : Int32)) c) (fun _ => ?_)
          refine s_getstatic 201 C X (host := "") at_198 (Or.inl (List.mem_of_getElem? (i := 96) rfl)) Via.refl (S_STAR.ext Od.2) (fun T X => ?_)
          refine s_astore 203 C X (l' := #[.val (.long x0), .second, .val (.int x1), .val (.long x2), .second, .val (.long x3), .second, .val (.long x4), .second, .val (.long star), .second, .val (.long tree), .second, .val (.long santa), .second, .val (.int (x1 &&& (3 : Int32))), .val (.long t), .second, .val (.ref o4), .val (.ref o16), .val (.ref aStar), .val (.int (1 : Int32)), .val (.ref aStar)]) at_201 rfl rfl ?_
          refine s_goto 225 C X at_203 ?_
          refine s_aload 227 C X at_225 rfl rfl ?_
          refine s_aload 229 C X at_227 rfl rfl ?_
          refine s_acmp_ne 236 232 C X at_229 rfl rfl (fun c => absurd rfl c) (fun _ => ?_)
          refine s_iconst 233 C X at_232 kc_iconst_1 ?_
          refine s_goto 237 C X at_233 ?_
          refine s_nreturn C X at_237 rfl (by simp) rfl ?_ (hG := FW_end hS Nk (by decide) (by decide))
          rfl
        · have ne_aE_o20 : aE ≠ o20 := Nat.ne_of_lt (Nat.lt_of_lt_of_le E_aE.lt sz_o20')
          have ne_aSanta_o20 : aSanta ≠ o20 := Nat.ne_of_lt (Nat.lt_of_lt_of_le E_aSanta.lt sz_o20')
          have ne_aTree_o20 : aTree ≠ o20 := Nat.ne_of_lt (Nat.lt_of_lt_of_le E_aTree.lt sz_o20')
          have ne_aStar_o20 : aStar ≠ o20 := Nat.ne_of_lt (Nat.lt_of_lt_of_le E_aStar.lt sz_o20')
          have E_aE := E_aE.keep Kc
          have F_aE_value := F_aE_value.keep Kc (ninS ne_aE_o4 nin0)
          have E_aSanta := E_aSanta.keep Kc
          have E_aTree := E_aTree.keep Kc
          have E_aStar := E_aStar.keep Kc
          have Nk := Nat.le_trans Nk Kc.1
          have t_c10_10 : (t).toInt < (santa).toInt := cl_lt.mp c10_10
          have t_c29_12 : ¬ ((t).toInt < (tree).toInt) := fun q => c29_12 (cl_lt.mpr q)
          refine Run.cast (st' := [(.ref o20)]) rfl ?_
          refine s_astore 120 C X (l' := #[.val (.long x0), .second, .val (.int x1), .val (.long x2), .second, .val (.long x3), .second, .val (.long x4), .second, .val (.long star), .second, .val (.long tree), .second, .val (.long santa), .second, .val (.int (x1 &&& (3 : Int32))), .val (.long t), .second, .val (.ref o4), .val (.ref o20), .unset, .unset, .unset]) at_118 rfl rfl ?_
          refine s_aload 122 C X at_120 rfl rfl ?_
          refine s_ifnonnullY 127 C X at_122 ?_
          refine s_aload 129 C X at_127 rfl rfl ?_
          refine s_aconstNull 130 C X at_129 ?_
          refine s_callV 133 [.null] [] 0 C X at_130 (List.mem_of_getElem? (i := 73) rfl) (List.mem_of_getElem? (i := 74) rfl) (notFace_of_selects (args := #[]) (mvT C.2.1 (C.w (List.mem_of_getElem? (i := 76) rfl)))) (List.mem_of_getElem? (i := 76) rfl) (List.mem_of_getElem? (i := 75) rfl) (List.mem_of_getElem? (i := 47) rfl) (List.mem_of_getElem? (i := 77) rfl) E_o20 (rm_a40 l Z a0 hw aSanta aTree aStar aE o20 _ n0 X.sz E_aTree E_o20 F_o20_value Od S_E S_SANTA S_TREE S_STAR ne_aTree_o20 g_o20) (lenOf pd__Ljava_lang_Object__Ljava_lang_Object_ rfl) rfl rfl rfl (fun T v hh X q => ?_)
          obtain ⟨rfl, E_aTree, E_o20, F_o20_value, Od, Kc⟩ := q
          have E_aE := E_aE.keep Kc
          have F_aE_value := F_aE_value.keep Kc (ninS ne_aE_o20 (ninS ne_aE_aTree nin0))
          have E_aSanta := E_aSanta.keep Kc
          have E_aStar := E_aStar.keep Kc
          have Nk := Nat.le_trans Nk Kc.1
          have E_o4 := E_o4.keep Kc
          have F_o4_floor := F_o4_floor.keep Kc (ninS ne_o4_o20 (ninS (Ne.symm ne_aTree_o4) nin0))
          have F_o4_dDayFirst := F_o4_dDayFirst.keep Kc (ninS ne_o4_o20 (ninS (Ne.symm ne_aTree_o4) nin0))
          have F_o4_dDayRise := F_o4_dDayRise.keep Kc (ninS ne_o4_o20 (ninS (Ne.symm ne_aTree_o4) nin0))
          have F_o4_perDessert := F_o4_perDessert.keep Kc (ninS ne_o4_o20 (ninS (Ne.symm ne_aTree_o4) nin0))
          have F_o4_perMain := F_o4_perMain.keep Kc (ninS ne_o4_o20 (ninS (Ne.symm ne_aTree_o4) nin0))
          have F_o4_specialDiscount := F_o4_specialDiscount.keep Kc (ninS ne_o4_o20 (ninS (Ne.symm ne_aTree_o4) nin0))
          have F_o4_giftThreshold := F_o4_giftThreshold.keep Kc (ninS ne_o4_o20 (ninS (Ne.symm ne_aTree_o4) nin0))
          have F_o4_giftDish := F_o4_giftDish.keep Kc (ninS ne_o4_o20 (ninS (Ne.symm ne_aTree_o4) nin0))
          have F_o4_starThreshold := F_o4_starThreshold.keep Kc (ninS ne_o4_o20 (ninS (Ne.symm ne_aTree_o4) nin0))
          have F_o4_treeThreshold := F_o4_treeThreshold.keep Kc (ninS ne_o4_o20 (ninS (Ne.symm ne_aTree_o4) nin0))
          have F_o4_santaThreshold := F_o4_santaThreshold.keep Kc (ninS ne_o4_o20 (ninS (Ne.symm ne_aTree_o4) nin0))
          refine Run.cast (st' := [(.ref aTree)]) rfl ?_
          refine s_castY 136 C X at_133 (List.mem_of_getElem? (i := 78) rfl) (Ins.self E_aTree) (fun T X => ?_)
          refine s_astore 138 C X (l' := #[.val (.long x0), .second, .val (.int x1), .val (.long x2), .second, .val (.long x3), .second, .val (.long x4), .second, .val (.long star), .second, .val (.long tree), .second, .val (.long santa), .second, .val (.int (x1 &&& (3 : Int32))), .val (.long t), .second, .val (.ref o4), .val (.ref o20), .val (.ref aTree), .unset, .unset]) at_136 rfl rfl ?_
          refine s_lload 140 C X at_138 rfl ?_
          refine s_lload 142 C X at_140 rfl ?_
          refine s_lcmp 143 C X at_142 ?_
          refine s_if_lt 150 146 C X at_143 (fun c => absurd (cl_lt.mp c) (by omega)) (fun c143_41 => ?_)
          have t_c143_41 : ¬ ((t).toInt < (star).toInt) := fun q => c143_41 (cl_lt.mpr q)
          refine s_iconst 147 C X at_146 kc_iconst_1 ?_
          refine s_goto 151 C X at_147 ?_
          refine s_lload 153 C X at_151 rfl ?_
          refine s_lload 155 C X at_153 rfl ?_
          refine s_lcmp 156 C X at_155 ?_
          refine s_if_lt 163 159 C X at_156 (fun c => absurd (cl_lt.mp c) (by omega)) (fun c156_42 => ?_)
          have t_c156_42 : ¬ ((t).toInt < (tree).toInt) := fun q => c156_42 (cl_lt.mpr q)
          refine s_iconst 160 C X at_159 kc_iconst_1 ?_
          refine s_goto 164 C X at_160 ?_
          refine s_iadd 165 C X at_164 ?_
          refine Run.cast (st' := [(.int (2 : Int32))]) (by rw [kf_2]) ?_
          refine s_lload 167 C X at_165 rfl ?_
          refine s_lload 169 C X at_167 rfl ?_
          refine s_lcmp 170 C X at_169 ?_
          refine s_if_lt 177 173 C X at_170 (fun c170_43 => ?_) (fun c => absurd (cl_lt.mpr (by omega)) c)
          have t_c170_43 : (t).toInt < (santa).toInt := cl_lt.mp c170_43
          refine s_iconst 178 C X at_177 kc_iconst_0 ?_
          refine s_iadd 179 C X at_178 ?_
          refine Run.cast (st' := [(.int (2 : Int32))]) (by rw [kf_3]) ?_
          refine s_istore 181 C X (l' := #[.val (.long x0), .second, .val (.int x1), .val (.long x2), .second, .val (.long x3), .second, .val (.long x4), .second, .val (.long star), .second, .val (.long tree), .second, .val (.long santa), .second, .val (.int (x1 &&& (3 : Int32))), .val (.long t), .second, .val (.ref o4), .val (.ref o20), .val (.ref aTree), .val (.int (2 : Int32)), .unset]) at_179 rfl ?_
          refine s_iload 183 C X at_181 rfl ?_
          refine s_if_ne 192 186 C X at_183 (fun _ => ?_) (fun c => absurd c (by decide))
          refine s_iload 194 C X at_192 rfl ?_
          refine s_iconst 195 C X at_194 kc_iconst_1 ?_
          refine s_icmp_ne 206 198 C X at_195 (fun _ => ?_) (fun c => absurd c (by decide))
          refine s_iload 208 C X at_206 rfl ?_
          refine s_iconst 209 C X at_208 kc_iconst_2 ?_
          refine s_icmp_ne 220 212 C X at_209 (fun c => absurd (by decide : (2 : Int32) = (2 : Int32)) c) (fun _ => ?_)
          refine s_getstatic 215 C X (host := "") at_212 (Or.inl (List.mem_of_getElem? (i := 88) rfl)) Via.refl (S_TREE.ext Od.2) (fun T X => ?_)
          refine s_astore 217 C X (l' := #[.val (.long x0), .second, .val (.int x1), .val (.long x2), .second, .val (.long x3), .second, .val (.long x4), .second, .val (.long star), .second, .val (.long tree), .second, .val (.long santa), .second, .val (.int (x1 &&& (3 : Int32))), .val (.long t), .second, .val (.ref o4), .val (.ref o20), .val (.ref aTree), .val (.int (2 : Int32)), .val (.ref aTree)]) at_215 rfl rfl ?_
          refine s_goto 225 C X at_217 ?_
          refine s_aload 227 C X at_225 rfl rfl ?_
          refine s_aload 229 C X at_227 rfl rfl ?_
          refine s_acmp_ne 236 232 C X at_229 rfl rfl (fun c => absurd rfl c) (fun _ => ?_)
          refine s_iconst 233 C X at_232 kc_iconst_1 ?_
          refine s_goto 237 C X at_233 ?_
          refine s_nreturn C X at_237 rfl (by simp) rfl ?_ (hG := FW_end hS Nk (by decide) (by decide))
          rfl
        · have ne_aE_o24 : aE ≠ o24 := Nat.ne_of_lt (Nat.lt_of_lt_of_le E_aE.lt sz_o24')
          have ne_aSanta_o24 : aSanta ≠ o24 := Nat.ne_of_lt (Nat.lt_of_lt_of_le E_aSanta.lt sz_o24')
          have ne_aTree_o24 : aTree ≠ o24 := Nat.ne_of_lt (Nat.lt_of_lt_of_le E_aTree.lt sz_o24')
          have ne_aStar_o24 : aStar ≠ o24 := Nat.ne_of_lt (Nat.lt_of_lt_of_le E_aStar.lt sz_o24')
          have E_aE := E_aE.keep Kc
          have F_aE_value := F_aE_value.keep Kc (ninS ne_aE_o4 nin0)
          have E_aSanta := E_aSanta.keep Kc
          have E_aTree := E_aTree.keep Kc
          have E_aStar := E_aStar.keep Kc
          have Nk := Nat.le_trans Nk Kc.1
          have t_c10_10 : ¬ ((t).toInt < (santa).toInt) := fun q => c10_10 (cl_lt.mpr q)
          refine Run.cast (st' := [(.ref o24)]) rfl ?_
          refine s_astore 120 C X (l' := #[.val (.long x0), .second, .val (.int x1), .val (.long x2), .second, .val (.long x3), .second, .val (.long x4), .second, .val (.long star), .second, .val (.long tree), .second, .val (.long santa), .second, .val (.int (x1 &&& (3 : Int32))), .val (.long t), .second, .val (.ref o4), .val (.ref o24), .unset, .unset, .unset]) at_118 rfl rfl ?_
          refine s_aload 122 C X at_120 rfl rfl ?_
          refine s_ifnonnullY 127 C X at_122 ?_
          refine s_aload 129 C X at_127 rfl rfl ?_
          refine s_aconstNull 130 C X at_129 ?_
          refine s_callV 133 [.null] [] 0 C X at_130 (List.mem_of_getElem? (i := 73) rfl) (List.mem_of_getElem? (i := 74) rfl) (notFace_of_selects (args := #[]) (mvT C.2.1 (C.w (List.mem_of_getElem? (i := 76) rfl)))) (List.mem_of_getElem? (i := 76) rfl) (List.mem_of_getElem? (i := 75) rfl) (List.mem_of_getElem? (i := 47) rfl) (List.mem_of_getElem? (i := 77) rfl) E_o24 (rm_a48 l Z a0 hw aSanta aTree aStar aE o24 _ n0 X.sz E_aSanta E_o24 F_o24_value Od S_E S_SANTA S_TREE S_STAR ne_aSanta_o24 g_o24) (lenOf pd__Ljava_lang_Object__Ljava_lang_Object_ rfl) rfl rfl rfl (fun T v hh X q => ?_)
          obtain ⟨rfl, E_aSanta, E_o24, F_o24_value, Od, Kc⟩ := q
          have E_aE := E_aE.keep Kc
          have F_aE_value := F_aE_value.keep Kc (ninS ne_aE_o24 (ninS ne_aE_aSanta nin0))
          have E_aTree := E_aTree.keep Kc
          have E_aStar := E_aStar.keep Kc
          have Nk := Nat.le_trans Nk Kc.1
          have E_o4 := E_o4.keep Kc
          have F_o4_floor := F_o4_floor.keep Kc (ninS ne_o4_o24 (ninS (Ne.symm ne_aSanta_o4) nin0))
          have F_o4_dDayFirst := F_o4_dDayFirst.keep Kc (ninS ne_o4_o24 (ninS (Ne.symm ne_aSanta_o4) nin0))
          have F_o4_dDayRise := F_o4_dDayRise.keep Kc (ninS ne_o4_o24 (ninS (Ne.symm ne_aSanta_o4) nin0))
          have F_o4_perDessert := F_o4_perDessert.keep Kc (ninS ne_o4_o24 (ninS (Ne.symm ne_aSanta_o4) nin0))
          have F_o4_perMain := F_o4_perMain.keep Kc (ninS ne_o4_o24 (ninS (Ne.symm ne_aSanta_o4) nin0))
          have F_o4_specialDiscount := F_o4_specialDiscount.keep Kc (ninS ne_o4_o24 (ninS (Ne.symm ne_aSanta_o4) nin0))
          have F_o4_giftThreshold := F_o4_giftThreshold.keep Kc (ninS ne_o4_o24 (ninS (Ne.symm ne_aSanta_o4) nin0))
          have F_o4_giftDish := F_o4_giftDish.keep Kc (ninS ne_o4_o24 (ninS (Ne.symm ne_aSanta_o4) nin0))
          have F_o4_starThreshold := F_o4_starThreshold.keep Kc (ninS ne_o4_o24 (ninS (Ne.symm ne_aSanta_o4) nin0))
          have F_o4_treeThreshold := F_o4_treeThreshold.keep Kc (ninS ne_o4_o24 (ninS (Ne.symm ne_aSanta_o4) nin0))
          have F_o4_santaThreshold := F_o4_santaThreshold.keep Kc (ninS ne_o4_o24 (ninS (Ne.symm ne_aSanta_o4) nin0))
          refine Run.cast (st' := [(.ref aSanta)]) rfl ?_
          refine s_castY 136 C X at_133 (List.mem_of_getElem? (i := 78) rfl) (Ins.self E_aSanta) (fun T X => ?_)
          refine s_astore 138 C X (l' := #[.val (.long x0), .second, .val (.int x1), .val (.long x2), .second, .val (.long x3), .second, .val (.long x4), .second, .val (.long star), .second, .val (.long tree), .second, .val (.long santa), .second, .val (.int (x1 &&& (3 : Int32))), .val (.long t), .second, .val (.ref o4), .val (.ref o24), .val (.ref aSanta), .unset, .unset]) at_136 rfl rfl ?_
          refine s_lload 140 C X at_138 rfl ?_
          refine s_lload 142 C X at_140 rfl ?_
          refine s_lcmp 143 C X at_142 ?_
          refine s_if_lt 150 146 C X at_143 (fun c => absurd (cl_lt.mp c) (by omega)) (fun c143_49 => ?_)
          have t_c143_49 : ¬ ((t).toInt < (star).toInt) := fun q => c143_49 (cl_lt.mpr q)
          refine s_iconst 147 C X at_146 kc_iconst_1 ?_
          refine s_goto 151 C X at_147 ?_
          refine s_lload 153 C X at_151 rfl ?_
          refine s_lload 155 C X at_153 rfl ?_
          refine s_lcmp 156 C X at_155 ?_
          refine s_if_lt 163 159 C X at_156 (fun c => absurd (cl_lt.mp c) (by omega)) (fun c156_50 => ?_)
          have t_c156_50 : ¬ ((t).toInt < (tree).toInt) := fun q => c156_50 (cl_lt.mpr q)
          refine s_iconst 160 C X at_159 kc_iconst_1 ?_
          refine s_goto 164 C X at_160 ?_
          refine s_iadd 165 C X at_164 ?_
          refine Run.cast (st' := [(.int (2 : Int32))]) (by rw [kf_2]) ?_
          refine s_lload 167 C X at_165 rfl ?_
          refine s_lload 169 C X at_167 rfl ?_
          refine s_lcmp 170 C X at_169 ?_
          refine s_if_lt 177 173 C X at_170 (fun c => absurd (cl_lt.mp c) (by omega)) (fun c170_51 => ?_)
          have t_c170_51 : ¬ ((t).toInt < (santa).toInt) := fun q => c170_51 (cl_lt.mpr q)
          refine s_iconst 174 C X at_173 kc_iconst_1 ?_
          refine s_goto 178 C X at_174 ?_
          refine s_iadd 179 C X at_178 ?_
          refine Run.cast (st' := [(.int (3 : Int32))]) (by rw [kf_4]) ?_
          refine s_istore 181 C X (l' := #[.val (.long x0), .second, .val (.int x1), .val (.long x2), .second, .val (.long x3), .second, .val (.long x4), .second, .val (.long star), .second, .val (.long tree), .second, .val (.long santa), .second, .val (.int (x1 &&& (3 : Int32))), .val (.long t), .second, .val (.ref o4), .val (.ref o24), .val (.ref aSanta), .val (.int (3 : Int32)), .unset]) at_179 rfl ?_
          refine s_iload 183 C X at_181 rfl ?_
          refine s_if_ne 192 186 C X at_183 (fun _ => ?_) (fun c => absurd c (by decide))
          refine s_iload 194 C X at_192 rfl ?_
          refine s_iconst 195 C X at_194 kc_iconst_1 ?_
          refine s_icmp_ne 206 198 C X at_195 (fun _ => ?_) (fun c => absurd c (by decide))
          refine s_iload 208 C X at_206 rfl ?_
          refine s_iconst 209 C X at_208 kc_iconst_2 ?_
          refine s_icmp_ne 220 212 C X at_209 (fun _ => ?_) (fun c => absurd c (by decide))
          refine s_getstatic 223 C X (host := "") at_220 (Or.inl (List.mem_of_getElem? (i := 80) rfl)) Via.refl (S_SANTA.ext Od.2) (fun T X => ?_)
          refine s_astore 225 C X (l' := #[.val (.long x0), .second, .val (.int x1), .val (.long x2), .second, .val (.long x3), .second, .val (.long x4), .second, .val (.long star), .second, .val (.long tree), .second, .val (.long santa), .second, .val (.int (x1 &&& (3 : Int32))), .val (.long t), .second, .val (.ref o4), .val (.ref o24), .val (.ref aSanta), .val (.int (3 : Int32)), .val (.ref aSanta)]) at_223 rfl rfl ?_
          refine s_aload 227 C X at_225 rfl rfl ?_
          refine s_aload 229 C X at_227 rfl rfl ?_
          refine s_acmp_ne 236 232 C X at_229 rfl rfl (fun c => absurd rfl c) (fun _ => ?_)
          refine s_iconst 233 C X at_232 kc_iconst_1 ?_
          refine s_goto 237 C X at_233 ?_
          refine s_nreturn C X at_237 rfl (by simp) rfl ?_ (hG := FW_end hS Nk (by decide) (by decide))
          rfl
      have t_c65_3 : ((x1 &&& (3 : Int32))).toInt = (1 : Int) := congrArg Int32.toInt c65_3
      refine s_lload 70 C X at_68 rfl ?_
      refine s_goto 75 C X at_70 ?_
      refine s_lstore 77 C X (l' := #[.val (.long x0), .second, .val (.int x1), .val (.long x2), .second, .val (.long x3), .second, .val (.long x4), .second, .val (.long star), .second, .val (.long tree), .second, .val (.long santa), .second, .val (.int (x1 &&& (3 : Int32))), .unset, .unset, .val (.long tree), .second, .unset, .unset, .unset]) at_75 rfl ?_
      refine s_lload 79 C X at_77 rfl ?_
      refine s_lloadN 80 C X at_79 rfl ?_
      refine s_ldc2Long 83 C X at_80 (List.mem_of_getElem? (i := 1) rfl) ?_
      refine s_lrem 84 C X at_83 (by decide) ?_
      refine s_ladd 85 C X at_84 ?_
      obtain ⟨t, e_t⟩ : ∃ zz_ : Int64, zz_ = (tree + (x0 - (x0 / (4 : Int64)) * (4 : Int64))) := ⟨_, rfl⟩
      refine Run.cast (st' := [(.long t)]) (by subst e_t; rfl) ?_
      refine s_lstore 87 C X (l' := #[.val (.long x0), .second, .val (.int x1), .val (.long x2), .second, .val (.long x3), .second, .val (.long x4), .second, .val (.long star), .second, .val (.long tree), .second, .val (.long santa), .second, .val (.int (x1 &&& (3 : Int32))), .val (.long t), .second, .val (.long tree), .second, .unset, .unset, .unset]) at_85 rfl ?_
      refine s_new 90 C X at_87 (List.mem_of_getElem? (i := 2) rfl) (List.mem_of_getElem? (i := 3) rfl) (List.mem_of_getElem? (i := 4) rfl) (fun T hh o56 hb_o56 X E E_o56 D g_o56 => ?_)
      have ne_aE_o56 : aE ≠ o56 := Nat.ne_of_lt (Nat.lt_of_lt_of_le E_aE.lt (Nat.le_of_eq hb_o56))
      have ne_aSanta_o56 : aSanta ≠ o56 := Nat.ne_of_lt (Nat.lt_of_lt_of_le E_aSanta.lt (Nat.le_of_eq hb_o56))
      have ne_aTree_o56 : aTree ≠ o56 := Nat.ne_of_lt (Nat.lt_of_lt_of_le E_aTree.lt (Nat.le_of_eq hb_o56))
      have ne_aStar_o56 : aStar ≠ o56 := Nat.ne_of_lt (Nat.lt_of_lt_of_le E_aStar.lt (Nat.le_of_eq hb_o56))
      have Od := Od.ext E
      have E_aE := E_aE.ext E
      have F_aE_value := F_aE_value.ext E
      have E_aSanta := E_aSanta.ext E
      have E_aTree := E_aTree.ext E
      have E_aStar := E_aStar.ext E
      have F_o56_floor : Fld Z _ o56 "com/example/tinsel_tally/tinseltally/Figures" "floor" "J" (.long (0 : Int64)) := D (Or.inr (hw _ (List.mem_of_getElem? (i := 20) rfl))) (ty := .long) (by decide)
      have F_o56_dDayFirst : Fld Z _ o56 "com/example/tinsel_tally/tinseltally/Figures" "dDayFirst" "J" (.long (0 : Int64)) := D (Or.inr (hw _ (List.mem_of_getElem? (i := 22) rfl))) (ty := .long) (by decide)
      have F_o56_dDayRise : Fld Z _ o56 "com/example/tinsel_tally/tinseltally/Figures" "dDayRise" "J" (.long (0 : Int64)) := D (Or.inr (hw _ (List.mem_of_getElem? (i := 24) rfl))) (ty := .long) (by decide)
      have F_o56_perDessert : Fld Z _ o56 "com/example/tinsel_tally/tinseltally/Figures" "perDessert" "J" (.long (0 : Int64)) := D (Or.inr (hw _ (List.mem_of_getElem? (i := 26) rfl))) (ty := .long) (by decide)
      have F_o56_perMain : Fld Z _ o56 "com/example/tinsel_tally/tinseltally/Figures" "perMain" "J" (.long (0 : Int64)) := D (Or.inr (hw _ (List.mem_of_getElem? (i := 28) rfl))) (ty := .long) (by decide)
      have F_o56_specialDiscount : Fld Z _ o56 "com/example/tinsel_tally/tinseltally/Figures" "specialDiscount" "J" (.long (0 : Int64)) := D (Or.inr (hw _ (List.mem_of_getElem? (i := 30) rfl))) (ty := .long) (by decide)
      have F_o56_giftThreshold : Fld Z _ o56 "com/example/tinsel_tally/tinseltally/Figures" "giftThreshold" "J" (.long (0 : Int64)) := D (Or.inr (hw _ (List.mem_of_getElem? (i := 32) rfl))) (ty := .long) (by decide)
      have F_o56_giftDish : Fld Z _ o56 "com/example/tinsel_tally/tinseltally/Figures" "giftDish" "Ljava/lang/String;" .null := D (Or.inr (hw _ (List.mem_of_getElem? (i := 34) rfl))) (ty := (.object "java/lang/String")) (by decide)
      have F_o56_starThreshold : Fld Z _ o56 "com/example/tinsel_tally/tinseltally/Figures" "starThreshold" "J" (.long (0 : Int64)) := D (Or.inr (hw _ (List.mem_of_getElem? (i := 36) rfl))) (ty := .long) (by decide)
      have F_o56_treeThreshold : Fld Z _ o56 "com/example/tinsel_tally/tinseltally/Figures" "treeThreshold" "J" (.long (0 : Int64)) := D (Or.inr (hw _ (List.mem_of_getElem? (i := 38) rfl))) (ty := .long) (by decide)
      have F_o56_santaThreshold : Fld Z _ o56 "com/example/tinsel_tally/tinseltally/Figures" "santaThreshold" "J" (.long (0 : Int64)) := D (Or.inr (hw _ (List.mem_of_getElem? (i := 40) rfl))) (ty := .long) (by decide)
      refine s_dup 91 C X at_90 rfl ?_
      refine s_lconst 92 C X (z := (0 : Int64)) at_91 rfl ?_
      refine s_lconst 93 C X (z := (0 : Int64)) at_92 rfl ?_
      refine s_lconst 94 C X (z := (0 : Int64)) at_93 rfl ?_
      refine s_lconst 95 C X (z := (0 : Int64)) at_94 rfl ?_
      refine s_lconst 96 C X (z := (0 : Int64)) at_95 rfl ?_
      refine s_lconst 97 C X (z := (0 : Int64)) at_96 rfl ?_
      refine s_lconst 98 C X (z := (0 : Int64)) at_97 rfl ?_
      have wS : ∀ a ∈ Bundle.stringAtoms, a.before a0 Z = true := by
        intro a ha
        simp only [Bundle.stringAtoms, List.mem_cons, List.not_mem_nil, or_false] at ha
        rcases ha with rfl | rfl | rfl | rfl | rfl | rfl | rfl
        · exact hw _ (List.mem_of_getElem? (i := 6) rfl)
        · exact hw _ (List.mem_of_getElem? (i := 7) rfl)
        · exact hw _ (List.mem_of_getElem? (i := 8) rfl)
        · exact hw _ (List.mem_of_getElem? (i := 9) rfl)
        · exact hw _ (List.mem_of_getElem? (i := 10) rfl)
        · exact hw _ (List.mem_of_getElem? (i := 11) rfl)
        · exact hw _ (List.mem_of_getElem? (i := 12) rfl)
      refine s_ldcS1 100 4 C X at_98 (List.mem_of_getElem? (i := 5) rfl) wS (fun T hh t57 k1 C X E hS Nk => ?_)
      have Od := Od.ext E
      have E_aE := E_aE.ext E
      have F_aE_value := F_aE_value.ext E
      have E_aSanta := E_aSanta.ext E
      have E_aTree := E_aTree.ext E
      have E_aStar := E_aStar.ext E
      have E_o56 := E_o56.ext E
      have F_o56_floor := F_o56_floor.ext E
      have F_o56_dDayFirst := F_o56_dDayFirst.ext E
      have F_o56_dDayRise := F_o56_dDayRise.ext E
      have F_o56_perDessert := F_o56_perDessert.ext E
      have F_o56_perMain := F_o56_perMain.ext E
      have F_o56_specialDiscount := F_o56_specialDiscount.ext E
      have F_o56_giftThreshold := F_o56_giftThreshold.ext E
      have F_o56_giftDish := F_o56_giftDish.ext E
      have F_o56_starThreshold := F_o56_starThreshold.ext E
      have F_o56_treeThreshold := F_o56_treeThreshold.ext E
      have F_o56_santaThreshold := F_o56_santaThreshold.ext E
      refine s_lload 102 C X at_100 rfl ?_
      refine s_lload 104 C X at_102 rfl ?_
      refine s_lload 106 C X at_104 rfl ?_
      refine s_callC 109 [(.long (0 : Int64)), (.long (0 : Int64)), (.long (0 : Int64)), (.long (0 : Int64)), (.long (0 : Int64)), (.long (0 : Int64)), (.long (0 : Int64)), (.ref t57), (.long star), (.long tree), (.long santa)] [(.ref o56)] 1 C X at_106 rfl (List.mem_of_getElem? (i := 13) rfl) (List.mem_of_getElem? (i := 14) rfl) (List.mem_of_getElem? (i := 4) rfl) (List.mem_of_getElem? (i := 15) rfl) (rm_a58 l Z a0 hw aSanta aTree aStar aE star tree santa t o56 t57 _ n0 X.sz Od S_E S_SANTA S_TREE S_STAR E_o56 F_o56_floor F_o56_dDayFirst F_o56_dDayRise F_o56_perDessert F_o56_perMain F_o56_specialDiscount F_o56_giftThreshold F_o56_giftDish F_o56_starThreshold F_o56_treeThreshold F_o56_santaThreshold g_o56) (lenOf pd__JJJJJJJLjava_lang_String_JJJ_V rfl) rfl rfl rfl (fun T v hh X q => ?_)
      obtain ⟨rfl, Od, E_o56, F_o56_floor, F_o56_dDayFirst, F_o56_dDayRise, F_o56_perDessert, F_o56_perMain, F_o56_specialDiscount, F_o56_giftThreshold, F_o56_giftDish, F_o56_starThreshold, F_o56_treeThreshold, F_o56_santaThreshold, Kc⟩ := q
      have E_aE := E_aE.keep Kc
      have F_aE_value := F_aE_value.keep Kc (ninS ne_aE_o56 nin0)
      have E_aSanta := E_aSanta.keep Kc
      have E_aTree := E_aTree.keep Kc
      have E_aStar := E_aStar.keep Kc
      have Nk := Nat.le_trans Nk Kc.1
      refine Run.cast (st' := [(.ref o56)]) rfl ?_
      refine s_astore 111 C X (l' := #[.val (.long x0), .second, .val (.int x1), .val (.long x2), .second, .val (.long x3), .second, .val (.long x4), .second, .val (.long star), .second, .val (.long tree), .second, .val (.long santa), .second, .val (.int (x1 &&& (3 : Int32))), .val (.long t), .second, .val (.ref o56), .unset, .unset, .unset, .unset]) at_109 rfl rfl ?_
      refine s_lload 113 C X at_111 rfl ?_
      refine s_aload 115 C X at_113 rfl rfl ?_
      refine s_callS 118 [(.long t), (.ref o56)] [] 0 C X at_115 (List.mem_of_getElem? (i := 41) rfl) (List.mem_of_getElem? (i := 42) rfl) (List.mem_of_getElem? (i := 43) rfl) (List.mem_of_getElem? (i := 44) rfl) (rm_a59 l Z a0 hw aSanta aTree aStar aE star tree santa t o56 t57 _ n0 X.sz Od E_o56 F_o56_floor F_o56_dDayFirst F_o56_dDayRise F_o56_perDessert F_o56_perMain F_o56_specialDiscount F_o56_giftThreshold F_o56_giftDish F_o56_starThreshold F_o56_treeThreshold F_o56_santaThreshold S_E S_SANTA S_TREE S_STAR g_o56) (lenOf pd__JLcom_example_tinsel_tally_tinseltally_Figures__Ljava_util_Optional_ rfl) rfl rfl rfl (fun T v hh X q => ?_)
      obtain ⟨rfl, c10_62, c29_64, c48_66, Kc, E_o56, F_o56_floor, F_o56_dDayFirst, F_o56_dDayRise, F_o56_perDessert, F_o56_perMain, F_o56_specialDiscount, F_o56_giftThreshold, F_o56_giftDish, F_o56_starThreshold, F_o56_treeThreshold, F_o56_santaThreshold, Od⟩ | ⟨o68, rfl, c10_62, c29_64, c48_66, Kc, E_o56, F_o56_floor, F_o56_dDayFirst, F_o56_dDayRise, F_o56_perDessert, F_o56_perMain, F_o56_specialDiscount, F_o56_giftThreshold, F_o56_giftDish, F_o56_starThreshold, F_o56_treeThreshold, F_o56_santaThreshold, E_o68, F_o68_value, Od, ne_o56_o68, sz_o68', g_o68⟩ | ⟨o72, rfl, c10_62, c29_64, Kc, E_o56, F_o56_floor, F_o56_dDayFirst, F_o56_dDayRise, F_o56_perDessert, F_o56_perMain, F_o56_specialDiscount, F_o56_giftThreshold, F_o56_giftDish, F_o56_starThreshold, F_o56_treeThreshold, F_o56_santaThreshold, E_o72, F_o72_value, Od, ne_o56_o72, sz_o72', g_o72⟩ | ⟨o76, rfl, c10_62, Kc, E_o56, F_o56_floor, F_o56_dDayFirst, F_o56_dDayRise, F_o56_perDessert, F_o56_perMain, F_o56_specialDiscount, F_o56_giftThreshold, F_o56_giftDish, F_o56_starThreshold, F_o56_treeThreshold, F_o56_santaThreshold, E_o76, F_o76_value, Od, ne_o56_o76, sz_o76', g_o76⟩ := q
      · have E_aE := E_aE.keep Kc
        have F_aE_value := F_aE_value.keep Kc (ninS ne_aE_o56 nin0)
        have E_aSanta := E_aSanta.keep Kc
        have E_aTree := E_aTree.keep Kc
        have E_aStar := E_aStar.keep Kc
        have Nk := Nat.le_trans Nk Kc.1
        have t_c10_62 : (t).toInt < (santa).toInt := cl_lt.mp c10_62
        have t_c29_64 : (t).toInt < (tree).toInt := cl_lt.mp c29_64
        have t_c48_66 : (t).toInt < (star).toInt := cl_lt.mp c48_66
        refine Run.cast (st' := [(.ref aE)]) rfl ?_
        refine s_astore 120 C X (l' := #[.val (.long x0), .second, .val (.int x1), .val (.long x2), .second, .val (.long x3), .second, .val (.long x4), .second, .val (.long star), .second, .val (.long tree), .second, .val (.long santa), .second, .val (.int (x1 &&& (3 : Int32))), .val (.long t), .second, .val (.ref o56), .val (.ref aE), .unset, .unset, .unset]) at_118 rfl rfl ?_
        refine s_aload 122 C X at_120 rfl rfl ?_
        refine s_ifnonnullY 127 C X at_122 ?_
        refine s_aload 129 C X at_127 rfl rfl ?_
        refine s_aconstNull 130 C X at_129 ?_
        refine s_callV 133 [.null] [] 0 C X at_130 (List.mem_of_getElem? (i := 73) rfl) (List.mem_of_getElem? (i := 74) rfl) (notFace_of_selects (args := #[]) (mvT C.2.1 (C.w (List.mem_of_getElem? (i := 76) rfl)))) (List.mem_of_getElem? (i := 76) rfl) (List.mem_of_getElem? (i := 75) rfl) (List.mem_of_getElem? (i := 47) rfl) (List.mem_of_getElem? (i := 77) rfl) E_aE (rm_a79 l Z a0 hw aSanta aTree aStar aE _ n0 X.sz E_aE F_aE_value Od S_E S_SANTA S_TREE S_STAR) (lenOf pd__Ljava_lang_Object__Ljava_lang_Object_ rfl) rfl rfl rfl (fun T v hh X q => ?_)
        obtain ⟨rfl, E_aE, F_aE_value, Od, Kc⟩ := q
        have E_aSanta := E_aSanta.keep Kc
        have E_aTree := E_aTree.keep Kc
        have E_aStar := E_aStar.keep Kc
        have Nk := Nat.le_trans Nk Kc.1
        have E_o56 := E_o56.keep Kc
        have F_o56_floor := F_o56_floor.keep Kc (ninS (Ne.symm ne_aE_o56) nin0)
        have F_o56_dDayFirst := F_o56_dDayFirst.keep Kc (ninS (Ne.symm ne_aE_o56) nin0)
        have F_o56_dDayRise := F_o56_dDayRise.keep Kc (ninS (Ne.symm ne_aE_o56) nin0)
        have F_o56_perDessert := F_o56_perDessert.keep Kc (ninS (Ne.symm ne_aE_o56) nin0)
        have F_o56_perMain := F_o56_perMain.keep Kc (ninS (Ne.symm ne_aE_o56) nin0)
        have F_o56_specialDiscount := F_o56_specialDiscount.keep Kc (ninS (Ne.symm ne_aE_o56) nin0)
        have F_o56_giftThreshold := F_o56_giftThreshold.keep Kc (ninS (Ne.symm ne_aE_o56) nin0)
        have F_o56_giftDish := F_o56_giftDish.keep Kc (ninS (Ne.symm ne_aE_o56) nin0)
        have F_o56_starThreshold := F_o56_starThreshold.keep Kc (ninS (Ne.symm ne_aE_o56) nin0)
        have F_o56_treeThreshold := F_o56_treeThreshold.keep Kc (ninS (Ne.symm ne_aE_o56) nin0)
        have F_o56_santaThreshold := F_o56_santaThreshold.keep Kc (ninS (Ne.symm ne_aE_o56) nin0)
        refine Run.cast (st' := [.null]) rfl ?_
        refine s_castNull 136 C X at_133 ?_
        refine s_astore 138 C X (l' := #[.val (.long x0), .second, .val (.int x1), .val (.long x2), .second, .val (.long x3), .second, .val (.long x4), .second, .val (.long star), .second, .val (.long tree), .second, .val (.long santa), .second, .val (.int (x1 &&& (3 : Int32))), .val (.long t), .second, .val (.ref o56), .val (.ref aE), .val .null, .unset, .unset]) at_136 rfl rfl ?_
        refine s_lload 140 C X at_138 rfl ?_
        refine s_lload 142 C X at_140 rfl ?_
        refine s_lcmp 143 C X at_142 ?_
        refine s_if_lt 150 146 C X at_143 (fun c143_80 => ?_) (fun c => absurd (cl_lt.mpr (by omega)) c)
        have t_c143_80 : (t).toInt < (star).toInt := cl_lt.mp c143_80
        refine s_iconst 151 C X at_150 kc_iconst_0 ?_
        refine s_lload 153 C X at_151 rfl ?_
        refine s_lload 155 C X at_153 rfl ?_
        refine s_lcmp 156 C X at_155 ?_
        refine s_if_lt 163 159 C X at_156 (fun c156_81 => ?_) (fun c => absurd (cl_lt.mpr (by omega)) c)
        have t_c156_81 : (t).toInt < (tree).toInt := cl_lt.mp c156_81
        refine s_iconst 164 C X at_163 kc_iconst_0 ?_
        refine s_iadd 165 C X at_164 ?_
        refine Run.cast (st' := [(.int (0 : Int32))]) (by rw [kf_0]) ?_
        refine s_lload 167 C X at_165 rfl ?_
        refine s_lload 169 C X at_167 rfl ?_
        refine s_lcmp 170 C X at_169 ?_
        refine s_if_lt 177 173 C X at_170 (fun c170_82 => ?_) (fun c => absurd (cl_lt.mpr (by omega)) c)
        have t_c170_82 : (t).toInt < (santa).toInt := cl_lt.mp c170_82
        refine s_iconst 178 C X at_177 kc_iconst_0 ?_
        refine s_iadd 179 C X at_178 ?_
        refine Run.cast (st' := [(.int (0 : Int32))]) (by rw [kf_0]) ?_
        refine s_istore 181 C X (l' := #[.val (.long x0), .second, .val (.int x1), .val (.long x2), .second, .val (.long x3), .second, .val (.long x4), .second, .val (.long star), .second, .val (.long tree), .second, .val (.long santa), .second, .val (.int (x1 &&& (3 : Int32))), .val (.long t), .second, .val (.ref o56), .val (.ref aE), .val .null, .val (.int (0 : Int32)), .unset]) at_179 rfl ?_
        refine s_iload 183 C X at_181 rfl ?_
        refine s_if_ne 192 186 C X at_183 (fun c => absurd (by decide : (0 : Int32) = (0 : Int32)) c) (fun _ => ?_)
        refine s_aconstNull 187 C X at_186 ?_
        refine s_astore 189 C X (l' := #[.val (.long x0), .second, .val (.int x1), .val (.long x2), .second, .val (.long x3), .second, .val (.long x4), .second, .val (.long star), .second, .val (.long tree), .second, .val (.long santa), .second, .val (.int (x1 &&& (3 : Int32))), .val (.long t), .second, .val (.ref o56), .val (.ref aE), .val .null, .val (.int (0 : Int32)), .val .null]) at_187 rfl rfl ?_
        refine s_goto 225 C X at_189 ?_
        refine s_aload 227 C X at_225 rfl rfl ?_
        refine s_aload 229 C X at_227 rfl rfl ?_
        refine s_acmp_ne 236 232 C X at_229 rfl rfl (fun c => absurd rfl c) (fun _ => ?_)
        refine s_iconst 233 C X at_232 kc_iconst_1 ?_
        refine s_goto 237 C X at_233 ?_
        refine s_nreturn C X at_237 rfl (by simp) rfl ?_ (hG := FW_end hS Nk (by decide) (by decide))
        rfl
      · have ne_aE_o68 : aE ≠ o68 := Nat.ne_of_lt (Nat.lt_of_lt_of_le E_aE.lt sz_o68')
        have ne_aSanta_o68 : aSanta ≠ o68 := Nat.ne_of_lt (Nat.lt_of_lt_of_le E_aSanta.lt sz_o68')
        have ne_aTree_o68 : aTree ≠ o68 := Nat.ne_of_lt (Nat.lt_of_lt_of_le E_aTree.lt sz_o68')
        have ne_aStar_o68 : aStar ≠ o68 := Nat.ne_of_lt (Nat.lt_of_lt_of_le E_aStar.lt sz_o68')
        have E_aE := E_aE.keep Kc
        have F_aE_value := F_aE_value.keep Kc (ninS ne_aE_o56 nin0)
        have E_aSanta := E_aSanta.keep Kc
        have E_aTree := E_aTree.keep Kc
        have E_aStar := E_aStar.keep Kc
        have Nk := Nat.le_trans Nk Kc.1
        have t_c10_62 : (t).toInt < (santa).toInt := cl_lt.mp c10_62
        have t_c29_64 : (t).toInt < (tree).toInt := cl_lt.mp c29_64
        have t_c48_66 : ¬ ((t).toInt < (star).toInt) := fun q => c48_66 (cl_lt.mpr q)
        refine Run.cast (st' := [(.ref o68)]) rfl ?_
        refine s_astore 120 C X (l' := #[.val (.long x0), .second, .val (.int x1), .val (.long x2), .second, .val (.long x3), .second, .val (.long x4), .second, .val (.long star), .second, .val (.long tree), .second, .val (.long santa), .second, .val (.int (x1 &&& (3 : Int32))), .val (.long t), .second, .val (.ref o56), .val (.ref o68), .unset, .unset, .unset]) at_118 rfl rfl ?_
        refine s_aload 122 C X at_120 rfl rfl ?_
        refine s_ifnonnullY 127 C X at_122 ?_
        refine s_aload 129 C X at_127 rfl rfl ?_
        refine s_aconstNull 130 C X at_129 ?_
        refine s_callV 133 [.null] [] 0 C X at_130 (List.mem_of_getElem? (i := 73) rfl) (List.mem_of_getElem? (i := 74) rfl) (notFace_of_selects (args := #[]) (mvT C.2.1 (C.w (List.mem_of_getElem? (i := 76) rfl)))) (List.mem_of_getElem? (i := 76) rfl) (List.mem_of_getElem? (i := 75) rfl) (List.mem_of_getElem? (i := 47) rfl) (List.mem_of_getElem? (i := 77) rfl) E_o68 (rm_a85 l Z a0 hw aSanta aTree aStar aE o68 _ n0 X.sz E_aStar E_o68 F_o68_value Od S_E S_SANTA S_TREE S_STAR ne_aStar_o68 g_o68) (lenOf pd__Ljava_lang_Object__Ljava_lang_Object_ rfl) rfl rfl rfl (fun T v hh X q => ?_)
        obtain ⟨rfl, E_aStar, E_o68, F_o68_value, Od, Kc⟩ := q
        have E_aE := E_aE.keep Kc
        have F_aE_value := F_aE_value.keep Kc (ninS ne_aE_o68 (ninS ne_aE_aStar nin0))
        have E_aSanta := E_aSanta.keep Kc
        have E_aTree := E_aTree.keep Kc
        have Nk := Nat.le_trans Nk Kc.1
        have E_o56 := E_o56.keep Kc
        have F_o56_floor := F_o56_floor.keep Kc (ninS ne_o56_o68 (ninS (Ne.symm ne_aStar_o56) nin0))
        have F_o56_dDayFirst := F_o56_dDayFirst.keep Kc (ninS ne_o56_o68 (ninS (Ne.symm ne_aStar_o56) nin0))
        have F_o56_dDayRise := F_o56_dDayRise.keep Kc (ninS ne_o56_o68 (ninS (Ne.symm ne_aStar_o56) nin0))
        have F_o56_perDessert := F_o56_perDessert.keep Kc (ninS ne_o56_o68 (ninS (Ne.symm ne_aStar_o56) nin0))
        have F_o56_perMain := F_o56_perMain.keep Kc (ninS ne_o56_o68 (ninS (Ne.symm ne_aStar_o56) nin0))
        have F_o56_specialDiscount := F_o56_specialDiscount.keep Kc (ninS ne_o56_o68 (ninS (Ne.symm ne_aStar_o56) nin0))
        have F_o56_giftThreshold := F_o56_giftThreshold.keep Kc (ninS ne_o56_o68 (ninS (Ne.symm ne_aStar_o56) nin0))
        have F_o56_giftDish := F_o56_giftDish.keep Kc (ninS ne_o56_o68 (ninS (Ne.symm ne_aStar_o56) nin0))
        have F_o56_starThreshold := F_o56_starThreshold.keep Kc (ninS ne_o56_o68 (ninS (Ne.symm ne_aStar_o56) nin0))
        have F_o56_treeThreshold := F_o56_treeThreshold.keep Kc (ninS ne_o56_o68 (ninS (Ne.symm ne_aStar_o56) nin0))
        have F_o56_santaThreshold := F_o56_santaThreshold.keep Kc (ninS ne_o56_o68 (ninS (Ne.symm ne_aStar_o56) nin0))
        refine Run.cast (st' := [(.ref aStar)]) rfl ?_
        refine s_castY 136 C X at_133 (List.mem_of_getElem? (i := 78) rfl) (Ins.self E_aStar) (fun T X => ?_)
        refine s_astore 138 C X (l' := #[.val (.long x0), .second, .val (.int x1), .val (.long x2), .second, .val (.long x3), .second, .val (.long x4), .second, .val (.long star), .second, .val (.long tree), .second, .val (.long santa), .second, .val (.int (x1 &&& (3 : Int32))), .val (.long t), .second, .val (.ref o56), .val (.ref o68), .val (.ref aStar), .unset, .unset]) at_136 rfl rfl ?_
        refine s_lload 140 C X at_138 rfl ?_
        refine s_lload 142 C X at_140 rfl ?_
        refine s_lcmp 143 C X at_142 ?_
        refine s_if_lt 150 146 C X at_143 (fun c => absurd (cl_lt.mp c) (by omega)) (fun c143_86 => ?_)
        have t_c143_86 : ¬ ((t).toInt < (star).toInt) := fun q => c143_86 (cl_lt.mpr q)
        refine s_iconst 147 C X at_146 kc_iconst_1 ?_
        refine s_goto 151 C X at_147 ?_
        refine s_lload 153 C X at_151 rfl ?_
        refine s_lload 155 C X at_153 rfl ?_
        refine s_lcmp 156 C X at_155 ?_
        refine s_if_lt 163 159 C X at_156 (fun c156_87 => ?_) (fun c => absurd (cl_lt.mpr (by omega)) c)
        have t_c156_87 : (t).toInt < (tree).toInt := cl_lt.mp c156_87
        refine s_iconst 164 C X at_163 kc_iconst_0 ?_
        refine s_iadd 165 C X at_164 ?_
        refine Run.cast (st' := [(.int (1 : Int32))]) (by rw [kf_1]) ?_
        refine s_lload 167 C X at_165 rfl ?_
        refine s_lload 169 C X at_167 rfl ?_
        refine s_lcmp 170 C X at_169 ?_
        refine s_if_lt 177 173 C X at_170 (fun c170_88 => ?_) (fun c => absurd (cl_lt.mpr (by omega)) c)
        have t_c170_88 : (t).toInt < (santa).toInt := cl_lt.mp c170_88
        refine s_iconst 178 C X at_177 kc_iconst_0 ?_
        refine s_iadd 179 C X at_178 ?_
        refine Run.cast (st' := [(.int (1 : Int32))]) (by rw [kf_1]) ?_
        refine s_istore 181 C X (l' := #[.val (.long x0), .second, .val (.int x1), .val (.long x2), .second, .val (.long x3), .second, .val (.long x4), .second, .val (.long star), .second, .val (.long tree), .second, .val (.long santa), .second, .val (.int (x1 &&& (3 : Int32))), .val (.long t), .second, .val (.ref o56), .val (.ref o68), .val (.ref aStar), .val (.int (1 : Int32)), .unset]) at_179 rfl ?_
        refine s_iload 183 C X at_181 rfl ?_
        refine s_if_ne 192 186 C X at_183 (fun _ => ?_) (fun c => absurd c (by decide))
        refine s_iload 194 C X at_192 rfl ?_
        refine s_iconst 195 C X at_194 kc_iconst_1 ?_
        refine s_icmp_ne 206 198 C X at_195 (fun c => absurd (by decide : (1 : Int32) = (1 : Int32)) c) (fun _ => ?_)
        refine s_getstatic 201 C X (host := "") at_198 (Or.inl (List.mem_of_getElem? (i := 96) rfl)) Via.refl (S_STAR.ext Od.2) (fun T X => ?_)
        refine s_astore 203 C X (l' := #[.val (.long x0), .second, .val (.int x1), .val (.long x2), .second, .val (.long x3), .second, .val (.long x4), .second, .val (.long star), .second, .val (.long tree), .second, .val (.long santa), .second, .val (.int (x1 &&& (3 : Int32))), .val (.long t), .second, .val (.ref o56), .val (.ref o68), .val (.ref aStar), .val (.int (1 : Int32)), .val (.ref aStar)]) at_201 rfl rfl ?_
        refine s_goto 225 C X at_203 ?_
        refine s_aload 227 C X at_225 rfl rfl ?_
        refine s_aload 229 C X at_227 rfl rfl ?_
        refine s_acmp_ne 236 232 C X at_229 rfl rfl (fun c => absurd rfl c) (fun _ => ?_)
        refine s_iconst 233 C X at_232 kc_iconst_1 ?_
        refine s_goto 237 C X at_233 ?_
        refine s_nreturn C X at_237 rfl (by simp) rfl ?_ (hG := FW_end hS Nk (by decide) (by decide))
        rfl
      · have ne_aE_o72 : aE ≠ o72 := Nat.ne_of_lt (Nat.lt_of_lt_of_le E_aE.lt sz_o72')
        have ne_aSanta_o72 : aSanta ≠ o72 := Nat.ne_of_lt (Nat.lt_of_lt_of_le E_aSanta.lt sz_o72')
        have ne_aTree_o72 : aTree ≠ o72 := Nat.ne_of_lt (Nat.lt_of_lt_of_le E_aTree.lt sz_o72')
        have ne_aStar_o72 : aStar ≠ o72 := Nat.ne_of_lt (Nat.lt_of_lt_of_le E_aStar.lt sz_o72')
        have E_aE := E_aE.keep Kc
        have F_aE_value := F_aE_value.keep Kc (ninS ne_aE_o56 nin0)
        have E_aSanta := E_aSanta.keep Kc
        have E_aTree := E_aTree.keep Kc
        have E_aStar := E_aStar.keep Kc
        have Nk := Nat.le_trans Nk Kc.1
        have t_c10_62 : (t).toInt < (santa).toInt := cl_lt.mp c10_62
        have t_c29_64 : ¬ ((t).toInt < (tree).toInt) := fun q => c29_64 (cl_lt.mpr q)
        refine Run.cast (st' := [(.ref o72)]) rfl ?_
        refine s_astore 120 C X (l' := #[.val (.long x0), .second, .val (.int x1), .val (.long x2), .second, .val (.long x3), .second, .val (.long x4), .second, .val (.long star), .second, .val (.long tree), .second, .val (.long santa), .second, .val (.int (x1 &&& (3 : Int32))), .val (.long t), .second, .val (.ref o56), .val (.ref o72), .unset, .unset, .unset]) at_118 rfl rfl ?_
        refine s_aload 122 C X at_120 rfl rfl ?_
        refine s_ifnonnullY 127 C X at_122 ?_
        refine s_aload 129 C X at_127 rfl rfl ?_
        refine s_aconstNull 130 C X at_129 ?_
        refine s_callV 133 [.null] [] 0 C X at_130 (List.mem_of_getElem? (i := 73) rfl) (List.mem_of_getElem? (i := 74) rfl) (notFace_of_selects (args := #[]) (mvT C.2.1 (C.w (List.mem_of_getElem? (i := 76) rfl)))) (List.mem_of_getElem? (i := 76) rfl) (List.mem_of_getElem? (i := 75) rfl) (List.mem_of_getElem? (i := 47) rfl) (List.mem_of_getElem? (i := 77) rfl) E_o72 (rm_a92 l Z a0 hw aSanta aTree aStar aE o72 _ n0 X.sz E_aTree E_o72 F_o72_value Od S_E S_SANTA S_TREE S_STAR ne_aTree_o72 g_o72) (lenOf pd__Ljava_lang_Object__Ljava_lang_Object_ rfl) rfl rfl rfl (fun T v hh X q => ?_)
        obtain ⟨rfl, E_aTree, E_o72, F_o72_value, Od, Kc⟩ := q
        have E_aE := E_aE.keep Kc
        have F_aE_value := F_aE_value.keep Kc (ninS ne_aE_o72 (ninS ne_aE_aTree nin0))
        have E_aSanta := E_aSanta.keep Kc
        have E_aStar := E_aStar.keep Kc
        have Nk := Nat.le_trans Nk Kc.1
        have E_o56 := E_o56.keep Kc
        have F_o56_floor := F_o56_floor.keep Kc (ninS ne_o56_o72 (ninS (Ne.symm ne_aTree_o56) nin0))
        have F_o56_dDayFirst := F_o56_dDayFirst.keep Kc (ninS ne_o56_o72 (ninS (Ne.symm ne_aTree_o56) nin0))
        have F_o56_dDayRise := F_o56_dDayRise.keep Kc (ninS ne_o56_o72 (ninS (Ne.symm ne_aTree_o56) nin0))
        have F_o56_perDessert := F_o56_perDessert.keep Kc (ninS ne_o56_o72 (ninS (Ne.symm ne_aTree_o56) nin0))
        have F_o56_perMain := F_o56_perMain.keep Kc (ninS ne_o56_o72 (ninS (Ne.symm ne_aTree_o56) nin0))
        have F_o56_specialDiscount := F_o56_specialDiscount.keep Kc (ninS ne_o56_o72 (ninS (Ne.symm ne_aTree_o56) nin0))
        have F_o56_giftThreshold := F_o56_giftThreshold.keep Kc (ninS ne_o56_o72 (ninS (Ne.symm ne_aTree_o56) nin0))
        have F_o56_giftDish := F_o56_giftDish.keep Kc (ninS ne_o56_o72 (ninS (Ne.symm ne_aTree_o56) nin0))
        have F_o56_starThreshold := F_o56_starThreshold.keep Kc (ninS ne_o56_o72 (ninS (Ne.symm ne_aTree_o56) nin0))
        have F_o56_treeThreshold := F_o56_treeThreshold.keep Kc (ninS ne_o56_o72 (ninS (Ne.symm ne_aTree_o56) nin0))
        have F_o56_santaThreshold := F_o56_santaThreshold.keep Kc (ninS ne_o56_o72 (ninS (Ne.symm ne_aTree_o56) nin0))
        refine Run.cast (st' := [(.ref aTree)]) rfl ?_
        refine s_castY 136 C X at_133 (List.mem_of_getElem? (i := 78) rfl) (Ins.self E_aTree) (fun T X => ?_)
        refine s_astore 138 C X (l' := #[.val (.long x0), .second, .val (.int x1), .val (.long x2), .second, .val (.long x3), .second, .val (.long x4), .second, .val (.long star), .second, .val (.long tree), .second, .val (.long santa), .second, .val (.int (x1 &&& (3 : Int32))), .val (.long t), .second, .val (.ref o56), .val (.ref o72), .val (.ref aTree), .unset, .unset]) at_136 rfl rfl ?_
        refine s_lload 140 C X at_138 rfl ?_
        refine s_lload 142 C X at_140 rfl ?_
        refine s_lcmp 143 C X at_142 ?_
        refine s_if_lt 150 146 C X at_143 (fun c => absurd (cl_lt.mp c) (by omega)) (fun c143_93 => ?_)
        have t_c143_93 : ¬ ((t).toInt < (star).toInt) := fun q => c143_93 (cl_lt.mpr q)
        refine s_iconst 147 C X at_146 kc_iconst_1 ?_
        refine s_goto 151 C X at_147 ?_
        refine s_lload 153 C X at_151 rfl ?_
        refine s_lload 155 C X at_153 rfl ?_
        refine s_lcmp 156 C X at_155 ?_
        refine s_if_lt 163 159 C X at_156 (fun c => absurd (cl_lt.mp c) (by omega)) (fun c156_94 => ?_)
        have t_c156_94 : ¬ ((t).toInt < (tree).toInt) := fun q => c156_94 (cl_lt.mpr q)
        refine s_iconst 160 C X at_159 kc_iconst_1 ?_
        refine s_goto 164 C X at_160 ?_
        refine s_iadd 165 C X at_164 ?_
        refine Run.cast (st' := [(.int (2 : Int32))]) (by rw [kf_2]) ?_
        refine s_lload 167 C X at_165 rfl ?_
        refine s_lload 169 C X at_167 rfl ?_
        refine s_lcmp 170 C X at_169 ?_
        refine s_if_lt 177 173 C X at_170 (fun c170_95 => ?_) (fun c => absurd (cl_lt.mpr (by omega)) c)
        have t_c170_95 : (t).toInt < (santa).toInt := cl_lt.mp c170_95
        refine s_iconst 178 C X at_177 kc_iconst_0 ?_
        refine s_iadd 179 C X at_178 ?_
        refine Run.cast (st' := [(.int (2 : Int32))]) (by rw [kf_3]) ?_
        refine s_istore 181 C X (l' := #[.val (.long x0), .second, .val (.int x1), .val (.long x2), .second, .val (.long x3), .second, .val (.long x4), .second, .val (.long star), .second, .val (.long tree), .second, .val (.long santa), .second, .val (.int (x1 &&& (3 : Int32))), .val (.long t), .second, .val (.ref o56), .val (.ref o72), .val (.ref aTree), .val (.int (2 : Int32)), .unset]) at_179 rfl ?_
        refine s_iload 183 C X at_181 rfl ?_
        refine s_if_ne 192 186 C X at_183 (fun _ => ?_) (fun c => absurd c (by decide))
        refine s_iload 194 C X at_192 rfl ?_
        refine s_iconst 195 C X at_194 kc_iconst_1 ?_
        refine s_icmp_ne 206 198 C X at_195 (fun _ => ?_) (fun c => absurd c (by decide))
        refine s_iload 208 C X at_206 rfl ?_
        refine s_iconst 209 C X at_208 kc_iconst_2 ?_
        refine s_icmp_ne 220 212 C X at_209 (fun c => absurd (by decide : (2 : Int32) = (2 : Int32)) c) (fun _ => ?_)
        refine s_getstatic 215 C X (host := "") at_212 (Or.inl (List.mem_of_getElem? (i := 88) rfl)) Via.refl (S_TREE.ext Od.2) (fun T X => ?_)
        refine s_astore 217 C X (l' := #[.val (.long x0), .second, .val (.int x1), .val (.long x2), .second, .val (.long x3), .second, .val (.long x4), .second, .val (.long star), .second, .val (.long tree), .second, .val (.long santa), .second, .val (.int (x1 &&& (3 : Int32))), .val (.long t), .second, .val (.ref o56), .val (.ref o72), .val (.ref aTree), .val (.int (2 : Int32)), .val (.ref aTree)]) at_215 rfl rfl ?_
        refine s_goto 225 C X at_217 ?_
        refine s_aload 227 C X at_225 rfl rfl ?_
        refine s_aload 229 C X at_227 rfl rfl ?_
        refine s_acmp_ne 236 232 C X at_229 rfl rfl (fun c => absurd rfl c) (fun _ => ?_)
        refine s_iconst 233 C X at_232 kc_iconst_1 ?_
        refine s_goto 237 C X at_233 ?_
        refine s_nreturn C X at_237 rfl (by simp) rfl ?_ (hG := FW_end hS Nk (by decide) (by decide))
        rfl
      · have ne_aE_o76 : aE ≠ o76 := Nat.ne_of_lt (Nat.lt_of_lt_of_le E_aE.lt sz_o76')
        have ne_aSanta_o76 : aSanta ≠ o76 := Nat.ne_of_lt (Nat.lt_of_lt_of_le E_aSanta.lt sz_o76')
        have ne_aTree_o76 : aTree ≠ o76 := Nat.ne_of_lt (Nat.lt_of_lt_of_le E_aTree.lt sz_o76')
        have ne_aStar_o76 : aStar ≠ o76 := Nat.ne_of_lt (Nat.lt_of_lt_of_le E_aStar.lt sz_o76')
        have E_aE := E_aE.keep Kc
        have F_aE_value := F_aE_value.keep Kc (ninS ne_aE_o56 nin0)
        have E_aSanta := E_aSanta.keep Kc
        have E_aTree := E_aTree.keep Kc
        have E_aStar := E_aStar.keep Kc
        have Nk := Nat.le_trans Nk Kc.1
        have t_c10_62 : ¬ ((t).toInt < (santa).toInt) := fun q => c10_62 (cl_lt.mpr q)
        refine Run.cast (st' := [(.ref o76)]) rfl ?_
        refine s_astore 120 C X (l' := #[.val (.long x0), .second, .val (.int x1), .val (.long x2), .second, .val (.long x3), .second, .val (.long x4), .second, .val (.long star), .second, .val (.long tree), .second, .val (.long santa), .second, .val (.int (x1 &&& (3 : Int32))), .val (.long t), .second, .val (.ref o56), .val (.ref o76), .unset, .unset, .unset]) at_118 rfl rfl ?_
        refine s_aload 122 C X at_120 rfl rfl ?_
        refine s_ifnonnullY 127 C X at_122 ?_
        refine s_aload 129 C X at_127 rfl rfl ?_
        refine s_aconstNull 130 C X at_129 ?_
        refine s_callV 133 [.null] [] 0 C X at_130 (List.mem_of_getElem? (i := 73) rfl) (List.mem_of_getElem? (i := 74) rfl) (notFace_of_selects (args := #[]) (mvT C.2.1 (C.w (List.mem_of_getElem? (i := 76) rfl)))) (List.mem_of_getElem? (i := 76) rfl) (List.mem_of_getElem? (i := 75) rfl) (List.mem_of_getElem? (i := 47) rfl) (List.mem_of_getElem? (i := 77) rfl) E_o76 (rm_a100 l Z a0 hw aSanta aTree aStar aE o76 _ n0 X.sz E_aSanta E_o76 F_o76_value Od S_E S_SANTA S_TREE S_STAR ne_aSanta_o76 g_o76) (lenOf pd__Ljava_lang_Object__Ljava_lang_Object_ rfl) rfl rfl rfl (fun T v hh X q => ?_)
        obtain ⟨rfl, E_aSanta, E_o76, F_o76_value, Od, Kc⟩ := q
        have E_aE := E_aE.keep Kc
        have F_aE_value := F_aE_value.keep Kc (ninS ne_aE_o76 (ninS ne_aE_aSanta nin0))
        have E_aTree := E_aTree.keep Kc
        have E_aStar := E_aStar.keep Kc
        have Nk := Nat.le_trans Nk Kc.1
        have E_o56 := E_o56.keep Kc
        have F_o56_floor := F_o56_floor.keep Kc (ninS ne_o56_o76 (ninS (Ne.symm ne_aSanta_o56) nin0))
        have F_o56_dDayFirst := F_o56_dDayFirst.keep Kc (ninS ne_o56_o76 (ninS (Ne.symm ne_aSanta_o56) nin0))
        have F_o56_dDayRise := F_o56_dDayRise.keep Kc (ninS ne_o56_o76 (ninS (Ne.symm ne_aSanta_o56) nin0))
        have F_o56_perDessert := F_o56_perDessert.keep Kc (ninS ne_o56_o76 (ninS (Ne.symm ne_aSanta_o56) nin0))
        have F_o56_perMain := F_o56_perMain.keep Kc (ninS ne_o56_o76 (ninS (Ne.symm ne_aSanta_o56) nin0))
        have F_o56_specialDiscount := F_o56_specialDiscount.keep Kc (ninS ne_o56_o76 (ninS (Ne.symm ne_aSanta_o56) nin0))
        have F_o56_giftThreshold := F_o56_giftThreshold.keep Kc (ninS ne_o56_o76 (ninS (Ne.symm ne_aSanta_o56) nin0))
        have F_o56_giftDish := F_o56_giftDish.keep Kc (ninS ne_o56_o76 (ninS (Ne.symm ne_aSanta_o56) nin0))
        have F_o56_starThreshold := F_o56_starThreshold.keep Kc (ninS ne_o56_o76 (ninS (Ne.symm ne_aSanta_o56) nin0))
        have F_o56_treeThreshold := F_o56_treeThreshold.keep Kc (ninS ne_o56_o76 (ninS (Ne.symm ne_aSanta_o56) nin0))
        have F_o56_santaThreshold := F_o56_santaThreshold.keep Kc (ninS ne_o56_o76 (ninS (Ne.symm ne_aSanta_o56) nin0))
        refine Run.cast (st' := [(.ref aSanta)]) rfl ?_
        refine s_castY 136 C X at_133 (List.mem_of_getElem? (i := 78) rfl) (Ins.self E_aSanta) (fun T X => ?_)
        refine s_astore 138 C X (l' := #[.val (.long x0), .second, .val (.int x1), .val (.long x2), .second, .val (.long x3), .second, .val (.long x4), .second, .val (.long star), .second, .val (.long tree), .second, .val (.long santa), .second, .val (.int (x1 &&& (3 : Int32))), .val (.long t), .second, .val (.ref o56), .val (.ref o76), .val (.ref aSanta), .unset, .unset]) at_136 rfl rfl ?_
        refine s_lload 140 C X at_138 rfl ?_
        refine s_lload 142 C X at_140 rfl ?_
        refine s_lcmp 143 C X at_142 ?_
        refine s_if_lt 150 146 C X at_143 (fun c => absurd (cl_lt.mp c) (by omega)) (fun c143_101 => ?_)
        have t_c143_101 : ¬ ((t).toInt < (star).toInt) := fun q => c143_101 (cl_lt.mpr q)
        refine s_iconst 147 C X at_146 kc_iconst_1 ?_
        refine s_goto 151 C X at_147 ?_
        refine s_lload 153 C X at_151 rfl ?_
        refine s_lload 155 C X at_153 rfl ?_
        refine s_lcmp 156 C X at_155 ?_
        refine s_if_lt 163 159 C X at_156 (fun c => absurd (cl_lt.mp c) (by omega)) (fun c156_102 => ?_)
        have t_c156_102 : ¬ ((t).toInt < (tree).toInt) := fun q => c156_102 (cl_lt.mpr q)
        refine s_iconst 160 C X at_159 kc_iconst_1 ?_
        refine s_goto 164 C X at_160 ?_
        refine s_iadd 165 C X at_164 ?_
        refine Run.cast (st' := [(.int (2 : Int32))]) (by rw [kf_2]) ?_
        refine s_lload 167 C X at_165 rfl ?_
        refine s_lload 169 C X at_167 rfl ?_
        refine s_lcmp 170 C X at_169 ?_
        refine s_if_lt 177 173 C X at_170 (fun c => absurd (cl_lt.mp c) (by omega)) (fun c170_103 => ?_)
        have t_c170_103 : ¬ ((t).toInt < (santa).toInt) := fun q => c170_103 (cl_lt.mpr q)
        refine s_iconst 174 C X at_173 kc_iconst_1 ?_
        refine s_goto 178 C X at_174 ?_
        refine s_iadd 179 C X at_178 ?_
        refine Run.cast (st' := [(.int (3 : Int32))]) (by rw [kf_4]) ?_
        refine s_istore 181 C X (l' := #[.val (.long x0), .second, .val (.int x1), .val (.long x2), .second, .val (.long x3), .second, .val (.long x4), .second, .val (.long star), .second, .val (.long tree), .second, .val (.long santa), .second, .val (.int (x1 &&& (3 : Int32))), .val (.long t), .second, .val (.ref o56), .val (.ref o76), .val (.ref aSanta), .val (.int (3 : Int32)), .unset]) at_179 rfl ?_
        refine s_iload 183 C X at_181 rfl ?_
        refine s_if_ne 192 186 C X at_183 (fun _ => ?_) (fun c => absurd c (by decide))
        refine s_iload 194 C X at_192 rfl ?_
        refine s_iconst 195 C X at_194 kc_iconst_1 ?_
        refine s_icmp_ne 206 198 C X at_195 (fun _ => ?_) (fun c => absurd c (by decide))
        refine s_iload 208 C X at_206 rfl ?_
        refine s_iconst 209 C X at_208 kc_iconst_2 ?_
        refine s_icmp_ne 220 212 C X at_209 (fun _ => ?_) (fun c => absurd c (by decide))
        refine s_getstatic 223 C X (host := "") at_220 (Or.inl (List.mem_of_getElem? (i := 80) rfl)) Via.refl (S_SANTA.ext Od.2) (fun T X => ?_)
        refine s_astore 225 C X (l' := #[.val (.long x0), .second, .val (.int x1), .val (.long x2), .second, .val (.long x3), .second, .val (.long x4), .second, .val (.long star), .second, .val (.long tree), .second, .val (.long santa), .second, .val (.int (x1 &&& (3 : Int32))), .val (.long t), .second, .val (.ref o56), .val (.ref o76), .val (.ref aSanta), .val (.int (3 : Int32)), .val (.ref aSanta)]) at_223 rfl rfl ?_
        refine s_aload 227 C X at_225 rfl rfl ?_
        refine s_aload 229 C X at_227 rfl rfl ?_
        refine s_acmp_ne 236 232 C X at_229 rfl rfl (fun c => absurd rfl c) (fun _ => ?_)
        refine s_iconst 233 C X at_232 kc_iconst_1 ?_
        refine s_goto 237 C X at_233 ?_
        refine s_nreturn C X at_237 rfl (by simp) rfl ?_ (hG := FW_end hS Nk (by decide) (by decide))
        rfl
    have t_c54_2 : ((x1 &&& (3 : Int32))).toInt = (0 : Int) := congrArg Int32.toInt c54_2
    refine s_lload 59 C X at_57 rfl ?_
    refine s_goto 75 C X at_59 ?_
    refine s_lstore 77 C X (l' := #[.val (.long x0), .second, .val (.int x1), .val (.long x2), .second, .val (.long x3), .second, .val (.long x4), .second, .val (.long star), .second, .val (.long tree), .second, .val (.long santa), .second, .val (.int (x1 &&& (3 : Int32))), .unset, .unset, .val (.long star), .second, .unset, .unset, .unset]) at_75 rfl ?_
    refine s_lload 79 C X at_77 rfl ?_
    refine s_lloadN 80 C X at_79 rfl ?_
    refine s_ldc2Long 83 C X at_80 (List.mem_of_getElem? (i := 1) rfl) ?_
    refine s_lrem 84 C X at_83 (by decide) ?_
    refine s_ladd 85 C X at_84 ?_
    obtain ⟨t, e_t⟩ : ∃ zz_ : Int64, zz_ = (star + (x0 - (x0 / (4 : Int64)) * (4 : Int64))) := ⟨_, rfl⟩
    refine Run.cast (st' := [(.long t)]) (by subst e_t; rfl) ?_
    refine s_lstore 87 C X (l' := #[.val (.long x0), .second, .val (.int x1), .val (.long x2), .second, .val (.long x3), .second, .val (.long x4), .second, .val (.long star), .second, .val (.long tree), .second, .val (.long santa), .second, .val (.int (x1 &&& (3 : Int32))), .val (.long t), .second, .val (.long star), .second, .unset, .unset, .unset]) at_85 rfl ?_
    refine s_new 90 C X at_87 (List.mem_of_getElem? (i := 2) rfl) (List.mem_of_getElem? (i := 3) rfl) (List.mem_of_getElem? (i := 4) rfl) (fun T hh o108 hb_o108 X E E_o108 D g_o108 => ?_)
    have ne_aE_o108 : aE ≠ o108 := Nat.ne_of_lt (Nat.lt_of_lt_of_le E_aE.lt (Nat.le_of_eq hb_o108))
    have ne_aSanta_o108 : aSanta ≠ o108 := Nat.ne_of_lt (Nat.lt_of_lt_of_le E_aSanta.lt (Nat.le_of_eq hb_o108))
    have ne_aTree_o108 : aTree ≠ o108 := Nat.ne_of_lt (Nat.lt_of_lt_of_le E_aTree.lt (Nat.le_of_eq hb_o108))
    have ne_aStar_o108 : aStar ≠ o108 := Nat.ne_of_lt (Nat.lt_of_lt_of_le E_aStar.lt (Nat.le_of_eq hb_o108))
    have Od := Od.ext E
    have E_aE := E_aE.ext E
    have F_aE_value := F_aE_value.ext E
    have E_aSanta := E_aSanta.ext E
    have E_aTree := E_aTree.ext E
    have E_aStar := E_aStar.ext E
    have F_o108_floor : Fld Z _ o108 "com/example/tinsel_tally/tinseltally/Figures" "floor" "J" (.long (0 : Int64)) := D (Or.inr (hw _ (List.mem_of_getElem? (i := 20) rfl))) (ty := .long) (by decide)
    have F_o108_dDayFirst : Fld Z _ o108 "com/example/tinsel_tally/tinseltally/Figures" "dDayFirst" "J" (.long (0 : Int64)) := D (Or.inr (hw _ (List.mem_of_getElem? (i := 22) rfl))) (ty := .long) (by decide)
    have F_o108_dDayRise : Fld Z _ o108 "com/example/tinsel_tally/tinseltally/Figures" "dDayRise" "J" (.long (0 : Int64)) := D (Or.inr (hw _ (List.mem_of_getElem? (i := 24) rfl))) (ty := .long) (by decide)
    have F_o108_perDessert : Fld Z _ o108 "com/example/tinsel_tally/tinseltally/Figures" "perDessert" "J" (.long (0 : Int64)) := D (Or.inr (hw _ (List.mem_of_getElem? (i := 26) rfl))) (ty := .long) (by decide)
    have F_o108_perMain : Fld Z _ o108 "com/example/tinsel_tally/tinseltally/Figures" "perMain" "J" (.long (0 : Int64)) := D (Or.inr (hw _ (List.mem_of_getElem? (i := 28) rfl))) (ty := .long) (by decide)
    have F_o108_specialDiscount : Fld Z _ o108 "com/example/tinsel_tally/tinseltally/Figures" "specialDiscount" "J" (.long (0 : Int64)) := D (Or.inr (hw _ (List.mem_of_getElem? (i := 30) rfl))) (ty := .long) (by decide)
    have F_o108_giftThreshold : Fld Z _ o108 "com/example/tinsel_tally/tinseltally/Figures" "giftThreshold" "J" (.long (0 : Int64)) := D (Or.inr (hw _ (List.mem_of_getElem? (i := 32) rfl))) (ty := .long) (by decide)
    have F_o108_giftDish : Fld Z _ o108 "com/example/tinsel_tally/tinseltally/Figures" "giftDish" "Ljava/lang/String;" .null := D (Or.inr (hw _ (List.mem_of_getElem? (i := 34) rfl))) (ty := (.object "java/lang/String")) (by decide)
    have F_o108_starThreshold : Fld Z _ o108 "com/example/tinsel_tally/tinseltally/Figures" "starThreshold" "J" (.long (0 : Int64)) := D (Or.inr (hw _ (List.mem_of_getElem? (i := 36) rfl))) (ty := .long) (by decide)
    have F_o108_treeThreshold : Fld Z _ o108 "com/example/tinsel_tally/tinseltally/Figures" "treeThreshold" "J" (.long (0 : Int64)) := D (Or.inr (hw _ (List.mem_of_getElem? (i := 38) rfl))) (ty := .long) (by decide)
    have F_o108_santaThreshold : Fld Z _ o108 "com/example/tinsel_tally/tinseltally/Figures" "santaThreshold" "J" (.long (0 : Int64)) := D (Or.inr (hw _ (List.mem_of_getElem? (i := 40) rfl))) (ty := .long) (by decide)
    refine s_dup 91 C X at_90 rfl ?_
    refine s_lconst 92 C X (z := (0 : Int64)) at_91 rfl ?_
    refine s_lconst 93 C X (z := (0 : Int64)) at_92 rfl ?_
    refine s_lconst 94 C X (z := (0 : Int64)) at_93 rfl ?_
    refine s_lconst 95 C X (z := (0 : Int64)) at_94 rfl ?_
    refine s_lconst 96 C X (z := (0 : Int64)) at_95 rfl ?_
    refine s_lconst 97 C X (z := (0 : Int64)) at_96 rfl ?_
    refine s_lconst 98 C X (z := (0 : Int64)) at_97 rfl ?_
    have wS : ∀ a ∈ Bundle.stringAtoms, a.before a0 Z = true := by
      intro a ha
      simp only [Bundle.stringAtoms, List.mem_cons, List.not_mem_nil, or_false] at ha
      rcases ha with rfl | rfl | rfl | rfl | rfl | rfl | rfl
      · exact hw _ (List.mem_of_getElem? (i := 6) rfl)
      · exact hw _ (List.mem_of_getElem? (i := 7) rfl)
      · exact hw _ (List.mem_of_getElem? (i := 8) rfl)
      · exact hw _ (List.mem_of_getElem? (i := 9) rfl)
      · exact hw _ (List.mem_of_getElem? (i := 10) rfl)
      · exact hw _ (List.mem_of_getElem? (i := 11) rfl)
      · exact hw _ (List.mem_of_getElem? (i := 12) rfl)
    refine s_ldcS1 100 4 C X at_98 (List.mem_of_getElem? (i := 5) rfl) wS (fun T hh t109 k1 C X E hS Nk => ?_)
    have Od := Od.ext E
    have E_aE := E_aE.ext E
    have F_aE_value := F_aE_value.ext E
    have E_aSanta := E_aSanta.ext E
    have E_aTree := E_aTree.ext E
    have E_aStar := E_aStar.ext E
    have E_o108 := E_o108.ext E
    have F_o108_floor := F_o108_floor.ext E
    have F_o108_dDayFirst := F_o108_dDayFirst.ext E
    have F_o108_dDayRise := F_o108_dDayRise.ext E
    have F_o108_perDessert := F_o108_perDessert.ext E
    have F_o108_perMain := F_o108_perMain.ext E
    have F_o108_specialDiscount := F_o108_specialDiscount.ext E
    have F_o108_giftThreshold := F_o108_giftThreshold.ext E
    have F_o108_giftDish := F_o108_giftDish.ext E
    have F_o108_starThreshold := F_o108_starThreshold.ext E
    have F_o108_treeThreshold := F_o108_treeThreshold.ext E
    have F_o108_santaThreshold := F_o108_santaThreshold.ext E
    refine s_lload 102 C X at_100 rfl ?_
    refine s_lload 104 C X at_102 rfl ?_
    refine s_lload 106 C X at_104 rfl ?_
    refine s_callC 109 [(.long (0 : Int64)), (.long (0 : Int64)), (.long (0 : Int64)), (.long (0 : Int64)), (.long (0 : Int64)), (.long (0 : Int64)), (.long (0 : Int64)), (.ref t109), (.long star), (.long tree), (.long santa)] [(.ref o108)] 1 C X at_106 rfl (List.mem_of_getElem? (i := 13) rfl) (List.mem_of_getElem? (i := 14) rfl) (List.mem_of_getElem? (i := 4) rfl) (List.mem_of_getElem? (i := 15) rfl) (rm_a110 l Z a0 hw aSanta aTree aStar aE star tree santa t o108 t109 _ n0 X.sz Od S_E S_SANTA S_TREE S_STAR E_o108 F_o108_floor F_o108_dDayFirst F_o108_dDayRise F_o108_perDessert F_o108_perMain F_o108_specialDiscount F_o108_giftThreshold F_o108_giftDish F_o108_starThreshold F_o108_treeThreshold F_o108_santaThreshold g_o108) (lenOf pd__JJJJJJJLjava_lang_String_JJJ_V rfl) rfl rfl rfl (fun T v hh X q => ?_)
    obtain ⟨rfl, Od, E_o108, F_o108_floor, F_o108_dDayFirst, F_o108_dDayRise, F_o108_perDessert, F_o108_perMain, F_o108_specialDiscount, F_o108_giftThreshold, F_o108_giftDish, F_o108_starThreshold, F_o108_treeThreshold, F_o108_santaThreshold, Kc⟩ := q
    have E_aE := E_aE.keep Kc
    have F_aE_value := F_aE_value.keep Kc (ninS ne_aE_o108 nin0)
    have E_aSanta := E_aSanta.keep Kc
    have E_aTree := E_aTree.keep Kc
    have E_aStar := E_aStar.keep Kc
    have Nk := Nat.le_trans Nk Kc.1
    refine Run.cast (st' := [(.ref o108)]) rfl ?_
    refine s_astore 111 C X (l' := #[.val (.long x0), .second, .val (.int x1), .val (.long x2), .second, .val (.long x3), .second, .val (.long x4), .second, .val (.long star), .second, .val (.long tree), .second, .val (.long santa), .second, .val (.int (x1 &&& (3 : Int32))), .val (.long t), .second, .val (.ref o108), .unset, .unset, .unset, .unset]) at_109 rfl rfl ?_
    refine s_lload 113 C X at_111 rfl ?_
    refine s_aload 115 C X at_113 rfl rfl ?_
    refine s_callS 118 [(.long t), (.ref o108)] [] 0 C X at_115 (List.mem_of_getElem? (i := 41) rfl) (List.mem_of_getElem? (i := 42) rfl) (List.mem_of_getElem? (i := 43) rfl) (List.mem_of_getElem? (i := 44) rfl) (rm_a111 l Z a0 hw aSanta aTree aStar aE star tree santa t o108 t109 _ n0 X.sz Od E_o108 F_o108_floor F_o108_dDayFirst F_o108_dDayRise F_o108_perDessert F_o108_perMain F_o108_specialDiscount F_o108_giftThreshold F_o108_giftDish F_o108_starThreshold F_o108_treeThreshold F_o108_santaThreshold S_E S_SANTA S_TREE S_STAR g_o108) (lenOf pd__JLcom_example_tinsel_tally_tinseltally_Figures__Ljava_util_Optional_ rfl) rfl rfl rfl (fun T v hh X q => ?_)
    obtain ⟨rfl, c10_114, c29_116, c48_118, Kc, E_o108, F_o108_floor, F_o108_dDayFirst, F_o108_dDayRise, F_o108_perDessert, F_o108_perMain, F_o108_specialDiscount, F_o108_giftThreshold, F_o108_giftDish, F_o108_starThreshold, F_o108_treeThreshold, F_o108_santaThreshold, Od⟩ | ⟨o120, rfl, c10_114, c29_116, c48_118, Kc, E_o108, F_o108_floor, F_o108_dDayFirst, F_o108_dDayRise, F_o108_perDessert, F_o108_perMain, F_o108_specialDiscount, F_o108_giftThreshold, F_o108_giftDish, F_o108_starThreshold, F_o108_treeThreshold, F_o108_santaThreshold, E_o120, F_o120_value, Od, ne_o108_o120, sz_o120', g_o120⟩ | ⟨o124, rfl, c10_114, c29_116, Kc, E_o108, F_o108_floor, F_o108_dDayFirst, F_o108_dDayRise, F_o108_perDessert, F_o108_perMain, F_o108_specialDiscount, F_o108_giftThreshold, F_o108_giftDish, F_o108_starThreshold, F_o108_treeThreshold, F_o108_santaThreshold, E_o124, F_o124_value, Od, ne_o108_o124, sz_o124', g_o124⟩ | ⟨o128, rfl, c10_114, Kc, E_o108, F_o108_floor, F_o108_dDayFirst, F_o108_dDayRise, F_o108_perDessert, F_o108_perMain, F_o108_specialDiscount, F_o108_giftThreshold, F_o108_giftDish, F_o108_starThreshold, F_o108_treeThreshold, F_o108_santaThreshold, E_o128, F_o128_value, Od, ne_o108_o128, sz_o128', g_o128⟩ := q
    · have E_aE := E_aE.keep Kc
      have F_aE_value := F_aE_value.keep Kc (ninS ne_aE_o108 nin0)
      have E_aSanta := E_aSanta.keep Kc
      have E_aTree := E_aTree.keep Kc
      have E_aStar := E_aStar.keep Kc
      have Nk := Nat.le_trans Nk Kc.1
      have t_c10_114 : (t).toInt < (santa).toInt := cl_lt.mp c10_114
      have t_c29_116 : (t).toInt < (tree).toInt := cl_lt.mp c29_116
      have t_c48_118 : (t).toInt < (star).toInt := cl_lt.mp c48_118
      refine Run.cast (st' := [(.ref aE)]) rfl ?_
      refine s_astore 120 C X (l' := #[.val (.long x0), .second, .val (.int x1), .val (.long x2), .second, .val (.long x3), .second, .val (.long x4), .second, .val (.long star), .second, .val (.long tree), .second, .val (.long santa), .second, .val (.int (x1 &&& (3 : Int32))), .val (.long t), .second, .val (.ref o108), .val (.ref aE), .unset, .unset, .unset]) at_118 rfl rfl ?_
      refine s_aload 122 C X at_120 rfl rfl ?_
      refine s_ifnonnullY 127 C X at_122 ?_
      refine s_aload 129 C X at_127 rfl rfl ?_
      refine s_aconstNull 130 C X at_129 ?_
      refine s_callV 133 [.null] [] 0 C X at_130 (List.mem_of_getElem? (i := 73) rfl) (List.mem_of_getElem? (i := 74) rfl) (notFace_of_selects (args := #[]) (mvT C.2.1 (C.w (List.mem_of_getElem? (i := 76) rfl)))) (List.mem_of_getElem? (i := 76) rfl) (List.mem_of_getElem? (i := 75) rfl) (List.mem_of_getElem? (i := 47) rfl) (List.mem_of_getElem? (i := 77) rfl) E_aE (rm_a131 l Z a0 hw aSanta aTree aStar aE _ n0 X.sz E_aE F_aE_value Od S_E S_SANTA S_TREE S_STAR) (lenOf pd__Ljava_lang_Object__Ljava_lang_Object_ rfl) rfl rfl rfl (fun T v hh X q => ?_)
      obtain ⟨rfl, E_aE, F_aE_value, Od, Kc⟩ := q
      have E_aSanta := E_aSanta.keep Kc
      have E_aTree := E_aTree.keep Kc
      have E_aStar := E_aStar.keep Kc
      have Nk := Nat.le_trans Nk Kc.1
      have E_o108 := E_o108.keep Kc
      have F_o108_floor := F_o108_floor.keep Kc (ninS (Ne.symm ne_aE_o108) nin0)
      have F_o108_dDayFirst := F_o108_dDayFirst.keep Kc (ninS (Ne.symm ne_aE_o108) nin0)
      have F_o108_dDayRise := F_o108_dDayRise.keep Kc (ninS (Ne.symm ne_aE_o108) nin0)
      have F_o108_perDessert := F_o108_perDessert.keep Kc (ninS (Ne.symm ne_aE_o108) nin0)
      have F_o108_perMain := F_o108_perMain.keep Kc (ninS (Ne.symm ne_aE_o108) nin0)
      have F_o108_specialDiscount := F_o108_specialDiscount.keep Kc (ninS (Ne.symm ne_aE_o108) nin0)
      have F_o108_giftThreshold := F_o108_giftThreshold.keep Kc (ninS (Ne.symm ne_aE_o108) nin0)
      have F_o108_giftDish := F_o108_giftDish.keep Kc (ninS (Ne.symm ne_aE_o108) nin0)
      have F_o108_starThreshold := F_o108_starThreshold.keep Kc (ninS (Ne.symm ne_aE_o108) nin0)
      have F_o108_treeThreshold := F_o108_treeThreshold.keep Kc (ninS (Ne.symm ne_aE_o108) nin0)
      have F_o108_santaThreshold := F_o108_santaThreshold.keep Kc (ninS (Ne.symm ne_aE_o108) nin0)
      refine Run.cast (st' := [.null]) rfl ?_
      refine s_castNull 136 C X at_133 ?_
      refine s_astore 138 C X (l' := #[.val (.long x0), .second, .val (.int x1), .val (.long x2), .second, .val (.long x3), .second, .val (.long x4), .second, .val (.long star), .second, .val (.long tree), .second, .val (.long santa), .second, .val (.int (x1 &&& (3 : Int32))), .val (.long t), .second, .val (.ref o108), .val (.ref aE), .val .null, .unset, .unset]) at_136 rfl rfl ?_
      refine s_lload 140 C X at_138 rfl ?_
      refine s_lload 142 C X at_140 rfl ?_
      refine s_lcmp 143 C X at_142 ?_
      refine s_if_lt 150 146 C X at_143 (fun c143_132 => ?_) (fun c => absurd (cl_lt.mpr (by omega)) c)
      have t_c143_132 : (t).toInt < (star).toInt := cl_lt.mp c143_132
      refine s_iconst 151 C X at_150 kc_iconst_0 ?_
      refine s_lload 153 C X at_151 rfl ?_
      refine s_lload 155 C X at_153 rfl ?_
      refine s_lcmp 156 C X at_155 ?_
      refine s_if_lt 163 159 C X at_156 (fun c156_133 => ?_) (fun c => absurd (cl_lt.mpr (by omega)) c)
      have t_c156_133 : (t).toInt < (tree).toInt := cl_lt.mp c156_133
      refine s_iconst 164 C X at_163 kc_iconst_0 ?_
      refine s_iadd 165 C X at_164 ?_
      refine Run.cast (st' := [(.int (0 : Int32))]) (by rw [kf_0]) ?_
      refine s_lload 167 C X at_165 rfl ?_
      refine s_lload 169 C X at_167 rfl ?_
      refine s_lcmp 170 C X at_169 ?_
      refine s_if_lt 177 173 C X at_170 (fun c170_134 => ?_) (fun c => absurd (cl_lt.mpr (by omega)) c)
      have t_c170_134 : (t).toInt < (santa).toInt := cl_lt.mp c170_134
      refine s_iconst 178 C X at_177 kc_iconst_0 ?_
      refine s_iadd 179 C X at_178 ?_
      refine Run.cast (st' := [(.int (0 : Int32))]) (by rw [kf_0]) ?_
      refine s_istore 181 C X (l' := #[.val (.long x0), .second, .val (.int x1), .val (.long x2), .second, .val (.long x3), .second, .val (.long x4), .second, .val (.long star), .second, .val (.long tree), .second, .val (.long santa), .second, .val (.int (x1 &&& (3 : Int32))), .val (.long t), .second, .val (.ref o108), .val (.ref aE), .val .null, .val (.int (0 : Int32)), .unset]) at_179 rfl ?_
      refine s_iload 183 C X at_181 rfl ?_
      refine s_if_ne 192 186 C X at_183 (fun c => absurd (by decide : (0 : Int32) = (0 : Int32)) c) (fun _ => ?_)
      refine s_aconstNull 187 C X at_186 ?_
      refine s_astore 189 C X (l' := #[.val (.long x0), .second, .val (.int x1), .val (.long x2), .second, .val (.long x3), .second, .val (.long x4), .second, .val (.long star), .second, .val (.long tree), .second, .val (.long santa), .second, .val (.int (x1 &&& (3 : Int32))), .val (.long t), .second, .val (.ref o108), .val (.ref aE), .val .null, .val (.int (0 : Int32)), .val .null]) at_187 rfl rfl ?_
      refine s_goto 225 C X at_189 ?_
      refine s_aload 227 C X at_225 rfl rfl ?_
      refine s_aload 229 C X at_227 rfl rfl ?_
      refine s_acmp_ne 236 232 C X at_229 rfl rfl (fun c => absurd rfl c) (fun _ => ?_)
      refine s_iconst 233 C X at_232 kc_iconst_1 ?_
      refine s_goto 237 C X at_233 ?_
      refine s_nreturn C X at_237 rfl (by simp) rfl ?_ (hG := FW_end hS Nk (by decide) (by decide))
      rfl
    · have ne_aE_o120 : aE ≠ o120 := Nat.ne_of_lt (Nat.lt_of_lt_of_le E_aE.lt sz_o120')
      have ne_aSanta_o120 : aSanta ≠ o120 := Nat.ne_of_lt (Nat.lt_of_lt_of_le E_aSanta.lt sz_o120')
      have ne_aTree_o120 : aTree ≠ o120 := Nat.ne_of_lt (Nat.lt_of_lt_of_le E_aTree.lt sz_o120')
      have ne_aStar_o120 : aStar ≠ o120 := Nat.ne_of_lt (Nat.lt_of_lt_of_le E_aStar.lt sz_o120')
      have E_aE := E_aE.keep Kc
      have F_aE_value := F_aE_value.keep Kc (ninS ne_aE_o108 nin0)
      have E_aSanta := E_aSanta.keep Kc
      have E_aTree := E_aTree.keep Kc
      have E_aStar := E_aStar.keep Kc
      have Nk := Nat.le_trans Nk Kc.1
      have t_c10_114 : (t).toInt < (santa).toInt := cl_lt.mp c10_114
      have t_c29_116 : (t).toInt < (tree).toInt := cl_lt.mp c29_116
      have t_c48_118 : ¬ ((t).toInt < (star).toInt) := fun q => c48_118 (cl_lt.mpr q)
      refine Run.cast (st' := [(.ref o120)]) rfl ?_
      refine s_astore 120 C X (l' := #[.val (.long x0), .second, .val (.int x1), .val (.long x2), .second, .val (.long x3), .second, .val (.long x4), .second, .val (.long star), .second, .val (.long tree), .second, .val (.long santa), .second, .val (.int (x1 &&& (3 : Int32))), .val (.long t), .second, .val (.ref o108), .val (.ref o120), .unset, .unset, .unset]) at_118 rfl rfl ?_
      refine s_aload 122 C X at_120 rfl rfl ?_
      refine s_ifnonnullY 127 C X at_122 ?_
      refine s_aload 129 C X at_127 rfl rfl ?_
      refine s_aconstNull 130 C X at_129 ?_
      refine s_callV 133 [.null] [] 0 C X at_130 (List.mem_of_getElem? (i := 73) rfl) (List.mem_of_getElem? (i := 74) rfl) (notFace_of_selects (args := #[]) (mvT C.2.1 (C.w (List.mem_of_getElem? (i := 76) rfl)))) (List.mem_of_getElem? (i := 76) rfl) (List.mem_of_getElem? (i := 75) rfl) (List.mem_of_getElem? (i := 47) rfl) (List.mem_of_getElem? (i := 77) rfl) E_o120 (rm_a137 l Z a0 hw aSanta aTree aStar aE o120 _ n0 X.sz E_aStar E_o120 F_o120_value Od S_E S_SANTA S_TREE S_STAR ne_aStar_o120 g_o120) (lenOf pd__Ljava_lang_Object__Ljava_lang_Object_ rfl) rfl rfl rfl (fun T v hh X q => ?_)
      obtain ⟨rfl, E_aStar, E_o120, F_o120_value, Od, Kc⟩ := q
      have E_aE := E_aE.keep Kc
      have F_aE_value := F_aE_value.keep Kc (ninS ne_aE_o120 (ninS ne_aE_aStar nin0))
      have E_aSanta := E_aSanta.keep Kc
      have E_aTree := E_aTree.keep Kc
      have Nk := Nat.le_trans Nk Kc.1
      have E_o108 := E_o108.keep Kc
      have F_o108_floor := F_o108_floor.keep Kc (ninS ne_o108_o120 (ninS (Ne.symm ne_aStar_o108) nin0))
      have F_o108_dDayFirst := F_o108_dDayFirst.keep Kc (ninS ne_o108_o120 (ninS (Ne.symm ne_aStar_o108) nin0))
      have F_o108_dDayRise := F_o108_dDayRise.keep Kc (ninS ne_o108_o120 (ninS (Ne.symm ne_aStar_o108) nin0))
      have F_o108_perDessert := F_o108_perDessert.keep Kc (ninS ne_o108_o120 (ninS (Ne.symm ne_aStar_o108) nin0))
      have F_o108_perMain := F_o108_perMain.keep Kc (ninS ne_o108_o120 (ninS (Ne.symm ne_aStar_o108) nin0))
      have F_o108_specialDiscount := F_o108_specialDiscount.keep Kc (ninS ne_o108_o120 (ninS (Ne.symm ne_aStar_o108) nin0))
      have F_o108_giftThreshold := F_o108_giftThreshold.keep Kc (ninS ne_o108_o120 (ninS (Ne.symm ne_aStar_o108) nin0))
      have F_o108_giftDish := F_o108_giftDish.keep Kc (ninS ne_o108_o120 (ninS (Ne.symm ne_aStar_o108) nin0))
      have F_o108_starThreshold := F_o108_starThreshold.keep Kc (ninS ne_o108_o120 (ninS (Ne.symm ne_aStar_o108) nin0))
      have F_o108_treeThreshold := F_o108_treeThreshold.keep Kc (ninS ne_o108_o120 (ninS (Ne.symm ne_aStar_o108) nin0))
      have F_o108_santaThreshold := F_o108_santaThreshold.keep Kc (ninS ne_o108_o120 (ninS (Ne.symm ne_aStar_o108) nin0))
      refine Run.cast (st' := [(.ref aStar)]) rfl ?_
      refine s_castY 136 C X at_133 (List.mem_of_getElem? (i := 78) rfl) (Ins.self E_aStar) (fun T X => ?_)
      refine s_astore 138 C X (l' := #[.val (.long x0), .second, .val (.int x1), .val (.long x2), .second, .val (.long x3), .second, .val (.long x4), .second, .val (.long star), .second, .val (.long tree), .second, .val (.long santa), .second, .val (.int (x1 &&& (3 : Int32))), .val (.long t), .second, .val (.ref o108), .val (.ref o120), .val (.ref aStar), .unset, .unset]) at_136 rfl rfl ?_
      refine s_lload 140 C X at_138 rfl ?_
      refine s_lload 142 C X at_140 rfl ?_
      refine s_lcmp 143 C X at_142 ?_
      refine s_if_lt 150 146 C X at_143 (fun c => absurd (cl_lt.mp c) (by omega)) (fun c143_138 => ?_)
      have t_c143_138 : ¬ ((t).toInt < (star).toInt) := fun q => c143_138 (cl_lt.mpr q)
      refine s_iconst 147 C X at_146 kc_iconst_1 ?_
      refine s_goto 151 C X at_147 ?_
      refine s_lload 153 C X at_151 rfl ?_
      refine s_lload 155 C X at_153 rfl ?_
      refine s_lcmp 156 C X at_155 ?_
      refine s_if_lt 163 159 C X at_156 (fun c156_139 => ?_) (fun c => absurd (cl_lt.mpr (by omega)) c)
      have t_c156_139 : (t).toInt < (tree).toInt := cl_lt.mp c156_139
      refine s_iconst 164 C X at_163 kc_iconst_0 ?_
      refine s_iadd 165 C X at_164 ?_
      refine Run.cast (st' := [(.int (1 : Int32))]) (by rw [kf_1]) ?_
      refine s_lload 167 C X at_165 rfl ?_
      refine s_lload 169 C X at_167 rfl ?_
      refine s_lcmp 170 C X at_169 ?_
      refine s_if_lt 177 173 C X at_170 (fun c170_140 => ?_) (fun c => absurd (cl_lt.mpr (by omega)) c)
      have t_c170_140 : (t).toInt < (santa).toInt := cl_lt.mp c170_140
      refine s_iconst 178 C X at_177 kc_iconst_0 ?_
      refine s_iadd 179 C X at_178 ?_
      refine Run.cast (st' := [(.int (1 : Int32))]) (by rw [kf_1]) ?_
      refine s_istore 181 C X (l' := #[.val (.long x0), .second, .val (.int x1), .val (.long x2), .second, .val (.long x3), .second, .val (.long x4), .second, .val (.long star), .second, .val (.long tree), .second, .val (.long santa), .second, .val (.int (x1 &&& (3 : Int32))), .val (.long t), .second, .val (.ref o108), .val (.ref o120), .val (.ref aStar), .val (.int (1 : Int32)), .unset]) at_179 rfl ?_
      refine s_iload 183 C X at_181 rfl ?_
      refine s_if_ne 192 186 C X at_183 (fun _ => ?_) (fun c => absurd c (by decide))
      refine s_iload 194 C X at_192 rfl ?_
      refine s_iconst 195 C X at_194 kc_iconst_1 ?_
      refine s_icmp_ne 206 198 C X at_195 (fun c => absurd (by decide : (1 : Int32) = (1 : Int32)) c) (fun _ => ?_)
      refine s_getstatic 201 C X (host := "") at_198 (Or.inl (List.mem_of_getElem? (i := 96) rfl)) Via.refl (S_STAR.ext Od.2) (fun T X => ?_)
      refine s_astore 203 C X (l' := #[.val (.long x0), .second, .val (.int x1), .val (.long x2), .second, .val (.long x3), .second, .val (.long x4), .second, .val (.long star), .second, .val (.long tree), .second, .val (.long santa), .second, .val (.int (x1 &&& (3 : Int32))), .val (.long t), .second, .val (.ref o108), .val (.ref o120), .val (.ref aStar), .val (.int (1 : Int32)), .val (.ref aStar)]) at_201 rfl rfl ?_
      refine s_goto 225 C X at_203 ?_
      refine s_aload 227 C X at_225 rfl rfl ?_
      refine s_aload 229 C X at_227 rfl rfl ?_
      refine s_acmp_ne 236 232 C X at_229 rfl rfl (fun c => absurd rfl c) (fun _ => ?_)
      refine s_iconst 233 C X at_232 kc_iconst_1 ?_
      refine s_goto 237 C X at_233 ?_
      refine s_nreturn C X at_237 rfl (by simp) rfl ?_ (hG := FW_end hS Nk (by decide) (by decide))
      rfl
    · have ne_aE_o124 : aE ≠ o124 := Nat.ne_of_lt (Nat.lt_of_lt_of_le E_aE.lt sz_o124')
      have ne_aSanta_o124 : aSanta ≠ o124 := Nat.ne_of_lt (Nat.lt_of_lt_of_le E_aSanta.lt sz_o124')
      have ne_aTree_o124 : aTree ≠ o124 := Nat.ne_of_lt (Nat.lt_of_lt_of_le E_aTree.lt sz_o124')
      have ne_aStar_o124 : aStar ≠ o124 := Nat.ne_of_lt (Nat.lt_of_lt_of_le E_aStar.lt sz_o124')
      have E_aE := E_aE.keep Kc
      have F_aE_value := F_aE_value.keep Kc (ninS ne_aE_o108 nin0)
      have E_aSanta := E_aSanta.keep Kc
      have E_aTree := E_aTree.keep Kc
      have E_aStar := E_aStar.keep Kc
      have Nk := Nat.le_trans Nk Kc.1
      have t_c10_114 : (t).toInt < (santa).toInt := cl_lt.mp c10_114
      have t_c29_116 : ¬ ((t).toInt < (tree).toInt) := fun q => c29_116 (cl_lt.mpr q)
      refine Run.cast (st' := [(.ref o124)]) rfl ?_
      refine s_astore 120 C X (l' := #[.val (.long x0), .second, .val (.int x1), .val (.long x2), .second, .val (.long x3), .second, .val (.long x4), .second, .val (.long star), .second, .val (.long tree), .second, .val (.long santa), .second, .val (.int (x1 &&& (3 : Int32))), .val (.long t), .second, .val (.ref o108), .val (.ref o124), .unset, .unset, .unset]) at_118 rfl rfl ?_
      refine s_aload 122 C X at_120 rfl rfl ?_
      refine s_ifnonnullY 127 C X at_122 ?_
      refine s_aload 129 C X at_127 rfl rfl ?_
      refine s_aconstNull 130 C X at_129 ?_
      refine s_callV 133 [.null] [] 0 C X at_130 (List.mem_of_getElem? (i := 73) rfl) (List.mem_of_getElem? (i := 74) rfl) (notFace_of_selects (args := #[]) (mvT C.2.1 (C.w (List.mem_of_getElem? (i := 76) rfl)))) (List.mem_of_getElem? (i := 76) rfl) (List.mem_of_getElem? (i := 75) rfl) (List.mem_of_getElem? (i := 47) rfl) (List.mem_of_getElem? (i := 77) rfl) E_o124 (rm_a144 l Z a0 hw aSanta aTree aStar aE o124 _ n0 X.sz E_aTree E_o124 F_o124_value Od S_E S_SANTA S_TREE S_STAR ne_aTree_o124 g_o124) (lenOf pd__Ljava_lang_Object__Ljava_lang_Object_ rfl) rfl rfl rfl (fun T v hh X q => ?_)
      obtain ⟨rfl, E_aTree, E_o124, F_o124_value, Od, Kc⟩ := q
      have E_aE := E_aE.keep Kc
      have F_aE_value := F_aE_value.keep Kc (ninS ne_aE_o124 (ninS ne_aE_aTree nin0))
      have E_aSanta := E_aSanta.keep Kc
      have E_aStar := E_aStar.keep Kc
      have Nk := Nat.le_trans Nk Kc.1
      have E_o108 := E_o108.keep Kc
      have F_o108_floor := F_o108_floor.keep Kc (ninS ne_o108_o124 (ninS (Ne.symm ne_aTree_o108) nin0))
      have F_o108_dDayFirst := F_o108_dDayFirst.keep Kc (ninS ne_o108_o124 (ninS (Ne.symm ne_aTree_o108) nin0))
      have F_o108_dDayRise := F_o108_dDayRise.keep Kc (ninS ne_o108_o124 (ninS (Ne.symm ne_aTree_o108) nin0))
      have F_o108_perDessert := F_o108_perDessert.keep Kc (ninS ne_o108_o124 (ninS (Ne.symm ne_aTree_o108) nin0))
      have F_o108_perMain := F_o108_perMain.keep Kc (ninS ne_o108_o124 (ninS (Ne.symm ne_aTree_o108) nin0))
      have F_o108_specialDiscount := F_o108_specialDiscount.keep Kc (ninS ne_o108_o124 (ninS (Ne.symm ne_aTree_o108) nin0))
      have F_o108_giftThreshold := F_o108_giftThreshold.keep Kc (ninS ne_o108_o124 (ninS (Ne.symm ne_aTree_o108) nin0))
      have F_o108_giftDish := F_o108_giftDish.keep Kc (ninS ne_o108_o124 (ninS (Ne.symm ne_aTree_o108) nin0))
      have F_o108_starThreshold := F_o108_starThreshold.keep Kc (ninS ne_o108_o124 (ninS (Ne.symm ne_aTree_o108) nin0))
      have F_o108_treeThreshold := F_o108_treeThreshold.keep Kc (ninS ne_o108_o124 (ninS (Ne.symm ne_aTree_o108) nin0))
      have F_o108_santaThreshold := F_o108_santaThreshold.keep Kc (ninS ne_o108_o124 (ninS (Ne.symm ne_aTree_o108) nin0))
      refine Run.cast (st' := [(.ref aTree)]) rfl ?_
      refine s_castY 136 C X at_133 (List.mem_of_getElem? (i := 78) rfl) (Ins.self E_aTree) (fun T X => ?_)
      refine s_astore 138 C X (l' := #[.val (.long x0), .second, .val (.int x1), .val (.long x2), .second, .val (.long x3), .second, .val (.long x4), .second, .val (.long star), .second, .val (.long tree), .second, .val (.long santa), .second, .val (.int (x1 &&& (3 : Int32))), .val (.long t), .second, .val (.ref o108), .val (.ref o124), .val (.ref aTree), .unset, .unset]) at_136 rfl rfl ?_
      refine s_lload 140 C X at_138 rfl ?_
      refine s_lload 142 C X at_140 rfl ?_
      refine s_lcmp 143 C X at_142 ?_
      refine s_if_lt 150 146 C X at_143 (fun c => absurd (cl_lt.mp c) (by omega)) (fun c143_145 => ?_)
      have t_c143_145 : ¬ ((t).toInt < (star).toInt) := fun q => c143_145 (cl_lt.mpr q)
      refine s_iconst 147 C X at_146 kc_iconst_1 ?_
      refine s_goto 151 C X at_147 ?_
      refine s_lload 153 C X at_151 rfl ?_
      refine s_lload 155 C X at_153 rfl ?_
      refine s_lcmp 156 C X at_155 ?_
      refine s_if_lt 163 159 C X at_156 (fun c => absurd (cl_lt.mp c) (by omega)) (fun c156_146 => ?_)
      have t_c156_146 : ¬ ((t).toInt < (tree).toInt) := fun q => c156_146 (cl_lt.mpr q)
      refine s_iconst 160 C X at_159 kc_iconst_1 ?_
      refine s_goto 164 C X at_160 ?_
      refine s_iadd 165 C X at_164 ?_
      refine Run.cast (st' := [(.int (2 : Int32))]) (by rw [kf_2]) ?_
      refine s_lload 167 C X at_165 rfl ?_
      refine s_lload 169 C X at_167 rfl ?_
      refine s_lcmp 170 C X at_169 ?_
      refine s_if_lt 177 173 C X at_170 (fun c170_147 => ?_) (fun c => absurd (cl_lt.mpr (by omega)) c)
      have t_c170_147 : (t).toInt < (santa).toInt := cl_lt.mp c170_147
      refine s_iconst 178 C X at_177 kc_iconst_0 ?_
      refine s_iadd 179 C X at_178 ?_
      refine Run.cast (st' := [(.int (2 : Int32))]) (by rw [kf_3]) ?_
      refine s_istore 181 C X (l' := #[.val (.long x0), .second, .val (.int x1), .val (.long x2), .second, .val (.long x3), .second, .val (.long x4), .second, .val (.long star), .second, .val (.long tree), .second, .val (.long santa), .second, .val (.int (x1 &&& (3 : Int32))), .val (.long t), .second, .val (.ref o108), .val (.ref o124), .val (.ref aTree), .val (.int (2 : Int32)), .unset]) at_179 rfl ?_
      refine s_iload 183 C X at_181 rfl ?_
      refine s_if_ne 192 186 C X at_183 (fun _ => ?_) (fun c => absurd c (by decide))
      refine s_iload 194 C X at_192 rfl ?_
      refine s_iconst 195 C X at_194 kc_iconst_1 ?_
      refine s_icmp_ne 206 198 C X at_195 (fun _ => ?_) (fun c => absurd c (by decide))
      refine s_iload 208 C X at_206 rfl ?_
      refine s_iconst 209 C X at_208 kc_iconst_2 ?_
      refine s_icmp_ne 220 212 C X at_209 (fun c => absurd (by decide : (2 : Int32) = (2 : Int32)) c) (fun _ => ?_)
      refine s_getstatic 215 C X (host := "") at_212 (Or.inl (List.mem_of_getElem? (i := 88) rfl)) Via.refl (S_TREE.ext Od.2) (fun T X => ?_)
      refine s_astore 217 C X (l' := #[.val (.long x0), .second, .val (.int x1), .val (.long x2), .second, .val (.long x3), .second, .val (.long x4), .second, .val (.long star), .second, .val (.long tree), .second, .val (.long santa), .second, .val (.int (x1 &&& (3 : Int32))), .val (.long t), .second, .val (.ref o108), .val (.ref o124), .val (.ref aTree), .val (.int (2 : Int32)), .val (.ref aTree)]) at_215 rfl rfl ?_
      refine s_goto 225 C X at_217 ?_
      refine s_aload 227 C X at_225 rfl rfl ?_
      refine s_aload 229 C X at_227 rfl rfl ?_
      refine s_acmp_ne 236 232 C X at_229 rfl rfl (fun c => absurd rfl c) (fun _ => ?_)
      refine s_iconst 233 C X at_232 kc_iconst_1 ?_
      refine s_goto 237 C X at_233 ?_
      refine s_nreturn C X at_237 rfl (by simp) rfl ?_ (hG := FW_end hS Nk (by decide) (by decide))
      rfl
    · have ne_aE_o128 : aE ≠ o128 := Nat.ne_of_lt (Nat.lt_of_lt_of_le E_aE.lt sz_o128')
      have ne_aSanta_o128 : aSanta ≠ o128 := Nat.ne_of_lt (Nat.lt_of_lt_of_le E_aSanta.lt sz_o128')
      have ne_aTree_o128 : aTree ≠ o128 := Nat.ne_of_lt (Nat.lt_of_lt_of_le E_aTree.lt sz_o128')
      have ne_aStar_o128 : aStar ≠ o128 := Nat.ne_of_lt (Nat.lt_of_lt_of_le E_aStar.lt sz_o128')
      have E_aE := E_aE.keep Kc
      have F_aE_value := F_aE_value.keep Kc (ninS ne_aE_o108 nin0)
      have E_aSanta := E_aSanta.keep Kc
      have E_aTree := E_aTree.keep Kc
      have E_aStar := E_aStar.keep Kc
      have Nk := Nat.le_trans Nk Kc.1
      have t_c10_114 : ¬ ((t).toInt < (santa).toInt) := fun q => c10_114 (cl_lt.mpr q)
      refine Run.cast (st' := [(.ref o128)]) rfl ?_
      refine s_astore 120 C X (l' := #[.val (.long x0), .second, .val (.int x1), .val (.long x2), .second, .val (.long x3), .second, .val (.long x4), .second, .val (.long star), .second, .val (.long tree), .second, .val (.long santa), .second, .val (.int (x1 &&& (3 : Int32))), .val (.long t), .second, .val (.ref o108), .val (.ref o128), .unset, .unset, .unset]) at_118 rfl rfl ?_
      refine s_aload 122 C X at_120 rfl rfl ?_
      refine s_ifnonnullY 127 C X at_122 ?_
      refine s_aload 129 C X at_127 rfl rfl ?_
      refine s_aconstNull 130 C X at_129 ?_
      refine s_callV 133 [.null] [] 0 C X at_130 (List.mem_of_getElem? (i := 73) rfl) (List.mem_of_getElem? (i := 74) rfl) (notFace_of_selects (args := #[]) (mvT C.2.1 (C.w (List.mem_of_getElem? (i := 76) rfl)))) (List.mem_of_getElem? (i := 76) rfl) (List.mem_of_getElem? (i := 75) rfl) (List.mem_of_getElem? (i := 47) rfl) (List.mem_of_getElem? (i := 77) rfl) E_o128 (rm_a152 l Z a0 hw aSanta aTree aStar aE o128 _ n0 X.sz E_aSanta E_o128 F_o128_value Od S_E S_SANTA S_TREE S_STAR ne_aSanta_o128 g_o128) (lenOf pd__Ljava_lang_Object__Ljava_lang_Object_ rfl) rfl rfl rfl (fun T v hh X q => ?_)
      obtain ⟨rfl, E_aSanta, E_o128, F_o128_value, Od, Kc⟩ := q
      have E_aE := E_aE.keep Kc
      have F_aE_value := F_aE_value.keep Kc (ninS ne_aE_o128 (ninS ne_aE_aSanta nin0))
      have E_aTree := E_aTree.keep Kc
      have E_aStar := E_aStar.keep Kc
      have Nk := Nat.le_trans Nk Kc.1
      have E_o108 := E_o108.keep Kc
      have F_o108_floor := F_o108_floor.keep Kc (ninS ne_o108_o128 (ninS (Ne.symm ne_aSanta_o108) nin0))
      have F_o108_dDayFirst := F_o108_dDayFirst.keep Kc (ninS ne_o108_o128 (ninS (Ne.symm ne_aSanta_o108) nin0))
      have F_o108_dDayRise := F_o108_dDayRise.keep Kc (ninS ne_o108_o128 (ninS (Ne.symm ne_aSanta_o108) nin0))
      have F_o108_perDessert := F_o108_perDessert.keep Kc (ninS ne_o108_o128 (ninS (Ne.symm ne_aSanta_o108) nin0))
      have F_o108_perMain := F_o108_perMain.keep Kc (ninS ne_o108_o128 (ninS (Ne.symm ne_aSanta_o108) nin0))
      have F_o108_specialDiscount := F_o108_specialDiscount.keep Kc (ninS ne_o108_o128 (ninS (Ne.symm ne_aSanta_o108) nin0))
      have F_o108_giftThreshold := F_o108_giftThreshold.keep Kc (ninS ne_o108_o128 (ninS (Ne.symm ne_aSanta_o108) nin0))
      have F_o108_giftDish := F_o108_giftDish.keep Kc (ninS ne_o108_o128 (ninS (Ne.symm ne_aSanta_o108) nin0))
      have F_o108_starThreshold := F_o108_starThreshold.keep Kc (ninS ne_o108_o128 (ninS (Ne.symm ne_aSanta_o108) nin0))
      have F_o108_treeThreshold := F_o108_treeThreshold.keep Kc (ninS ne_o108_o128 (ninS (Ne.symm ne_aSanta_o108) nin0))
      have F_o108_santaThreshold := F_o108_santaThreshold.keep Kc (ninS ne_o108_o128 (ninS (Ne.symm ne_aSanta_o108) nin0))
      refine Run.cast (st' := [(.ref aSanta)]) rfl ?_
      refine s_castY 136 C X at_133 (List.mem_of_getElem? (i := 78) rfl) (Ins.self E_aSanta) (fun T X => ?_)
      refine s_astore 138 C X (l' := #[.val (.long x0), .second, .val (.int x1), .val (.long x2), .second, .val (.long x3), .second, .val (.long x4), .second, .val (.long star), .second, .val (.long tree), .second, .val (.long santa), .second, .val (.int (x1 &&& (3 : Int32))), .val (.long t), .second, .val (.ref o108), .val (.ref o128), .val (.ref aSanta), .unset, .unset]) at_136 rfl rfl ?_
      refine s_lload 140 C X at_138 rfl ?_
      refine s_lload 142 C X at_140 rfl ?_
      refine s_lcmp 143 C X at_142 ?_
      refine s_if_lt 150 146 C X at_143 (fun c => absurd (cl_lt.mp c) (by omega)) (fun c143_153 => ?_)
      have t_c143_153 : ¬ ((t).toInt < (star).toInt) := fun q => c143_153 (cl_lt.mpr q)
      refine s_iconst 147 C X at_146 kc_iconst_1 ?_
      refine s_goto 151 C X at_147 ?_
      refine s_lload 153 C X at_151 rfl ?_
      refine s_lload 155 C X at_153 rfl ?_
      refine s_lcmp 156 C X at_155 ?_
      refine s_if_lt 163 159 C X at_156 (fun c => absurd (cl_lt.mp c) (by omega)) (fun c156_154 => ?_)
      have t_c156_154 : ¬ ((t).toInt < (tree).toInt) := fun q => c156_154 (cl_lt.mpr q)
      refine s_iconst 160 C X at_159 kc_iconst_1 ?_
      refine s_goto 164 C X at_160 ?_
      refine s_iadd 165 C X at_164 ?_
      refine Run.cast (st' := [(.int (2 : Int32))]) (by rw [kf_2]) ?_
      refine s_lload 167 C X at_165 rfl ?_
      refine s_lload 169 C X at_167 rfl ?_
      refine s_lcmp 170 C X at_169 ?_
      refine s_if_lt 177 173 C X at_170 (fun c => absurd (cl_lt.mp c) (by omega)) (fun c170_155 => ?_)
      have t_c170_155 : ¬ ((t).toInt < (santa).toInt) := fun q => c170_155 (cl_lt.mpr q)
      refine s_iconst 174 C X at_173 kc_iconst_1 ?_
      refine s_goto 178 C X at_174 ?_
      refine s_iadd 179 C X at_178 ?_
      refine Run.cast (st' := [(.int (3 : Int32))]) (by rw [kf_4]) ?_
      refine s_istore 181 C X (l' := #[.val (.long x0), .second, .val (.int x1), .val (.long x2), .second, .val (.long x3), .second, .val (.long x4), .second, .val (.long star), .second, .val (.long tree), .second, .val (.long santa), .second, .val (.int (x1 &&& (3 : Int32))), .val (.long t), .second, .val (.ref o108), .val (.ref o128), .val (.ref aSanta), .val (.int (3 : Int32)), .unset]) at_179 rfl ?_
      refine s_iload 183 C X at_181 rfl ?_
      refine s_if_ne 192 186 C X at_183 (fun _ => ?_) (fun c => absurd c (by decide))
      refine s_iload 194 C X at_192 rfl ?_
      refine s_iconst 195 C X at_194 kc_iconst_1 ?_
      refine s_icmp_ne 206 198 C X at_195 (fun _ => ?_) (fun c => absurd c (by decide))
      refine s_iload 208 C X at_206 rfl ?_
      refine s_iconst 209 C X at_208 kc_iconst_2 ?_
      refine s_icmp_ne 220 212 C X at_209 (fun _ => ?_) (fun c => absurd c (by decide))
      refine s_getstatic 223 C X (host := "") at_220 (Or.inl (List.mem_of_getElem? (i := 80) rfl)) Via.refl (S_SANTA.ext Od.2) (fun T X => ?_)
      refine s_astore 225 C X (l' := #[.val (.long x0), .second, .val (.int x1), .val (.long x2), .second, .val (.long x3), .second, .val (.long x4), .second, .val (.long star), .second, .val (.long tree), .second, .val (.long santa), .second, .val (.int (x1 &&& (3 : Int32))), .val (.long t), .second, .val (.ref o108), .val (.ref o128), .val (.ref aSanta), .val (.int (3 : Int32)), .val (.ref aSanta)]) at_223 rfl rfl ?_
      refine s_aload 227 C X at_225 rfl rfl ?_
      refine s_aload 229 C X at_227 rfl rfl ?_
      refine s_acmp_ne 236 232 C X at_229 rfl rfl (fun c => absurd rfl c) (fun _ => ?_)
      refine s_iconst 233 C X at_232 kc_iconst_1 ?_
      refine s_goto 237 C X at_233 ?_
      refine s_nreturn C X at_237 rfl (by simp) rfl ?_ (hG := FW_end hS Nk (by decide) (by decide))
      rfl
  have t_c43_1 : ((x1 &&& (3 : Int32))).toInt = (3 : Int) := congrArg Int32.toInt c43_1
  refine s_lloadN 47 C X at_46 rfl ?_
  obtain ⟨t, e_t⟩ : ∃ zz_ : Int64, zz_ = x0 := ⟨_, rfl⟩
  refine Run.cast (st' := [(.long t)]) (by subst e_t; rfl) ?_
  refine s_lstore 49 C X (l' := #[.val (.long x0), .second, .val (.int x1), .val (.long x2), .second, .val (.long x3), .second, .val (.long x4), .second, .val (.long star), .second, .val (.long tree), .second, .val (.long santa), .second, .val (.int (x1 &&& (3 : Int32))), .val (.long t), .second, .unset, .unset, .unset, .unset, .unset]) at_47 rfl ?_
  refine s_goto 87 C X at_49 ?_
  refine s_new 90 C X at_87 (List.mem_of_getElem? (i := 2) rfl) (List.mem_of_getElem? (i := 3) rfl) (List.mem_of_getElem? (i := 4) rfl) (fun T hh o160 hb_o160 X E E_o160 D g_o160 => ?_)
  have ne_aE_o160 : aE ≠ o160 := Nat.ne_of_lt (Nat.lt_of_lt_of_le E_aE.lt (Nat.le_of_eq hb_o160))
  have ne_aSanta_o160 : aSanta ≠ o160 := Nat.ne_of_lt (Nat.lt_of_lt_of_le E_aSanta.lt (Nat.le_of_eq hb_o160))
  have ne_aTree_o160 : aTree ≠ o160 := Nat.ne_of_lt (Nat.lt_of_lt_of_le E_aTree.lt (Nat.le_of_eq hb_o160))
  have ne_aStar_o160 : aStar ≠ o160 := Nat.ne_of_lt (Nat.lt_of_lt_of_le E_aStar.lt (Nat.le_of_eq hb_o160))
  have Od := Od.ext E
  have E_aE := E_aE.ext E
  have F_aE_value := F_aE_value.ext E
  have E_aSanta := E_aSanta.ext E
  have E_aTree := E_aTree.ext E
  have E_aStar := E_aStar.ext E
  have F_o160_floor : Fld Z _ o160 "com/example/tinsel_tally/tinseltally/Figures" "floor" "J" (.long (0 : Int64)) := D (Or.inr (hw _ (List.mem_of_getElem? (i := 20) rfl))) (ty := .long) (by decide)
  have F_o160_dDayFirst : Fld Z _ o160 "com/example/tinsel_tally/tinseltally/Figures" "dDayFirst" "J" (.long (0 : Int64)) := D (Or.inr (hw _ (List.mem_of_getElem? (i := 22) rfl))) (ty := .long) (by decide)
  have F_o160_dDayRise : Fld Z _ o160 "com/example/tinsel_tally/tinseltally/Figures" "dDayRise" "J" (.long (0 : Int64)) := D (Or.inr (hw _ (List.mem_of_getElem? (i := 24) rfl))) (ty := .long) (by decide)
  have F_o160_perDessert : Fld Z _ o160 "com/example/tinsel_tally/tinseltally/Figures" "perDessert" "J" (.long (0 : Int64)) := D (Or.inr (hw _ (List.mem_of_getElem? (i := 26) rfl))) (ty := .long) (by decide)
  have F_o160_perMain : Fld Z _ o160 "com/example/tinsel_tally/tinseltally/Figures" "perMain" "J" (.long (0 : Int64)) := D (Or.inr (hw _ (List.mem_of_getElem? (i := 28) rfl))) (ty := .long) (by decide)
  have F_o160_specialDiscount : Fld Z _ o160 "com/example/tinsel_tally/tinseltally/Figures" "specialDiscount" "J" (.long (0 : Int64)) := D (Or.inr (hw _ (List.mem_of_getElem? (i := 30) rfl))) (ty := .long) (by decide)
  have F_o160_giftThreshold : Fld Z _ o160 "com/example/tinsel_tally/tinseltally/Figures" "giftThreshold" "J" (.long (0 : Int64)) := D (Or.inr (hw _ (List.mem_of_getElem? (i := 32) rfl))) (ty := .long) (by decide)
  have F_o160_giftDish : Fld Z _ o160 "com/example/tinsel_tally/tinseltally/Figures" "giftDish" "Ljava/lang/String;" .null := D (Or.inr (hw _ (List.mem_of_getElem? (i := 34) rfl))) (ty := (.object "java/lang/String")) (by decide)
  have F_o160_starThreshold : Fld Z _ o160 "com/example/tinsel_tally/tinseltally/Figures" "starThreshold" "J" (.long (0 : Int64)) := D (Or.inr (hw _ (List.mem_of_getElem? (i := 36) rfl))) (ty := .long) (by decide)
  have F_o160_treeThreshold : Fld Z _ o160 "com/example/tinsel_tally/tinseltally/Figures" "treeThreshold" "J" (.long (0 : Int64)) := D (Or.inr (hw _ (List.mem_of_getElem? (i := 38) rfl))) (ty := .long) (by decide)
  have F_o160_santaThreshold : Fld Z _ o160 "com/example/tinsel_tally/tinseltally/Figures" "santaThreshold" "J" (.long (0 : Int64)) := D (Or.inr (hw _ (List.mem_of_getElem? (i := 40) rfl))) (ty := .long) (by decide)
  refine s_dup 91 C X at_90 rfl ?_
  refine s_lconst 92 C X (z := (0 : Int64)) at_91 rfl ?_
  refine s_lconst 93 C X (z := (0 : Int64)) at_92 rfl ?_
  refine s_lconst 94 C X (z := (0 : Int64)) at_93 rfl ?_
  refine s_lconst 95 C X (z := (0 : Int64)) at_94 rfl ?_
  refine s_lconst 96 C X (z := (0 : Int64)) at_95 rfl ?_
  refine s_lconst 97 C X (z := (0 : Int64)) at_96 rfl ?_
  refine s_lconst 98 C X (z := (0 : Int64)) at_97 rfl ?_
  have wS : ∀ a ∈ Bundle.stringAtoms, a.before a0 Z = true := by
    intro a ha
    simp only [Bundle.stringAtoms, List.mem_cons, List.not_mem_nil, or_false] at ha
    rcases ha with rfl | rfl | rfl | rfl | rfl | rfl | rfl
    · exact hw _ (List.mem_of_getElem? (i := 6) rfl)
    · exact hw _ (List.mem_of_getElem? (i := 7) rfl)
    · exact hw _ (List.mem_of_getElem? (i := 8) rfl)
    · exact hw _ (List.mem_of_getElem? (i := 9) rfl)
    · exact hw _ (List.mem_of_getElem? (i := 10) rfl)
    · exact hw _ (List.mem_of_getElem? (i := 11) rfl)
    · exact hw _ (List.mem_of_getElem? (i := 12) rfl)
  refine s_ldcS1 100 4 C X at_98 (List.mem_of_getElem? (i := 5) rfl) wS (fun T hh t161 k1 C X E hS Nk => ?_)
  have Od := Od.ext E
  have E_aE := E_aE.ext E
  have F_aE_value := F_aE_value.ext E
  have E_aSanta := E_aSanta.ext E
  have E_aTree := E_aTree.ext E
  have E_aStar := E_aStar.ext E
  have E_o160 := E_o160.ext E
  have F_o160_floor := F_o160_floor.ext E
  have F_o160_dDayFirst := F_o160_dDayFirst.ext E
  have F_o160_dDayRise := F_o160_dDayRise.ext E
  have F_o160_perDessert := F_o160_perDessert.ext E
  have F_o160_perMain := F_o160_perMain.ext E
  have F_o160_specialDiscount := F_o160_specialDiscount.ext E
  have F_o160_giftThreshold := F_o160_giftThreshold.ext E
  have F_o160_giftDish := F_o160_giftDish.ext E
  have F_o160_starThreshold := F_o160_starThreshold.ext E
  have F_o160_treeThreshold := F_o160_treeThreshold.ext E
  have F_o160_santaThreshold := F_o160_santaThreshold.ext E
  refine s_lload 102 C X at_100 rfl ?_
  refine s_lload 104 C X at_102 rfl ?_
  refine s_lload 106 C X at_104 rfl ?_
  refine s_callC 109 [(.long (0 : Int64)), (.long (0 : Int64)), (.long (0 : Int64)), (.long (0 : Int64)), (.long (0 : Int64)), (.long (0 : Int64)), (.long (0 : Int64)), (.ref t161), (.long star), (.long tree), (.long santa)] [(.ref o160)] 1 C X at_106 rfl (List.mem_of_getElem? (i := 13) rfl) (List.mem_of_getElem? (i := 14) rfl) (List.mem_of_getElem? (i := 4) rfl) (List.mem_of_getElem? (i := 15) rfl) (rm_a162 l Z a0 hw aSanta aTree aStar aE star tree santa t o160 t161 _ n0 X.sz Od S_E S_SANTA S_TREE S_STAR E_o160 F_o160_floor F_o160_dDayFirst F_o160_dDayRise F_o160_perDessert F_o160_perMain F_o160_specialDiscount F_o160_giftThreshold F_o160_giftDish F_o160_starThreshold F_o160_treeThreshold F_o160_santaThreshold g_o160) (lenOf pd__JJJJJJJLjava_lang_String_JJJ_V rfl) rfl rfl rfl (fun T v hh X q => ?_)
  obtain ⟨rfl, Od, E_o160, F_o160_floor, F_o160_dDayFirst, F_o160_dDayRise, F_o160_perDessert, F_o160_perMain, F_o160_specialDiscount, F_o160_giftThreshold, F_o160_giftDish, F_o160_starThreshold, F_o160_treeThreshold, F_o160_santaThreshold, Kc⟩ := q
  have E_aE := E_aE.keep Kc
  have F_aE_value := F_aE_value.keep Kc (ninS ne_aE_o160 nin0)
  have E_aSanta := E_aSanta.keep Kc
  have E_aTree := E_aTree.keep Kc
  have E_aStar := E_aStar.keep Kc
  have Nk := Nat.le_trans Nk Kc.1
  refine Run.cast (st' := [(.ref o160)]) rfl ?_
  refine s_astore 111 C X (l' := #[.val (.long x0), .second, .val (.int x1), .val (.long x2), .second, .val (.long x3), .second, .val (.long x4), .second, .val (.long star), .second, .val (.long tree), .second, .val (.long santa), .second, .val (.int (x1 &&& (3 : Int32))), .val (.long t), .second, .val (.ref o160), .unset, .unset, .unset, .unset]) at_109 rfl rfl ?_
  refine s_lload 113 C X at_111 rfl ?_
  refine s_aload 115 C X at_113 rfl rfl ?_
  refine s_callS 118 [(.long t), (.ref o160)] [] 0 C X at_115 (List.mem_of_getElem? (i := 41) rfl) (List.mem_of_getElem? (i := 42) rfl) (List.mem_of_getElem? (i := 43) rfl) (List.mem_of_getElem? (i := 44) rfl) (rm_a163 l Z a0 hw aSanta aTree aStar aE star tree santa t o160 t161 _ n0 X.sz Od E_o160 F_o160_floor F_o160_dDayFirst F_o160_dDayRise F_o160_perDessert F_o160_perMain F_o160_specialDiscount F_o160_giftThreshold F_o160_giftDish F_o160_starThreshold F_o160_treeThreshold F_o160_santaThreshold S_E S_SANTA S_TREE S_STAR g_o160) (lenOf pd__JLcom_example_tinsel_tally_tinseltally_Figures__Ljava_util_Optional_ rfl) rfl rfl rfl (fun T v hh X q => ?_)
  obtain ⟨rfl, c10_166, c29_168, c48_170, Kc, E_o160, F_o160_floor, F_o160_dDayFirst, F_o160_dDayRise, F_o160_perDessert, F_o160_perMain, F_o160_specialDiscount, F_o160_giftThreshold, F_o160_giftDish, F_o160_starThreshold, F_o160_treeThreshold, F_o160_santaThreshold, Od⟩ | ⟨o172, rfl, c10_166, c29_168, c48_170, Kc, E_o160, F_o160_floor, F_o160_dDayFirst, F_o160_dDayRise, F_o160_perDessert, F_o160_perMain, F_o160_specialDiscount, F_o160_giftThreshold, F_o160_giftDish, F_o160_starThreshold, F_o160_treeThreshold, F_o160_santaThreshold, E_o172, F_o172_value, Od, ne_o160_o172, sz_o172', g_o172⟩ | ⟨o176, rfl, c10_166, c29_168, Kc, E_o160, F_o160_floor, F_o160_dDayFirst, F_o160_dDayRise, F_o160_perDessert, F_o160_perMain, F_o160_specialDiscount, F_o160_giftThreshold, F_o160_giftDish, F_o160_starThreshold, F_o160_treeThreshold, F_o160_santaThreshold, E_o176, F_o176_value, Od, ne_o160_o176, sz_o176', g_o176⟩ | ⟨o180, rfl, c10_166, Kc, E_o160, F_o160_floor, F_o160_dDayFirst, F_o160_dDayRise, F_o160_perDessert, F_o160_perMain, F_o160_specialDiscount, F_o160_giftThreshold, F_o160_giftDish, F_o160_starThreshold, F_o160_treeThreshold, F_o160_santaThreshold, E_o180, F_o180_value, Od, ne_o160_o180, sz_o180', g_o180⟩ := q
  · have E_aE := E_aE.keep Kc
    have F_aE_value := F_aE_value.keep Kc (ninS ne_aE_o160 nin0)
    have E_aSanta := E_aSanta.keep Kc
    have E_aTree := E_aTree.keep Kc
    have E_aStar := E_aStar.keep Kc
    have Nk := Nat.le_trans Nk Kc.1
    have t_c10_166 : (t).toInt < (santa).toInt := cl_lt.mp c10_166
    have t_c29_168 : (t).toInt < (tree).toInt := cl_lt.mp c29_168
    have t_c48_170 : (t).toInt < (star).toInt := cl_lt.mp c48_170
    refine Run.cast (st' := [(.ref aE)]) rfl ?_
    refine s_astore 120 C X (l' := #[.val (.long x0), .second, .val (.int x1), .val (.long x2), .second, .val (.long x3), .second, .val (.long x4), .second, .val (.long star), .second, .val (.long tree), .second, .val (.long santa), .second, .val (.int (x1 &&& (3 : Int32))), .val (.long t), .second, .val (.ref o160), .val (.ref aE), .unset, .unset, .unset]) at_118 rfl rfl ?_
    refine s_aload 122 C X at_120 rfl rfl ?_
    refine s_ifnonnullY 127 C X at_122 ?_
    refine s_aload 129 C X at_127 rfl rfl ?_
    refine s_aconstNull 130 C X at_129 ?_
    refine s_callV 133 [.null] [] 0 C X at_130 (List.mem_of_getElem? (i := 73) rfl) (List.mem_of_getElem? (i := 74) rfl) (notFace_of_selects (args := #[]) (mvT C.2.1 (C.w (List.mem_of_getElem? (i := 76) rfl)))) (List.mem_of_getElem? (i := 76) rfl) (List.mem_of_getElem? (i := 75) rfl) (List.mem_of_getElem? (i := 47) rfl) (List.mem_of_getElem? (i := 77) rfl) E_aE (rm_a183 l Z a0 hw aSanta aTree aStar aE _ n0 X.sz E_aE F_aE_value Od S_E S_SANTA S_TREE S_STAR) (lenOf pd__Ljava_lang_Object__Ljava_lang_Object_ rfl) rfl rfl rfl (fun T v hh X q => ?_)
    obtain ⟨rfl, E_aE, F_aE_value, Od, Kc⟩ := q
    have E_aSanta := E_aSanta.keep Kc
    have E_aTree := E_aTree.keep Kc
    have E_aStar := E_aStar.keep Kc
    have Nk := Nat.le_trans Nk Kc.1
    have E_o160 := E_o160.keep Kc
    have F_o160_floor := F_o160_floor.keep Kc (ninS (Ne.symm ne_aE_o160) nin0)
    have F_o160_dDayFirst := F_o160_dDayFirst.keep Kc (ninS (Ne.symm ne_aE_o160) nin0)
    have F_o160_dDayRise := F_o160_dDayRise.keep Kc (ninS (Ne.symm ne_aE_o160) nin0)
    have F_o160_perDessert := F_o160_perDessert.keep Kc (ninS (Ne.symm ne_aE_o160) nin0)
    have F_o160_perMain := F_o160_perMain.keep Kc (ninS (Ne.symm ne_aE_o160) nin0)
    have F_o160_specialDiscount := F_o160_specialDiscount.keep Kc (ninS (Ne.symm ne_aE_o160) nin0)
    have F_o160_giftThreshold := F_o160_giftThreshold.keep Kc (ninS (Ne.symm ne_aE_o160) nin0)
    have F_o160_giftDish := F_o160_giftDish.keep Kc (ninS (Ne.symm ne_aE_o160) nin0)
    have F_o160_starThreshold := F_o160_starThreshold.keep Kc (ninS (Ne.symm ne_aE_o160) nin0)
    have F_o160_treeThreshold := F_o160_treeThreshold.keep Kc (ninS (Ne.symm ne_aE_o160) nin0)
    have F_o160_santaThreshold := F_o160_santaThreshold.keep Kc (ninS (Ne.symm ne_aE_o160) nin0)
    refine Run.cast (st' := [.null]) rfl ?_
    refine s_castNull 136 C X at_133 ?_
    refine s_astore 138 C X (l' := #[.val (.long x0), .second, .val (.int x1), .val (.long x2), .second, .val (.long x3), .second, .val (.long x4), .second, .val (.long star), .second, .val (.long tree), .second, .val (.long santa), .second, .val (.int (x1 &&& (3 : Int32))), .val (.long t), .second, .val (.ref o160), .val (.ref aE), .val .null, .unset, .unset]) at_136 rfl rfl ?_
    refine s_lload 140 C X at_138 rfl ?_
    refine s_lload 142 C X at_140 rfl ?_
    refine s_lcmp 143 C X at_142 ?_
    refine s_if_lt 150 146 C X at_143 (fun c143_184 => ?_) (fun c => absurd (cl_lt.mpr (by omega)) c)
    have t_c143_184 : (t).toInt < (star).toInt := cl_lt.mp c143_184
    refine s_iconst 151 C X at_150 kc_iconst_0 ?_
    refine s_lload 153 C X at_151 rfl ?_
    refine s_lload 155 C X at_153 rfl ?_
    refine s_lcmp 156 C X at_155 ?_
    refine s_if_lt 163 159 C X at_156 (fun c156_185 => ?_) (fun c => absurd (cl_lt.mpr (by omega)) c)
    have t_c156_185 : (t).toInt < (tree).toInt := cl_lt.mp c156_185
    refine s_iconst 164 C X at_163 kc_iconst_0 ?_
    refine s_iadd 165 C X at_164 ?_
    refine Run.cast (st' := [(.int (0 : Int32))]) (by rw [kf_0]) ?_
    refine s_lload 167 C X at_165 rfl ?_
    refine s_lload 169 C X at_167 rfl ?_
    refine s_lcmp 170 C X at_169 ?_
    refine s_if_lt 177 173 C X at_170 (fun c170_186 => ?_) (fun c => absurd (cl_lt.mpr (by omega)) c)
    have t_c170_186 : (t).toInt < (santa).toInt := cl_lt.mp c170_186
    refine s_iconst 178 C X at_177 kc_iconst_0 ?_
    refine s_iadd 179 C X at_178 ?_
    refine Run.cast (st' := [(.int (0 : Int32))]) (by rw [kf_0]) ?_
    refine s_istore 181 C X (l' := #[.val (.long x0), .second, .val (.int x1), .val (.long x2), .second, .val (.long x3), .second, .val (.long x4), .second, .val (.long star), .second, .val (.long tree), .second, .val (.long santa), .second, .val (.int (x1 &&& (3 : Int32))), .val (.long t), .second, .val (.ref o160), .val (.ref aE), .val .null, .val (.int (0 : Int32)), .unset]) at_179 rfl ?_
    refine s_iload 183 C X at_181 rfl ?_
    refine s_if_ne 192 186 C X at_183 (fun c => absurd (by decide : (0 : Int32) = (0 : Int32)) c) (fun _ => ?_)
    refine s_aconstNull 187 C X at_186 ?_
    refine s_astore 189 C X (l' := #[.val (.long x0), .second, .val (.int x1), .val (.long x2), .second, .val (.long x3), .second, .val (.long x4), .second, .val (.long star), .second, .val (.long tree), .second, .val (.long santa), .second, .val (.int (x1 &&& (3 : Int32))), .val (.long t), .second, .val (.ref o160), .val (.ref aE), .val .null, .val (.int (0 : Int32)), .val .null]) at_187 rfl rfl ?_
    refine s_goto 225 C X at_189 ?_
    refine s_aload 227 C X at_225 rfl rfl ?_
    refine s_aload 229 C X at_227 rfl rfl ?_
    refine s_acmp_ne 236 232 C X at_229 rfl rfl (fun c => absurd rfl c) (fun _ => ?_)
    refine s_iconst 233 C X at_232 kc_iconst_1 ?_
    refine s_goto 237 C X at_233 ?_
    refine s_nreturn C X at_237 rfl (by simp) rfl ?_ (hG := FW_end hS Nk (by decide) (by decide))
    rfl
  · have ne_aE_o172 : aE ≠ o172 := Nat.ne_of_lt (Nat.lt_of_lt_of_le E_aE.lt sz_o172')
    have ne_aSanta_o172 : aSanta ≠ o172 := Nat.ne_of_lt (Nat.lt_of_lt_of_le E_aSanta.lt sz_o172')
    have ne_aTree_o172 : aTree ≠ o172 := Nat.ne_of_lt (Nat.lt_of_lt_of_le E_aTree.lt sz_o172')
    have ne_aStar_o172 : aStar ≠ o172 := Nat.ne_of_lt (Nat.lt_of_lt_of_le E_aStar.lt sz_o172')
    have E_aE := E_aE.keep Kc
    have F_aE_value := F_aE_value.keep Kc (ninS ne_aE_o160 nin0)
    have E_aSanta := E_aSanta.keep Kc
    have E_aTree := E_aTree.keep Kc
    have E_aStar := E_aStar.keep Kc
    have Nk := Nat.le_trans Nk Kc.1
    have t_c10_166 : (t).toInt < (santa).toInt := cl_lt.mp c10_166
    have t_c29_168 : (t).toInt < (tree).toInt := cl_lt.mp c29_168
    have t_c48_170 : ¬ ((t).toInt < (star).toInt) := fun q => c48_170 (cl_lt.mpr q)
    refine Run.cast (st' := [(.ref o172)]) rfl ?_
    refine s_astore 120 C X (l' := #[.val (.long x0), .second, .val (.int x1), .val (.long x2), .second, .val (.long x3), .second, .val (.long x4), .second, .val (.long star), .second, .val (.long tree), .second, .val (.long santa), .second, .val (.int (x1 &&& (3 : Int32))), .val (.long t), .second, .val (.ref o160), .val (.ref o172), .unset, .unset, .unset]) at_118 rfl rfl ?_
    refine s_aload 122 C X at_120 rfl rfl ?_
    refine s_ifnonnullY 127 C X at_122 ?_
    refine s_aload 129 C X at_127 rfl rfl ?_
    refine s_aconstNull 130 C X at_129 ?_
    refine s_callV 133 [.null] [] 0 C X at_130 (List.mem_of_getElem? (i := 73) rfl) (List.mem_of_getElem? (i := 74) rfl) (notFace_of_selects (args := #[]) (mvT C.2.1 (C.w (List.mem_of_getElem? (i := 76) rfl)))) (List.mem_of_getElem? (i := 76) rfl) (List.mem_of_getElem? (i := 75) rfl) (List.mem_of_getElem? (i := 47) rfl) (List.mem_of_getElem? (i := 77) rfl) E_o172 (rm_a189 l Z a0 hw aSanta aTree aStar aE o172 _ n0 X.sz E_aStar E_o172 F_o172_value Od S_E S_SANTA S_TREE S_STAR ne_aStar_o172 g_o172) (lenOf pd__Ljava_lang_Object__Ljava_lang_Object_ rfl) rfl rfl rfl (fun T v hh X q => ?_)
    obtain ⟨rfl, E_aStar, E_o172, F_o172_value, Od, Kc⟩ := q
    have E_aE := E_aE.keep Kc
    have F_aE_value := F_aE_value.keep Kc (ninS ne_aE_o172 (ninS ne_aE_aStar nin0))
    have E_aSanta := E_aSanta.keep Kc
    have E_aTree := E_aTree.keep Kc
    have Nk := Nat.le_trans Nk Kc.1
    have E_o160 := E_o160.keep Kc
    have F_o160_floor := F_o160_floor.keep Kc (ninS ne_o160_o172 (ninS (Ne.symm ne_aStar_o160) nin0))
    have F_o160_dDayFirst := F_o160_dDayFirst.keep Kc (ninS ne_o160_o172 (ninS (Ne.symm ne_aStar_o160) nin0))
    have F_o160_dDayRise := F_o160_dDayRise.keep Kc (ninS ne_o160_o172 (ninS (Ne.symm ne_aStar_o160) nin0))
    have F_o160_perDessert := F_o160_perDessert.keep Kc (ninS ne_o160_o172 (ninS (Ne.symm ne_aStar_o160) nin0))
    have F_o160_perMain := F_o160_perMain.keep Kc (ninS ne_o160_o172 (ninS (Ne.symm ne_aStar_o160) nin0))
    have F_o160_specialDiscount := F_o160_specialDiscount.keep Kc (ninS ne_o160_o172 (ninS (Ne.symm ne_aStar_o160) nin0))
    have F_o160_giftThreshold := F_o160_giftThreshold.keep Kc (ninS ne_o160_o172 (ninS (Ne.symm ne_aStar_o160) nin0))
    have F_o160_giftDish := F_o160_giftDish.keep Kc (ninS ne_o160_o172 (ninS (Ne.symm ne_aStar_o160) nin0))
    have F_o160_starThreshold := F_o160_starThreshold.keep Kc (ninS ne_o160_o172 (ninS (Ne.symm ne_aStar_o160) nin0))
    have F_o160_treeThreshold := F_o160_treeThreshold.keep Kc (ninS ne_o160_o172 (ninS (Ne.symm ne_aStar_o160) nin0))
    have F_o160_santaThreshold := F_o160_santaThreshold.keep Kc (ninS ne_o160_o172 (ninS (Ne.symm ne_aStar_o160) nin0))
    refine Run.cast (st' := [(.ref aStar)]) rfl ?_
    refine s_castY 136 C X at_133 (List.mem_of_getElem? (i := 78) rfl) (Ins.self E_aStar) (fun T X => ?_)
    refine s_astore 138 C X (l' := #[.val (.long x0), .second, .val (.int x1), .val (.long x2), .second, .val (.long x3), .second, .val (.long x4), .second, .val (.long star), .second, .val (.long tree), .second, .val (.long santa), .second, .val (.int (x1 &&& (3 : Int32))), .val (.long t), .second, .val (.ref o160), .val (.ref o172), .val (.ref aStar), .unset, .unset]) at_136 rfl rfl ?_
    refine s_lload 140 C X at_138 rfl ?_
    refine s_lload 142 C X at_140 rfl ?_
    refine s_lcmp 143 C X at_142 ?_
    refine s_if_lt 150 146 C X at_143 (fun c => absurd (cl_lt.mp c) (by omega)) (fun c143_190 => ?_)
    have t_c143_190 : ¬ ((t).toInt < (star).toInt) := fun q => c143_190 (cl_lt.mpr q)
    refine s_iconst 147 C X at_146 kc_iconst_1 ?_
    refine s_goto 151 C X at_147 ?_
    refine s_lload 153 C X at_151 rfl ?_
    refine s_lload 155 C X at_153 rfl ?_
    refine s_lcmp 156 C X at_155 ?_
    refine s_if_lt 163 159 C X at_156 (fun c156_191 => ?_) (fun c => absurd (cl_lt.mpr (by omega)) c)
    have t_c156_191 : (t).toInt < (tree).toInt := cl_lt.mp c156_191
    refine s_iconst 164 C X at_163 kc_iconst_0 ?_
    refine s_iadd 165 C X at_164 ?_
    refine Run.cast (st' := [(.int (1 : Int32))]) (by rw [kf_1]) ?_
    refine s_lload 167 C X at_165 rfl ?_
    refine s_lload 169 C X at_167 rfl ?_
    refine s_lcmp 170 C X at_169 ?_
    refine s_if_lt 177 173 C X at_170 (fun c170_192 => ?_) (fun c => absurd (cl_lt.mpr (by omega)) c)
    have t_c170_192 : (t).toInt < (santa).toInt := cl_lt.mp c170_192
    refine s_iconst 178 C X at_177 kc_iconst_0 ?_
    refine s_iadd 179 C X at_178 ?_
    refine Run.cast (st' := [(.int (1 : Int32))]) (by rw [kf_1]) ?_
    refine s_istore 181 C X (l' := #[.val (.long x0), .second, .val (.int x1), .val (.long x2), .second, .val (.long x3), .second, .val (.long x4), .second, .val (.long star), .second, .val (.long tree), .second, .val (.long santa), .second, .val (.int (x1 &&& (3 : Int32))), .val (.long t), .second, .val (.ref o160), .val (.ref o172), .val (.ref aStar), .val (.int (1 : Int32)), .unset]) at_179 rfl ?_
    refine s_iload 183 C X at_181 rfl ?_
    refine s_if_ne 192 186 C X at_183 (fun _ => ?_) (fun c => absurd c (by decide))
    refine s_iload 194 C X at_192 rfl ?_
    refine s_iconst 195 C X at_194 kc_iconst_1 ?_
    refine s_icmp_ne 206 198 C X at_195 (fun c => absurd (by decide : (1 : Int32) = (1 : Int32)) c) (fun _ => ?_)
    refine s_getstatic 201 C X (host := "") at_198 (Or.inl (List.mem_of_getElem? (i := 96) rfl)) Via.refl (S_STAR.ext Od.2) (fun T X => ?_)
    refine s_astore 203 C X (l' := #[.val (.long x0), .second, .val (.int x1), .val (.long x2), .second, .val (.long x3), .second, .val (.long x4), .second, .val (.long star), .second, .val (.long tree), .second, .val (.long santa), .second, .val (.int (x1 &&& (3 : Int32))), .val (.long t), .second, .val (.ref o160), .val (.ref o172), .val (.ref aStar), .val (.int (1 : Int32)), .val (.ref aStar)]) at_201 rfl rfl ?_
    refine s_goto 225 C X at_203 ?_
    refine s_aload 227 C X at_225 rfl rfl ?_
    refine s_aload 229 C X at_227 rfl rfl ?_
    refine s_acmp_ne 236 232 C X at_229 rfl rfl (fun c => absurd rfl c) (fun _ => ?_)
    refine s_iconst 233 C X at_232 kc_iconst_1 ?_
    refine s_goto 237 C X at_233 ?_
    refine s_nreturn C X at_237 rfl (by simp) rfl ?_ (hG := FW_end hS Nk (by decide) (by decide))
    rfl
  · have ne_aE_o176 : aE ≠ o176 := Nat.ne_of_lt (Nat.lt_of_lt_of_le E_aE.lt sz_o176')
    have ne_aSanta_o176 : aSanta ≠ o176 := Nat.ne_of_lt (Nat.lt_of_lt_of_le E_aSanta.lt sz_o176')
    have ne_aTree_o176 : aTree ≠ o176 := Nat.ne_of_lt (Nat.lt_of_lt_of_le E_aTree.lt sz_o176')
    have ne_aStar_o176 : aStar ≠ o176 := Nat.ne_of_lt (Nat.lt_of_lt_of_le E_aStar.lt sz_o176')
    have E_aE := E_aE.keep Kc
    have F_aE_value := F_aE_value.keep Kc (ninS ne_aE_o160 nin0)
    have E_aSanta := E_aSanta.keep Kc
    have E_aTree := E_aTree.keep Kc
    have E_aStar := E_aStar.keep Kc
    have Nk := Nat.le_trans Nk Kc.1
    have t_c10_166 : (t).toInt < (santa).toInt := cl_lt.mp c10_166
    have t_c29_168 : ¬ ((t).toInt < (tree).toInt) := fun q => c29_168 (cl_lt.mpr q)
    refine Run.cast (st' := [(.ref o176)]) rfl ?_
    refine s_astore 120 C X (l' := #[.val (.long x0), .second, .val (.int x1), .val (.long x2), .second, .val (.long x3), .second, .val (.long x4), .second, .val (.long star), .second, .val (.long tree), .second, .val (.long santa), .second, .val (.int (x1 &&& (3 : Int32))), .val (.long t), .second, .val (.ref o160), .val (.ref o176), .unset, .unset, .unset]) at_118 rfl rfl ?_
    refine s_aload 122 C X at_120 rfl rfl ?_
    refine s_ifnonnullY 127 C X at_122 ?_
    refine s_aload 129 C X at_127 rfl rfl ?_
    refine s_aconstNull 130 C X at_129 ?_
    refine s_callV 133 [.null] [] 0 C X at_130 (List.mem_of_getElem? (i := 73) rfl) (List.mem_of_getElem? (i := 74) rfl) (notFace_of_selects (args := #[]) (mvT C.2.1 (C.w (List.mem_of_getElem? (i := 76) rfl)))) (List.mem_of_getElem? (i := 76) rfl) (List.mem_of_getElem? (i := 75) rfl) (List.mem_of_getElem? (i := 47) rfl) (List.mem_of_getElem? (i := 77) rfl) E_o176 (rm_a196 l Z a0 hw aSanta aTree aStar aE o176 _ n0 X.sz E_aTree E_o176 F_o176_value Od S_E S_SANTA S_TREE S_STAR ne_aTree_o176 g_o176) (lenOf pd__Ljava_lang_Object__Ljava_lang_Object_ rfl) rfl rfl rfl (fun T v hh X q => ?_)
    obtain ⟨rfl, E_aTree, E_o176, F_o176_value, Od, Kc⟩ := q
    have E_aE := E_aE.keep Kc
    have F_aE_value := F_aE_value.keep Kc (ninS ne_aE_o176 (ninS ne_aE_aTree nin0))
    have E_aSanta := E_aSanta.keep Kc
    have E_aStar := E_aStar.keep Kc
    have Nk := Nat.le_trans Nk Kc.1
    have E_o160 := E_o160.keep Kc
    have F_o160_floor := F_o160_floor.keep Kc (ninS ne_o160_o176 (ninS (Ne.symm ne_aTree_o160) nin0))
    have F_o160_dDayFirst := F_o160_dDayFirst.keep Kc (ninS ne_o160_o176 (ninS (Ne.symm ne_aTree_o160) nin0))
    have F_o160_dDayRise := F_o160_dDayRise.keep Kc (ninS ne_o160_o176 (ninS (Ne.symm ne_aTree_o160) nin0))
    have F_o160_perDessert := F_o160_perDessert.keep Kc (ninS ne_o160_o176 (ninS (Ne.symm ne_aTree_o160) nin0))
    have F_o160_perMain := F_o160_perMain.keep Kc (ninS ne_o160_o176 (ninS (Ne.symm ne_aTree_o160) nin0))
    have F_o160_specialDiscount := F_o160_specialDiscount.keep Kc (ninS ne_o160_o176 (ninS (Ne.symm ne_aTree_o160) nin0))
    have F_o160_giftThreshold := F_o160_giftThreshold.keep Kc (ninS ne_o160_o176 (ninS (Ne.symm ne_aTree_o160) nin0))
    have F_o160_giftDish := F_o160_giftDish.keep Kc (ninS ne_o160_o176 (ninS (Ne.symm ne_aTree_o160) nin0))
    have F_o160_starThreshold := F_o160_starThreshold.keep Kc (ninS ne_o160_o176 (ninS (Ne.symm ne_aTree_o160) nin0))
    have F_o160_treeThreshold := F_o160_treeThreshold.keep Kc (ninS ne_o160_o176 (ninS (Ne.symm ne_aTree_o160) nin0))
    have F_o160_santaThreshold := F_o160_santaThreshold.keep Kc (ninS ne_o160_o176 (ninS (Ne.symm ne_aTree_o160) nin0))
    refine Run.cast (st' := [(.ref aTree)]) rfl ?_
    refine s_castY 136 C X at_133 (List.mem_of_getElem? (i := 78) rfl) (Ins.self E_aTree) (fun T X => ?_)
    refine s_astore 138 C X (l' := #[.val (.long x0), .second, .val (.int x1), .val (.long x2), .second, .val (.long x3), .second, .val (.long x4), .second, .val (.long star), .second, .val (.long tree), .second, .val (.long santa), .second, .val (.int (x1 &&& (3 : Int32))), .val (.long t), .second, .val (.ref o160), .val (.ref o176), .val (.ref aTree), .unset, .unset]) at_136 rfl rfl ?_
    refine s_lload 140 C X at_138 rfl ?_
    refine s_lload 142 C X at_140 rfl ?_
    refine s_lcmp 143 C X at_142 ?_
    refine s_if_lt 150 146 C X at_143 (fun c => absurd (cl_lt.mp c) (by omega)) (fun c143_197 => ?_)
    have t_c143_197 : ¬ ((t).toInt < (star).toInt) := fun q => c143_197 (cl_lt.mpr q)
    refine s_iconst 147 C X at_146 kc_iconst_1 ?_
    refine s_goto 151 C X at_147 ?_
    refine s_lload 153 C X at_151 rfl ?_
    refine s_lload 155 C X at_153 rfl ?_
    refine s_lcmp 156 C X at_155 ?_
    refine s_if_lt 163 159 C X at_156 (fun c => absurd (cl_lt.mp c) (by omega)) (fun c156_198 => ?_)
    have t_c156_198 : ¬ ((t).toInt < (tree).toInt) := fun q => c156_198 (cl_lt.mpr q)
    refine s_iconst 160 C X at_159 kc_iconst_1 ?_
    refine s_goto 164 C X at_160 ?_
    refine s_iadd 165 C X at_164 ?_
    refine Run.cast (st' := [(.int (2 : Int32))]) (by rw [kf_2]) ?_
    refine s_lload 167 C X at_165 rfl ?_
    refine s_lload 169 C X at_167 rfl ?_
    refine s_lcmp 170 C X at_169 ?_
    refine s_if_lt 177 173 C X at_170 (fun c170_199 => ?_) (fun c => absurd (cl_lt.mpr (by omega)) c)
    have t_c170_199 : (t).toInt < (santa).toInt := cl_lt.mp c170_199
    refine s_iconst 178 C X at_177 kc_iconst_0 ?_
    refine s_iadd 179 C X at_178 ?_
    refine Run.cast (st' := [(.int (2 : Int32))]) (by rw [kf_3]) ?_
    refine s_istore 181 C X (l' := #[.val (.long x0), .second, .val (.int x1), .val (.long x2), .second, .val (.long x3), .second, .val (.long x4), .second, .val (.long star), .second, .val (.long tree), .second, .val (.long santa), .second, .val (.int (x1 &&& (3 : Int32))), .val (.long t), .second, .val (.ref o160), .val (.ref o176), .val (.ref aTree), .val (.int (2 : Int32)), .unset]) at_179 rfl ?_
    refine s_iload 183 C X at_181 rfl ?_
    refine s_if_ne 192 186 C X at_183 (fun _ => ?_) (fun c => absurd c (by decide))
    refine s_iload 194 C X at_192 rfl ?_
    refine s_iconst 195 C X at_194 kc_iconst_1 ?_
    refine s_icmp_ne 206 198 C X at_195 (fun _ => ?_) (fun c => absurd c (by decide))
    refine s_iload 208 C X at_206 rfl ?_
    refine s_iconst 209 C X at_208 kc_iconst_2 ?_
    refine s_icmp_ne 220 212 C X at_209 (fun c => absurd (by decide : (2 : Int32) = (2 : Int32)) c) (fun _ => ?_)
    refine s_getstatic 215 C X (host := "") at_212 (Or.inl (List.mem_of_getElem? (i := 88) rfl)) Via.refl (S_TREE.ext Od.2) (fun T X => ?_)
    refine s_astore 217 C X (l' := #[.val (.long x0), .second, .val (.int x1), .val (.long x2), .second, .val (.long x3), .second, .val (.long x4), .second, .val (.long star), .second, .val (.long tree), .second, .val (.long santa), .second, .val (.int (x1 &&& (3 : Int32))), .val (.long t), .second, .val (.ref o160), .val (.ref o176), .val (.ref aTree), .val (.int (2 : Int32)), .val (.ref aTree)]) at_215 rfl rfl ?_
    refine s_goto 225 C X at_217 ?_
    refine s_aload 227 C X at_225 rfl rfl ?_
    refine s_aload 229 C X at_227 rfl rfl ?_
    refine s_acmp_ne 236 232 C X at_229 rfl rfl (fun c => absurd rfl c) (fun _ => ?_)
    refine s_iconst 233 C X at_232 kc_iconst_1 ?_
    refine s_goto 237 C X at_233 ?_
    refine s_nreturn C X at_237 rfl (by simp) rfl ?_ (hG := FW_end hS Nk (by decide) (by decide))
    rfl
  · have ne_aE_o180 : aE ≠ o180 := Nat.ne_of_lt (Nat.lt_of_lt_of_le E_aE.lt sz_o180')
    have ne_aSanta_o180 : aSanta ≠ o180 := Nat.ne_of_lt (Nat.lt_of_lt_of_le E_aSanta.lt sz_o180')
    have ne_aTree_o180 : aTree ≠ o180 := Nat.ne_of_lt (Nat.lt_of_lt_of_le E_aTree.lt sz_o180')
    have ne_aStar_o180 : aStar ≠ o180 := Nat.ne_of_lt (Nat.lt_of_lt_of_le E_aStar.lt sz_o180')
    have E_aE := E_aE.keep Kc
    have F_aE_value := F_aE_value.keep Kc (ninS ne_aE_o160 nin0)
    have E_aSanta := E_aSanta.keep Kc
    have E_aTree := E_aTree.keep Kc
    have E_aStar := E_aStar.keep Kc
    have Nk := Nat.le_trans Nk Kc.1
    have t_c10_166 : ¬ ((t).toInt < (santa).toInt) := fun q => c10_166 (cl_lt.mpr q)
    refine Run.cast (st' := [(.ref o180)]) rfl ?_
    refine s_astore 120 C X (l' := #[.val (.long x0), .second, .val (.int x1), .val (.long x2), .second, .val (.long x3), .second, .val (.long x4), .second, .val (.long star), .second, .val (.long tree), .second, .val (.long santa), .second, .val (.int (x1 &&& (3 : Int32))), .val (.long t), .second, .val (.ref o160), .val (.ref o180), .unset, .unset, .unset]) at_118 rfl rfl ?_
    refine s_aload 122 C X at_120 rfl rfl ?_
    refine s_ifnonnullY 127 C X at_122 ?_
    refine s_aload 129 C X at_127 rfl rfl ?_
    refine s_aconstNull 130 C X at_129 ?_
    refine s_callV 133 [.null] [] 0 C X at_130 (List.mem_of_getElem? (i := 73) rfl) (List.mem_of_getElem? (i := 74) rfl) (notFace_of_selects (args := #[]) (mvT C.2.1 (C.w (List.mem_of_getElem? (i := 76) rfl)))) (List.mem_of_getElem? (i := 76) rfl) (List.mem_of_getElem? (i := 75) rfl) (List.mem_of_getElem? (i := 47) rfl) (List.mem_of_getElem? (i := 77) rfl) E_o180 (rm_a204 l Z a0 hw aSanta aTree aStar aE o180 _ n0 X.sz E_aSanta E_o180 F_o180_value Od S_E S_SANTA S_TREE S_STAR ne_aSanta_o180 g_o180) (lenOf pd__Ljava_lang_Object__Ljava_lang_Object_ rfl) rfl rfl rfl (fun T v hh X q => ?_)
    obtain ⟨rfl, E_aSanta, E_o180, F_o180_value, Od, Kc⟩ := q
    have E_aE := E_aE.keep Kc
    have F_aE_value := F_aE_value.keep Kc (ninS ne_aE_o180 (ninS ne_aE_aSanta nin0))
    have E_aTree := E_aTree.keep Kc
    have E_aStar := E_aStar.keep Kc
    have Nk := Nat.le_trans Nk Kc.1
    have E_o160 := E_o160.keep Kc
    have F_o160_floor := F_o160_floor.keep Kc (ninS ne_o160_o180 (ninS (Ne.symm ne_aSanta_o160) nin0))
    have F_o160_dDayFirst := F_o160_dDayFirst.keep Kc (ninS ne_o160_o180 (ninS (Ne.symm ne_aSanta_o160) nin0))
    have F_o160_dDayRise := F_o160_dDayRise.keep Kc (ninS ne_o160_o180 (ninS (Ne.symm ne_aSanta_o160) nin0))
    have F_o160_perDessert := F_o160_perDessert.keep Kc (ninS ne_o160_o180 (ninS (Ne.symm ne_aSanta_o160) nin0))
    have F_o160_perMain := F_o160_perMain.keep Kc (ninS ne_o160_o180 (ninS (Ne.symm ne_aSanta_o160) nin0))
    have F_o160_specialDiscount := F_o160_specialDiscount.keep Kc (ninS ne_o160_o180 (ninS (Ne.symm ne_aSanta_o160) nin0))
    have F_o160_giftThreshold := F_o160_giftThreshold.keep Kc (ninS ne_o160_o180 (ninS (Ne.symm ne_aSanta_o160) nin0))
    have F_o160_giftDish := F_o160_giftDish.keep Kc (ninS ne_o160_o180 (ninS (Ne.symm ne_aSanta_o160) nin0))
    have F_o160_starThreshold := F_o160_starThreshold.keep Kc (ninS ne_o160_o180 (ninS (Ne.symm ne_aSanta_o160) nin0))
    have F_o160_treeThreshold := F_o160_treeThreshold.keep Kc (ninS ne_o160_o180 (ninS (Ne.symm ne_aSanta_o160) nin0))
    have F_o160_santaThreshold := F_o160_santaThreshold.keep Kc (ninS ne_o160_o180 (ninS (Ne.symm ne_aSanta_o160) nin0))
    refine Run.cast (st' := [(.ref aSanta)]) rfl ?_
    refine s_castY 136 C X at_133 (List.mem_of_getElem? (i := 78) rfl) (Ins.self E_aSanta) (fun T X => ?_)
    refine s_astore 138 C X (l' := #[.val (.long x0), .second, .val (.int x1), .val (.long x2), .second, .val (.long x3), .second, .val (.long x4), .second, .val (.long star), .second, .val (.long tree), .second, .val (.long santa), .second, .val (.int (x1 &&& (3 : Int32))), .val (.long t), .second, .val (.ref o160), .val (.ref o180), .val (.ref aSanta), .unset, .unset]) at_136 rfl rfl ?_
    refine s_lload 140 C X at_138 rfl ?_
    refine s_lload 142 C X at_140 rfl ?_
    refine s_lcmp 143 C X at_142 ?_
    refine s_if_lt 150 146 C X at_143 (fun c => absurd (cl_lt.mp c) (by omega)) (fun c143_205 => ?_)
    have t_c143_205 : ¬ ((t).toInt < (star).toInt) := fun q => c143_205 (cl_lt.mpr q)
    refine s_iconst 147 C X at_146 kc_iconst_1 ?_
    refine s_goto 151 C X at_147 ?_
    refine s_lload 153 C X at_151 rfl ?_
    refine s_lload 155 C X at_153 rfl ?_
    refine s_lcmp 156 C X at_155 ?_
    refine s_if_lt 163 159 C X at_156 (fun c => absurd (cl_lt.mp c) (by omega)) (fun c156_206 => ?_)
    have t_c156_206 : ¬ ((t).toInt < (tree).toInt) := fun q => c156_206 (cl_lt.mpr q)
    refine s_iconst 160 C X at_159 kc_iconst_1 ?_
    refine s_goto 164 C X at_160 ?_
    refine s_iadd 165 C X at_164 ?_
    refine Run.cast (st' := [(.int (2 : Int32))]) (by rw [kf_2]) ?_
    refine s_lload 167 C X at_165 rfl ?_
    refine s_lload 169 C X at_167 rfl ?_
    refine s_lcmp 170 C X at_169 ?_
    refine s_if_lt 177 173 C X at_170 (fun c => absurd (cl_lt.mp c) (by omega)) (fun c170_207 => ?_)
    have t_c170_207 : ¬ ((t).toInt < (santa).toInt) := fun q => c170_207 (cl_lt.mpr q)
    refine s_iconst 174 C X at_173 kc_iconst_1 ?_
    refine s_goto 178 C X at_174 ?_
    refine s_iadd 179 C X at_178 ?_
    refine Run.cast (st' := [(.int (3 : Int32))]) (by rw [kf_4]) ?_
    refine s_istore 181 C X (l' := #[.val (.long x0), .second, .val (.int x1), .val (.long x2), .second, .val (.long x3), .second, .val (.long x4), .second, .val (.long star), .second, .val (.long tree), .second, .val (.long santa), .second, .val (.int (x1 &&& (3 : Int32))), .val (.long t), .second, .val (.ref o160), .val (.ref o180), .val (.ref aSanta), .val (.int (3 : Int32)), .unset]) at_179 rfl ?_
    refine s_iload 183 C X at_181 rfl ?_
    refine s_if_ne 192 186 C X at_183 (fun _ => ?_) (fun c => absurd c (by decide))
    refine s_iload 194 C X at_192 rfl ?_
    refine s_iconst 195 C X at_194 kc_iconst_1 ?_
    refine s_icmp_ne 206 198 C X at_195 (fun _ => ?_) (fun c => absurd c (by decide))
    refine s_iload 208 C X at_206 rfl ?_
    refine s_iconst 209 C X at_208 kc_iconst_2 ?_
    refine s_icmp_ne 220 212 C X at_209 (fun _ => ?_) (fun c => absurd c (by decide))
    refine s_getstatic 223 C X (host := "") at_220 (Or.inl (List.mem_of_getElem? (i := 80) rfl)) Via.refl (S_SANTA.ext Od.2) (fun T X => ?_)
    refine s_astore 225 C X (l' := #[.val (.long x0), .second, .val (.int x1), .val (.long x2), .second, .val (.long x3), .second, .val (.long x4), .second, .val (.long star), .second, .val (.long tree), .second, .val (.long santa), .second, .val (.int (x1 &&& (3 : Int32))), .val (.long t), .second, .val (.ref o160), .val (.ref o180), .val (.ref aSanta), .val (.int (3 : Int32)), .val (.ref aSanta)]) at_223 rfl rfl ?_
    refine s_aload 227 C X at_225 rfl rfl ?_
    refine s_aload 229 C X at_227 rfl rfl ?_
    refine s_acmp_ne 236 232 C X at_229 rfl rfl (fun c => absurd rfl c) (fun _ => ?_)
    refine s_iconst 233 C X at_232 kc_iconst_1 ?_
    refine s_goto 237 C X at_233 ?_
    refine s_nreturn C X at_237 rfl (by simp) rfl ?_ (hG := FW_end hS Nk (by decide) (by decide))
    rfl
set_option maxRecDepth 65536 in
set_option maxHeartbeats 40000000 in
theorem comes_1 {Post : Tables → Env → Array Value → State → Outcome → State → Prop} (hpost : ∀ tb e args s v u, (limb_1_1.after args s (.returned v) u = true ∧ limb_1_2.after args s (.returned v) u = true ∧ True) → ReturnedEndW s (.returned v) u (Jvm.fieldLocs frame_1_writes args s ++ Jvm.arrayLocs frame_1_arrays args s ++ Jvm.staticLocs frame_1_statics s) 16 1152 → Post tb e args s (.returned v) u) :
    ArmFor flags0 classFile x code maxLocals ret World_1 tables_1 room_1 Calls_1 rest_1 Pre_1 Post := by
  intro l hfl _ _ p e ha hc hk s m args below hf hA hF happ hP
  obtain ⟨hcalls, hrest, hpre⟩ := hP
  obtain ⟨-, -, -, hnamed, -, -, -, hat⟩ := (Spec.applies_iff hf).mp happ
  obtain ⟨hg, hn⟩ := and_e (Cond.before_iff.mp (show (Jvm.Cond.and given_1 narrow_1).before args s = true from hpre))
  obtain ⟨g0, g1⟩ := and_e hg
  obtain ⟨ga0, gr0⟩ := and_e g1
  obtain ⟨ga1, gr1⟩ := and_e gr0
  obtain ⟨ga2, gr2⟩ := and_e gr1
  obtain ⟨ga3, gr3⟩ := and_e gr2
  obtain ⟨w0, w1, w2, w3, w4, rfl⟩ : ∃ w0 w1 w2 w3 w4 : Value, args = #[w0, w1, w2, w3, w4] := by
    have hs : args.size = 5 := by simpa [Cond.value, given_1] using g0
    obtain ⟨L⟩ := args
    match L, hs with
    | [w0, w1, w2, w3, w4], _ => exact ⟨w0, w1, w2, w3, w4, rfl⟩
  have hw := fun d (hd : d ∈ tables_1) => atoms_spec (ws := Jvm.Cond.code x code maxLocals ret :: tables_1) hat d (List.mem_cons_of_mem _ hd)
  have hfit : Fit s := fun {y c} hc i hi => by
    obtain ⟨ha, rfl⟩ := Array.getElem?_eq_some_iff.mp hc
    have q := List.all_eq_true.mp ((Array.all_eq_true_iff_forall_mem.mp hF) _ (Array.getElem_mem ha)) i (List.mem_range.mpr hi)
    simpa [Array.getElem?_eq_getElem hi] using q
  obtain ⟨i0, e0⟩ := isL_v ga0
  obtain rfl : w0 = (.long i0) := Option.some.inj e0
  obtain ⟨i1, e1⟩ := is_v ga1
  obtain rfl : w1 = (.int i1) := Option.some.inj e1
  obtain ⟨i2, e2⟩ := isL_v ga2
  obtain rfl : w2 = (.long i2) := Option.some.inj e2
  obtain ⟨i3, e3⟩ := isL_v ga3
  obtain rfl : w3 = (.long i3) := Option.some.inj e3
  obtain ⟨i4, e4⟩ := isL_v gr3
  obtain rfl : w4 = (.long i4) := Option.some.inj e4
  obtain ⟨n1, hn⟩ := and_e hn
  obtain ⟨n2, n3⟩ := and_e hn
  obtain ⟨hsets, -⟩ := atoms_of jdkStatics_1 (show (jdkStatics_1.foldr Jvm.Cond.and restOwn_1).before _ s = true from hrest)
  have st0 := hsets _ (List.mem_of_getElem? (i := 0) rfl)
  have st1 := hsets _ (List.mem_of_getElem? (i := 1) rfl)
  have st2 := Cond.before_iff.mp (hsets _ (List.mem_of_getElem? (i := 2) rfl))
  have st3 := Cond.before_iff.mp (hsets _ (List.mem_of_getElem? (i := 3) rfl))
  obtain ⟨aE, eE⟩ := exa_v st2
  have S_E := Sta.start eE (Or.inl st1)
  have F_E := Fld.start ((fld_at eE).symm.trans (null_v st3))
  obtain ⟨aSanta, e_aSanta⟩ := exa_v n1
  have S_SANTA := Sta.start e_aSanta (Or.inr ⟨(hw _ (List.mem_of_getElem? (i := 43) rfl)), (hw _ (List.mem_of_getElem? (i := 56) rfl))⟩)
  obtain ⟨aTree, e_aTree⟩ := exa_v n2
  have S_TREE := Sta.start e_aTree (Or.inr ⟨(hw _ (List.mem_of_getElem? (i := 43) rfl)), (hw _ (List.mem_of_getElem? (i := 87) rfl))⟩)
  obtain ⟨aStar, e_aStar⟩ := exa_v n3
  have S_STAR := Sta.start e_aStar (Or.inr ⟨(hw _ (List.mem_of_getElem? (i := 43) rfl)), (hw _ (List.mem_of_getElem? (i := 95) rfl))⟩)
  obtain ⟨n, o, h1, h2, h3, _, L, rfl, ⟨rfl, N⟩, hq⟩ := rm0 l s _ hw i0 i1 i2 i3 i4 aE aSanta aTree aStar s.heap s.heap.size (Nat.le_refl _) (Old.start s) S_E (Exa.start eE st2) F_E S_SANTA (Exa.start e_aSanta n1) S_TREE (Exa.start e_aTree n2) S_STAR (Exa.start e_aStar n3) p e ha hc hk s m _ below hf ((Spec.applies_iff_loose hf).mp happ).1 ⟨rfl, State.Warmed39.refl s, rfl⟩ trivial
  exact ⟨n, _, h1, h2, h3, hpost _ _ _ _ _ _ ⟨Cond.after_iff.mpr rfl, Cond.after_iff.mpr (eq_i res_at (Term.int_eval (1)) rfl), trivial⟩ ⟨hq.1, hq.2.1, hq.2.2.1, (hq.2.2.2.sift fun y hy => Or.inr (N y hy)).mono (by decide) (by decide)⟩⟩
theorem main_1_1 : Claimed_1_1 := comes_1 fun _ _ _ _ _ _ h hF => ⟨h.1, hF⟩
theorem main_1_2 : Claimed_1_2 := comes_1 fun _ _ _ _ _ _ h hF => ⟨h.2.1, hF⟩
end Jvm.Pilot.@@N@@
namespace Jvm.Pilot.@@N@@
open Jvm Jvm.ClassFile Sem Op Lib Jvm.Free Jvm.Stand Jvm.Pilot.@@N@@.Jvm.D
/-! MADE BY PROGRAM (witnessworld.py) out of the Statement's table words and the real class files: 18 classes; the members and pool entries that the words name. The judged class is class 1, her method 1. -/
namespace start1
open Jvm.ClassFile
def u (s : String) : CpInfo := .utf8 (stringToUtf16 s)
/-- a pool by its gaps: so many unusable entries, then the entry; so many at the end -/
def gap : Nat → List CpInfo → List CpInfo
  | 0, r => r
  | n + 1, r => .unusable :: gap n r
def poolList (es : List (Nat × CpInfo)) (last : Nat) : List CpInfo := es.foldr (fun e r => gap e.1 (e.2 :: r)) (gap last [])
def pool (es : List (Nat × CpInfo)) (last : Nat) : Array CpInfo := ⟨poolList es last⟩
def fileOf (pool : Array CpInfo) (this : Nat) (attrs : Array Attribute := #[]) (ms : Array MethodInfo := #[]) (fl : Nat := 33) (sup : Nat := 0) (ifs : Array Nat := #[]) (fds : Array FieldInfo := #[]) : ClassFile where
  minorVersion := 0
  majorVersion := 65
  constantPool := pool
  accessFlags := fl
  thisClass := this
  superClass := sup
  interfaces := ifs
  fields := fds
  methods := ms
  attributes := attrs
def plain (name : String) (sup : Option ClassId) : Class where
  name := name
  kind := .ordinary
  loader := none
  accessFlags := 33
  super := sup
  interfaces := #[]
  cf := none
  fields := #[]
  methods := #[]
  instanceTypes := #[]
  staticTypes := #[]
  resolved := #[]
  callSites := []
  init := .initialized
  statics := none
  mirror := none

def pool0 : Array CpInfo := pool [(5, u "<init>"), (0, u "()V"), (1, .class_ 10), (1, u "java/lang/Object")] 113

def k0c0 : Code := { maxStack := 0, maxLocals := 1, code := object_method_1_code, exceptionTable := #[], attributes := #[] }
def k0m0 : Method := { name := "<init>", desc := "()V", sig := { parameters := [], returnType := none }, accessFlags := 1, code := some k0c0 }
/-- java/lang/Object -/
def k0 : Class := { plain "java/lang/Object" none with
  accessFlags := 33
  interfaces := #[]
  cf := some (fileOf pool0 8 #[] #[{ accessFlags := 1, nameIndex := 5, descriptorIndex := 6, attributes := #[] }] 33 0 #[] #[])
  fields := #[]
  methods := #[k0m0]
  instanceTypes := #[]
  staticTypes := #[]
  resolved := Array.replicate 124 none
  statics := none }

def pool1 : Array CpInfo := pool [(2, .class_ 4), (1, u "java/lang/Object"), (0, u "<init>"), (0, u "()V"), (0, .class_ 8), (0, u "com/example/tinsel_tally/tinseltally/BadgeForTotalBenefitPinLaw"), (0, .long 2305843009213693951), (1, .long 4), (1, .class_ 14), (0, u "com/example/tinsel_tally/tinseltally/Figures"), (0, .string 16), (0, u "x"), (0, .methodref 13 18), (0, .nameAndType 5 19), (0, u "(JJJJJJJLjava/lang/String;JJJ)V"), (0, .methodref 21 22), (0, .class_ 23), (0, .nameAndType 24 25), (0, u "com/example/tinsel_tally/tinseltally/Badge"), (0, u "forTotalBenefit"), (0, u "(JLcom/example/tinsel_tally/tinseltally/Figures;)Ljava/util/Optional;"), (0, .methodref 27 28), (0, .class_ 29), (0, .nameAndType 30 31), (0, u "java/util/Optional"), (0, u "orElse"), (0, u "(Ljava/lang/Object;)Ljava/lang/Object;"), (0, .fieldref 21 33), (0, .nameAndType 34 35), (0, u "STAR"), (0, u "Lcom/example/tinsel_tally/tinseltally/Badge;"), (0, .fieldref 21 37), (0, .nameAndType 38 35), (0, u "TREE"), (0, .fieldref 21 40), (0, .nameAndType 41 35), (0, u "SANTA"), (0, u "MASK"), (0, u "J"), (3, u "law"), (0, u "(JIJJJ)Z")] 3

def k1m0 : Method := { name := "<init>", desc := "()V", sig := { parameters := [], returnType := none }, accessFlags := 1, code := none }
def k1c1 : Code := { maxStack := 23, maxLocals := 23, code := code, exceptionTable := #[], attributes := #[] }
def k1m1 : Method := { name := "law", desc := "(JIJJJ)Z", sig := { parameters := [.long, .int, .long, .long, .long], returnType := some .boolean }, accessFlags := 9, code := some k1c1 }
/-- com/example/tinsel_tally/tinseltally/BadgeForTotalBenefitPinLaw -/
def k1 : Class := { plain "com/example/tinsel_tally/tinseltally/BadgeForTotalBenefitPinLaw" (some 0) with
  accessFlags := 49
  interfaces := #[]
  cf := some (fileOf pool1 7 #[] #[{ accessFlags := 1, nameIndex := 5, descriptorIndex := 6, attributes := #[] }, { accessFlags := 9, nameIndex := 47, descriptorIndex := 48, attributes := #[] }] 49 2 #[] #[{ accessFlags := 26, nameIndex := 42, descriptorIndex := 43, attributes := #[] }])
  fields := #[{ name := "MASK", type := .long, accessFlags := 26, slot := 0, constantValue := 0 }]
  methods := #[k1m0, k1m1]
  instanceTypes := #[]
  staticTypes := #[.long]
  resolved := Array.replicate 52 none
  statics := none }

def pool2 : Array CpInfo := pool [(1, .methodref 2 3), (0, .class_ 4), (0, .nameAndType 5 6), (0, u "java/lang/Object"), (0, u "<init>"), (0, u "()V"), (0, .fieldref 8 9), (0, .class_ 10), (0, .nameAndType 11 12), (0, u "com/example/tinsel_tally/tinseltally/Figures"), (0, u "floor"), (0, u "J"), (0, .fieldref 8 14), (0, .nameAndType 15 12), (0, u "dDayFirst"), (0, .fieldref 8 17), (0, .nameAndType 18 12), (0, u "dDayRise"), (0, .fieldref 8 20), (0, .nameAndType 21 12), (0, u "perDessert"), (0, .fieldref 8 23), (0, .nameAndType 24 12), (0, u "perMain"), (0, .fieldref 8 26), (0, .nameAndType 27 12), (0, u "specialDiscount"), (0, .fieldref 8 29), (0, .nameAndType 30 12), (0, u "giftThreshold"), (0, .fieldref 8 32), (0, .nameAndType 33 34), (0, u "giftDish"), (0, u "Ljava/lang/String;"), (0, .fieldref 8 36), (0, .nameAndType 37 12), (0, u "starThreshold"), (0, .fieldref 8 39), (0, .nameAndType 40 12), (0, u "treeThreshold"), (0, .fieldref 8 42), (0, .nameAndType 43 12), (0, u "santaThreshold"), (18, u "(JJJJJJJLjava/lang/String;JJJ)V"), (2, u "BUILT_IN"), (0, u "Lcom/example/tinsel_tally/tinseltally/Figures;"), (2, u "()J")] 4

def k2c0 : Code := { maxStack := 3, maxLocals := 22, code := prog_9_method_1_code, exceptionTable := #[], attributes := #[] }
def k2m0 : Method := { name := "<init>", desc := "(JJJJJJJLjava/lang/String;JJJ)V", sig := { parameters := [.long, .long, .long, .long, .long, .long, .long, (.object "java/lang/String"), .long, .long, .long], returnType := none }, accessFlags := 0, code := some k2c0 }
def k2c1 : Code := { maxStack := 2, maxLocals := 1, code := prog_9_method_10_code, exceptionTable := #[], attributes := #[] }
def k2m1 : Method := { name := "starThreshold", desc := "()J", sig := { parameters := [], returnType := some .long }, accessFlags := 0, code := some k2c1 }
def k2c2 : Code := { maxStack := 2, maxLocals := 1, code := prog_9_method_11_code, exceptionTable := #[], attributes := #[] }
def k2m2 : Method := { name := "treeThreshold", desc := "()J", sig := { parameters := [], returnType := some .long }, accessFlags := 0, code := some k2c2 }
def k2c3 : Code := { maxStack := 2, maxLocals := 1, code := prog_9_method_12_code, exceptionTable := #[], attributes := #[] }
def k2m3 : Method := { name := "santaThreshold", desc := "()J", sig := { parameters := [], returnType := some .long }, accessFlags := 0, code := some k2c3 }
/-- com/example/tinsel_tally/tinseltally/Figures -/
def k2 : Class := { plain "com/example/tinsel_tally/tinseltally/Figures" (some 0) with
  accessFlags := 49
  interfaces := #[]
  cf := some (fileOf pool2 8 #[] #[{ accessFlags := 0, nameIndex := 5, descriptorIndex := 62, attributes := #[] }, { accessFlags := 0, nameIndex := 37, descriptorIndex := 69, attributes := #[] }, { accessFlags := 0, nameIndex := 40, descriptorIndex := 69, attributes := #[] }, { accessFlags := 0, nameIndex := 43, descriptorIndex := 69, attributes := #[] }] 49 2 #[] #[{ accessFlags := 25, nameIndex := 65, descriptorIndex := 66, attributes := #[] }, { accessFlags := 18, nameIndex := 11, descriptorIndex := 12, attributes := #[] }, { accessFlags := 18, nameIndex := 15, descriptorIndex := 12, attributes := #[] }, { accessFlags := 18, nameIndex := 18, descriptorIndex := 12, attributes := #[] }, { accessFlags := 18, nameIndex := 21, descriptorIndex := 12, attributes := #[] }, { accessFlags := 18, nameIndex := 24, descriptorIndex := 12, attributes := #[] }, { accessFlags := 18, nameIndex := 27, descriptorIndex := 12, attributes := #[] }, { accessFlags := 18, nameIndex := 30, descriptorIndex := 12, attributes := #[] }, { accessFlags := 18, nameIndex := 33, descriptorIndex := 34, attributes := #[] }, { accessFlags := 18, nameIndex := 37, descriptorIndex := 12, attributes := #[] }, { accessFlags := 18, nameIndex := 40, descriptorIndex := 12, attributes := #[] }, { accessFlags := 18, nameIndex := 43, descriptorIndex := 12, attributes := #[] }])
  fields := #[{ name := "BUILT_IN", type := (.object "com/example/tinsel_tally/tinseltally/Figures"), accessFlags := 25, slot := 0, constantValue := 0 }, { name := "floor", type := .long, accessFlags := 18, slot := 0, constantValue := 0 }, { name := "dDayFirst", type := .long, accessFlags := 18, slot := 1, constantValue := 0 }, { name := "dDayRise", type := .long, accessFlags := 18, slot := 2, constantValue := 0 }, { name := "perDessert", type := .long, accessFlags := 18, slot := 3, constantValue := 0 }, { name := "perMain", type := .long, accessFlags := 18, slot := 4, constantValue := 0 }, { name := "specialDiscount", type := .long, accessFlags := 18, slot := 5, constantValue := 0 }, { name := "giftThreshold", type := .long, accessFlags := 18, slot := 6, constantValue := 0 }, { name := "giftDish", type := (.object "java/lang/String"), accessFlags := 18, slot := 7, constantValue := 0 }, { name := "starThreshold", type := .long, accessFlags := 18, slot := 8, constantValue := 0 }, { name := "treeThreshold", type := .long, accessFlags := 18, slot := 9, constantValue := 0 }, { name := "santaThreshold", type := .long, accessFlags := 18, slot := 10, constantValue := 0 }]
  methods := #[k2m0, k2m1, k2m2, k2m3]
  instanceTypes := #[.long, .long, .long, .long, .long, .long, .long, (.object "java/lang/String"), .long, .long, .long]
  staticTypes := #[(.object "com/example/tinsel_tally/tinseltally/Figures")]
  resolved := Array.replicate 74 none
  statics := none }

def pool3 : Array CpInfo := pool [(1, .class_ 2), (0, u "java/io/Serializable"), (0, .class_ 4), (0, u "java/lang/Object")] 2

/-- java/io/Serializable -/
def k3 : Class := { plain "java/io/Serializable" (some 0) with
  accessFlags := 1537
  interfaces := #[]
  cf := some (fileOf pool3 1 #[] #[] 1537 3 #[] #[])
  fields := #[]
  methods := #[]
  instanceTypes := #[]
  staticTypes := #[]
  resolved := Array.replicate 7 none
  statics := none }

def pool4 : Array CpInfo := pool [(1, .class_ 2), (0, u "java/lang/Comparable"), (0, .class_ 4), (0, u "java/lang/Object")] 7

/-- java/lang/Comparable -/
def k4 : Class := { plain "java/lang/Comparable" (some 0) with
  accessFlags := 1537
  interfaces := #[]
  cf := some (fileOf pool4 1 #[] #[] 1537 3 #[] #[])
  fields := #[]
  methods := #[]
  instanceTypes := #[]
  staticTypes := #[]
  resolved := Array.replicate 12 none
  statics := none }

def pool5 : Array CpInfo := pool [(2, .class_ 4), (1, u "java/lang/CharSequence"), (42, .class_ 48), (0, u "java/lang/CharSequence$1CodePointIterator"), (10, .class_ 60), (0, u "java/lang/CharSequence$1CharIterator"), (5, .class_ 67), (0, u "java/lang/Object")] 63

/-- java/lang/CharSequence -/
def k5 : Class := { plain "java/lang/CharSequence" (some 0) with
  accessFlags := 1537
  interfaces := #[]
  cf := some (fileOf pool5 2 #[.nestMembers #[47, 59]] #[] 1537 66 #[] #[])
  fields := #[]
  methods := #[]
  instanceTypes := #[]
  staticTypes := #[]
  resolved := Array.replicate 131 none
  statics := none }

def pool6 : Array CpInfo := pool [(1, .class_ 2), (0, u "java/lang/constant/Constable"), (0, .class_ 4), (0, u "java/lang/Object")] 6

/-- java/lang/constant/Constable -/
def k6 : Class := { plain "java/lang/constant/Constable" (some 0) with
  accessFlags := 1537
  interfaces := #[]
  cf := some (fileOf pool6 1 #[] #[] 1537 3 #[] #[])
  fields := #[]
  methods := #[]
  instanceTypes := #[]
  staticTypes := #[]
  resolved := Array.replicate 11 none
  statics := none }

def pool7 : Array CpInfo := pool [(1, .class_ 2), (0, u "java/lang/constant/ConstantDesc"), (0, .class_ 4), (0, u "java/lang/Object")] 32

/-- java/lang/constant/ConstantDesc -/
def k7 : Class := { plain "java/lang/constant/ConstantDesc" (some 0) with
  accessFlags := 1537
  interfaces := #[]
  cf := some (fileOf pool7 1 #[] #[] 1537 3 #[] #[])
  fields := #[]
  methods := #[]
  instanceTypes := #[]
  staticTypes := #[]
  resolved := Array.replicate 37 none
  statics := none }

def pool8 : Array CpInfo := pool [(2, .class_ 4), (1, u "java/lang/Object"), (0, u "<init>"), (0, u "()V"), (3, .class_ 12), (1, u "java/lang/String"), (0, u "value"), (0, u "[B"), (2, u "coder"), (0, u "B"), (2, u "hash"), (0, u "I"), (2, u "hashIsZero"), (0, u "Z"), (13, u "COMPACT_STRINGS"), (534, .class_ 576), (0, u "java/lang/CharSequence"), (22, u "CASE_INSENSITIVE_ORDER"), (0, u "Ljava/util/Comparator;"), (500, u "serialPersistentFields"), (0, u "[Ljava/io/ObjectStreamField;"), (0, .class_ 1104), (0, u "java/lang/String$CaseInsensitiveComparator"), (1, .class_ 1107), (0, u "java/io/Serializable"), (0, .class_ 1109), (0, u "java/lang/Comparable"), (0, .class_ 1111), (0, u "java/lang/constant/Constable"), (0, .class_ 1113), (0, u "java/lang/constant/ConstantDesc"), (2, u "serialVersionUID"), (0, u "J"), (3, u "REPL"), (0, u "C"), (2, u "LATIN1"), (1, u "UTF16")] 323

def k8m0 : Method := { name := "<init>", desc := "()V", sig := { parameters := [], returnType := none }, accessFlags := 1, code := none }
/-- java/lang/String -/
def k8 : Class := { plain "java/lang/String" (some 0) with
  accessFlags := 49
  interfaces := #[3, 4, 5, 6, 7]
  cf := some (fileOf pool8 10 #[.nestMembers #[1103]] #[{ accessFlags := 1, nameIndex := 5, descriptorIndex := 6, attributes := #[] }] 49 2 #[1106, 1108, 575, 1110, 1112] #[{ accessFlags := 18, nameIndex := 13, descriptorIndex := 14, attributes := #[] }, { accessFlags := 18, nameIndex := 17, descriptorIndex := 18, attributes := #[] }, { accessFlags := 2, nameIndex := 21, descriptorIndex := 22, attributes := #[] }, { accessFlags := 2, nameIndex := 25, descriptorIndex := 26, attributes := #[] }, { accessFlags := 26, nameIndex := 1116, descriptorIndex := 1117, attributes := #[] }, { accessFlags := 24, nameIndex := 40, descriptorIndex := 26, attributes := #[] }, { accessFlags := 26, nameIndex := 1101, descriptorIndex := 1102, attributes := #[] }, { accessFlags := 26, nameIndex := 1121, descriptorIndex := 1122, attributes := #[] }, { accessFlags := 25, nameIndex := 599, descriptorIndex := 600, attributes := #[] }, { accessFlags := 24, nameIndex := 1125, descriptorIndex := 18, attributes := #[] }, { accessFlags := 24, nameIndex := 1127, descriptorIndex := 18, attributes := #[] }])
  fields := #[{ name := "value", type := (.array .byte), accessFlags := 18, slot := 0, constantValue := 0 }, { name := "coder", type := .byte, accessFlags := 18, slot := 1, constantValue := 0 }, { name := "hash", type := .int, accessFlags := 2, slot := 2, constantValue := 0 }, { name := "hashIsZero", type := .boolean, accessFlags := 2, slot := 3, constantValue := 0 }, { name := "serialVersionUID", type := .long, accessFlags := 26, slot := 0, constantValue := 0 }, { name := "COMPACT_STRINGS", type := .boolean, accessFlags := 24, slot := 1, constantValue := 0 }, { name := "serialPersistentFields", type := (.array (.object "java/io/ObjectStreamField")), accessFlags := 26, slot := 2, constantValue := 0 }, { name := "REPL", type := .char, accessFlags := 26, slot := 3, constantValue := 0 }, { name := "CASE_INSENSITIVE_ORDER", type := (.object "java/util/Comparator"), accessFlags := 25, slot := 4, constantValue := 0 }, { name := "LATIN1", type := .byte, accessFlags := 24, slot := 5, constantValue := 0 }, { name := "UTF16", type := .byte, accessFlags := 24, slot := 6, constantValue := 0 }]
  methods := #[k8m0]
  instanceTypes := #[(.array .byte), .byte, .int, .boolean]
  staticTypes := #[.long, .boolean, (.array (.object "java/io/ObjectStreamField")), .char, (.object "java/util/Comparator"), .byte, .byte]
  resolved := Array.replicate 1451 none
  statics := none }

def pool9 : Array CpInfo := pool [(2, .class_ 4), (1, u "java/lang/Enum"), (0, u "name"), (0, u "Ljava/lang/String;"), (2, u "ordinal"), (0, u "I"), (1, .class_ 14), (1, u "java/lang/Object"), (4, u "hash"), (86, .class_ 108), (1, u "java/lang/Enum$EnumDesc"), (2, .class_ 112), (0, u "java/lang/constant/Constable"), (0, .class_ 114), (0, u "java/lang/Comparable"), (0, .class_ 116), (0, u "java/io/Serializable")] 87

/-- java/lang/Enum -/
def k9 : Class := { plain "java/lang/Enum" (some 0) with
  accessFlags := 1057
  interfaces := #[6, 4, 3]
  cf := some (fileOf pool9 2 #[.nestMembers #[106]] #[] 1057 12 #[111, 113, 115] #[{ accessFlags := 18, nameIndex := 5, descriptorIndex := 6, attributes := #[] }, { accessFlags := 18, nameIndex := 9, descriptorIndex := 10, attributes := #[] }, { accessFlags := 2, nameIndex := 19, descriptorIndex := 10, attributes := #[] }])
  fields := #[{ name := "name", type := (.object "java/lang/String"), accessFlags := 18, slot := 0, constantValue := 0 }, { name := "ordinal", type := .int, accessFlags := 18, slot := 1, constantValue := 0 }, { name := "hash", type := .int, accessFlags := 2, slot := 2, constantValue := 0 }]
  methods := #[]
  instanceTypes := #[(.object "java/lang/String"), .int, .int]
  staticTypes := #[]
  resolved := Array.replicate 204 none
  statics := none }

def pool10 : Array CpInfo := pool [(1, .class_ 2), (0, u "com/example/tinsel_tally/tinseltally/Badge"), (0, .fieldref 1 4), (0, .nameAndType 5 6), (0, u "STAR"), (0, u "Lcom/example/tinsel_tally/tinseltally/Badge;"), (0, .fieldref 1 8), (0, .nameAndType 9 6), (0, u "TREE"), (0, .fieldref 1 11), (0, .nameAndType 12 6), (0, u "SANTA"), (2, u "$VALUES"), (0, u "[Lcom/example/tinsel_tally/tinseltally/Badge;"), (6, .class_ 25), (1, u "java/lang/Enum"), (8, u "key"), (0, u "Ljava/lang/String;"), (2, u "title"), (0, .methodref 40 41), (0, .class_ 42), (0, .nameAndType 43 44), (0, u "java/util/Optional"), (0, u "empty"), (0, u "()Ljava/util/Optional;"), (0, .methodref 46 47), (0, .class_ 48), (0, .nameAndType 49 50), (0, u "com/example/tinsel_tally/tinseltally/Figures"), (0, u "santaThreshold"), (0, u "()J"), (0, .methodref 40 52), (0, .nameAndType 53 54), (0, u "of"), (0, u "(Ljava/lang/Object;)Ljava/util/Optional;"), (0, .methodref 46 56), (0, .nameAndType 57 50), (0, u "treeThreshold"), (0, .methodref 46 59), (0, .nameAndType 60 50), (0, u "starThreshold"), (29, u "forTotalBenefit"), (0, u "(JLcom/example/tinsel_tally/tinseltally/Figures;)Ljava/util/Optional;")] 8

def k10c0 : Code := { maxStack := 4, maxLocals := 4, code := prog_2_method_4_code, exceptionTable := #[], attributes := #[] }
def k10m0 : Method := { name := "forTotalBenefit", desc := "(JLcom/example/tinsel_tally/tinseltally/Figures;)Ljava/util/Optional;", sig := { parameters := [.long, (.object "com/example/tinsel_tally/tinseltally/Figures")], returnType := some (.object "java/util/Optional") }, accessFlags := 9, code := some k10c0 }
/-- com/example/tinsel_tally/tinseltally/Badge -/
def k10 : Class := { plain "com/example/tinsel_tally/tinseltally/Badge" (some 9) with
  accessFlags := 16433
  interfaces := #[]
  cf := some (fileOf pool10 1 #[] #[{ accessFlags := 9, nameIndex := 90, descriptorIndex := 91, attributes := #[] }] 16433 23 #[] #[{ accessFlags := 16409, nameIndex := 5, descriptorIndex := 6, attributes := #[] }, { accessFlags := 16409, nameIndex := 9, descriptorIndex := 6, attributes := #[] }, { accessFlags := 16409, nameIndex := 12, descriptorIndex := 6, attributes := #[] }, { accessFlags := 18, nameIndex := 34, descriptorIndex := 35, attributes := #[] }, { accessFlags := 18, nameIndex := 38, descriptorIndex := 35, attributes := #[] }, { accessFlags := 4122, nameIndex := 15, descriptorIndex := 16, attributes := #[] }])
  fields := #[{ name := "STAR", type := (.object "com/example/tinsel_tally/tinseltally/Badge"), accessFlags := 16409, slot := 0, constantValue := 0 }, { name := "TREE", type := (.object "com/example/tinsel_tally/tinseltally/Badge"), accessFlags := 16409, slot := 1, constantValue := 0 }, { name := "SANTA", type := (.object "com/example/tinsel_tally/tinseltally/Badge"), accessFlags := 16409, slot := 2, constantValue := 0 }, { name := "key", type := (.object "java/lang/String"), accessFlags := 18, slot := 3, constantValue := 0 }, { name := "title", type := (.object "java/lang/String"), accessFlags := 18, slot := 4, constantValue := 0 }, { name := "$VALUES", type := (.array (.object "com/example/tinsel_tally/tinseltally/Badge")), accessFlags := 4122, slot := 3, constantValue := 0 }]
  methods := #[k10m0]
  instanceTypes := #[(.object "java/lang/String"), .int, .int, (.object "java/lang/String"), (.object "java/lang/String")]
  staticTypes := #[(.object "com/example/tinsel_tally/tinseltally/Badge"), (.object "com/example/tinsel_tally/tinseltally/Badge"), (.object "com/example/tinsel_tally/tinseltally/Badge"), (.array (.object "com/example/tinsel_tally/tinseltally/Badge"))]
  resolved := Array.replicate 100 none
  statics := some 0 }

def pool11 : Array CpInfo := pool [(1, .fieldref 2 3), (0, .class_ 4), (0, .nameAndType 5 6), (0, u "java/util/Optional"), (0, u "EMPTY"), (0, u "Ljava/util/Optional;"), (0, .methodref 8 9), (0, .class_ 10), (0, .nameAndType 11 12), (0, u "java/lang/Object"), (0, u "<init>"), (0, u "()V"), (0, .fieldref 2 14), (0, .nameAndType 15 16), (0, u "value"), (0, u "Ljava/lang/Object;"), (0, .methodref 18 19), (0, .class_ 20), (0, .nameAndType 21 22), (0, u "java/util/Objects"), (0, u "requireNonNull"), (0, u "(Ljava/lang/Object;)Ljava/lang/Object;"), (0, .methodref 2 24), (0, .nameAndType 11 25), (0, u "(Ljava/lang/Object;)V"), (29, u "empty"), (0, u "()Ljava/util/Optional;"), (8, u "(Ljava/lang/Object;)Ljava/util/Optional;"), (16, u "of"), (82, u "orElse")] 21

def k11c0 : Code := { maxStack := 1, maxLocals := 1, code := jdk_32_method_1_code, exceptionTable := #[], attributes := #[] }
def k11m0 : Method := { name := "empty", desc := "()Ljava/util/Optional;", sig := { parameters := [], returnType := some (.object "java/util/Optional") }, accessFlags := 9, code := some k11c0 }
def k11c1 : Code := { maxStack := 2, maxLocals := 2, code := jdk_32_method_2_code, exceptionTable := #[], attributes := #[] }
def k11m1 : Method := { name := "<init>", desc := "(Ljava/lang/Object;)V", sig := { parameters := [(.object "java/lang/Object")], returnType := none }, accessFlags := 2, code := some k11c1 }
def k11c2 : Code := { maxStack := 3, maxLocals := 1, code := jdk_32_method_3_code, exceptionTable := #[], attributes := #[] }
def k11m2 : Method := { name := "of", desc := "(Ljava/lang/Object;)Ljava/util/Optional;", sig := { parameters := [(.object "java/lang/Object")], returnType := some (.object "java/util/Optional") }, accessFlags := 9, code := some k11c2 }
def k11c3 : Code := { maxStack := 1, maxLocals := 2, code := jdk_32_method_15_code, exceptionTable := #[], attributes := #[] }
def k11m3 : Method := { name := "orElse", desc := "(Ljava/lang/Object;)Ljava/lang/Object;", sig := { parameters := [(.object "java/lang/Object")], returnType := some (.object "java/lang/Object") }, accessFlags := 1, code := some k11c3 }
/-- java/util/Optional -/
def k11 : Class := { plain "java/util/Optional" (some 0) with
  accessFlags := 49
  interfaces := #[]
  cf := some (fileOf pool11 2 #[] #[{ accessFlags := 9, nameIndex := 55, descriptorIndex := 56, attributes := #[] }, { accessFlags := 2, nameIndex := 11, descriptorIndex := 25, attributes := #[] }, { accessFlags := 9, nameIndex := 82, descriptorIndex := 65, attributes := #[] }, { accessFlags := 1, nameIndex := 165, descriptorIndex := 22, attributes := #[] }] 49 8 #[] #[{ accessFlags := 26, nameIndex := 5, descriptorIndex := 6, attributes := #[] }, { accessFlags := 18, nameIndex := 15, descriptorIndex := 16, attributes := #[] }])
  fields := #[{ name := "EMPTY", type := (.object "java/util/Optional"), accessFlags := 26, slot := 0, constantValue := 0 }, { name := "value", type := (.object "java/lang/Object"), accessFlags := 18, slot := 0, constantValue := 0 }]
  methods := #[k11m0, k11m1, k11m2, k11m3]
  instanceTypes := #[(.object "java/lang/Object")]
  staticTypes := #[(.object "java/util/Optional")]
  resolved := Array.replicate 187 none
  statics := some 1 }

def pool12 : Array CpInfo := pool [(2, .class_ 4), (1, u "java/lang/Object"), (0, u "<init>"), (0, u "()V"), (35, .class_ 44), (1, u "java/util/Objects"), (0, u "requireNonNull"), (0, u "(Ljava/lang/Object;)Ljava/lang/Object;")] 137

def k12m0 : Method := { name := "<init>", desc := "()V", sig := { parameters := [], returnType := none }, accessFlags := 2, code := none }
def k12c1 : Code := { maxStack := 2, maxLocals := 1, code := jdk_31_method_10_code, exceptionTable := #[], attributes := #[] }
def k12m1 : Method := { name := "requireNonNull", desc := "(Ljava/lang/Object;)Ljava/lang/Object;", sig := { parameters := [(.object "java/lang/Object")], returnType := some (.object "java/lang/Object") }, accessFlags := 9, code := some k12c1 }
/-- java/util/Objects -/
def k12 : Class := { plain "java/util/Objects" (some 0) with
  accessFlags := 49
  interfaces := #[]
  cf := some (fileOf pool12 42 #[] #[{ accessFlags := 2, nameIndex := 5, descriptorIndex := 6, attributes := #[] }, { accessFlags := 9, nameIndex := 45, descriptorIndex := 46, attributes := #[] }] 49 2 #[] #[])
  fields := #[]
  methods := #[k12m0, k12m1]
  instanceTypes := #[]
  staticTypes := #[]
  resolved := Array.replicate 184 none
  statics := none }

def pool13 : Array CpInfo := pool [(1, u "java/lang/Cloneable"), (0, .class_ 1), (0, u "java/lang/Object"), (0, .class_ 3)] 3

/-- java/lang/Cloneable -/
def k13 : Class := { plain "java/lang/Cloneable" (some 0) with
  accessFlags := 1537
  interfaces := #[]
  cf := some (fileOf pool13 2 #[] #[] 1537 4 #[] #[])
  fields := #[]
  methods := #[]
  instanceTypes := #[]
  staticTypes := #[]
  resolved := Array.replicate 8 none
  statics := none }

/-- the primitive byte -/
def k14 : Class := { plain "byte" none with kind := .primitive 'B', accessFlags := 0x411 }
/-- [B -/
def k15 : Class := { plain "[B" (some 0) with kind := .array 14 .byte, interfaces := #[13, 3], accessFlags := 1041 }

/-- the primitive int -/
def k16 : Class := { plain "int" none with kind := .primitive 'I', accessFlags := 0x411 }
/-- [I -/
def k17 : Class := { plain "[I" (some 0) with kind := .array 16 .int, interfaces := #[13, 3], accessFlags := 1041 }

def heap : Heap := #[{ cls := 10, slots := #[.ref 2, .ref 3, .ref 4, .null], vm := .statics 10 },
  { cls := 11, slots := #[.ref 5], vm := .statics 11 },
  { cls := 10, slots := #[.null, .int 0, .int 0, .null, .null], vm := .none },
  { cls := 10, slots := #[.null, .int 1, .int 0, .null, .null], vm := .none },
  { cls := 10, slots := #[.null, .int 2, .int 0, .null, .null], vm := .none },
  { cls := 11, slots := #[.null], vm := .none }]
def classes : Array Class := #[k0, k1, k2, k3, k4, k5, k6, k7, k8, k9, k10, k11, k12, k13, k14, k15, k16, k17]
def interned : List (Array UInt16 × Addr) := []
def slotsUsed : Nat := 21
def theMethod : MethodId := ⟨1, 1⟩
def args0 : Array Value := #[.long 9, .int 5, .long 6, .long 7, .long 8]
def aboutOver (below : List Frame) : State where
  vm := { classes := classes, interned := interned.toArray }
  heap := heap
  slotsUsed := slotsUsed
  threads := #[{ frames := .invoking theMethod args0 :: below }]
def below0 : List Frame := [.native { method := ⟨0, 0⟩, args := #[] }]
def about1 : State := aboutOver below0
def p0 : Program := .bare "" "" ""
def e0 : Env := launch0.env 0 0 0
theorem w_frames : about1.frames = Frame.invoking theMethod args0 :: below0 := rfl
set_option maxRecDepth 65536 in
theorem w_args : argsFit about1.vm theMethod args0 = true := by decide +kernel
set_option maxRecDepth 65536 in
theorem w_heap : heapFits about1 = true := by decide +kernel
set_option maxRecDepth 65536 in
theorem w_runnable : about1.curStatus? = some .runnable := by decide +kernel
set_option maxRecDepth 65536 in
theorem w_alone : about1.alone = true := by decide +kernel
set_option maxRecDepth 65536 in
theorem w_named : about1.methodNamed? x = some theMethod := by decide +kernel
set_option maxRecDepth 65536 in
theorem w_hears : about1.hears theMethod below0 = true := by decide +kernel
set_option maxRecDepth 65536 in
theorem w_ripe : about1.ripe theMethod args0 below0 = true := by decide +kernel
theorem w_running : about1.status = .running := rfl
set_option maxRecDepth 65536 in
theorem w_room : about1.hasRoom e0.platform room_1 = true :=
  launch0.hasRoom_least _ room_1 (by decide +kernel) (by decide +kernel) (by decide +kernel) (by decide +kernel) (by decide +kernel) (by decide +kernel)
theorem allAtoms_all (ts : List Jvm.Cond) (a : Array Jvm.Value) (st : Jvm.State) : (allAtoms ts).before a st = ts.all (fun c => c.before a st) := by
  induction ts with
  | nil => rfl
  | cons c t ih =>
    show (Jvm.Cond.and c (allAtoms t)).before a st = _
    rw [Jvm.Cond.before_and, ih, List.all_cons]
def words1 : List Jvm.Cond := Jvm.Cond.code x code maxLocals ret :: tables_1
/-- a 'code' word, met by the world's own term for the bytes: nothing is compared byte by byte -/
theorem code_word {y : MethodName} {bytes : ByteArray} {mx : Nat} {rt : Option FieldType} {a : Array Value} {s : State} {m : MethodId} {meth : Method} {c : Code} (h1 : s.methodNamed? y = some m) (h2 : s.vm.method? m = some meth) (h3 : meth.code = some c) (h4 : c.code = bytes)
    (h5 : (c.maxLocals == mx && c.exceptionTable.isEmpty && decide (c.maxStack ≤ mostOperands) && decide (meth.sig.returnType = rt) && !meth.locks && decide (parseMethodDescriptor y.desc = some meth.sig)) = true) : (Jvm.Cond.code y bytes mx rt).before a s = true := by
  simp only [Bool.and_eq_true, beq_iff_eq, Bool.not_eq_true', decide_eq_true_eq] at h5
  obtain ⟨⟨⟨⟨⟨g1, g2⟩, g3⟩, g4⟩, g5⟩, g6⟩ := h5
  simp [Cond.before, Cond.holds, Cond.value, h1, h2, h3, h4, g1, g2, g3, g4, g5, g6]
def isCode : Jvm.Cond → Bool
  | .code _ _ _ _ => true
  | _ => false
theorem all_split {L : List Jvm.Cond} {P : Jvm.Cond → Bool} (h1 : L.all (fun c => isCode c || P c) = true) (h2 : ∀ c ∈ L.filter isCode, P c = true) : L.all P = true := by
  refine List.all_eq_true.mpr fun c hc => ?_
  have h := List.all_eq_true.mp h1 c hc
  rcases Bool.eq_false_or_eq_true (isCode c) with hi | hi
  · exact h2 c (List.mem_filter.mpr ⟨hc, hi⟩)
  · simpa [hi] using h
set_option maxRecDepth 65536 in
theorem w_c0 : (Jvm.Cond.code x code maxLocals ret).before args0 about1 = true := code_word (m := ⟨1, 1⟩) (meth := k1m1) (c := k1c1) (by decide +kernel) rfl rfl rfl (by decide +kernel)
set_option maxRecDepth 65536 in
theorem w_c1 : (Jvm.Cond.code ({ cls := "com/example/tinsel_tally/tinseltally/Figures", name := "<init>", desc := "(JJJJJJJLjava/lang/String;JJJ)V" } : Jvm.MethodName) prog_9_method_1_code (22 : Nat) (Option.none : Option Jvm.ClassFile.FieldType)).before args0 about1 = true := code_word (m := ⟨2, 0⟩) (meth := k2m0) (c := k2c0) (by decide +kernel) rfl rfl rfl (by decide +kernel)
set_option maxRecDepth 65536 in
theorem w_c2 : (Jvm.Cond.code ({ cls := "java/lang/Object", name := "<init>", desc := "()V" } : Jvm.MethodName) object_method_1_code (1 : Nat) (Option.none : Option Jvm.ClassFile.FieldType)).before args0 about1 = true := code_word (m := ⟨0, 0⟩) (meth := k0m0) (c := k0c0) (by decide +kernel) rfl rfl rfl (by decide +kernel)
set_option maxRecDepth 65536 in
theorem w_c3 : (Jvm.Cond.code ({ cls := "com/example/tinsel_tally/tinseltally/Badge", name := "forTotalBenefit", desc := "(JLcom/example/tinsel_tally/tinseltally/Figures;)Ljava/util/Optional;" } : Jvm.MethodName) prog_2_method_4_code (4 : Nat) (Option.some (Jvm.ClassFile.FieldType.object "java/util/Optional"))).before args0 about1 = true := code_word (m := ⟨10, 0⟩) (meth := k10m0) (c := k10c0) (by decide +kernel) rfl rfl rfl (by decide +kernel)
set_option maxRecDepth 65536 in
theorem w_c4 : (Jvm.Cond.code ({ cls := "java/util/Optional", name := "empty", desc := "()Ljava/util/Optional;" } : Jvm.MethodName) jdk_32_method_1_code (1 : Nat) (Option.some (Jvm.ClassFile.FieldType.object "java/util/Optional"))).before args0 about1 = true := code_word (m := ⟨11, 0⟩) (meth := k11m0) (c := k11c0) (by decide +kernel) rfl rfl rfl (by decide +kernel)
set_option maxRecDepth 65536 in
theorem w_c5 : (Jvm.Cond.code ({ cls := "com/example/tinsel_tally/tinseltally/Figures", name := "santaThreshold", desc := "()J" } : Jvm.MethodName) prog_9_method_12_code (1 : Nat) (Option.some Jvm.ClassFile.FieldType.long)).before args0 about1 = true := code_word (m := ⟨2, 3⟩) (meth := k2m3) (c := k2c3) (by decide +kernel) rfl rfl rfl (by decide +kernel)
set_option maxRecDepth 65536 in
theorem w_c6 : (Jvm.Cond.code ({ cls := "java/util/Optional", name := "of", desc := "(Ljava/lang/Object;)Ljava/util/Optional;" } : Jvm.MethodName) jdk_32_method_3_code (1 : Nat) (Option.some (Jvm.ClassFile.FieldType.object "java/util/Optional"))).before args0 about1 = true := code_word (m := ⟨11, 2⟩) (meth := k11m2) (c := k11c2) (by decide +kernel) rfl rfl rfl (by decide +kernel)
set_option maxRecDepth 65536 in
theorem w_c7 : (Jvm.Cond.code ({ cls := "java/util/Objects", name := "requireNonNull", desc := "(Ljava/lang/Object;)Ljava/lang/Object;" } : Jvm.MethodName) jdk_31_method_10_code (1 : Nat) (Option.some (Jvm.ClassFile.FieldType.object "java/lang/Object"))).before args0 about1 = true := code_word (m := ⟨12, 1⟩) (meth := k12m1) (c := k12c1) (by decide +kernel) rfl rfl rfl (by decide +kernel)
set_option maxRecDepth 65536 in
theorem w_c8 : (Jvm.Cond.code ({ cls := "java/util/Optional", name := "<init>", desc := "(Ljava/lang/Object;)V" } : Jvm.MethodName) jdk_32_method_2_code (2 : Nat) (Option.none : Option Jvm.ClassFile.FieldType)).before args0 about1 = true := code_word (m := ⟨11, 1⟩) (meth := k11m1) (c := k11c1) (by decide +kernel) rfl rfl rfl (by decide +kernel)
set_option maxRecDepth 65536 in
theorem w_c9 : (Jvm.Cond.code ({ cls := "java/util/Optional", name := "orElse", desc := "(Ljava/lang/Object;)Ljava/lang/Object;" } : Jvm.MethodName) jdk_32_method_15_code (2 : Nat) (Option.some (Jvm.ClassFile.FieldType.object "java/lang/Object"))).before args0 about1 = true := code_word (m := ⟨11, 3⟩) (meth := k11m3) (c := k11c3) (by decide +kernel) rfl rfl rfl (by decide +kernel)
set_option maxRecDepth 65536 in
theorem w_c10 : (Jvm.Cond.code ({ cls := "com/example/tinsel_tally/tinseltally/Figures", name := "treeThreshold", desc := "()J" } : Jvm.MethodName) prog_9_method_11_code (1 : Nat) (Option.some Jvm.ClassFile.FieldType.long)).before args0 about1 = true := code_word (m := ⟨2, 2⟩) (meth := k2m2) (c := k2c2) (by decide +kernel) rfl rfl rfl (by decide +kernel)
set_option maxRecDepth 65536 in
theorem w_c11 : (Jvm.Cond.code ({ cls := "com/example/tinsel_tally/tinseltally/Figures", name := "starThreshold", desc := "()J" } : Jvm.MethodName) prog_9_method_10_code (1 : Nat) (Option.some Jvm.ClassFile.FieldType.long)).before args0 about1 = true := code_word (m := ⟨2, 1⟩) (meth := k2m1) (c := k2c1) (by decide +kernel) rfl rfl rfl (by decide +kernel)
def codes1 : List Jvm.Cond := [Jvm.Cond.code x code maxLocals ret, Jvm.Cond.code ({ cls := "com/example/tinsel_tally/tinseltally/Figures", name := "<init>", desc := "(JJJJJJJLjava/lang/String;JJJ)V" } : Jvm.MethodName) prog_9_method_1_code (22 : Nat) (Option.none : Option Jvm.ClassFile.FieldType), Jvm.Cond.code ({ cls := "java/lang/Object", name := "<init>", desc := "()V" } : Jvm.MethodName) object_method_1_code (1 : Nat) (Option.none : Option Jvm.ClassFile.FieldType), Jvm.Cond.code ({ cls := "com/example/tinsel_tally/tinseltally/Badge", name := "forTotalBenefit", desc := "(JLcom/example/tinsel_tally/tinseltally/Figures;)Ljava/util/Optional;" } : Jvm.MethodName) prog_2_method_4_code (4 : Nat) (Option.some (Jvm.ClassFile.FieldType.object "java/util/Optional")), Jvm.Cond.code ({ cls := "java/util/Optional", name := "empty", desc := "()Ljava/util/Optional;" } : Jvm.MethodName) jdk_32_method_1_code (1 : Nat) (Option.some (Jvm.ClassFile.FieldType.object "java/util/Optional")), Jvm.Cond.code ({ cls := "com/example/tinsel_tally/tinseltally/Figures", name := "santaThreshold", desc := "()J" } : Jvm.MethodName) prog_9_method_12_code (1 : Nat) (Option.some Jvm.ClassFile.FieldType.long), Jvm.Cond.code ({ cls := "java/util/Optional", name := "of", desc := "(Ljava/lang/Object;)Ljava/util/Optional;" } : Jvm.MethodName) jdk_32_method_3_code (1 : Nat) (Option.some (Jvm.ClassFile.FieldType.object "java/util/Optional")), Jvm.Cond.code ({ cls := "java/util/Objects", name := "requireNonNull", desc := "(Ljava/lang/Object;)Ljava/lang/Object;" } : Jvm.MethodName) jdk_31_method_10_code (1 : Nat) (Option.some (Jvm.ClassFile.FieldType.object "java/lang/Object")), Jvm.Cond.code ({ cls := "java/util/Optional", name := "<init>", desc := "(Ljava/lang/Object;)V" } : Jvm.MethodName) jdk_32_method_2_code (2 : Nat) (Option.none : Option Jvm.ClassFile.FieldType), Jvm.Cond.code ({ cls := "java/util/Optional", name := "orElse", desc := "(Ljava/lang/Object;)Ljava/lang/Object;" } : Jvm.MethodName) jdk_32_method_15_code (2 : Nat) (Option.some (Jvm.ClassFile.FieldType.object "java/lang/Object")), Jvm.Cond.code ({ cls := "com/example/tinsel_tally/tinseltally/Figures", name := "treeThreshold", desc := "()J" } : Jvm.MethodName) prog_9_method_11_code (1 : Nat) (Option.some Jvm.ClassFile.FieldType.long), Jvm.Cond.code ({ cls := "com/example/tinsel_tally/tinseltally/Figures", name := "starThreshold", desc := "()J" } : Jvm.MethodName) prog_9_method_10_code (1 : Nat) (Option.some Jvm.ClassFile.FieldType.long)]
set_option maxRecDepth 65536 in
theorem codes_eq : words1.filter isCode = codes1 := rfl
theorem w_codes : ∀ c ∈ words1.filter isCode, c.before args0 about1 = true := by
  rw [codes_eq]
  intro c hc
  simp only [codes1, List.mem_cons, List.not_mem_nil, or_false] at hc
  rcases hc with rfl | rfl | rfl | rfl | rfl | rfl | rfl | rfl | rfl | rfl | rfl | rfl
  · exact w_c0
  · exact w_c1
  · exact w_c2
  · exact w_c3
  · exact w_c4
  · exact w_c5
  · exact w_c6
  · exact w_c7
  · exact w_c8
  · exact w_c9
  · exact w_c10
  · exact w_c11
set_option maxRecDepth 65536 in
theorem w_t1 : (words1.take 24).all (fun c => isCode c || c.before args0 about1) = true := by decide +kernel
set_option maxRecDepth 65536 in
theorem w_t2 : ((words1.drop 24).take 24).all (fun c => isCode c || c.before args0 about1) = true := by decide +kernel
set_option maxRecDepth 65536 in
theorem w_t3 : (((words1.drop 24).drop 24).take 24).all (fun c => isCode c || c.before args0 about1) = true := by decide +kernel
set_option maxRecDepth 65536 in
theorem w_t4 : ((((words1.drop 24).drop 24).drop 24).take 24).all (fun c => isCode c || c.before args0 about1) = true := by decide +kernel
set_option maxRecDepth 65536 in
theorem w_t5 : ((((words1.drop 24).drop 24).drop 24).drop 24).all (fun c => isCode c || c.before args0 about1) = true := by decide +kernel
theorem w_tables : (allAtoms (Jvm.Cond.code x code maxLocals ret :: tables_1)).before args0 about1 = true := by
  rw [allAtoms_all]
  show words1.all (fun c => c.before args0 about1) = true
  refine all_split ?_ w_codes
  rw [← List.take_append_drop 24 words1, List.all_append, w_t1, ← List.take_append_drop 24 (words1.drop 24), List.all_append, w_t2, ← List.take_append_drop 24 ((words1.drop 24).drop 24), List.all_append, w_t3, ← List.take_append_drop 24 (((words1.drop 24).drop 24).drop 24), List.all_append, w_t4, w_t5]
  rfl
set_option maxRecDepth 65536 in
theorem w_rest : rest_1_c.before args0 about1 = true := by decide +kernel
set_option maxRecDepth 65536 in
theorem w_case : (Jvm.Cond.and given_1 narrow_1).before args0 about1 = true := by decide +kernel
theorem w_applies : (headSpec (Jvm.Cond.code x code maxLocals ret :: tables_1) room_1).applies x e0.platform about1 = true :=
  (Spec.applies_iff w_frames).mpr ⟨w_running, w_runnable, w_alone, w_named, w_hears, w_ripe, w_room, w_tables⟩
theorem atStart : AtStart classFile x code maxLocals ret World_1 tables_1 room_1 Calls_1 rest_1 Pre_1 launch0 p0 e0 about1 theMethod args0 below0 :=
  ⟨lists_1, trivial, launch0.admits_env _ _ _, launch0.least_env, fairChoices_fair.cas, fairChoices_fair.clock, w_frames, w_args, w_heap, w_applies, trivial, w_rest, w_case⟩
end start1
theorem witness_1 : WitnessClaimed_1 := ⟨start1.p0, start1.e0, start1.about1, start1.theMethod, start1.args0, start1.below0, start1.atStart⟩
end Jvm.Pilot.@@N@@
