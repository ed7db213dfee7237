import JvmDerived
import JvmDerived.Pilot.@@N@@Statement
import JvmDerived.Pilot.@@N@@Code
set_option linter.unusedVariables false
set_option linter.unusedSimpArgs false
namespace Jvm.OwnK
open Jvm Sem ClassFile Op Lib Jvm.Stand Jvm.Free Jvm.LawKit Jvm.RoadKit
section A
variable {tabs : List Jvm.Cond} {a0 : Array Value} {Z : State} {own nm : String} {code : ByteArray} {ml : Nat} {ret : Option FieldType} {p : Program} {l : Launch} {e : Env} {R : Room} {s : State} {m : MethodId} {args : Array Value} {below : List Frame} {meth : Method} {c : Code} {n0 : Nat} {T : State} {h : Heap} {k n : Nat} {Q : Option Value → Heap → Prop} {G : Outcome → State → List Loc → Prop} {pc : Nat} {ls : Array Slot} {st : List Value}
/-- what stands fast through a method's walk -/
def Cx (tabs : List Jvm.Cond) (a0 : Array Value) (Z : State) (own nm : String) (code : ByteArray) (ml : Nat) (ret : Option FieldType) (p : Program) (s : State) (m : MethodId) (meth : Method) (c : Code) : Prop :=
  p.tables.exec = Jvm.exec ∧ Z.Warmed39 s.vm ∧ c.code = code ∧ c.maxLocals = ml ∧ s.vm.findClass own = some m.cls ∧ meth.sig.returnType = ret ∧ meth.locks = false ∧ meth.name = nm ∧ ∀ d ∈ tabs, d.before a0 Z = true
/-- where the walk stands: the heap h, k cells and n slots made so far, nothing below n0 written -/
def St (p : Program) (l : Launch) (e : Env) (R : Room) (s : State) (m : MethodId) (args : Array Value) (below : List Frame) (meth : Method) (c : Code) (n0 : Nat) (T : State) (h : Heap) (k n : Nat) : Prop :=
  ∃ locs, Stand p l e R s m args below meth c T locs k n ∧ T.heap = h ∧ Fr n0 locs ∧ n0 ≤ s.heap.size
/-- from this frame the method ends, and returns what Q says -/
def Run (p : Program) (e : Env) (below : List Frame) (n0 : Nat) (Q : Option Value → Heap → Prop) (G : Outcome → State → List Loc → Prop) (m : MethodId) (T : State) (pc : Nat) (ls : Array Slot) (st : List Value) : Prop :=
  ∃ s₂ o, Steps p.tables e below (T.setTop (mkF m pc ls st)) s₂ ∧ s₂.status = .running ∧ Ended s₂ below o ∧ ∃ v L, o = .returned v ∧ (Q v s₂.heap ∧ Fr n0 L) ∧ G o s₂ L
theorem Run.step {T' : State} {pc' : Nat} {ls' : Array Slot} {st' : List Value} (f : ∀ t, Steps p.tables e below (T'.setTop (mkF m pc' ls' st')) t → Steps p.tables e below (T.setTop (mkF m pc ls st)) t) (r : Run p e below n0 Q G m T' pc' ls' st') : Run p e below n0 Q G m T pc ls st := by
  obtain ⟨s₂, o, h1, h2⟩ := r
  exact ⟨s₂, o, f _ h1, h2⟩
theorem Run.steps {T' : State} {pc' : Nat} {ls' : Array Slot} {st' : List Value} (f : Steps p.tables e below (T.setTop (mkF m pc ls st)) (T'.setTop (mkF m pc' ls' st'))) (r : Run p e below n0 Q G m T' pc' ls' st') : Run p e below n0 Q G m T pc ls st := Run.step (fun _ q => f.trans q) r
theorem Run.cast {st' : List Value} (q : st = st') (r : Run p e below n0 Q G m T pc ls st') : Run p e below n0 Q G m T pc ls st := q ▸ r
theorem St.at' (X : St p l e R s m args below meth c n0 T h k n) : Jvm.At T m c below := by obtain ⟨_, X, -⟩ := X; exact X.here
theorem St.sz (X : St p l e R s m args below meth c n0 T h k n) : n0 ≤ h.size := by
  obtain ⟨_, X, rfl, -, q⟩ := X
  exact Nat.le_trans q X.same.2.1
theorem Cx.d {r : Except DecodeError (Instr × Nat)} (C : Cx tabs a0 Z own nm code ml ret p s m meth c) (q : decode code pc = r) : decode c.code pc = r := hb C.2.2.1 q
theorem Cx.w {d : Jvm.Cond} (C : Cx tabs a0 Z own nm code ml ret p s m meth c) (q : d ∈ tabs) : d.before a0 Z = true := C.2.2.2.2.2.2.2.2 d q
theorem s_iloadN (pc' : Nat) (C : Cx tabs a0 Z own nm code ml ret p s m meth c) (X : St p l e R s m args below meth c n0 T h k n) {i : Fin 4} {v : Int32} (hd : decode code pc = .ok (.iload_n i, 1)) (hl : ls[i.val]? = some (.val (.int v))) (r : Run p e below n0 Q G m T pc' ls (.int v :: st)) (hp : pc + 1 = pc' := by rfl) : Run p e below n0 Q G m T pc ls st := by
  subst hp
  exact Run.step (fun t q => XS.iloadN X.at' C.1 rfl (C.d hd) hl q) r
theorem s_iload (pc' : Nat) (C : Cx tabs a0 Z own nm code ml ret p s m meth c) (X : St p l e R s m args below meth c n0 T h k n) {i : Nat} {v : Int32} (hd : decode code pc = .ok (.iload i, 2)) (hl : ls[i]? = some (.val (.int v))) (r : Run p e below n0 Q G m T pc' ls (.int v :: st)) (hp : pc + 2 = pc' := by rfl) : Run p e below n0 Q G m T pc ls st := by
  subst hp
  exact Run.step (fun t q => XS.iload X.at' C.1 rfl (C.d hd) hl q) r
theorem s_lloadN (pc' : Nat) (C : Cx tabs a0 Z own nm code ml ret p s m meth c) (X : St p l e R s m args below meth c n0 T h k n) {i : Fin 4} {v : Int64} (hd : decode code pc = .ok (.lload_n i, 1)) (hl : ls[i.val]? = some (.val (.long v))) (r : Run p e below n0 Q G m T pc' ls (.long v :: st)) (hp : pc + 1 = pc' := by rfl) : Run p e below n0 Q G m T pc ls st := by
  subst hp
  exact Run.step (fun t q => XT.lloadN X.at' C.1 rfl (C.d hd) hl q) r
theorem s_lload (pc' : Nat) (C : Cx tabs a0 Z own nm code ml ret p s m meth c) (X : St p l e R s m args below meth c n0 T h k n) {i : Nat} {v : Int64} (hd : decode code pc = .ok (.lload i, 2)) (hl : ls[i]? = some (.val (.long v))) (r : Run p e below n0 Q G m T pc' ls (.long v :: st)) (hp : pc + 2 = pc' := by rfl) : Run p e below n0 Q G m T pc ls st := by
  subst hp
  exact Run.step (fun t q => XT.lload X.at' C.1 rfl (C.d hd) hl q) r
theorem s_aloadN (pc' : Nat) (C : Cx tabs a0 Z own nm code ml ret p s m meth c) (X : St p l e R s m args below meth c n0 T h k n) {i : Fin 4} {v : Value} (hd : decode code pc = .ok (.aload_n i, 1)) (hl : ls[i.val]? = some (.val v)) (hv : v.isRef = true) (r : Run p e below n0 Q G m T pc' ls (v :: st)) (hp : pc + 1 = pc' := by rfl) : Run p e below n0 Q G m T pc ls st := by
  subst hp
  exact Run.step (fun t q => XS.aloadN X.at' C.1 rfl (C.d hd) hl hv q) r
theorem s_aload (pc' : Nat) (C : Cx tabs a0 Z own nm code ml ret p s m meth c) (X : St p l e R s m args below meth c n0 T h k n) {i : Nat} {v : Value} (hd : decode code pc = .ok (.aload i, 2)) (hl : ls[i]? = some (.val v)) (hv : v.isRef = true) (r : Run p e below n0 Q G m T pc' ls (v :: st)) (hp : pc + 2 = pc' := by rfl) : Run p e below n0 Q G m T pc ls st := by
  subst hp
  exact Run.step (fun t q => XS.aload X.at' C.1 rfl (C.d hd) hl hv q) r
theorem s_istore (pc' : Nat) (C : Cx tabs a0 Z own nm code ml ret p s m meth c) (X : St p l e R s m args below meth c n0 T h k n) {i : Nat} {v : Int32} {l' : Array Slot} (hd : decode code pc = .ok (.istore i, 2)) (hl : storeLocals ls i (.int v) = some l') (r : Run p e below n0 Q G m T pc' l' st) (hp : pc + 2 = pc' := by rfl) : Run p e below n0 Q G m T pc ls (.int v :: st) := by
  subst hp
  exact Run.step (fun t q => XS.istore X.at' C.1 rfl (C.d hd) rfl hl q) r
theorem s_astore (pc' : Nat) (C : Cx tabs a0 Z own nm code ml ret p s m meth c) (X : St p l e R s m args below meth c n0 T h k n) {i : Nat} {v : Value} {l' : Array Slot} (hd : decode code pc = .ok (.astore i, 2)) (hv : v.isRef = true) (hl : storeLocals ls i v = some l') (r : Run p e below n0 Q G m T pc' l' st) (hp : pc + 2 = pc' := by rfl) : Run p e below n0 Q G m T pc ls (v :: st) := by
  subst hp
  exact Run.step (fun t q => XS.astore X.at' C.1 rfl (C.d hd) rfl hv hl q) r
theorem s_iinc (pc' : Nat) (C : Cx tabs a0 Z own nm code ml ret p s m meth c) (X : St p l e R s m args below meth c n0 T h k n) {i : Nat} {cst : Int} {x z : Int32} {l' : Array Slot} (hd : decode code pc = .ok (.iinc i cst, 3)) (hz : Int32.ofInt cst = z) (hl : ls[i]? = some (.val (.int x))) (hl' : storeLocals ls i (.int (x + z)) = some l') (r : Run p e below n0 Q G m T pc' l' st) (hp : pc + 3 = pc' := by rfl) : Run p e below n0 Q G m T pc ls st := by
  subst hp
  exact Run.step (fun t q => XS.iinc X.at' C.1 rfl (C.d hd) hl (by rw [hz]; exact hl') q) r
theorem s_iconst (pc' : Nat) (C : Cx tabs a0 Z own nm code ml ret p s m meth c) (X : St p l e R s m args below meth c n0 T h k n) {i : Int} {z : Int32} (hd : decode code pc = .ok (.iconst i, 1)) (hz : Int32.ofInt i = z) (r : Run p e below n0 Q G m T pc' ls (.int z :: st)) (hp : pc + 1 = pc' := by rfl) : Run p e below n0 Q G m T pc ls st := by
  subst hp
  exact Run.step (fun t q => XS.iconst X.at' C.1 rfl (C.d hd) (by rw [hz]; exact q)) r
theorem s_bipush (pc' : Nat) (C : Cx tabs a0 Z own nm code ml ret p s m meth c) (X : St p l e R s m args below meth c n0 T h k n) {i : Int} {z : Int32} (hd : decode code pc = .ok (.bipush i, 2)) (hz : (Int8.ofInt i).toInt32 = z) (r : Run p e below n0 Q G m T pc' ls (.int z :: st)) (hp : pc + 2 = pc' := by rfl) : Run p e below n0 Q G m T pc ls st := by
  subst hp
  exact Run.step (fun t q => XS.bipush X.at' C.1 rfl (C.d hd) (by rw [hz]; exact q)) r
theorem s_iadd (pc' : Nat) (C : Cx tabs a0 Z own nm code ml ret p s m meth c) (X : St p l e R s m args below meth c n0 T h k n) {x y : Int32} (hd : decode code pc = .ok (.iadd, 1)) (r : Run p e below n0 Q G m T pc' ls (.int (x + y) :: st)) (hp : pc + 1 = pc' := by rfl) : Run p e below n0 Q G m T pc ls (.int y :: .int x :: st) := by
  subst hp
  exact Run.step (fun t q => XS.iadd X.at' C.1 rfl (C.d hd) rfl q) r
theorem s_isub (pc' : Nat) (C : Cx tabs a0 Z own nm code ml ret p s m meth c) (X : St p l e R s m args below meth c n0 T h k n) {x y : Int32} (hd : decode code pc = .ok (.isub, 1)) (r : Run p e below n0 Q G m T pc' ls (.int (x - y) :: st)) (hp : pc + 1 = pc' := by rfl) : Run p e below n0 Q G m T pc ls (.int y :: .int x :: st) := by
  subst hp
  exact Run.step (fun t q => XS.isub X.at' C.1 rfl (C.d hd) rfl q) r
theorem s_iand (pc' : Nat) (C : Cx tabs a0 Z own nm code ml ret p s m meth c) (X : St p l e R s m args below meth c n0 T h k n) {x y : Int32} (hd : decode code pc = .ok (.iand, 1)) (r : Run p e below n0 Q G m T pc' ls (.int (x &&& y) :: st)) (hp : pc + 1 = pc' := by rfl) : Run p e below n0 Q G m T pc ls (.int y :: .int x :: st) := by
  subst hp
  exact Run.step (fun t q => XS.iand X.at' C.1 rfl (C.d hd) rfl q) r
theorem s_imul (pc' : Nat) (C : Cx tabs a0 Z own nm code ml ret p s m meth c) (X : St p l e R s m args below meth c n0 T h k n) {x y : Int32} (hd : decode code pc = .ok (.imul, 1)) (r : Run p e below n0 Q G m T pc' ls (.int (x * y) :: st)) (hp : pc + 1 = pc' := by rfl) : Run p e below n0 Q G m T pc ls (.int y :: .int x :: st) := by
  subst hp
  exact Run.step (fun t q => XS.imul X.at' C.1 rfl (C.d hd) rfl q) r
theorem s_lushr (pc' : Nat) (C : Cx tabs a0 Z own nm code ml ret p s m meth c) (X : St p l e R s m args below meth c n0 T h k n) {x : Int64} {y : Int32} (hd : decode code pc = .ok (.lushr, 1)) (r : Run p e below n0 Q G m T pc' ls (.long (XT.ushrL x y) :: st)) (hp : pc + 1 = pc' := by rfl) : Run p e below n0 Q G m T pc ls (.int y :: .long x :: st) := by
  subst hp
  exact Run.step (fun t q => XT.lushr X.at' C.1 rfl (C.d hd) rfl q) r
theorem s_irem (pc' : Nat) (C : Cx tabs a0 Z own nm code ml ret p s m meth c) (X : St p l e R s m args below meth c n0 T h k n) {x y : Int32} (hd : decode code pc = .ok (.irem, 1)) (hy : y ≠ 0) (r : Run p e below n0 Q G m T pc' ls (.int (x % y) :: st)) (hp : pc + 1 = pc' := by rfl) : Run p e below n0 Q G m T pc ls (.int y :: .int x :: st) := by
  subst hp
  exact Run.step (fun t q => XS.irem X.at' C.1 rfl (C.d hd) rfl hy (by rw [show x - x / y * y = x % y from irem_eq_mod x y]; exact q)) r
theorem s_l2i (pc' : Nat) (C : Cx tabs a0 Z own nm code ml ret p s m meth c) (X : St p l e R s m args below meth c n0 T h k n) {x : Int64} (hd : decode code pc = .ok (.l2i, 1)) (r : Run p e below n0 Q G m T pc' ls (.int x.toInt32 :: st)) (hp : pc + 1 = pc' := by rfl) : Run p e below n0 Q G m T pc ls (.long x :: st) := by
  subst hp
  exact Run.step (fun t q => XT.l2i X.at' C.1 rfl (C.d hd) rfl q) r
theorem s_i2b (pc' : Nat) (C : Cx tabs a0 Z own nm code ml ret p s m meth c) (X : St p l e R s m args below meth c n0 T h k n) {x : Int32} (hd : decode code pc = .ok (.i2b, 1)) (r : Run p e below n0 Q G m T pc' ls (.int x.toInt8.toInt32 :: st)) (hp : pc + 1 = pc' := by rfl) : Run p e below n0 Q G m T pc ls (.int x :: st) := by
  subst hp
  exact Run.step (fun t q => XT.i2b X.at' C.1 rfl (C.d hd) rfl q) r
theorem s_goto (pc' : Nat) (C : Cx tabs a0 Z own nm code ml ret p s m meth c) (X : St p l e R s m args below meth c n0 T h k n) {o : Int} (hd : decode code pc = .ok (.goto o, 3)) (r : Run p e below n0 Q G m T pc' ls st) (hp : 0 ≤ (pc : Int) + o ∧ ((pc : Int) + o).toNat = pc' := by decide) : Run p e below n0 Q G m T pc ls st := by
  exact Run.step (fun t q => XS.goto X.at' C.1 rfl rfl (C.d hd) hp.1 hp.2 q) r
theorem s_icmp_lt (pY pN : Nat) (C : Cx tabs a0 Z own nm code ml ret p s m meth c) (X : St p l e R s m args below meth c n0 T h k n) {x y : Int32} {o : Int} (hd : decode code pc = .ok (.if_icmp .lt o, 3)) (ry : x < y → Run p e below n0 Q G m T pY ls st) (rn : ¬ x < y → Run p e below n0 Q G m T pN ls st) (hp : 0 ≤ (pc : Int) + o ∧ ((pc : Int) + o).toNat = pY ∧ pc + 3 = pN := by decide) : Run p e below n0 Q G m T pc ls (.int y :: .int x :: st) := by
  by_cases g : x < y
  · exact Run.step (fun t q => XS.icmpYes X.at' C.1 rfl rfl (C.d hd) rfl (tlt g).1 hp.1 hp.2.1 q) (ry g)
  · obtain rfl := hp.2.2
    exact Run.step (fun t q => XS.icmpNo X.at' C.1 rfl (C.d hd) rfl (flt g).1 q) (rn g)
theorem s_if_lt (pY pN : Nat) (C : Cx tabs a0 Z own nm code ml ret p s m meth c) (X : St p l e R s m args below meth c n0 T h k n) {x : Int32} {o : Int} (hd : decode code pc = .ok (.ifCond .lt o, 3)) (ry : x < (0 : Int32) → Run p e below n0 Q G m T pY ls st) (rn : ¬ x < (0 : Int32) → Run p e below n0 Q G m T pN ls st) (hp : 0 ≤ (pc : Int) + o ∧ ((pc : Int) + o).toNat = pY ∧ pc + 3 = pN := by decide) : Run p e below n0 Q G m T pc ls (.int x :: st) := by
  by_cases g : x < (0 : Int32)
  · exact Run.step (fun t q => XS.ifYes X.at' C.1 rfl rfl (C.d hd) rfl ((if0 _ _).trans (tlt g).1) hp.1 hp.2.1 q) (ry g)
  · obtain rfl := hp.2.2
    exact Run.step (fun t q => XS.ifNo X.at' C.1 rfl (C.d hd) rfl ((if0 _ _).trans (flt g).1) q) (rn g)
theorem s_if_eq (pY pN : Nat) (C : Cx tabs a0 Z own nm code ml ret p s m meth c) (X : St p l e R s m args below meth c n0 T h k n) {x : Int32} {o : Int} (hd : decode code pc = .ok (.ifCond .eq o, 3)) (ry : x = (0 : Int32) → Run p e below n0 Q G m T pY ls st) (rn : ¬ x = (0 : Int32) → Run p e below n0 Q G m T pN ls st) (hp : 0 ≤ (pc : Int) + o ∧ ((pc : Int) + o).toNat = pY ∧ pc + 3 = pN := by decide) : Run p e below n0 Q G m T pc ls (.int x :: st) := by
  by_cases g : x = (0 : Int32)
  · exact Run.step (fun t q => XS.ifYes X.at' C.1 rfl rfl (C.d hd) rfl ((if0 _ _).trans (teq g).1) hp.1 hp.2.1 q) (ry g)
  · obtain rfl := hp.2.2
    exact Run.step (fun t q => XS.ifNo X.at' C.1 rfl (C.d hd) rfl ((if0 _ _).trans (feq g).1) q) (rn g)
theorem s_icmp_ne (pY pN : Nat) (C : Cx tabs a0 Z own nm code ml ret p s m meth c) (X : St p l e R s m args below meth c n0 T h k n) {x y : Int32} {o : Int} (hd : decode code pc = .ok (.if_icmp .ne o, 3)) (ry : ¬ x = y → Run p e below n0 Q G m T pY ls st) (rn : x = y → Run p e below n0 Q G m T pN ls st) (hp : 0 ≤ (pc : Int) + o ∧ ((pc : Int) + o).toNat = pY ∧ pc + 3 = pN := by decide) : Run p e below n0 Q G m T pc ls (.int y :: .int x :: st) := by
  by_cases g : x = y
  · obtain rfl := hp.2.2
    exact Run.step (fun t q => XS.icmpNo X.at' C.1 rfl (C.d hd) rfl (teq g).2 q) (rn g)
  · exact Run.step (fun t q => XS.icmpYes X.at' C.1 rfl rfl (C.d hd) rfl (feq g).2 hp.1 hp.2.1 q) (ry g)
theorem FE_mono {kc ks : Nat} (hk : k ≤ kc) (hn : n ≤ ks) : ∀ (v : Option Value) (t : State) (L : List Loc), FrameEnd s (.returned v) t L k n → FrameEnd s (.returned v) t L kc ks := fun v t L h => ⟨h.1, h.2.1, h.2.2.mono hk hn⟩
theorem Run.done (C : Cx tabs a0 Z own nm code ml ret p s m meth c) (X : St p l e R s m args below meth c n0 T h k n) {v : Option Value} (hv : ret = none → v = none) (hG : ∀ (v : Option Value) (t : State) (L : List Loc), FrameEnd s (.returned v) t L k n → G (.returned v) t L) (q : Q v h) (f : ∀ locs fs, Stand p l e R s m args below meth c T locs k n → (∀ (f : JFrame) (acts : List Action), f.method = m → f.locked = none → f.entered = [] → (doReturn e (T.setTop f) acts v).1 = T.setFrames fs) → Steps p.tables e below (T.setTop (mkF m pc ls st)) (T.setFrames fs)) : Run p e below n0 Q G m T pc ls st := by
  obtain ⟨locs, Y, rfl, N, -⟩ := X
  obtain ⟨fs, hr, hrun, hended, hW, hsame⟩ := Y.leave (v := v) (by rw [C.2.2.2.2.2.1]; exact hv) C.2.2.2.2.2.2.1
  exact ⟨_, _, f locs fs Y hr, hrun, hended, _, _, rfl, ⟨q, N⟩, hG _ _ _ ⟨⟨_, rfl⟩, hW, hsame⟩⟩
theorem s_return (C : Cx tabs a0 Z own nm code ml ret p s m meth c) (X : St p l e R s m args below meth c n0 T h k n) (hd : decode code pc = .ok (.return_, 1)) (hr : ret = none) (q : Q none h) (hG : ∀ (v : Option Value) (t : State) (L : List Loc), FrameEnd s (.returned v) t L k n → G (.returned v) t L := by exact FE_mono (by decide) (by decide)) : Run p e below n0 Q G m T pc ls [] := by
  subst hr
  exact Run.done C X (fun _ => rfl) hG q (fun locs fs Y hr => Y.returnOut C.1 C.2.2.2.2.2.1 (C.d hd) hr)
theorem s_nreturn (C : Cx tabs a0 Z own nm code ml ret p s m meth c) (X : St p l e R s m args below meth c n0 T h k n) {z z' : Int32} {t : FieldType} (hd : decode code pc = .ok (.ireturn, 1)) (hr : ret = some t) (ht : t = .boolean ∨ t = .byte ∨ t = .char ∨ t = .short) (hz : nar t z = z') (q : Q (some (.int z')) h) (hG : ∀ (v : Option Value) (t : State) (L : List Loc), FrameEnd s (.returned v) t L k n → G (.returned v) t L := by exact FE_mono (by decide) (by decide)) : Run p e below n0 Q G m T pc ls (.int z :: st) := by
  subst hr hz
  refine Run.done C X (fun w => by cases w) hG q (fun locs fs Y hr => ?_)
  exact retN Y C.1 C.2.2.2.2.2.1 ht (C.d hd) hr
theorem s_new (pc' : Nat) (C : Cx tabs a0 Z own nm code ml ret p s m meth c) (X : St p l e R s m args below meth c n0 T h k n) {K : String} {idx nn : Nat} (hd : decode code pc = .ok (.new idx, 3)) (w1 : Jvm.Cond.classLink own idx K ∈ tabs) (w2 : Jvm.Cond.instantiable K nn ∈ tabs) (w3 : Jvm.Cond.initialized K ∈ tabs)
    (r : ∀ T' h' b, h.size = b → St p l e R s m args below meth c n0 T' h' (k + 1) (n + nn) → Ext h h' → Exa Z h' b K → (∀ {O fn d : String} {ty : FieldType}, Laid Z a0 K O fn d → parseFieldDescriptor d = some ty → Fld Z h' b O fn d (defaultValue ty)) → n0 ≤ b → Run p e below n0 Q G m T' pc' ls (.ref b :: st)) (hp : pc + 3 = pc' := by rfl) (hc : k + 1 ≤ R.cells ∧ n + nn ≤ R.slots := by decide) : Run p e below n0 Q G m T pc ls st := by
  subst hp
  have hz := X.sz
  obtain ⟨locs, Y, eT, N, q⟩ := X
  obtain ⟨T', h', Y', e', E, A, D, -, f⟩ := newO Y C.1 C.2.1 C.2.2.2.2.1 (C.w w1) (C.w w2) (C.w w3) eT (g := mkF m pc ls st) rfl (C.d hd) hc.1 hc.2
  exact Run.step f (r T' h' _ rfl ⟨locs, Y', e', N, q⟩ E A D hz)
theorem s_newarray (pc' : Nat) (cap : Nat) (C : Cx tabs a0 Z own nm code ml ret p s m meth c) (X : St p l e R s m args below meth c n0 T h k n) {aty : ArrayType} {z : Int32} (hd : decode code pc = .ok (.newarray aty, 2)) (w : Jvm.Cond.arrayClass (newarray.typeOf aty) ∈ tabs) (hz : ¬ z < 0) (hcap : z.toNatClampNeg ≤ cap)
    (r : ∀ T' h' b kA, h.size = b → St p l e R s m args below meth c n0 T' h' (k + 1) (n + cap) → Ext h h' → Arv Z h' b kA (newarray.typeOf aty) z [] (defaultValue (newarray.typeOf aty)) → n0 ≤ b → Run p e below n0 Q G m T' pc' ls (.ref b :: st)) (hp : pc + 2 = pc' := by rfl) (hc : cap * 8 ≤ 536870912 ∧ k + 1 ≤ R.cells ∧ n + cap ≤ R.slots := by decide) : Run p e below n0 Q G m T pc ls (.int z :: st) := by
  subst hp
  have hs := X.sz
  obtain ⟨locs, Y, eT, N, q⟩ := X
  obtain ⟨T', h', kA, Y', e', E, A, f⟩ := newP Y C.1 C.2.1 (C.w w) eT (g := mkF m pc ls (.int z :: st)) rfl (C.d hd) rfl hz hcap hc.1 hc.2.1 hc.2.2
  exact Run.step f (r T' h' _ kA rfl ⟨locs, Y', e', N, q⟩ E (Arv.new A hz) hs)
theorem s_bastore (pc' : Nat) (i : Nat) (C : Cx tabs a0 Z own nm code ml ret p s m meth c) (X : St p l e R s m args below meth c n0 T h k n) {a : Addr} {kA : ClassId} {z j : Int32} {x : Int32} {vs : List Value} {dv : Value} (hd : decode code pc = .ok (.bastore, 1)) (F : Arv Z h a kA .byte z vs dv) (ge : n0 ≤ a) (hj : ¬ j < 0 ∧ j < z) (hi : j.toNatClampNeg = i) (hl : i < vs.length)
    (r : ∀ T' h', St p l e R s m args below meth c n0 T' h' k n → Wr h h' a j.toNatClampNeg (.int (nar .byte x)) → Arv Z h' a kA .byte z (vs.set i (.int (nar .byte x))) dv → Run p e below n0 Q G m T' pc' ls st) (hp : pc + 1 = pc' := by rfl) : Run p e below n0 Q G m T pc ls (.int x :: .int j :: .ref a :: st) := by
  subst hp
  obtain ⟨locs, Y, eT, N, q⟩ := X
  obtain ⟨cl, A, q1, S, q3, H, G⟩ := F
  obtain ⟨T', h', Y', e', W, f⟩ := stB Y C.1 C.2.1 eT A (j := j) (inb_of S hj) (g := mkF m pc ls (.int x :: .int j :: .ref a :: st)) rfl rfl (C.d hd)
  exact Run.step f (r T' h' ⟨_, Y', e', Fr.snoc Y' N ge, q⟩ W (Arv.set A q1 S q3 H G (fits_nar_byte x) W i hi hl))
theorem s_baload (pc' : Nat) (C : Cx tabs a0 Z own nm code ml ret p s m meth c) (X : St p l e R s m args below meth c n0 T h k n) {a : Addr} {kA : ClassId} {z j : Int32} {v : Value} {vs : List Value} {dv : Value} (hd : decode code pc = .ok (.baload, 1)) (F : Arv Z h a kA .byte z vs dv) (hj : ¬ j < 0 ∧ j < z) (hv : vs.getD j.toNatClampNeg dv = v)
    (r : Run p e below n0 Q G m T pc' ls (v :: st)) (hp : pc + 1 = pc' := by rfl) : Run p e below n0 Q G m T pc ls (.int j :: .ref a :: st) := by
  subst hp
  obtain ⟨locs, Y, eT, N, q⟩ := X
  obtain ⟨cl, A, q1, S, q3, H, G⟩ := F
  exact Run.step (fun t q => Y.baloadBytes C.1 (j := j) (v := v) (by rw [eT]; exact A.1) (State.isArrayOf_alike C.2.1.alike A.2.1) A.2.2 (inb_of S hj) (H.at (inb_of S hj) hv) (g := mkF m pc ls (.int j :: .ref a :: st)) rfl rfl (C.d hd) t q) r
/-- a method's contract at given arguments and a given heap -/
def Met (l : Launch) (Z : State) (y : MethodName) (bytes : ByteArray) (ml : Nat) (ret : Option FieldType) (rm : Room) (ws : List Jvm.Cond) (as : Array Value) (h : Heap) (n0 : Nat) (Q : Option Value → Heap → Prop) : Prop :=
  MetFree l y (head1 (Jvm.Cond.code y bytes ml ret :: ws) rm) (fun a U => a = as ∧ Z.Warmed39 U.vm ∧ U.heap = h) (fun _ _ _ _ _ => True) (fun _ U o U' => ∃ v L, o = .returned v ∧ (Q v U'.heap ∧ Fr n0 L) ∧ FrameEnd U o U' L rm.cells rm.slots)
theorem Met.mk {y : MethodName} {rm : Room} {ws : List Jvm.Cond} {as : Array Value} {ls0 : Array Slot} (hpl : plainFor y = true) (hw : ∀ d ∈ tabs, d.before a0 Z = true) (hn : n0 ≤ h.size) (hef : ∀ m, entryFrame m as ml = mkF m 0 ls0 [])
    (body : ∀ p e s m below meth c T, Cx tabs a0 Z y.cls y.name code ml ret p s m meth c → St p l e rm s m as below meth c n0 T h 0 0 → Run p e below n0 Q (fun o t L => FrameEnd s o t L rm.cells rm.slots) m T 0 ls0 []) : Met l Z y code ml ret rm ws as h n0 Q := by
  refine MetFree.of_bodySF hpl hisR ?_
  intro p e s m args below meth c s₁ Bd hml0 hP hK
  obtain ⟨rfl, hZ, rfl⟩ := hP
  have X0 : Stand p l e rm s m args below meth c s₁ [] 0 0 := Stand.of_body Bd
  have e0 : s₁.heap = s.heap := by rw [Bd.state]; rfl
  have r := body p e s m below meth c s₁ ⟨Bd.exec, hZ, Bd.bytes, hml0, findClass_of_methodNamed Bd.named, Bd.returns, Bd.notSynchronized, (name_of_methodNamed Bd.named Bd.method).1, hw⟩ ⟨[], X0, e0, Fr.nil n0, hn⟩
  obtain ⟨s₂, o, h1, h2⟩ := r
  exact ⟨s₂, o, castTop (hef m) h1, h2⟩
theorem s_callS (pc' : Nat) (argsL rest : List Value) (W : Nat) (C : Cx tabs a0 Z own nm code ml ret p s m meth c) (X : St p l e R s m args below meth c n0 T h k n) {idx : Nat} {y : MethodName} {bytes : ByteArray} {maxL : Nat} {rt : Option FieldType} {rm : Room} {stk : List Value} {Q1 : Option Value → Heap → Prop} (hd : decode code pc = .ok (.invokestatic idx, 3)) (w1 : Jvm.Cond.methodLink own idx y ∈ tabs) (w2 : Jvm.Cond.static y ∈ tabs) (w3 : Jvm.Cond.initialized y.cls ∈ tabs) (w4 : Jvm.Cond.code y bytes maxL rt ∈ tabs)
    (M : Met l Z y bytes maxL rt rm [] argsL.toArray h n0 Q1) (hlen : ∀ sig, parseMethodDescriptor y.desc = some sig → argsL.length = sig.parameters.length) (hs : stk = argsL.reverse ++ rest) (hsz : ls.size = ml) (hW : (rest.map fun v => v.category).sum = W)
    (r : ∀ T' v h', St p l e R s m args below meth c n0 T' h' (k + rm.cells) (n + rm.slots) → Q1 v h' → Run p e below n0 Q G m T' pc' ls (v.toList ++ rest)) (hp : pc + 3 = pc' := by rfl) (hr : rm.frames + 1 ≤ R.frames ∧ W + (maxL + 11) + rm.locals ≤ R.locals ∧ k + rm.cells ≤ R.cells ∧ n + rm.slots ≤ R.slots := by decide) (hy : y.cls ≠ "java/lang/invoke/MethodHandle" ∧ y.cls ≠ "java/lang/invoke/VarHandle" := by decide) : Run p e below n0 Q G m T pc ls stk := by
  subst hp hs
  obtain ⟨locs, Y, eT, N, q⟩ := X
  obtain ⟨v, _, ⟨T1, L1, k1, n1⟩, -, Y', ⟨Lc, hQ, l1, y1, z1⟩, f⟩ := Jvm.LawKit.callS Y C.1 C.2.2.2.2.1 (mvT C.2.1 (C.w w1)) (mvT C.2.1 (C.w w2)) (mvT C.2.1 (C.w w3)) (mvT C.2.1 (C.w w4)) hy (backOf (W := W) (Q := fun v h L => Q1 v h ∧ Fr n0 L) M C.2.1 (C.w w4) (C.w w3) hr.1 hr.2.1) (g := mkF m pc ls (argsL.reverse ++ rest)) rfl (hsz.trans C.2.2.2.1.symm) (argsL := argsL) (rest := rest) hlen rfl (by show 2 * 0 + _ ≤ _; rw [hW]; omega) (C.d hd) (fun _ _ => ⟨rfl, eT, hr.2.2.1, hr.2.2.2⟩)
  dsimp only [Pt.U, Pt.locs, Pt.cells, Pt.slots] at Y' l1 y1 z1 f hQ
  subst l1 y1 z1
  exact Run.step f (r T1 v _ ⟨_, Y', rfl, Fr.app N hQ.2, q⟩ hQ.1)
end A
end Jvm.OwnK
namespace Jvm.Pilot.@@N@@
open Jvm Jvm.ClassFile Sem Op Lib Jvm.Free Jvm.Stand Jvm.LawKit Jvm.RoadKit Bundle Jvm.OwnK Jvm.Pilot.@@N@@.Jvm.D
theorem pn_com_example_medis_medis_store_PagesPutUnsignedPinLaw : plainName "com/example/medis/medis/store/PagesPutUnsignedPinLaw" = true := by first | (simp [plainName, overriddenIn]; done) | decide +kernel
theorem d2_0 : decode method_3_code 0 = .ok (.iload_n 1, 1) := by decide +kernel
theorem d2_1 : decode method_3_code 1 = .ok (.iload_n 2, 1) := by decide +kernel
theorem d2_2 : decode method_3_code 2 = .ok (.if_icmp .lt 10, 3) := by decide +kernel
theorem d2_12 : decode method_3_code 12 = .ok (.iload 6, 2) := by decide +kernel
theorem d2_14 : decode method_3_code 14 = .ok (.istore 7, 2) := by decide +kernel
theorem d2_16 : decode method_3_code 16 = .ok (.goto 28, 3) := by decide +kernel
theorem d2_44 : decode method_3_code 44 = .ok (.aload_n 0, 1) := by decide +kernel
theorem d2_45 : decode method_3_code 45 = .ok (.iload_n 1, 1) := by decide +kernel
theorem d2_46 : decode method_3_code 46 = .ok (.baload, 1) := by decide +kernel
theorem d2_47 : decode method_3_code 47 = .ok (.iload 7, 2) := by decide +kernel
theorem d2_49 : decode method_3_code 49 = .ok (.if_icmp .ne 7, 3) := by decide +kernel
theorem d2_52 : decode method_3_code 52 = .ok (.iconst 1, 1) := by decide +kernel
theorem kc_iconst_1 : Int32.ofInt 1 = (1 : Int32) := by decide +kernel
theorem d2_53 : decode method_3_code 53 = .ok (.goto 4, 3) := by decide +kernel
theorem d2_57 : decode method_3_code 57 = .ok (.ireturn, 1) := by decide +kernel
theorem d2_5 : decode method_3_code 5 = .ok (.iload_n 1, 1) := by decide +kernel
theorem d2_6 : decode method_3_code 6 = .ok (.iload_n 2, 1) := by decide +kernel
theorem d2_7 : decode method_3_code 7 = .ok (.iload_n 3, 1) := by decide +kernel
theorem d2_8 : decode method_3_code 8 = .ok (.iadd, 1) := by decide +kernel
theorem d2_9 : decode method_3_code 9 = .ok (.if_icmp .lt 10, 3) := by decide +kernel
theorem d2_19 : decode method_3_code 19 = .ok (.bipush 8, 2) := by decide +kernel
theorem kc_bipush_8 : (Int8.ofInt 8).toInt32 = (8 : Int32) := by decide +kernel
theorem d2_21 : decode method_3_code 21 = .ok (.iload_n 3, 1) := by decide +kernel
theorem d2_22 : decode method_3_code 22 = .ok (.isub, 1) := by decide +kernel
theorem d2_23 : decode method_3_code 23 = .ok (.iload_n 1, 1) := by decide +kernel
theorem d2_24 : decode method_3_code 24 = .ok (.iload_n 2, 1) := by decide +kernel
theorem d2_25 : decode method_3_code 25 = .ok (.isub, 1) := by decide +kernel
theorem d2_26 : decode method_3_code 26 = .ok (.iadd, 1) := by decide +kernel
theorem d2_27 : decode method_3_code 27 = .ok (.istore 8, 2) := by decide +kernel
theorem d2_29 : decode method_3_code 29 = .ok (.lload 4, 2) := by decide +kernel
theorem d2_31 : decode method_3_code 31 = .ok (.bipush 8, 2) := by decide +kernel
theorem d2_33 : decode method_3_code 33 = .ok (.bipush 7, 2) := by decide +kernel
theorem kc_bipush_7 : (Int8.ofInt 7).toInt32 = (7 : Int32) := by decide +kernel
theorem d2_35 : decode method_3_code 35 = .ok (.iload 8, 2) := by decide +kernel
theorem d2_37 : decode method_3_code 37 = .ok (.isub, 1) := by decide +kernel
theorem d2_38 : decode method_3_code 38 = .ok (.imul, 1) := by decide +kernel
theorem d2_39 : decode method_3_code 39 = .ok (.lushr, 1) := by decide +kernel
theorem d2_40 : decode method_3_code 40 = .ok (.l2i, 1) := by decide +kernel
theorem d2_41 : decode method_3_code 41 = .ok (.i2b, 1) := by decide +kernel
theorem d2_42 : decode method_3_code 42 = .ok (.istore 7, 2) := by decide +kernel
theorem pn_com_example_medis_medis_store_Pages : plainName "com/example/medis/medis/store/Pages" = true := by first | (simp [plainName, overriddenIn]; done) | decide +kernel
theorem d1_0 : decode prog_150_method_4_code 0 = .ok (.iload 4, 2) := by decide +kernel
theorem d1_2 : decode prog_150_method_4_code 2 = .ok (.iconst 1, 1) := by decide +kernel
theorem d1_3 : decode prog_150_method_4_code 3 = .ok (.isub, 1) := by decide +kernel
theorem d1_4 : decode prog_150_method_4_code 4 = .ok (.istore 5, 2) := by decide +kernel
theorem d1_6 : decode prog_150_method_4_code 6 = .ok (.iload 5, 2) := by decide +kernel
theorem d1_8 : decode prog_150_method_4_code 8 = .ok (.ifCond .lt 29, 3) := by decide +kernel
theorem d1_37 : decode prog_150_method_4_code 37 = .ok (.return_, 1) := by decide +kernel
theorem d1_11 : decode prog_150_method_4_code 11 = .ok (.aload_n 0, 1) := by decide +kernel
theorem d1_12 : decode prog_150_method_4_code 12 = .ok (.iload_n 1, 1) := by decide +kernel
theorem d1_13 : decode prog_150_method_4_code 13 = .ok (.iload 4, 2) := by decide +kernel
theorem d1_15 : decode prog_150_method_4_code 15 = .ok (.iadd, 1) := by decide +kernel
theorem d1_16 : decode prog_150_method_4_code 16 = .ok (.iconst 1, 1) := by decide +kernel
theorem d1_17 : decode prog_150_method_4_code 17 = .ok (.isub, 1) := by decide +kernel
theorem d1_18 : decode prog_150_method_4_code 18 = .ok (.iload 5, 2) := by decide +kernel
theorem d1_20 : decode prog_150_method_4_code 20 = .ok (.isub, 1) := by decide +kernel
theorem d1_21 : decode prog_150_method_4_code 21 = .ok (.lload_n 2, 1) := by decide +kernel
theorem d1_22 : decode prog_150_method_4_code 22 = .ok (.bipush 8, 2) := by decide +kernel
theorem d1_24 : decode prog_150_method_4_code 24 = .ok (.iload 5, 2) := by decide +kernel
theorem d1_26 : decode prog_150_method_4_code 26 = .ok (.imul, 1) := by decide +kernel
theorem d1_27 : decode prog_150_method_4_code 27 = .ok (.lushr, 1) := by decide +kernel
theorem d1_28 : decode prog_150_method_4_code 28 = .ok (.l2i, 1) := by decide +kernel
theorem d1_29 : decode prog_150_method_4_code 29 = .ok (.i2b, 1) := by decide +kernel
theorem d1_30 : decode prog_150_method_4_code 30 = .ok (.bastore, 1) := by decide +kernel
theorem d1_31 : decode prog_150_method_4_code 31 = .ok (.iinc 5 (-1), 3) := by decide +kernel
theorem kc_iconst_m1 : Int32.ofInt (-1) = (-1 : Int32) := by decide +kernel
theorem d1_34 : decode prog_150_method_4_code 34 = .ok (.goto (-28), 3) := by decide +kernel
theorem kc_iconst_3 : Int32.ofInt 3 = (3 : Int32) := by decide +kernel
theorem kc_bipush_15 : (Int8.ofInt 15).toInt32 = (15 : Int32) := by decide +kernel
theorem kc_bipush_9 : (Int8.ofInt 9).toInt32 = (9 : Int32) := by decide +kernel
theorem kc_bipush_12 : (Int8.ofInt 12).toInt32 = (12 : Int32) := by decide +kernel
theorem kc_iconst_0 : Int32.ofInt 0 = (0 : Int32) := by decide +kernel
theorem kc_iconst_2 : Int32.ofInt 2 = (2 : Int32) := by decide +kernel
theorem kc_iconst_4 : Int32.ofInt 4 = (4 : Int32) := by decide +kernel
theorem kc_iconst_5 : Int32.ofInt 5 = (5 : Int32) := by decide +kernel
theorem kc_bipush_6 : (Int8.ofInt 6).toInt32 = (6 : Int32) := by decide +kernel
theorem kc_bipush_10 : (Int8.ofInt 10).toInt32 = (10 : Int32) := by decide +kernel
theorem kc_bipush_11 : (Int8.ofInt 11).toInt32 = (11 : Int32) := by decide +kernel
theorem pd___BIJI_V : parseMethodDescriptor "([BIJI)V" = some ⟨[(.array .byte), .int, .long, .int], none⟩ := by decide +kernel
theorem pd___BIIIJB_Z : parseMethodDescriptor "([BIIIJB)Z" = some ⟨[(.array .byte), .int, .int, .int, .long, .byte], some .boolean⟩ := by decide +kernel
def byteX (val : Int64) (sh : Int32) : Int32 := ((XT.ushrL val sh).toInt32).toInt8.toInt32
def expB (val : Int64) (off w f j : Int32) : Int32 := if j < off ∨ ¬ j < off + w then f else byteX val (8 * (7 - ((8 - w) + (j - off))))
def midB (val : Int64) (off w f : Int32) (k : Nat) (j : Nat) : Int32 := if off.toInt ≤ (j : Int) ∧ (j : Int) < off.toInt + w.toInt - k then byteX val (8 * (off + w - 1 - Int32.ofNat j)) else f
theorem own_nar (x : Int32) : nar .byte (x.toInt8.toInt32) = x.toInt8.toInt32 := by simp [nar]
theorem own_ofNat (j : Nat) (h : j < 12) : (Int32.ofNat j).toInt = j := by
  have q : ∀ j : Fin 12, (Int32.ofNat j.val).toInt = j.val := by decide
  exact q ⟨j, h⟩
theorem own_off (x : Int32) : 0 ≤ (x &&& 3).toInt ∧ (x &&& 3).toInt ≤ 3 := c_and x 3 (by decide)
theorem own_w (x : Int32) : 0 ≤ ((x &&& 15) % 9).toInt ∧ ((x &&& 15) % 9).toInt ≤ 8 := by
  have h := (c_and x 15 (by decide)).1
  have q := (c_iremV (x &&& 15) 9).1 h (by decide)
  have k : (9 : Int32).toInt = 9 := by decide
  omega
theorem own_idx {off w i : Int32} {k : Nat} (ho : 0 ≤ off.toInt ∧ off.toInt ≤ 3) (hw : 0 ≤ w.toInt ∧ w.toInt ≤ 8) (hi : i.toInt = k) (hk : (k : Int) + 1 ≤ w.toInt) : (off + w - 1 - i).toInt = off.toInt + w.toInt - 1 - k := by
  have k1 : (1 : Int32).toInt = 1 := by decide
  have h1 := c_iadd off w
  have h2 := c_isub (off + w) 1
  have h3 := c_isub (off + w - 1) i
  have r1 := rng32 (off + w)
  have r2 := rng32 (off + w - 1)
  have r3 := rng32 (off + w - 1 - i)
  omega
theorem own_in {off w i : Int32} {k : Nat} (ho : 0 ≤ off.toInt ∧ off.toInt ≤ 3) (hw : 0 ≤ w.toInt ∧ w.toInt ≤ 8) (hi : i.toInt = k) (hk : (k : Int) + 1 ≤ w.toInt) : ¬ off + w - 1 - i < 0 ∧ off + w - 1 - i < 12 := by
  have q := own_idx ho hw hi hk
  have k0 : (0 : Int32).toInt = 0 := by decide
  have k12 : (12 : Int32).toInt = 12 := by decide
  rw [Int32.lt_iff_toInt_lt, Int32.lt_iff_toInt_lt]
  omega
theorem own_len {off w i : Int32} {k : Nat} {vs : List Value} (ho : 0 ≤ off.toInt ∧ off.toInt ≤ 3) (hw : 0 ≤ w.toInt ∧ w.toInt ≤ 8) (hi : i.toInt = k) (hk : (k : Int) + 1 ≤ w.toInt) (hl : vs.length = 12) : (off + w - 1 - i).toNatClampNeg < vs.length := by
  have q := own_in ho hw hi hk
  have z := nat_of q.1
  have k12 : (12 : Int32).toInt = 12 := by decide
  have y := Int32.lt_iff_toInt_lt.mp q.2
  omega
theorem own_turn {val : Int64} {off w f i : Int32} {k : Nat} {vs : List Value} (ho : 0 ≤ off.toInt ∧ off.toInt ≤ 3) (hw : 0 ≤ w.toInt ∧ w.toInt ≤ 8) (hi : i.toInt = k) (hk : (k : Int) + 1 ≤ w.toInt) (hl : vs.length = 12)
    (H : ∀ j : Nat, j < 12 → vs.getD j (.int 0) = .int (midB val off w f (k + 1) j)) :
    ∀ j : Nat, j < 12 → (vs.set (off + w - 1 - i).toNatClampNeg (.int (nar .byte (byteX val (8 * i))))).getD j (.int 0) = .int (midB val off w f k j) := by
  intro j hj
  have q := own_idx ho hw hi hk
  have z := nat_of (own_in ho hw hi hk).1
  have o := own_ofNat j hj
  have hlen := own_len ho hw hi hk hl
  by_cases e : j = (off + w - 1 - i).toNatClampNeg
  · have e1 : (vs.set (off + w - 1 - i).toNatClampNeg (.int (nar .byte (byteX val (8 * i))))).getD j (.int 0) = .int (nar .byte (byteX val (8 * i))) := by
      rw [List.getD_eq_getElem?_getD, e, List.getElem?_set_self hlen]; rfl
    rw [e1]
    have e2 : off + w - 1 - Int32.ofNat j = i := by
      apply Int32.toInt_inj.mp
      have h3 := c_isub (off + w - 1) (Int32.ofNat j)
      have h4 := c_isub (off + w - 1) i
      have r3 := rng32 (off + w - 1 - Int32.ofNat j)
      have r4 := rng32 i
      have r5 := rng32 (off + w - 1)
      omega
    have e3 : midB val off w f k j = byteX val (8 * i) := by
      unfold midB
      rw [if_pos (by omega), e2]
    rw [e3]
    exact congrArg Value.int (own_nar _)
  · have e1 : (vs.set (off + w - 1 - i).toNatClampNeg (.int (nar .byte (byteX val (8 * i))))).getD j (.int 0) = vs.getD j (.int 0) := by
      rw [List.getD_eq_getElem?_getD, List.getD_eq_getElem?_getD, List.getElem?_set_ne (Ne.symm e)]
    rw [e1, H j hj]
    have e3 : midB val off w f (k + 1) j = midB val off w f k j := by
      unfold midB
      by_cases g : off.toInt ≤ (j : Int) ∧ (j : Int) < off.toInt + w.toInt - k
      · rw [if_pos g, if_pos (by omega)]
      · rw [if_neg g, if_neg (by omega)]
    rw [e3]
theorem own_fin {val : Int64} {off w f : Int32} (ho : 0 ≤ off.toInt ∧ off.toInt ≤ 3) (hw : 0 ≤ w.toInt ∧ w.toInt ≤ 8) (j : Nat) (hj : j < 12) : midB val off w f 0 j = expB val off w f (Int32.ofNat j) := by
  have o := own_ofNat j hj
  have h1 := c_iadd off w
  have r1 := rng32 (off + w)
  have e : (off + w).toInt = off.toInt + w.toInt := by omega
  have k1 : (1 : Int32).toInt = 1 := by decide
  have k7 : (7 : Int32).toInt = 7 := by decide
  have k8 : (8 : Int32).toInt = 8 := by decide
  unfold midB expB
  by_cases g : off.toInt ≤ (j : Int) ∧ (j : Int) < off.toInt + w.toInt - (0 : Nat)
  · rw [if_pos g, if_neg (by rw [Int32.lt_iff_toInt_lt, Int32.lt_iff_toInt_lt]; omega)]
    have e2 : off + w - 1 - Int32.ofNat j = 7 - ((8 - w) + (Int32.ofNat j - off)) := by
      apply Int32.toInt_inj.mp
      have a1 := c_isub (off + w) 1
      have a2 := c_isub (off + w - 1) (Int32.ofNat j)
      have b1 := c_isub 8 w
      have b2 := c_isub (Int32.ofNat j) off
      have b3 := c_iadd (8 - w) (Int32.ofNat j - off)
      have b4 := c_isub 7 ((8 - w) + (Int32.ofNat j - off))
      have s1 := rng32 (off + w - 1)
      have s2 := rng32 (off + w - 1 - Int32.ofNat j)
      have s3 := rng32 (8 - w)
      have s4 := rng32 (Int32.ofNat j - off)
      have s5 := rng32 ((8 - w) + (Int32.ofNat j - off))
      have s6 := rng32 (7 - ((8 - w) + (Int32.ofNat j - off)))
      omega
    rw [e2]
  · rw [if_neg g, if_pos (by rw [Int32.lt_iff_toInt_lt, Int32.lt_iff_toInt_lt]; omega)]
theorem own_dec {i : Int32} {k : Nat} (hi : i.toInt = k) : (i + (-1 : Int32)).toInt = (k : Int) - 1 := by
  have h2 := c_iadd i (-1)
  have k1 : (-1 : Int32).toInt = -1 := by decide
  have r1 := rng32 i
  have r2 := rng32 (i + (-1))
  omega
theorem own_first {w : Int32} (hw : 0 ≤ w.toInt ∧ w.toInt ≤ 8) : (w - 1).toInt = (w.toInt.toNat : Int) - 1 := by
  have h2 := c_isub w 1
  have k1 : (1 : Int32).toInt = 1 := by decide
  have r2 := rng32 (w - 1)
  omega
theorem own_zero {val : Int64} {off w f : Int32} {k : Nat} (hk : (k : Int) = w.toInt) (j : Nat) : midB val off w f k j = f := by unfold midB; rw [if_neg (by omega)]
theorem own_rep {f : Int32} (x : Value) (e : x = .int f) : ∀ j : Nat, j < 12 → (List.replicate 12 x).getD j (.int 0) = .int f := by
  intro j hj
  rw [List.getD_eq_getElem?_getD, List.getElem?_replicate, if_pos hj, e]; rfl
set_option maxRecDepth 65536 in
set_option maxHeartbeats 40000000 in
theorem rm_at (l : Launch) (Z : State) (a0 : Array Value) (hw : ∀ d ∈ tables_1, d.before a0 Z = true) (b : Addr) (j off w : Int32) (val : Int64) (f : Int32) (k_b : ClassId) (vs : List Value) (h0 : Heap) (n0 : Nat) (Z0 : n0 ≤ h0.size) (A_b : Arv Z h0 b k_b .byte 12 vs (.int 0)) (hj : ¬ j < 0 ∧ j < 12) (hv : vs.getD j.toNatClampNeg (.int 0) = .int (expB val off w f j)) :
    Met l Z (⟨"com/example/medis/medis/store/PagesPutUnsignedPinLaw", "at", "([BIIIJB)Z"⟩ : MethodName) method_3_code 9 (some .boolean) { frames := 0, cells := 0, slots := 0, locals := 0 } [] #[(.ref b), (.int j), (.int off), (.int w), (.long val), (.int f)] h0 n0 (fun v h => v = some (.int 1) ∧ h = h0) := by
  refine Met.mk (tabs := tables_1) (a0 := a0) (ls0 := #[.val (.ref b), .val (.int j), .val (.int off), .val (.int w), .val (.long val), .second, .val (.int f), .unset, .unset]) (plainFor_of_name pn_com_example_medis_medis_store_PagesPutUnsignedPinLaw) hw Z0 (fun m => by first | (simp [entryFrame, mkF, argsToLocals, Value.category]; done) | rfl) ?_
  intro p e s m below meth c T C X
  refine s_iloadN 1 C X d2_0 rfl ?_
  refine s_iloadN 2 C X d2_1 rfl ?_
  refine s_icmp_lt 12 5 C X d2_2 (fun c2 => ?_) (fun c2 => ?_)
  · have t_c2 : (j).toInt < (off).toInt := Int32.lt_iff_toInt_lt.mp c2
    refine s_iload 14 C X d2_12 rfl ?_
    refine s_istore 16 C X (l' := #[.val (.ref b), .val (.int j), .val (.int off), .val (.int w), .val (.long val), .second, .val (.int f), .val (.int f), .unset]) d2_14 rfl ?_
    refine s_goto 44 C X d2_16 ?_
    refine s_aloadN 45 C X d2_44 rfl rfl ?_
    refine s_iloadN 46 C X d2_45 rfl ?_
    refine s_baload 47 C X d2_46 A_b hj (v := (.int (expB val off w f j))) hv ?_
    refine s_iload 49 C X d2_47 rfl ?_
    have hz : (expB val off w f j) = f := by simp [expB, byteX, c2]
    refine s_icmp_ne 56 52 C X d2_49 (fun c => absurd hz c) (fun c49 => ?_)
    have t_c49 : ((expB val off w f j)).toInt = (f).toInt := congrArg Int32.toInt c49
    refine s_iconst 53 C X d2_52 kc_iconst_1 ?_
    refine s_goto 57 C X d2_53 ?_
    refine s_nreturn C X d2_57 rfl (by simp) rfl ?_
    exact ⟨rfl, rfl⟩
  have t_c2 : ¬ ((j).toInt < (off).toInt) := fun q => c2 (Int32.lt_iff_toInt_lt.mpr q)
  refine s_iloadN 6 C X d2_5 rfl ?_
  refine s_iloadN 7 C X d2_6 rfl ?_
  refine s_iloadN 8 C X d2_7 rfl ?_
  refine s_iadd 9 C X d2_8 ?_
  refine s_icmp_lt 19 12 C X d2_9 (fun c9 => ?_) (fun c9 => ?_)
  · have t_c9 : (j).toInt < ((off + w)).toInt := Int32.lt_iff_toInt_lt.mp c9
    refine s_bipush 21 C X d2_19 kc_bipush_8 ?_
    refine s_iloadN 22 C X d2_21 rfl ?_
    refine s_isub 23 C X d2_22 ?_
    refine s_iloadN 24 C X d2_23 rfl ?_
    refine s_iloadN 25 C X d2_24 rfl ?_
    refine s_isub 26 C X d2_25 ?_
    refine s_iadd 27 C X d2_26 ?_
    refine s_istore 29 C X (l' := #[.val (.ref b), .val (.int j), .val (.int off), .val (.int w), .val (.long val), .second, .val (.int f), .unset, .val (.int (((8 : Int32) - w) + (j - off)))]) d2_27 rfl ?_
    refine s_lload 31 C X d2_29 rfl ?_
    refine s_bipush 33 C X d2_31 kc_bipush_8 ?_
    refine s_bipush 35 C X d2_33 kc_bipush_7 ?_
    refine s_iload 37 C X d2_35 rfl ?_
    refine s_isub 38 C X d2_37 ?_
    refine s_imul 39 C X d2_38 ?_
    refine s_lushr 40 C X d2_39 ?_
    refine s_l2i 41 C X d2_40 ?_
    refine s_i2b 42 C X d2_41 ?_
    refine s_istore 44 C X (l' := #[.val (.ref b), .val (.int j), .val (.int off), .val (.int w), .val (.long val), .second, .val (.int f), .val (.int (((XT.ushrL val ((8 : Int32) * ((7 : Int32) - (((8 : Int32) - w) + (j - off)))))).toInt32).toInt8.toInt32), .val (.int (((8 : Int32) - w) + (j - off)))]) d2_42 rfl ?_
    refine s_aloadN 45 C X d2_44 rfl rfl ?_
    refine s_iloadN 46 C X d2_45 rfl ?_
    refine s_baload 47 C X d2_46 A_b hj (v := (.int (expB val off w f j))) hv ?_
    refine s_iload 49 C X d2_47 rfl ?_
    have hz : (expB val off w f j) = (((XT.ushrL val ((8 : Int32) * ((7 : Int32) - (((8 : Int32) - w) + (j - off)))))).toInt32).toInt8.toInt32 := by simp [expB, byteX, c2, c9]
    refine s_icmp_ne 56 52 C X d2_49 (fun c => absurd hz c) (fun c49 => ?_)
    have t_c49 : ((expB val off w f j)).toInt = ((((XT.ushrL val ((8 : Int32) * ((7 : Int32) - (((8 : Int32) - w) + (j - off)))))).toInt32).toInt8.toInt32).toInt := congrArg Int32.toInt c49
    refine s_iconst 53 C X d2_52 kc_iconst_1 ?_
    refine s_goto 57 C X d2_53 ?_
    refine s_nreturn C X d2_57 rfl (by simp) rfl ?_
    exact ⟨rfl, rfl⟩
  have t_c9 : ¬ ((j).toInt < ((off + w)).toInt) := fun q => c9 (Int32.lt_iff_toInt_lt.mpr q)
  refine s_iload 14 C X d2_12 rfl ?_
  refine s_istore 16 C X (l' := #[.val (.ref b), .val (.int j), .val (.int off), .val (.int w), .val (.long val), .second, .val (.int f), .val (.int f), .unset]) d2_14 rfl ?_
  refine s_goto 44 C X d2_16 ?_
  refine s_aloadN 45 C X d2_44 rfl rfl ?_
  refine s_iloadN 46 C X d2_45 rfl ?_
  refine s_baload 47 C X d2_46 A_b hj (v := (.int (expB val off w f j))) hv ?_
  refine s_iload 49 C X d2_47 rfl ?_
  have hz : (expB val off w f j) = f := by simp [expB, byteX, c2, c9]
  refine s_icmp_ne 56 52 C X d2_49 (fun c => absurd hz c) (fun c49 => ?_)
  have t_c49 : ((expB val off w f j)).toInt = (f).toInt := congrArg Int32.toInt c49
  refine s_iconst 53 C X d2_52 kc_iconst_1 ?_
  refine s_goto 57 C X d2_53 ?_
  refine s_nreturn C X d2_57 rfl (by simp) rfl ?_
  exact ⟨rfl, rfl⟩
set_option maxRecDepth 65536 in
set_option maxHeartbeats 40000000 in
theorem rm_put (l : Launch) (Z : State) (a0 : Array Value) (hw : ∀ d ∈ tables_1, d.before a0 Z = true) (b : Addr) (off w : Int32) (val : Int64) (f : Int32) (k_b : ClassId) (vs0 : List Value) (h0 : Heap) (n0 : Nat) (Z0 : n0 ≤ h0.size) (A_b : Arv Z h0 b k_b .byte 12 vs0 (.int 0)) (g_b : n0 ≤ b) (ho : 0 ≤ off.toInt ∧ off.toInt ≤ 3) (hw8 : 0 ≤ w.toInt ∧ w.toInt ≤ 8) (hl0 : vs0.length = 12) (H0 : ∀ j : Nat, j < 12 → vs0.getD j (.int 0) = .int f) :
    Met l Z (⟨"com/example/medis/medis/store/Pages", "putUnsigned", "([BIJI)V"⟩ : MethodName) prog_150_method_4_code 6 none { frames := 0, cells := 0, slots := 0, locals := 0 } [] #[(.ref b), (.int off), (.long val), (.int w)] h0 n0 (fun v h => v = none ∧ ∃ vs, Arv Z h b k_b .byte 12 vs (.int 0) ∧ ∀ j : Nat, j < 12 → vs.getD j (.int 0) = .int (expB val off w f (Int32.ofNat j))) := by
  refine Met.mk (tabs := tables_1) (a0 := a0) (ls0 := #[.val (.ref b), .val (.int off), .val (.long val), .second, .val (.int w), .unset]) (plainFor_of_name pn_com_example_medis_medis_store_Pages) hw Z0 (fun m => by first | (simp [entryFrame, mkF, argsToLocals, Value.category]; done) | rfl) ?_
  intro p e s m below meth c T C X
  refine s_iload 2 C X d1_0 rfl ?_
  refine s_iconst 3 C X d1_2 kc_iconst_1 ?_
  refine s_isub 4 C X d1_3 ?_
  refine s_istore 6 C X (l' := #[.val (.ref b), .val (.int off), .val (.long val), .second, .val (.int w), .val (.int (w - (1 : Int32)))]) d1_4 rfl ?_
  have loop : ∀ (k : Nat) (i : Int32) (T : State) (h : Heap) (vs : List Value), i.toInt = (k : Int) - 1 → (k : Int) ≤ w.toInt → vs.length = 12 → (∀ j : Nat, j < 12 → vs.getD j (.int 0) = .int (midB val off w f k j)) → Arv Z h b k_b .byte 12 vs (.int 0) → St p l e ({ frames := 0, cells := 0, slots := 0, locals := 0 } : Room) s m #[(.ref b), (.int off), (.long val), (.int w)] below meth c n0 T h 0 0 → Run p e below n0 (fun (v : Option Value) (h : Heap) => v = none ∧ ∃ vs, Arv Z h b k_b .byte 12 vs (.int 0) ∧ ∀ j : Nat, j < 12 → vs.getD j (.int 0) = .int (expB val off w f (Int32.ofNat j))) (fun o t L => FrameEnd s o t L ({ frames := 0, cells := 0, slots := 0, locals := 0 } : Room).cells ({ frames := 0, cells := 0, slots := 0, locals := 0 } : Room).slots) m T 6 #[.val (.ref b), .val (.int off), .val (.long val), .second, .val (.int w), .val (.int i)] [] := by
    intro k
    induction k with
    | zero =>
      intro i T h vs hi hk hl H A_b X
      refine s_iload 8 C X d1_6 rfl ?_
      refine s_if_lt 37 11 C X d1_8 (fun c8 => ?_) (fun c => absurd (Int32.lt_iff_toInt_lt.mpr (by show i.toInt < 0; omega)) c)
      have t_c8 : (i).toInt < (0 : Int) := Int32.lt_iff_toInt_lt.mp c8
      refine s_return C X d1_37 rfl ?_
      exact ⟨rfl, _, A_b, fun j hj => (H j hj).trans (congrArg Value.int (own_fin ho hw8 j hj))⟩
    | succ k ih =>
      intro i T h vs hi hk hl H A_b X
      have hi : i.toInt = k := by omega
      have hk : (k : Int) + 1 ≤ w.toInt := by omega
      refine s_iload 8 C X d1_6 rfl ?_
      refine s_if_lt 37 11 C X d1_8 (fun c => absurd (Int32.lt_iff_toInt_lt.mp c) (by show ¬ i.toInt < 0; omega)) (fun c8 => ?_)
      have t_c8 : ¬ ((i).toInt < (0 : Int)) := fun q => c8 (Int32.lt_iff_toInt_lt.mpr q)
      refine s_aloadN 12 C X d1_11 rfl rfl ?_
      refine s_iloadN 13 C X d1_12 rfl ?_
      refine s_iload 15 C X d1_13 rfl ?_
      refine s_iadd 16 C X d1_15 ?_
      refine s_iconst 17 C X d1_16 kc_iconst_1 ?_
      refine s_isub 18 C X d1_17 ?_
      refine s_iload 20 C X d1_18 rfl ?_
      refine s_isub 21 C X d1_20 ?_
      refine s_lloadN 22 C X d1_21 rfl ?_
      refine s_bipush 24 C X d1_22 kc_bipush_8 ?_
      refine s_iload 26 C X d1_24 rfl ?_
      refine s_imul 27 C X d1_26 ?_
      refine s_lushr 28 C X d1_27 ?_
      refine s_l2i 29 C X d1_28 ?_
      refine s_i2b 30 C X d1_29 ?_
      refine s_bastore 31 ((((off + w) - (1 : Int32)) - i)).toNatClampNeg C X d1_30 A_b g_b (own_in ho hw8 hi hk) rfl (own_len ho hw8 hi hk hl) (fun T _ X W A_b => ?_)
      refine s_iinc 34 C X (l' := #[.val (.ref b), .val (.int off), .val (.long val), .second, .val (.int w), .val (.int (i + (-1 : Int32)))]) d1_31 kc_iconst_m1 rfl rfl ?_
      refine s_goto 6 C X d1_34 ?_
      exact ih _ T _ _ (own_dec hi) (by omega) (by rw [List.length_set]; exact hl) (own_turn ho hw8 hi hk hl H) A_b X
  exact loop w.toInt.toNat _ T _ vs0 (own_first hw8) (by omega) hl0 (fun j hj => (H0 j hj).trans (congrArg Value.int (own_zero (by omega) j).symm)) A_b X
set_option maxRecDepth 65536 in
set_option maxHeartbeats 40000000 in
theorem rm0 (l : Launch) (Z : State) (a0 : Array Value) (hw : ∀ d ∈ tables_1, d.before a0 Z = true) (x0 : Int32) (x1 : Int64) (x2 x3 : Int32) (h0 : Heap) (n0 : Nat) (Z0 : n0 ≤ h0.size)  :
    Met l Z x code maxLocals ret room_1 tables_1 #[(.int x0), (.long x1), (.int x2), (.int x3)] h0 n0 (fun v h => v = some (.int 1)) := by
  refine Met.mk (tabs := tables_1) (a0 := a0) (ls0 := #[.val (.int x0), .val (.long x1), .second, .val (.int x2), .val (.int x3), .unset, .unset, .unset, .unset]) (plainFor_of_name pn_com_example_medis_medis_store_PagesPutUnsignedPinLaw) hw Z0 (fun m => by first | (simp [entryFrame, mkF, argsToLocals, Value.category, maxLocals]; done) | rfl) ?_
  intro p e s m below meth c T C X
  refine s_iloadN 1 C X at_0 rfl ?_
  refine s_iconst 2 C X at_1 kc_iconst_3 ?_
  refine s_iand 3 C X at_2 ?_
  obtain ⟨off, e_off⟩ : ∃ zz_ : Int32, zz_ = (x0 &&& (3 : Int32)) := ⟨_, rfl⟩
  refine Run.cast (st' := [(.int off)]) (by subst e_off; rfl) ?_
  have ho : 0 ≤ off.toInt ∧ off.toInt ≤ 3 := e_off ▸ own_off x0
  refine s_istore 5 C X (l' := #[.val (.int x0), .val (.long x1), .second, .val (.int x2), .val (.int x3), .val (.int off), .unset, .unset, .unset]) at_3 rfl ?_
  refine s_iloadN 6 C X at_5 rfl ?_
  refine s_bipush 8 C X at_6 kc_bipush_15 ?_
  refine s_iand 9 C X at_8 ?_
  refine s_bipush 11 C X at_9 kc_bipush_9 ?_
  refine s_irem 12 C X at_11 (by decide) ?_
  obtain ⟨w, e_w⟩ : ∃ zz_ : Int32, zz_ = ((x2 &&& (15 : Int32)) % (9 : Int32)) := ⟨_, rfl⟩
  refine Run.cast (st' := [(.int w)]) (by subst e_w; rfl) ?_
  have hw8 : 0 ≤ w.toInt ∧ w.toInt ≤ 8 := e_w ▸ own_w x2
  refine s_istore 14 C X (l' := #[.val (.int x0), .val (.long x1), .second, .val (.int x2), .val (.int x3), .val (.int off), .val (.int w), .unset, .unset]) at_12 rfl ?_
  refine s_iload 16 C X at_14 rfl ?_
  refine s_i2b 17 C X at_16 ?_
  obtain ⟨f, e_f⟩ : ∃ zz_ : Int32, zz_ = (x3).toInt8.toInt32 := ⟨_, rfl⟩
  refine Run.cast (st' := [(.int f)]) (by subst e_f; rfl) ?_
  have hf : nar .byte f = f := e_f ▸ own_nar x3
  refine s_istore 19 C X (l' := #[.val (.int x0), .val (.long x1), .second, .val (.int x2), .val (.int x3), .val (.int off), .val (.int w), .val (.int f), .unset]) at_17 rfl ?_
  refine s_bipush 21 C X at_19 kc_bipush_12 ?_
  refine s_newarray 23 12 C X at_21 (List.mem_of_getElem? (i := 0) rfl) (by decide) (by decide) (fun T _ o1 k_o1 hb_o1 X E A_o1 g_o1 => ?_)
  have A_o1 : Arv Z _ o1 k_o1 .byte (12 : Int32) [(.int (0 : Int32)), (.int (0 : Int32)), (.int (0 : Int32)), (.int (0 : Int32)), (.int (0 : Int32)), (.int (0 : Int32)), (.int (0 : Int32)), (.int (0 : Int32)), (.int (0 : Int32)), (.int (0 : Int32)), (.int (0 : Int32)), (.int (0 : Int32))] (.int (0 : Int32)) := A_o1.pad (pad_rep [] _ 12)
  refine s_astore 25 C X (l' := #[.val (.int x0), .val (.long x1), .second, .val (.int x2), .val (.int x3), .val (.int off), .val (.int w), .val (.int f), .val (.ref o1)]) at_23 rfl rfl ?_
  refine s_aload 27 C X at_25 rfl rfl ?_
  refine s_iconst 28 C X at_27 kc_iconst_0 ?_
  refine s_iload 30 C X at_28 rfl ?_
  refine s_bastore 31 0 C X at_30 A_o1 g_o1 ⟨by decide, by decide⟩ rfl (Nat.le_of_ble_eq_true rfl) (fun T _ X W A_o1 => ?_)
  have A_o1 : Arv Z _ o1 k_o1 .byte (12 : Int32) [(.int (nar .byte f)), (.int (0 : Int32)), (.int (0 : Int32)), (.int (0 : Int32)), (.int (0 : Int32)), (.int (0 : Int32)), (.int (0 : Int32)), (.int (0 : Int32)), (.int (0 : Int32)), (.int (0 : Int32)), (.int (0 : Int32)), (.int (0 : Int32))] (.int (0 : Int32)) := A_o1
  refine s_aload 33 C X at_31 rfl rfl ?_
  refine s_iconst 34 C X at_33 kc_iconst_1 ?_
  refine s_iload 36 C X at_34 rfl ?_
  refine s_bastore 37 1 C X at_36 A_o1 g_o1 ⟨by decide, by decide⟩ rfl (Nat.le_of_ble_eq_true rfl) (fun T _ X W A_o1 => ?_)
  have A_o1 : Arv Z _ o1 k_o1 .byte (12 : Int32) [(.int (nar .byte f)), (.int (nar .byte f)), (.int (0 : Int32)), (.int (0 : Int32)), (.int (0 : Int32)), (.int (0 : Int32)), (.int (0 : Int32)), (.int (0 : Int32)), (.int (0 : Int32)), (.int (0 : Int32)), (.int (0 : Int32)), (.int (0 : Int32))] (.int (0 : Int32)) := A_o1
  refine s_aload 39 C X at_37 rfl rfl ?_
  refine s_iconst 40 C X at_39 kc_iconst_2 ?_
  refine s_iload 42 C X at_40 rfl ?_
  refine s_bastore 43 2 C X at_42 A_o1 g_o1 ⟨by decide, by decide⟩ rfl (Nat.le_of_ble_eq_true rfl) (fun T _ X W A_o1 => ?_)
  have A_o1 : Arv Z _ o1 k_o1 .byte (12 : Int32) [(.int (nar .byte f)), (.int (nar .byte f)), (.int (nar .byte f)), (.int (0 : Int32)), (.int (0 : Int32)), (.int (0 : Int32)), (.int (0 : Int32)), (.int (0 : Int32)), (.int (0 : Int32)), (.int (0 : Int32)), (.int (0 : Int32)), (.int (0 : Int32))] (.int (0 : Int32)) := A_o1
  refine s_aload 45 C X at_43 rfl rfl ?_
  refine s_iconst 46 C X at_45 kc_iconst_3 ?_
  refine s_iload 48 C X at_46 rfl ?_
  refine s_bastore 49 3 C X at_48 A_o1 g_o1 ⟨by decide, by decide⟩ rfl (Nat.le_of_ble_eq_true rfl) (fun T _ X W A_o1 => ?_)
  have A_o1 : Arv Z _ o1 k_o1 .byte (12 : Int32) [(.int (nar .byte f)), (.int (nar .byte f)), (.int (nar .byte f)), (.int (nar .byte f)), (.int (0 : Int32)), (.int (0 : Int32)), (.int (0 : Int32)), (.int (0 : Int32)), (.int (0 : Int32)), (.int (0 : Int32)), (.int (0 : Int32)), (.int (0 : Int32))] (.int (0 : Int32)) := A_o1
  refine s_aload 51 C X at_49 rfl rfl ?_
  refine s_iconst 52 C X at_51 kc_iconst_4 ?_
  refine s_iload 54 C X at_52 rfl ?_
  refine s_bastore 55 4 C X at_54 A_o1 g_o1 ⟨by decide, by decide⟩ rfl (Nat.le_of_ble_eq_true rfl) (fun T _ X W A_o1 => ?_)
  have A_o1 : Arv Z _ o1 k_o1 .byte (12 : Int32) [(.int (nar .byte f)), (.int (nar .byte f)), (.int (nar .byte f)), (.int (nar .byte f)), (.int (nar .byte f)), (.int (0 : Int32)), (.int (0 : Int32)), (.int (0 : Int32)), (.int (0 : Int32)), (.int (0 : Int32)), (.int (0 : Int32)), (.int (0 : Int32))] (.int (0 : Int32)) := A_o1
  refine s_aload 57 C X at_55 rfl rfl ?_
  refine s_iconst 58 C X at_57 kc_iconst_5 ?_
  refine s_iload 60 C X at_58 rfl ?_
  refine s_bastore 61 5 C X at_60 A_o1 g_o1 ⟨by decide, by decide⟩ rfl (Nat.le_of_ble_eq_true rfl) (fun T _ X W A_o1 => ?_)
  have A_o1 : Arv Z _ o1 k_o1 .byte (12 : Int32) [(.int (nar .byte f)), (.int (nar .byte f)), (.int (nar .byte f)), (.int (nar .byte f)), (.int (nar .byte f)), (.int (nar .byte f)), (.int (0 : Int32)), (.int (0 : Int32)), (.int (0 : Int32)), (.int (0 : Int32)), (.int (0 : Int32)), (.int (0 : Int32))] (.int (0 : Int32)) := A_o1
  refine s_aload 63 C X at_61 rfl rfl ?_
  refine s_bipush 65 C X at_63 kc_bipush_6 ?_
  refine s_iload 67 C X at_65 rfl ?_
  refine s_bastore 68 6 C X at_67 A_o1 g_o1 ⟨by decide, by decide⟩ rfl (Nat.le_of_ble_eq_true rfl) (fun T _ X W A_o1 => ?_)
  have A_o1 : Arv Z _ o1 k_o1 .byte (12 : Int32) [(.int (nar .byte f)), (.int (nar .byte f)), (.int (nar .byte f)), (.int (nar .byte f)), (.int (nar .byte f)), (.int (nar .byte f)), (.int (nar .byte f)), (.int (0 : Int32)), (.int (0 : Int32)), (.int (0 : Int32)), (.int (0 : Int32)), (.int (0 : Int32))] (.int (0 : Int32)) := A_o1
  refine s_aload 70 C X at_68 rfl rfl ?_
  refine s_bipush 72 C X at_70 kc_bipush_7 ?_
  refine s_iload 74 C X at_72 rfl ?_
  refine s_bastore 75 7 C X at_74 A_o1 g_o1 ⟨by decide, by decide⟩ rfl (Nat.le_of_ble_eq_true rfl) (fun T _ X W A_o1 => ?_)
  have A_o1 : Arv Z _ o1 k_o1 .byte (12 : Int32) [(.int (nar .byte f)), (.int (nar .byte f)), (.int (nar .byte f)), (.int (nar .byte f)), (.int (nar .byte f)), (.int (nar .byte f)), (.int (nar .byte f)), (.int (nar .byte f)), (.int (0 : Int32)), (.int (0 : Int32)), (.int (0 : Int32)), (.int (0 : Int32))] (.int (0 : Int32)) := A_o1
  refine s_aload 77 C X at_75 rfl rfl ?_
  refine s_bipush 79 C X at_77 kc_bipush_8 ?_
  refine s_iload 81 C X at_79 rfl ?_
  refine s_bastore 82 8 C X at_81 A_o1 g_o1 ⟨by decide, by decide⟩ rfl (Nat.le_of_ble_eq_true rfl) (fun T _ X W A_o1 => ?_)
  have A_o1 : Arv Z _ o1 k_o1 .byte (12 : Int32) [(.int (nar .byte f)), (.int (nar .byte f)), (.int (nar .byte f)), (.int (nar .byte f)), (.int (nar .byte f)), (.int (nar .byte f)), (.int (nar .byte f)), (.int (nar .byte f)), (.int (nar .byte f)), (.int (0 : Int32)), (.int (0 : Int32)), (.int (0 : Int32))] (.int (0 : Int32)) := A_o1
  refine s_aload 84 C X at_82 rfl rfl ?_
  refine s_bipush 86 C X at_84 kc_bipush_9 ?_
  refine s_iload 88 C X at_86 rfl ?_
  refine s_bastore 89 9 C X at_88 A_o1 g_o1 ⟨by decide, by decide⟩ rfl (Nat.le_of_ble_eq_true rfl) (fun T _ X W A_o1 => ?_)
  have A_o1 : Arv Z _ o1 k_o1 .byte (12 : Int32) [(.int (nar .byte f)), (.int (nar .byte f)), (.int (nar .byte f)), (.int (nar .byte f)), (.int (nar .byte f)), (.int (nar .byte f)), (.int (nar .byte f)), (.int (nar .byte f)), (.int (nar .byte f)), (.int (nar .byte f)), (.int (0 : Int32)), (.int (0 : Int32))] (.int (0 : Int32)) := A_o1
  refine s_aload 91 C X at_89 rfl rfl ?_
  refine s_bipush 93 C X at_91 kc_bipush_10 ?_
  refine s_iload 95 C X at_93 rfl ?_
  refine s_bastore 96 10 C X at_95 A_o1 g_o1 ⟨by decide, by decide⟩ rfl (Nat.le_of_ble_eq_true rfl) (fun T _ X W A_o1 => ?_)
  have A_o1 : Arv Z _ o1 k_o1 .byte (12 : Int32) [(.int (nar .byte f)), (.int (nar .byte f)), (.int (nar .byte f)), (.int (nar .byte f)), (.int (nar .byte f)), (.int (nar .byte f)), (.int (nar .byte f)), (.int (nar .byte f)), (.int (nar .byte f)), (.int (nar .byte f)), (.int (nar .byte f)), (.int (0 : Int32))] (.int (0 : Int32)) := A_o1
  refine s_aload 98 C X at_96 rfl rfl ?_
  refine s_bipush 100 C X at_98 kc_bipush_11 ?_
  refine s_iload 102 C X at_100 rfl ?_
  refine s_bastore 103 11 C X at_102 A_o1 g_o1 ⟨by decide, by decide⟩ rfl (Nat.le_of_ble_eq_true rfl) (fun T _ X W A_o1 => ?_)
  have A_o1 : Arv Z _ o1 k_o1 .byte (12 : Int32) [(.int (nar .byte f)), (.int (nar .byte f)), (.int (nar .byte f)), (.int (nar .byte f)), (.int (nar .byte f)), (.int (nar .byte f)), (.int (nar .byte f)), (.int (nar .byte f)), (.int (nar .byte f)), (.int (nar .byte f)), (.int (nar .byte f)), (.int (nar .byte f))] (.int (0 : Int32)) := A_o1
  refine s_aload 105 C X at_103 rfl rfl ?_
  refine s_iload 107 C X at_105 rfl ?_
  refine s_lloadN 108 C X at_107 rfl ?_
  refine s_iload 110 C X at_108 rfl ?_
  refine s_callS 113 [(.ref o1), (.int off), (.long x1), (.int w)] [] 0 C X at_110 (List.mem_of_getElem? (i := 1) rfl) (List.mem_of_getElem? (i := 2) rfl) (List.mem_of_getElem? (i := 3) rfl) (List.mem_of_getElem? (i := 4) rfl) (rm_put l Z a0 hw o1 off w x1 f k_o1 _ _ n0 X.sz A_o1 g_o1 ho hw8 rfl (own_rep (.int (nar .byte f)) (congrArg Value.int hf))) (lenOf pd___BIJI_V rfl) rfl rfl rfl (fun T v h1 X q => ?_)
  obtain ⟨rfl, vs, A_o1, H⟩ := q
  refine Run.cast (st' := []) rfl ?_
  refine s_aload 115 C X at_113 rfl rfl ?_
  refine s_iconst 116 C X at_115 kc_iconst_0 ?_
  refine s_iload 118 C X at_116 rfl ?_
  refine s_iload 120 C X at_118 rfl ?_
  refine s_lloadN 121 C X at_120 rfl ?_
  refine s_iload 123 C X at_121 rfl ?_
  refine s_callS 126 [(.ref o1), (.int (0 : Int32)), (.int off), (.int w), (.long x1), (.int f)] [] 0 C X at_123 (List.mem_of_getElem? (i := 5) rfl) (List.mem_of_getElem? (i := 6) rfl) (List.mem_of_getElem? (i := 7) rfl) (List.mem_of_getElem? (i := 8) rfl) (rm_at l Z a0 hw o1 (0 : Int32) off w x1 f k_o1 vs _ n0 X.sz A_o1 ⟨by decide, by decide⟩ (H 0 (by decide))) (lenOf pd___BIIIJB_Z rfl) rfl rfl rfl (fun T v h2 X q => ?_)
  obtain ⟨rfl, hE⟩ := q
  rw [hE] at X
  refine Run.cast (st' := [(.int (1 : Int32))]) rfl ?_
  refine s_if_eq 315 129 C X at_126 (fun c => absurd c (by decide)) (fun _ => ?_)
  refine s_aload 131 C X at_129 rfl rfl ?_
  refine s_iconst 132 C X at_131 kc_iconst_1 ?_
  refine s_iload 134 C X at_132 rfl ?_
  refine s_iload 136 C X at_134 rfl ?_
  refine s_lloadN 137 C X at_136 rfl ?_
  refine s_iload 139 C X at_137 rfl ?_
  refine s_callS 142 [(.ref o1), (.int (1 : Int32)), (.int off), (.int w), (.long x1), (.int f)] [] 0 C X at_139 (List.mem_of_getElem? (i := 5) rfl) (List.mem_of_getElem? (i := 6) rfl) (List.mem_of_getElem? (i := 7) rfl) (List.mem_of_getElem? (i := 8) rfl) (rm_at l Z a0 hw o1 (1 : Int32) off w x1 f k_o1 vs _ n0 X.sz A_o1 ⟨by decide, by decide⟩ (H 1 (by decide))) (lenOf pd___BIIIJB_Z rfl) rfl rfl rfl (fun T v h3 X q => ?_)
  obtain ⟨rfl, hE⟩ := q
  rw [hE] at X
  refine Run.cast (st' := [(.int (1 : Int32))]) rfl ?_
  refine s_if_eq 315 145 C X at_142 (fun c => absurd c (by decide)) (fun _ => ?_)
  refine s_aload 147 C X at_145 rfl rfl ?_
  refine s_iconst 148 C X at_147 kc_iconst_2 ?_
  refine s_iload 150 C X at_148 rfl ?_
  refine s_iload 152 C X at_150 rfl ?_
  refine s_lloadN 153 C X at_152 rfl ?_
  refine s_iload 155 C X at_153 rfl ?_
  refine s_callS 158 [(.ref o1), (.int (2 : Int32)), (.int off), (.int w), (.long x1), (.int f)] [] 0 C X at_155 (List.mem_of_getElem? (i := 5) rfl) (List.mem_of_getElem? (i := 6) rfl) (List.mem_of_getElem? (i := 7) rfl) (List.mem_of_getElem? (i := 8) rfl) (rm_at l Z a0 hw o1 (2 : Int32) off w x1 f k_o1 vs _ n0 X.sz A_o1 ⟨by decide, by decide⟩ (H 2 (by decide))) (lenOf pd___BIIIJB_Z rfl) rfl rfl rfl (fun T v h4 X q => ?_)
  obtain ⟨rfl, hE⟩ := q
  rw [hE] at X
  refine Run.cast (st' := [(.int (1 : Int32))]) rfl ?_
  refine s_if_eq 315 161 C X at_158 (fun c => absurd c (by decide)) (fun _ => ?_)
  refine s_aload 163 C X at_161 rfl rfl ?_
  refine s_iconst 164 C X at_163 kc_iconst_3 ?_
  refine s_iload 166 C X at_164 rfl ?_
  refine s_iload 168 C X at_166 rfl ?_
  refine s_lloadN 169 C X at_168 rfl ?_
  refine s_iload 171 C X at_169 rfl ?_
  refine s_callS 174 [(.ref o1), (.int (3 : Int32)), (.int off), (.int w), (.long x1), (.int f)] [] 0 C X at_171 (List.mem_of_getElem? (i := 5) rfl) (List.mem_of_getElem? (i := 6) rfl) (List.mem_of_getElem? (i := 7) rfl) (List.mem_of_getElem? (i := 8) rfl) (rm_at l Z a0 hw o1 (3 : Int32) off w x1 f k_o1 vs _ n0 X.sz A_o1 ⟨by decide, by decide⟩ (H 3 (by decide))) (lenOf pd___BIIIJB_Z rfl) rfl rfl rfl (fun T v h5 X q => ?_)
  obtain ⟨rfl, hE⟩ := q
  rw [hE] at X
  refine Run.cast (st' := [(.int (1 : Int32))]) rfl ?_
  refine s_if_eq 315 177 C X at_174 (fun c => absurd c (by decide)) (fun _ => ?_)
  refine s_aload 179 C X at_177 rfl rfl ?_
  refine s_iconst 180 C X at_179 kc_iconst_4 ?_
  refine s_iload 182 C X at_180 rfl ?_
  refine s_iload 184 C X at_182 rfl ?_
  refine s_lloadN 185 C X at_184 rfl ?_
  refine s_iload 187 C X at_185 rfl ?_
  refine s_callS 190 [(.ref o1), (.int (4 : Int32)), (.int off), (.int w), (.long x1), (.int f)] [] 0 C X at_187 (List.mem_of_getElem? (i := 5) rfl) (List.mem_of_getElem? (i := 6) rfl) (List.mem_of_getElem? (i := 7) rfl) (List.mem_of_getElem? (i := 8) rfl) (rm_at l Z a0 hw o1 (4 : Int32) off w x1 f k_o1 vs _ n0 X.sz A_o1 ⟨by decide, by decide⟩ (H 4 (by decide))) (lenOf pd___BIIIJB_Z rfl) rfl rfl rfl (fun T v h6 X q => ?_)
  obtain ⟨rfl, hE⟩ := q
  rw [hE] at X
  refine Run.cast (st' := [(.int (1 : Int32))]) rfl ?_
  refine s_if_eq 315 193 C X at_190 (fun c => absurd c (by decide)) (fun _ => ?_)
  refine s_aload 195 C X at_193 rfl rfl ?_
  refine s_iconst 196 C X at_195 kc_iconst_5 ?_
  refine s_iload 198 C X at_196 rfl ?_
  refine s_iload 200 C X at_198 rfl ?_
  refine s_lloadN 201 C X at_200 rfl ?_
  refine s_iload 203 C X at_201 rfl ?_
  refine s_callS 206 [(.ref o1), (.int (5 : Int32)), (.int off), (.int w), (.long x1), (.int f)] [] 0 C X at_203 (List.mem_of_getElem? (i := 5) rfl) (List.mem_of_getElem? (i := 6) rfl) (List.mem_of_getElem? (i := 7) rfl) (List.mem_of_getElem? (i := 8) rfl) (rm_at l Z a0 hw o1 (5 : Int32) off w x1 f k_o1 vs _ n0 X.sz A_o1 ⟨by decide, by decide⟩ (H 5 (by decide))) (lenOf pd___BIIIJB_Z rfl) rfl rfl rfl (fun T v h7 X q => ?_)
  obtain ⟨rfl, hE⟩ := q
  rw [hE] at X
  refine Run.cast (st' := [(.int (1 : Int32))]) rfl ?_
  refine s_if_eq 315 209 C X at_206 (fun c => absurd c (by decide)) (fun _ => ?_)
  refine s_aload 211 C X at_209 rfl rfl ?_
  refine s_bipush 213 C X at_211 kc_bipush_6 ?_
  refine s_iload 215 C X at_213 rfl ?_
  refine s_iload 217 C X at_215 rfl ?_
  refine s_lloadN 218 C X at_217 rfl ?_
  refine s_iload 220 C X at_218 rfl ?_
  refine s_callS 223 [(.ref o1), (.int (6 : Int32)), (.int off), (.int w), (.long x1), (.int f)] [] 0 C X at_220 (List.mem_of_getElem? (i := 5) rfl) (List.mem_of_getElem? (i := 6) rfl) (List.mem_of_getElem? (i := 7) rfl) (List.mem_of_getElem? (i := 8) rfl) (rm_at l Z a0 hw o1 (6 : Int32) off w x1 f k_o1 vs _ n0 X.sz A_o1 ⟨by decide, by decide⟩ (H 6 (by decide))) (lenOf pd___BIIIJB_Z rfl) rfl rfl rfl (fun T v h8 X q => ?_)
  obtain ⟨rfl, hE⟩ := q
  rw [hE] at X
  refine Run.cast (st' := [(.int (1 : Int32))]) rfl ?_
  refine s_if_eq 315 226 C X at_223 (fun c => absurd c (by decide)) (fun _ => ?_)
  refine s_aload 228 C X at_226 rfl rfl ?_
  refine s_bipush 230 C X at_228 kc_bipush_7 ?_
  refine s_iload 232 C X at_230 rfl ?_
  refine s_iload 234 C X at_232 rfl ?_
  refine s_lloadN 235 C X at_234 rfl ?_
  refine s_iload 237 C X at_235 rfl ?_
  refine s_callS 240 [(.ref o1), (.int (7 : Int32)), (.int off), (.int w), (.long x1), (.int f)] [] 0 C X at_237 (List.mem_of_getElem? (i := 5) rfl) (List.mem_of_getElem? (i := 6) rfl) (List.mem_of_getElem? (i := 7) rfl) (List.mem_of_getElem? (i := 8) rfl) (rm_at l Z a0 hw o1 (7 : Int32) off w x1 f k_o1 vs _ n0 X.sz A_o1 ⟨by decide, by decide⟩ (H 7 (by decide))) (lenOf pd___BIIIJB_Z rfl) rfl rfl rfl (fun T v h9 X q => ?_)
  obtain ⟨rfl, hE⟩ := q
  rw [hE] at X
  refine Run.cast (st' := [(.int (1 : Int32))]) rfl ?_
  refine s_if_eq 315 243 C X at_240 (fun c => absurd c (by decide)) (fun _ => ?_)
  refine s_aload 245 C X at_243 rfl rfl ?_
  refine s_bipush 247 C X at_245 kc_bipush_8 ?_
  refine s_iload 249 C X at_247 rfl ?_
  refine s_iload 251 C X at_249 rfl ?_
  refine s_lloadN 252 C X at_251 rfl ?_
  refine s_iload 254 C X at_252 rfl ?_
  refine s_callS 257 [(.ref o1), (.int (8 : Int32)), (.int off), (.int w), (.long x1), (.int f)] [] 0 C X at_254 (List.mem_of_getElem? (i := 5) rfl) (List.mem_of_getElem? (i := 6) rfl) (List.mem_of_getElem? (i := 7) rfl) (List.mem_of_getElem? (i := 8) rfl) (rm_at l Z a0 hw o1 (8 : Int32) off w x1 f k_o1 vs _ n0 X.sz A_o1 ⟨by decide, by decide⟩ (H 8 (by decide))) (lenOf pd___BIIIJB_Z rfl) rfl rfl rfl (fun T v h10 X q => ?_)
  obtain ⟨rfl, hE⟩ := q
  rw [hE] at X
  refine Run.cast (st' := [(.int (1 : Int32))]) rfl ?_
  refine s_if_eq 315 260 C X at_257 (fun c => absurd c (by decide)) (fun _ => ?_)
  refine s_aload 262 C X at_260 rfl rfl ?_
  refine s_bipush 264 C X at_262 kc_bipush_9 ?_
  refine s_iload 266 C X at_264 rfl ?_
  refine s_iload 268 C X at_266 rfl ?_
  refine s_lloadN 269 C X at_268 rfl ?_
  refine s_iload 271 C X at_269 rfl ?_
  refine s_callS 274 [(.ref o1), (.int (9 : Int32)), (.int off), (.int w), (.long x1), (.int f)] [] 0 C X at_271 (List.mem_of_getElem? (i := 5) rfl) (List.mem_of_getElem? (i := 6) rfl) (List.mem_of_getElem? (i := 7) rfl) (List.mem_of_getElem? (i := 8) rfl) (rm_at l Z a0 hw o1 (9 : Int32) off w x1 f k_o1 vs _ n0 X.sz A_o1 ⟨by decide, by decide⟩ (H 9 (by decide))) (lenOf pd___BIIIJB_Z rfl) rfl rfl rfl (fun T v h11 X q => ?_)
  obtain ⟨rfl, hE⟩ := q
  rw [hE] at X
  refine Run.cast (st' := [(.int (1 : Int32))]) rfl ?_
  refine s_if_eq 315 277 C X at_274 (fun c => absurd c (by decide)) (fun _ => ?_)
  refine s_aload 279 C X at_277 rfl rfl ?_
  refine s_bipush 281 C X at_279 kc_bipush_10 ?_
  refine s_iload 283 C X at_281 rfl ?_
  refine s_iload 285 C X at_283 rfl ?_
  refine s_lloadN 286 C X at_285 rfl ?_
  refine s_iload 288 C X at_286 rfl ?_
  refine s_callS 291 [(.ref o1), (.int (10 : Int32)), (.int off), (.int w), (.long x1), (.int f)] [] 0 C X at_288 (List.mem_of_getElem? (i := 5) rfl) (List.mem_of_getElem? (i := 6) rfl) (List.mem_of_getElem? (i := 7) rfl) (List.mem_of_getElem? (i := 8) rfl) (rm_at l Z a0 hw o1 (10 : Int32) off w x1 f k_o1 vs _ n0 X.sz A_o1 ⟨by decide, by decide⟩ (H 10 (by decide))) (lenOf pd___BIIIJB_Z rfl) rfl rfl rfl (fun T v h12 X q => ?_)
  obtain ⟨rfl, hE⟩ := q
  rw [hE] at X
  refine Run.cast (st' := [(.int (1 : Int32))]) rfl ?_
  refine s_if_eq 315 294 C X at_291 (fun c => absurd c (by decide)) (fun _ => ?_)
  refine s_aload 296 C X at_294 rfl rfl ?_
  refine s_bipush 298 C X at_296 kc_bipush_11 ?_
  refine s_iload 300 C X at_298 rfl ?_
  refine s_iload 302 C X at_300 rfl ?_
  refine s_lloadN 303 C X at_302 rfl ?_
  refine s_iload 305 C X at_303 rfl ?_
  refine s_callS 308 [(.ref o1), (.int (11 : Int32)), (.int off), (.int w), (.long x1), (.int f)] [] 0 C X at_305 (List.mem_of_getElem? (i := 5) rfl) (List.mem_of_getElem? (i := 6) rfl) (List.mem_of_getElem? (i := 7) rfl) (List.mem_of_getElem? (i := 8) rfl) (rm_at l Z a0 hw o1 (11 : Int32) off w x1 f k_o1 vs _ n0 X.sz A_o1 ⟨by decide, by decide⟩ (H 11 (by decide))) (lenOf pd___BIIIJB_Z rfl) rfl rfl rfl (fun T v h13 X q => ?_)
  obtain ⟨rfl, hE⟩ := q
  rw [hE] at X
  refine Run.cast (st' := [(.int (1 : Int32))]) rfl ?_
  refine s_if_eq 315 311 C X at_308 (fun c => absurd c (by decide)) (fun _ => ?_)
  refine s_iconst 312 C X at_311 kc_iconst_1 ?_
  refine s_goto 316 C X at_312 ?_
  refine s_nreturn C X at_316 rfl (by simp) rfl ?_
  rfl
set_option maxRecDepth 65536 in
set_option maxHeartbeats 40000000 in
theorem comes_1 {Post : Tables → Env → Array Value → State → Outcome → State → Prop} (hpost : ∀ tb e args s v u, (limb_1_1.after args s (.returned v) u = true ∧ limb_1_2.after args s (.returned v) u = true ∧ True) → FrameEnd s (.returned v) u (Jvm.fieldLocs frame_1_writes args s ++ Jvm.arrayLocs frame_1_arrays args s ++ Jvm.staticLocs frame_1_statics s) 16 128 → Post tb e args s (.returned v) u) :
    ArmFor flags0 classFile x code maxLocals ret World_1 tables_1 room_1 Calls_1 rest_1 Pre_1 Post := by
  intro l hfl _ _ p e ha hc hk s m args below hf hA hF happ hP
  obtain ⟨hcalls, hrest, hpre⟩ := hP
  obtain ⟨-, -, -, hnamed, -, -, -, hat⟩ := (Spec.applies_iff hf).mp happ
  obtain ⟨hg, hn⟩ := and_e (Cond.before_iff.mp (show (Jvm.Cond.and given_1 narrow_1).before args s = true from hpre))
  obtain ⟨g0, g1⟩ := and_e hg
  obtain ⟨ga0, gr0⟩ := and_e g1
  obtain ⟨ga1, gr1⟩ := and_e gr0
  obtain ⟨ga2, gr2⟩ := and_e gr1
  obtain ⟨w0, w1, w2, w3, rfl⟩ : ∃ w0 w1 w2 w3 : Value, args = #[w0, w1, w2, w3] := by
    have hs : args.size = 4 := by simpa [Cond.value, given_1] using g0
    obtain ⟨L⟩ := args
    match L, hs with
    | [w0, w1, w2, w3], _ => exact ⟨w0, w1, w2, w3, rfl⟩
  have hw := fun d (hd : d ∈ tables_1) => atoms_spec (ws := Jvm.Cond.code x code maxLocals ret :: tables_1) hat d (List.mem_cons_of_mem _ hd)
  have hfit : Fit s := fun {y c} hc i hi => by
    obtain ⟨ha, rfl⟩ := Array.getElem?_eq_some_iff.mp hc
    have q := List.all_eq_true.mp ((Array.all_eq_true_iff_forall_mem.mp hF) _ (Array.getElem_mem ha)) i (List.mem_range.mpr hi)
    simpa [Array.getElem?_eq_getElem hi] using q
  obtain ⟨i0, e0⟩ := is_v ga0
  obtain rfl : w0 = (.int i0) := Option.some.inj e0
  obtain ⟨i1, e1⟩ := isL_v ga1
  obtain rfl : w1 = (.long i1) := Option.some.inj e1
  obtain ⟨i2, e2⟩ := is_v ga2
  obtain rfl : w2 = (.int i2) := Option.some.inj e2
  obtain ⟨i3, e3⟩ := is_v gr2
  obtain rfl : w3 = (.int i3) := Option.some.inj e3
  obtain ⟨n, o, h1, h2, h3, _, L, rfl, ⟨rfl, N⟩, hq⟩ := rm0 l s _ hw i0 i1 i2 i3  s.heap s.heap.size (Nat.le_refl _)  p e ha hc hk s m _ below hf ((Spec.applies_iff_loose hf).mp happ).1 ⟨rfl, State.Warmed39.refl s, rfl⟩ trivial
  exact ⟨n, _, h1, h2, h3, hpost _ _ _ _ _ _ ⟨Cond.after_iff.mpr rfl, Cond.after_iff.mpr (eq_i res_at (Term.int_eval (1)) rfl), trivial⟩ ⟨hq.1, hq.2.1, (hq.2.2.sift fun y hy => Or.inr (N y hy)).mono (by decide) (by decide)⟩⟩
theorem main_1_1 : Claimed_1_1 := comes_1 fun _ _ _ _ _ _ h hF => ⟨h.1, hF⟩
theorem main_1_2 : Claimed_1_2 := comes_1 fun _ _ _ _ _ _ h hF => ⟨h.2.1, hF⟩
end Jvm.Pilot.@@N@@
namespace Jvm.Pilot.@@N@@
open Jvm Jvm.ClassFile Sem Op Lib Jvm.Free Jvm.Stand Jvm.Pilot.@@N@@.Jvm.D
/-! MADE BY PROGRAM (witnessworld.py) out of the Statement's table words and the real class files: 9 classes; the members and pool entries that the words name. The judged class is class 1, her method 1. -/
namespace start1
open Jvm.ClassFile
def u (s : String) : CpInfo := .utf8 (stringToUtf16 s)
/-- a pool by its gaps: so many unusable entries, then the entry; so many at the end -/
def gap : Nat → List CpInfo → List CpInfo
  | 0, r => r
  | n + 1, r => .unusable :: gap n r
def poolList (es : List (Nat × CpInfo)) (last : Nat) : List CpInfo := es.foldr (fun e r => gap e.1 (e.2 :: r)) (gap last [])
def pool (es : List (Nat × CpInfo)) (last : Nat) : Array CpInfo := ⟨poolList es last⟩
def fileOf (pool : Array CpInfo) (this : Nat) (attrs : Array Attribute := #[]) (ms : Array MethodInfo := #[]) (fl : Nat := 33) (sup : Nat := 0) (ifs : Array Nat := #[]) (fds : Array FieldInfo := #[]) : ClassFile where
  minorVersion := 0
  majorVersion := 65
  constantPool := pool
  accessFlags := fl
  thisClass := this
  superClass := sup
  interfaces := ifs
  fields := fds
  methods := ms
  attributes := attrs
def plain (name : String) (sup : Option ClassId) : Class where
  name := name
  kind := .ordinary
  loader := none
  accessFlags := 33
  super := sup
  interfaces := #[]
  cf := none
  fields := #[]
  methods := #[]
  instanceTypes := #[]
  staticTypes := #[]
  resolved := #[]
  callSites := []
  init := .initialized
  statics := none
  mirror := none

def pool0 : Array CpInfo := pool [(5, u "<init>"), (0, u "()V"), (1, .class_ 10), (1, u "java/lang/Object")] 113

def k0m0 : Method := { name := "<init>", desc := "()V", sig := { parameters := [], returnType := none }, accessFlags := 1, code := none }
/-- java/lang/Object -/
def k0 : Class := { plain "java/lang/Object" none with
  accessFlags := 33
  interfaces := #[]
  cf := some (fileOf pool0 8 #[] #[{ accessFlags := 1, nameIndex := 5, descriptorIndex := 6, attributes := #[] }] 33 0 #[] #[])
  fields := #[]
  methods := #[k0m0]
  instanceTypes := #[]
  staticTypes := #[]
  resolved := Array.replicate 124 none
  statics := none }

def pool1 : Array CpInfo := pool [(2, .class_ 4), (1, u "java/lang/Object"), (0, u "<init>"), (0, u "()V"), (0, .methodref 8 9), (0, .class_ 10), (0, .nameAndType 11 12), (0, u "com/example/medis/medis/store/Pages"), (0, u "putUnsigned"), (0, u "([BIJI)V"), (0, .methodref 14 15), (0, .class_ 16), (0, .nameAndType 17 18), (0, u "com/example/medis/medis/store/PagesPutUnsignedPinLaw"), (0, u "at"), (0, u "([BIIIJB)Z"), (2, u "law"), (0, u "(IJII)Z")] 5

def k1m0 : Method := { name := "<init>", desc := "()V", sig := { parameters := [], returnType := none }, accessFlags := 1, code := none }
def k1c1 : Code := { maxStack := 7, maxLocals := 9, code := code, exceptionTable := #[], attributes := #[] }
def k1m1 : Method := { name := "law", desc := "(IJII)Z", sig := { parameters := [.int, .long, .int, .int], returnType := some .boolean }, accessFlags := 9, code := some k1c1 }
def k1c2 : Code := { maxStack := 5, maxLocals := 9, code := method_3_code, exceptionTable := #[], attributes := #[] }
def k1m2 : Method := { name := "at", desc := "([BIIIJB)Z", sig := { parameters := [(.array .byte), .int, .int, .int, .long, .byte], returnType := some .boolean }, accessFlags := 10, code := some k1c2 }
/-- com/example/medis/medis/store/PagesPutUnsignedPinLaw -/
def k1 : Class := { plain "com/example/medis/medis/store/PagesPutUnsignedPinLaw" (some 0) with
  accessFlags := 49
  interfaces := #[]
  cf := some (fileOf pool1 14 #[] #[{ accessFlags := 1, nameIndex := 5, descriptorIndex := 6, attributes := #[] }, { accessFlags := 9, nameIndex := 21, descriptorIndex := 22, attributes := #[] }, { accessFlags := 10, nameIndex := 17, descriptorIndex := 18, attributes := #[] }] 49 2 #[] #[])
  fields := #[]
  methods := #[k1m0, k1m1, k1m2]
  instanceTypes := #[]
  staticTypes := #[]
  resolved := Array.replicate 28 none
  statics := none }

def pool2 : Array CpInfo := pool [(1, .class_ 2), (0, u "com/example/medis/medis/store/Pages"), (3, .class_ 8), (1, u "java/lang/Object"), (0, u "<init>"), (0, u "()V"), (6, u "putUnsigned"), (0, u "([BIJI)V"), (15, u "SIZE"), (0, u "I"), (2, u "PAYLOAD")] 10

def k2m0 : Method := { name := "<init>", desc := "()V", sig := { parameters := [], returnType := none }, accessFlags := 2, code := none }
def k2c1 : Code := { maxStack := 6, maxLocals := 6, code := prog_150_method_4_code, exceptionTable := #[], attributes := #[] }
def k2m1 : Method := { name := "putUnsigned", desc := "([BIJI)V", sig := { parameters := [(.array .byte), .int, .long, .int], returnType := none }, accessFlags := 8, code := some k2c1 }
/-- com/example/medis/medis/store/Pages -/
def k2 : Class := { plain "com/example/medis/medis/store/Pages" (some 0) with
  accessFlags := 48
  interfaces := #[]
  cf := some (fileOf pool2 1 #[] #[{ accessFlags := 2, nameIndex := 9, descriptorIndex := 10, attributes := #[] }, { accessFlags := 8, nameIndex := 17, descriptorIndex := 18, attributes := #[] }] 48 6 #[] #[{ accessFlags := 24, nameIndex := 34, descriptorIndex := 35, attributes := #[] }, { accessFlags := 24, nameIndex := 38, descriptorIndex := 35, attributes := #[] }])
  fields := #[{ name := "SIZE", type := .int, accessFlags := 24, slot := 0, constantValue := 0 }, { name := "PAYLOAD", type := .int, accessFlags := 24, slot := 1, constantValue := 0 }]
  methods := #[k2m0, k2m1]
  instanceTypes := #[]
  staticTypes := #[.int, .int]
  resolved := Array.replicate 49 none
  statics := none }

def pool3 : Array CpInfo := pool [(1, u "java/lang/Cloneable"), (0, .class_ 1), (0, u "java/lang/Object"), (0, .class_ 3)] 3

/-- java/lang/Cloneable -/
def k3 : Class := { plain "java/lang/Cloneable" (some 0) with
  accessFlags := 1537
  interfaces := #[]
  cf := some (fileOf pool3 2 #[] #[] 1537 4 #[] #[])
  fields := #[]
  methods := #[]
  instanceTypes := #[]
  staticTypes := #[]
  resolved := Array.replicate 8 none
  statics := none }

def pool4 : Array CpInfo := pool [(1, u "java/io/Serializable"), (0, .class_ 1), (0, u "java/lang/Object"), (0, .class_ 3)] 3

/-- java/io/Serializable -/
def k4 : Class := { plain "java/io/Serializable" (some 0) with
  accessFlags := 1537
  interfaces := #[]
  cf := some (fileOf pool4 2 #[] #[] 1537 4 #[] #[])
  fields := #[]
  methods := #[]
  instanceTypes := #[]
  staticTypes := #[]
  resolved := Array.replicate 8 none
  statics := none }

/-- the primitive byte -/
def k5 : Class := { plain "byte" none with kind := .primitive 'B', accessFlags := 0x411 }
/-- [B -/
def k6 : Class := { plain "[B" (some 0) with kind := .array 5 .byte, interfaces := #[3, 4], accessFlags := 1041 }

/-- the primitive int -/
def k7 : Class := { plain "int" none with kind := .primitive 'I', accessFlags := 0x411 }
/-- [I -/
def k8 : Class := { plain "[I" (some 0) with kind := .array 7 .int, interfaces := #[3, 4], accessFlags := 1041 }

def heap : Heap := #[]
def classes : Array Class := #[k0, k1, k2, k3, k4, k5, k6, k7, k8]
def interned : List (Array UInt16 × Addr) := []
def slotsUsed : Nat := 0
def theMethod : MethodId := ⟨1, 1⟩
def args0 : Array Value := #[.int 5, .long 600, .int 7, .int 8]
def aboutOver (below : List Frame) : State where
  vm := { classes := classes, interned := interned.toArray }
  heap := heap
  slotsUsed := slotsUsed
  threads := #[{ frames := .invoking theMethod args0 :: below }]
def below0 : List Frame := [.native { method := ⟨0, 0⟩, args := #[] }]
def about1 : State := aboutOver below0
def p0 : Program := .bare "" "" ""
def e0 : Env := launch0.env 0 0 0
theorem w_frames : about1.frames = Frame.invoking theMethod args0 :: below0 := rfl
set_option maxRecDepth 65536 in
theorem w_args : argsFit about1.vm theMethod args0 = true := by decide +kernel
set_option maxRecDepth 65536 in
theorem w_heap : heapFits about1 = true := by decide +kernel
set_option maxRecDepth 65536 in
theorem w_runnable : about1.curStatus? = some .runnable := by decide +kernel
set_option maxRecDepth 65536 in
theorem w_alone : about1.alone = true := by decide +kernel
set_option maxRecDepth 65536 in
theorem w_named : about1.methodNamed? x = some theMethod := by decide +kernel
set_option maxRecDepth 65536 in
theorem w_hears : about1.hears theMethod below0 = true := by decide +kernel
set_option maxRecDepth 65536 in
theorem w_ripe : about1.ripe theMethod args0 below0 = true := by decide +kernel
theorem w_running : about1.status = .running := rfl
set_option maxRecDepth 65536 in
theorem w_room : about1.hasRoom e0.platform room_1 = true :=
  launch0.hasRoom_least _ room_1 (by decide +kernel) (by decide +kernel) (by decide +kernel) (by decide +kernel) (by decide +kernel) (by decide +kernel)
theorem allAtoms_all (ts : List Jvm.Cond) (a : Array Jvm.Value) (st : Jvm.State) : (allAtoms ts).before a st = ts.all (fun c => c.before a st) := by
  induction ts with
  | nil => rfl
  | cons c t ih =>
    show (Jvm.Cond.and c (allAtoms t)).before a st = _
    rw [Jvm.Cond.before_and, ih, List.all_cons]
def words1 : List Jvm.Cond := Jvm.Cond.code x code maxLocals ret :: tables_1
/-- a 'code' word, met by the world's own term for the bytes: nothing is compared byte by byte -/
theorem code_word {y : MethodName} {bytes : ByteArray} {mx : Nat} {rt : Option FieldType} {a : Array Value} {s : State} {m : MethodId} {meth : Method} {c : Code} (h1 : s.methodNamed? y = some m) (h2 : s.vm.method? m = some meth) (h3 : meth.code = some c) (h4 : c.code = bytes)
    (h5 : (c.maxLocals == mx && c.exceptionTable.isEmpty && decide (c.maxStack ≤ mostOperands) && decide (meth.sig.returnType = rt) && !meth.locks && decide (parseMethodDescriptor y.desc = some meth.sig)) = true) : (Jvm.Cond.code y bytes mx rt).before a s = true := by
  simp only [Bool.and_eq_true, beq_iff_eq, Bool.not_eq_true', decide_eq_true_eq] at h5
  obtain ⟨⟨⟨⟨⟨g1, g2⟩, g3⟩, g4⟩, g5⟩, g6⟩ := h5
  simp [Cond.before, Cond.holds, Cond.value, h1, h2, h3, h4, g1, g2, g3, g4, g5, g6]
def isCode : Jvm.Cond → Bool
  | .code _ _ _ _ => true
  | _ => false
theorem all_split {L : List Jvm.Cond} {P : Jvm.Cond → Bool} (h1 : L.all (fun c => isCode c || P c) = true) (h2 : ∀ c ∈ L.filter isCode, P c = true) : L.all P = true := by
  refine List.all_eq_true.mpr fun c hc => ?_
  have h := List.all_eq_true.mp h1 c hc
  rcases Bool.eq_false_or_eq_true (isCode c) with hi | hi
  · exact h2 c (List.mem_filter.mpr ⟨hc, hi⟩)
  · simpa [hi] using h
set_option maxRecDepth 65536 in
theorem w_c0 : (Jvm.Cond.code x code maxLocals ret).before args0 about1 = true := code_word (m := ⟨1, 1⟩) (meth := k1m1) (c := k1c1) (by decide +kernel) rfl rfl rfl (by decide +kernel)
set_option maxRecDepth 65536 in
theorem w_c1 : (Jvm.Cond.code ({ cls := "com/example/medis/medis/store/Pages", name := "putUnsigned", desc := "([BIJI)V" } : Jvm.MethodName) prog_150_method_4_code (6 : Nat) (Option.none : Option Jvm.ClassFile.FieldType)).before args0 about1 = true := code_word (m := ⟨2, 1⟩) (meth := k2m1) (c := k2c1) (by decide +kernel) rfl rfl rfl (by decide +kernel)
set_option maxRecDepth 65536 in
theorem w_c2 : (Jvm.Cond.code ({ cls := "com/example/medis/medis/store/PagesPutUnsignedPinLaw", name := "at", desc := "([BIIIJB)Z" } : Jvm.MethodName) method_3_code (9 : Nat) (Option.some Jvm.ClassFile.FieldType.boolean)).before args0 about1 = true := code_word (m := ⟨1, 2⟩) (meth := k1m2) (c := k1c2) (by decide +kernel) rfl rfl rfl (by decide +kernel)
def codes1 : List Jvm.Cond := [Jvm.Cond.code x code maxLocals ret, Jvm.Cond.code ({ cls := "com/example/medis/medis/store/Pages", name := "putUnsigned", desc := "([BIJI)V" } : Jvm.MethodName) prog_150_method_4_code (6 : Nat) (Option.none : Option Jvm.ClassFile.FieldType), Jvm.Cond.code ({ cls := "com/example/medis/medis/store/PagesPutUnsignedPinLaw", name := "at", desc := "([BIIIJB)Z" } : Jvm.MethodName) method_3_code (9 : Nat) (Option.some Jvm.ClassFile.FieldType.boolean)]
set_option maxRecDepth 65536 in
theorem codes_eq : words1.filter isCode = codes1 := rfl
theorem w_codes : ∀ c ∈ words1.filter isCode, c.before args0 about1 = true := by
  rw [codes_eq]
  intro c hc
  simp only [codes1, List.mem_cons, List.not_mem_nil, or_false] at hc
  rcases hc with rfl | rfl | rfl
  · exact w_c0
  · exact w_c1
  · exact w_c2
set_option maxRecDepth 65536 in
theorem w_t1 : words1.all (fun c => isCode c || c.before args0 about1) = true := by decide +kernel
theorem w_tables : (allAtoms (Jvm.Cond.code x code maxLocals ret :: tables_1)).before args0 about1 = true := by
  rw [allAtoms_all]
  show words1.all (fun c => c.before args0 about1) = true
  refine all_split ?_ w_codes
  rw [w_t1]
set_option maxRecDepth 65536 in
theorem w_case : (Jvm.Cond.and given_1 narrow_1).before args0 about1 = true := by decide +kernel
theorem w_applies : (headSpec (Jvm.Cond.code x code maxLocals ret :: tables_1) room_1).applies x e0.platform about1 = true :=
  (Spec.applies_iff w_frames).mpr ⟨w_running, w_runnable, w_alone, w_named, w_hears, w_ripe, w_room, w_tables⟩
theorem atStart : AtStart classFile x code maxLocals ret World_1 tables_1 room_1 Calls_1 rest_1 Pre_1 launch0 p0 e0 about1 theMethod args0 below0 :=
  ⟨lists_1, trivial, launch0.admits_env _ _ _, launch0.least_env, fairChoices_fair.cas, fairChoices_fair.clock, w_frames, w_args, w_heap, w_applies, trivial, trivial, w_case⟩
end start1
theorem witness_1 : WitnessClaimed_1 := ⟨start1.p0, start1.e0, start1.about1, start1.theMethod, start1.args0, start1.below0, start1.atStart⟩
end Jvm.Pilot.@@N@@
