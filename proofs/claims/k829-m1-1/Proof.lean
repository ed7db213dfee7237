import JvmDerived
import JvmDerived.Pilot.@@N@@Statement
import JvmDerived.Pilot.@@N@@Code
set_option linter.unusedVariables false
set_option linter.unusedSimpArgs false
namespace Jvm.OwnK
open Jvm Sem ClassFile Op Lib Jvm.Stand Jvm.Free Jvm.LawKit Jvm.RoadKit
section A
variable {tabs : List Jvm.Cond} {a0 : Array Value} {Z : State} {own nm : String} {code : ByteArray} {ml : Nat} {ret : Option FieldType} {p : Program} {l : Launch} {e : Env} {R : Room} {s : State} {m : MethodId} {args : Array Value} {below : List Frame} {meth : Method} {c : Code} {n0 : Nat} {T : State} {h : Heap} {k n : Nat} {Q : Option Value → Heap → Prop} {G : Outcome → State → List Loc → Prop} {pc : Nat} {ls : Array Slot} {st : List Value}
/-- what stands fast through a method's walk -/
def Cx (tabs : List Jvm.Cond) (a0 : Array Value) (Z : State) (own nm : String) (code : ByteArray) (ml : Nat) (ret : Option FieldType) (p : Program) (s : State) (m : MethodId) (meth : Method) (c : Code) : Prop :=
  p.tables.exec = Jvm.exec ∧ Z.Warmed39 s.vm ∧ c.code = code ∧ c.maxLocals = ml ∧ s.vm.findClass own = some m.cls ∧ meth.sig.returnType = ret ∧ meth.locks = false ∧ meth.name = nm ∧ ∀ d ∈ tabs, d.before a0 Z = true
/-- where the walk stands: the heap h, k cells and n slots made so far, nothing below n0 written -/
def St (p : Program) (l : Launch) (e : Env) (R : Room) (s : State) (m : MethodId) (args : Array Value) (below : List Frame) (meth : Method) (c : Code) (n0 : Nat) (T : State) (h : Heap) (k n : Nat) : Prop :=
  ∃ locs, Stand p l e R s m args below meth c T locs k n ∧ T.heap = h ∧ Fr n0 locs ∧ n0 ≤ s.heap.size
/-- from this frame the method ends, and returns what Q says -/
def Run (p : Program) (e : Env) (below : List Frame) (n0 : Nat) (Q : Option Value → Heap → Prop) (G : Outcome → State → List Loc → Prop) (m : MethodId) (T : State) (pc : Nat) (ls : Array Slot) (st : List Value) : Prop :=
  ∃ s₂ o, Steps p.tables e below (T.setTop (mkF m pc ls st)) s₂ ∧ s₂.status = .running ∧ Ended s₂ below o ∧ ∃ v L, o = .returned v ∧ (Q v s₂.heap ∧ Fr n0 L) ∧ G o s₂ L
theorem Run.step {T' : State} {pc' : Nat} {ls' : Array Slot} {st' : List Value} (f : ∀ t, Steps p.tables e below (T'.setTop (mkF m pc' ls' st')) t → Steps p.tables e below (T.setTop (mkF m pc ls st)) t) (r : Run p e below n0 Q G m T' pc' ls' st') : Run p e below n0 Q G m T pc ls st := by
  obtain ⟨s₂, o, h1, h2⟩ := r
  exact ⟨s₂, o, f _ h1, h2⟩
theorem Run.steps {T' : State} {pc' : Nat} {ls' : Array Slot} {st' : List Value} (f : Steps p.tables e below (T.setTop (mkF m pc ls st)) (T'.setTop (mkF m pc' ls' st'))) (r : Run p e below n0 Q G m T' pc' ls' st') : Run p e below n0 Q G m T pc ls st := Run.step (fun _ q => f.trans q) r
theorem Run.cast {st' : List Value} (q : st = st') (r : Run p e below n0 Q G m T pc ls st') : Run p e below n0 Q G m T pc ls st := q ▸ r
theorem St.at' (X : St p l e R s m args below meth c n0 T h k n) : Jvm.At T m c below := by obtain ⟨_, X, -⟩ := X; exact X.here
theorem St.sz (X : St p l e R s m args below meth c n0 T h k n) : n0 ≤ h.size := by
  obtain ⟨_, X, rfl, -, q⟩ := X
  exact Nat.le_trans q X.same.2.1
theorem Cx.d {r : Except DecodeError (Instr × Nat)} (C : Cx tabs a0 Z own nm code ml ret p s m meth c) (q : decode code pc = r) : decode c.code pc = r := hb C.2.2.1 q
theorem Cx.w {d : Jvm.Cond} (C : Cx tabs a0 Z own nm code ml ret p s m meth c) (q : d ∈ tabs) : d.before a0 Z = true := C.2.2.2.2.2.2.2.2 d q
theorem s_iloadN (pc' : Nat) (C : Cx tabs a0 Z own nm code ml ret p s m meth c) (X : St p l e R s m args below meth c n0 T h k n) {i : Fin 4} {v : Int32} (hd : decode code pc = .ok (.iload_n i, 1)) (hl : ls[i.val]? = some (.val (.int v))) (r : Run p e below n0 Q G m T pc' ls (.int v :: st)) (hp : pc + 1 = pc' := by rfl) : Run p e below n0 Q G m T pc ls st := by
  subst hp
  exact Run.step (fun t q => XS.iloadN X.at' C.1 rfl (C.d hd) hl q) r
theorem s_iload (pc' : Nat) (C : Cx tabs a0 Z own nm code ml ret p s m meth c) (X : St p l e R s m args below meth c n0 T h k n) {i : Nat} {v : Int32} (hd : decode code pc = .ok (.iload i, 2)) (hl : ls[i]? = some (.val (.int v))) (r : Run p e below n0 Q G m T pc' ls (.int v :: st)) (hp : pc + 2 = pc' := by rfl) : Run p e below n0 Q G m T pc ls st := by
  subst hp
  exact Run.step (fun t q => XS.iload X.at' C.1 rfl (C.d hd) hl q) r
theorem s_lloadN (pc' : Nat) (C : Cx tabs a0 Z own nm code ml ret p s m meth c) (X : St p l e R s m args below meth c n0 T h k n) {i : Fin 4} {v : Int64} (hd : decode code pc = .ok (.lload_n i, 1)) (hl : ls[i.val]? = some (.val (.long v))) (r : Run p e below n0 Q G m T pc' ls (.long v :: st)) (hp : pc + 1 = pc' := by rfl) : Run p e below n0 Q G m T pc ls st := by
  subst hp
  exact Run.step (fun t q => XT.lloadN X.at' C.1 rfl (C.d hd) hl q) r
theorem s_lload (pc' : Nat) (C : Cx tabs a0 Z own nm code ml ret p s m meth c) (X : St p l e R s m args below meth c n0 T h k n) {i : Nat} {v : Int64} (hd : decode code pc = .ok (.lload i, 2)) (hl : ls[i]? = some (.val (.long v))) (r : Run p e below n0 Q G m T pc' ls (.long v :: st)) (hp : pc + 2 = pc' := by rfl) : Run p e below n0 Q G m T pc ls st := by
  subst hp
  exact Run.step (fun t q => XT.lload X.at' C.1 rfl (C.d hd) hl q) r
theorem s_aloadN (pc' : Nat) (C : Cx tabs a0 Z own nm code ml ret p s m meth c) (X : St p l e R s m args below meth c n0 T h k n) {i : Fin 4} {v : Value} (hd : decode code pc = .ok (.aload_n i, 1)) (hl : ls[i.val]? = some (.val v)) (hv : v.isRef = true) (r : Run p e below n0 Q G m T pc' ls (v :: st)) (hp : pc + 1 = pc' := by rfl) : Run p e below n0 Q G m T pc ls st := by
  subst hp
  exact Run.step (fun t q => XS.aloadN X.at' C.1 rfl (C.d hd) hl hv q) r
theorem s_aload (pc' : Nat) (C : Cx tabs a0 Z own nm code ml ret p s m meth c) (X : St p l e R s m args below meth c n0 T h k n) {i : Nat} {v : Value} (hd : decode code pc = .ok (.aload i, 2)) (hl : ls[i]? = some (.val v)) (hv : v.isRef = true) (r : Run p e below n0 Q G m T pc' ls (v :: st)) (hp : pc + 2 = pc' := by rfl) : Run p e below n0 Q G m T pc ls st := by
  subst hp
  exact Run.step (fun t q => XS.aload X.at' C.1 rfl (C.d hd) hl hv q) r
theorem s_istoreN (pc' : Nat) (C : Cx tabs a0 Z own nm code ml ret p s m meth c) (X : St p l e R s m args below meth c n0 T h k n) {i : Fin 4} {v : Int32} {l' : Array Slot} (hd : decode code pc = .ok (.istore_n i, 1)) (hl : storeLocals ls i.val (.int v) = some l') (r : Run p e below n0 Q G m T pc' l' st) (hp : pc + 1 = pc' := by rfl) : Run p e below n0 Q G m T pc ls (.int v :: st) := by
  subst hp
  exact Run.step (fun t q => XS.istoreN X.at' C.1 rfl (C.d hd) rfl hl q) r
theorem s_istore (pc' : Nat) (C : Cx tabs a0 Z own nm code ml ret p s m meth c) (X : St p l e R s m args below meth c n0 T h k n) {i : Nat} {v : Int32} {l' : Array Slot} (hd : decode code pc = .ok (.istore i, 2)) (hl : storeLocals ls i (.int v) = some l') (r : Run p e below n0 Q G m T pc' l' st) (hp : pc + 2 = pc' := by rfl) : Run p e below n0 Q G m T pc ls (.int v :: st) := by
  subst hp
  exact Run.step (fun t q => XS.istore X.at' C.1 rfl (C.d hd) rfl hl q) r
theorem s_lstoreN (pc' : Nat) (C : Cx tabs a0 Z own nm code ml ret p s m meth c) (X : St p l e R s m args below meth c n0 T h k n) {i : Fin 4} {v : Int64} {l' : Array Slot} (hd : decode code pc = .ok (.lstore_n i, 1)) (hl : storeLocals ls i.val (.long v) = some l') (r : Run p e below n0 Q G m T pc' l' st) (hp : pc + 1 = pc' := by rfl) : Run p e below n0 Q G m T pc ls (.long v :: st) := by
  subst hp
  exact Run.step (fun t q => XT.lstoreN X.at' C.1 rfl (C.d hd) rfl hl q) r
theorem s_lstore (pc' : Nat) (C : Cx tabs a0 Z own nm code ml ret p s m meth c) (X : St p l e R s m args below meth c n0 T h k n) {i : Nat} {v : Int64} {l' : Array Slot} (hd : decode code pc = .ok (.lstore i, 2)) (hl : storeLocals ls i (.long v) = some l') (r : Run p e below n0 Q G m T pc' l' st) (hp : pc + 2 = pc' := by rfl) : Run p e below n0 Q G m T pc ls (.long v :: st) := by
  subst hp
  exact Run.step (fun t q => XT.lstore X.at' C.1 rfl (C.d hd) rfl hl q) r
theorem s_astoreN (pc' : Nat) (C : Cx tabs a0 Z own nm code ml ret p s m meth c) (X : St p l e R s m args below meth c n0 T h k n) {i : Fin 4} {v : Value} {l' : Array Slot} (hd : decode code pc = .ok (.astore_n i, 1)) (hv : v.isRef = true) (hl : storeLocals ls i.val v = some l') (r : Run p e below n0 Q G m T pc' l' st) (hp : pc + 1 = pc' := by rfl) : Run p e below n0 Q G m T pc ls (v :: st) := by
  subst hp
  exact Run.step (fun t q => XS.astoreN X.at' C.1 rfl (C.d hd) rfl hv hl q) r
theorem s_astore (pc' : Nat) (C : Cx tabs a0 Z own nm code ml ret p s m meth c) (X : St p l e R s m args below meth c n0 T h k n) {i : Nat} {v : Value} {l' : Array Slot} (hd : decode code pc = .ok (.astore i, 2)) (hv : v.isRef = true) (hl : storeLocals ls i v = some l') (r : Run p e below n0 Q G m T pc' l' st) (hp : pc + 2 = pc' := by rfl) : Run p e below n0 Q G m T pc ls (v :: st) := by
  subst hp
  exact Run.step (fun t q => XS.astore X.at' C.1 rfl (C.d hd) rfl hv hl q) r
theorem s_iinc (pc' : Nat) (C : Cx tabs a0 Z own nm code ml ret p s m meth c) (X : St p l e R s m args below meth c n0 T h k n) {i : Nat} {cst : Int} {x z : Int32} {l' : Array Slot} (hd : decode code pc = .ok (.iinc i cst, 3)) (hz : Int32.ofInt cst = z) (hl : ls[i]? = some (.val (.int x))) (hl' : storeLocals ls i (.int (x + z)) = some l') (r : Run p e below n0 Q G m T pc' l' st) (hp : pc + 3 = pc' := by rfl) : Run p e below n0 Q G m T pc ls st := by
  subst hp
  exact Run.step (fun t q => XS.iinc X.at' C.1 rfl (C.d hd) hl (by rw [hz]; exact hl') q) r
theorem s_iconst (pc' : Nat) (C : Cx tabs a0 Z own nm code ml ret p s m meth c) (X : St p l e R s m args below meth c n0 T h k n) {i : Int} {z : Int32} (hd : decode code pc = .ok (.iconst i, 1)) (hz : Int32.ofInt i = z) (r : Run p e below n0 Q G m T pc' ls (.int z :: st)) (hp : pc + 1 = pc' := by rfl) : Run p e below n0 Q G m T pc ls st := by
  subst hp
  exact Run.step (fun t q => XS.iconst X.at' C.1 rfl (C.d hd) (by rw [hz]; exact q)) r
theorem s_bipush (pc' : Nat) (C : Cx tabs a0 Z own nm code ml ret p s m meth c) (X : St p l e R s m args below meth c n0 T h k n) {i : Int} {z : Int32} (hd : decode code pc = .ok (.bipush i, 2)) (hz : (Int8.ofInt i).toInt32 = z) (r : Run p e below n0 Q G m T pc' ls (.int z :: st)) (hp : pc + 2 = pc' := by rfl) : Run p e below n0 Q G m T pc ls st := by
  subst hp
  exact Run.step (fun t q => XS.bipush X.at' C.1 rfl (C.d hd) (by rw [hz]; exact q)) r
theorem s_sipush (pc' : Nat) (C : Cx tabs a0 Z own nm code ml ret p s m meth c) (X : St p l e R s m args below meth c n0 T h k n) {i : Int} {z : Int32} (hd : decode code pc = .ok (.sipush i, 3)) (hz : (Int16.ofInt i).toInt32 = z) (r : Run p e below n0 Q G m T pc' ls (.int z :: st)) (hp : pc + 3 = pc' := by rfl) : Run p e below n0 Q G m T pc ls st := by
  subst hp
  exact Run.step (fun t q => XS.sipush X.at' C.1 rfl (C.d hd) (by rw [hz]; exact q)) r
theorem s_lconst (pc' : Nat) (C : Cx tabs a0 Z own nm code ml ret p s m meth c) (X : St p l e R s m args below meth c n0 T h k n) {i : Fin 2} {z : Int64} (hd : decode code pc = .ok (.lconst i, 1)) (hz : Int64.ofNat i = z) (r : Run p e below n0 Q G m T pc' ls (.long z :: st)) (hp : pc + 1 = pc' := by rfl) : Run p e below n0 Q G m T pc ls st := by
  subst hp
  exact Run.step (fun t q => XT.lconst X.at' C.1 rfl (C.d hd) (by rw [hz]; exact q)) r
theorem s_aconstNull (pc' : Nat) (C : Cx tabs a0 Z own nm code ml ret p s m meth c) (X : St p l e R s m args below meth c n0 T h k n) (hd : decode code pc = .ok (.aconst_null, 1)) (r : Run p e below n0 Q G m T pc' ls (.null :: st)) (hp : pc + 1 = pc' := by rfl) : Run p e below n0 Q G m T pc ls st := by
  subst hp
  exact Run.step (fun t q => XS.aconstNull X.at' C.1 rfl (C.d hd) q) r
theorem s_iadd (pc' : Nat) (C : Cx tabs a0 Z own nm code ml ret p s m meth c) (X : St p l e R s m args below meth c n0 T h k n) {x y : Int32} (hd : decode code pc = .ok (.iadd, 1)) (r : Run p e below n0 Q G m T pc' ls (.int (x + y) :: st)) (hp : pc + 1 = pc' := by rfl) : Run p e below n0 Q G m T pc ls (.int y :: .int x :: st) := by
  subst hp
  exact Run.step (fun t q => XS.iadd X.at' C.1 rfl (C.d hd) rfl q) r
theorem s_iand (pc' : Nat) (C : Cx tabs a0 Z own nm code ml ret p s m meth c) (X : St p l e R s m args below meth c n0 T h k n) {x y : Int32} (hd : decode code pc = .ok (.iand, 1)) (r : Run p e below n0 Q G m T pc' ls (.int (x &&& y) :: st)) (hp : pc + 1 = pc' := by rfl) : Run p e below n0 Q G m T pc ls (.int y :: .int x :: st) := by
  subst hp
  exact Run.step (fun t q => XS.iand X.at' C.1 rfl (C.d hd) rfl q) r
theorem s_ishr (pc' : Nat) (C : Cx tabs a0 Z own nm code ml ret p s m meth c) (X : St p l e R s m args below meth c n0 T h k n) {x y : Int32} (hd : decode code pc = .ok (.ishr, 1)) (r : Run p e below n0 Q G m T pc' ls (.int (x >>> (y &&& 31)) :: st)) (hp : pc + 1 = pc' := by rfl) : Run p e below n0 Q G m T pc ls (.int y :: .int x :: st) := by
  subst hp
  exact Run.step (fun t q => XT.ishr X.at' C.1 rfl (C.d hd) rfl q) r
theorem s_ladd (pc' : Nat) (C : Cx tabs a0 Z own nm code ml ret p s m meth c) (X : St p l e R s m args below meth c n0 T h k n) {x y : Int64} (hd : decode code pc = .ok (.ladd, 1)) (r : Run p e below n0 Q G m T pc' ls (.long (x + y) :: st)) (hp : pc + 1 = pc' := by rfl) : Run p e below n0 Q G m T pc ls (.long y :: .long x :: st) := by
  subst hp
  exact Run.step (fun t q => XT.ladd X.at' C.1 rfl (C.d hd) rfl q) r
theorem s_lneg (pc' : Nat) (C : Cx tabs a0 Z own nm code ml ret p s m meth c) (X : St p l e R s m args below meth c n0 T h k n) {x : Int64} (hd : decode code pc = .ok (.lneg, 1)) (r : Run p e below n0 Q G m T pc' ls (.long (-x) :: st)) (hp : pc + 1 = pc' := by rfl) : Run p e below n0 Q G m T pc ls (.long x :: st) := by
  subst hp
  exact Run.step (fun t q => XT.lneg X.at' C.1 rfl (C.d hd) rfl q) r
theorem s_i2l (pc' : Nat) (C : Cx tabs a0 Z own nm code ml ret p s m meth c) (X : St p l e R s m args below meth c n0 T h k n) {x : Int32} (hd : decode code pc = .ok (.i2l, 1)) (r : Run p e below n0 Q G m T pc' ls (.long x.toInt64 :: st)) (hp : pc + 1 = pc' := by rfl) : Run p e below n0 Q G m T pc ls (.int x :: st) := by
  subst hp
  exact Run.step (fun t q => XT.i2l X.at' C.1 rfl (C.d hd) rfl q) r
theorem s_l2i (pc' : Nat) (C : Cx tabs a0 Z own nm code ml ret p s m meth c) (X : St p l e R s m args below meth c n0 T h k n) {x : Int64} (hd : decode code pc = .ok (.l2i, 1)) (r : Run p e below n0 Q G m T pc' ls (.int x.toInt32 :: st)) (hp : pc + 1 = pc' := by rfl) : Run p e below n0 Q G m T pc ls (.long x :: st) := by
  subst hp
  exact Run.step (fun t q => XT.l2i X.at' C.1 rfl (C.d hd) rfl q) r
theorem s_lcmp (pc' : Nat) (C : Cx tabs a0 Z own nm code ml ret p s m meth c) (X : St p l e R s m args below meth c n0 T h k n) {x y : Int64} (hd : decode code pc = .ok (.lcmp, 1)) (r : Run p e below n0 Q G m T pc' ls (.int (XT.cmpL x y) :: st)) (hp : pc + 1 = pc' := by rfl) : Run p e below n0 Q G m T pc ls (.long y :: .long x :: st) := by
  subst hp
  exact Run.step (fun t q => XT.lcmp X.at' C.1 rfl (C.d hd) rfl q) r
theorem s_dup (pc' : Nat) (C : Cx tabs a0 Z own nm code ml ret p s m meth c) (X : St p l e R s m args below meth c n0 T h k n) {v : Value} (hd : decode code pc = .ok (.dup, 1)) (hc : v.category = 1) (r : Run p e below n0 Q G m T pc' ls (v :: v :: st)) (hp : pc + 1 = pc' := by rfl) : Run p e below n0 Q G m T pc ls (v :: st) := by
  subst hp
  exact Run.step (fun t q => XS.dup X.at' C.1 rfl (C.d hd) rfl hc q) r
theorem s_pop (pc' : Nat) (C : Cx tabs a0 Z own nm code ml ret p s m meth c) (X : St p l e R s m args below meth c n0 T h k n) {v : Value} (hd : decode code pc = .ok (.pop, 1)) (hc : v.category = 1) (r : Run p e below n0 Q G m T pc' ls st) (hp : pc + 1 = pc' := by rfl) : Run p e below n0 Q G m T pc ls (v :: st) := by
  subst hp
  exact Run.step (fun t q => XT.pop X.at' C.1 rfl (C.d hd) rfl hc q) r
theorem s_dupX1 (pc' : Nat) (C : Cx tabs a0 Z own nm code ml ret p s m meth c) (X : St p l e R s m args below meth c n0 T h k n) {v w : Value} (hd : decode code pc = .ok (.dup_x1, 1)) (hc : v.category = 1) (hc' : w.category = 1) (r : Run p e below n0 Q G m T pc' ls (v :: w :: v :: st)) (hp : pc + 1 = pc' := by rfl) : Run p e below n0 Q G m T pc ls (v :: w :: st) := by
  subst hp
  exact Run.step (fun t q => XT.dupX1 X.at' C.1 rfl (C.d hd) rfl hc hc' q) r
theorem s_goto (pc' : Nat) (C : Cx tabs a0 Z own nm code ml ret p s m meth c) (X : St p l e R s m args below meth c n0 T h k n) {o : Int} (hd : decode code pc = .ok (.goto o, 3)) (r : Run p e below n0 Q G m T pc' ls st) (hp : 0 ≤ (pc : Int) + o ∧ ((pc : Int) + o).toNat = pc' := by decide) : Run p e below n0 Q G m T pc ls st := by
  exact Run.step (fun t q => XS.goto X.at' C.1 rfl rfl (C.d hd) hp.1 hp.2 q) r
theorem s_icmp_lt (pY pN : Nat) (C : Cx tabs a0 Z own nm code ml ret p s m meth c) (X : St p l e R s m args below meth c n0 T h k n) {x y : Int32} {o : Int} (hd : decode code pc = .ok (.if_icmp .lt o, 3)) (ry : x < y → Run p e below n0 Q G m T pY ls st) (rn : ¬ x < y → Run p e below n0 Q G m T pN ls st) (hp : 0 ≤ (pc : Int) + o ∧ ((pc : Int) + o).toNat = pY ∧ pc + 3 = pN := by decide) : Run p e below n0 Q G m T pc ls (.int y :: .int x :: st) := by
  by_cases g : x < y
  · exact Run.step (fun t q => XS.icmpYes X.at' C.1 rfl rfl (C.d hd) rfl (tlt g).1 hp.1 hp.2.1 q) (ry g)
  · obtain rfl := hp.2.2
    exact Run.step (fun t q => XS.icmpNo X.at' C.1 rfl (C.d hd) rfl (flt g).1 q) (rn g)
theorem s_if_lt (pY pN : Nat) (C : Cx tabs a0 Z own nm code ml ret p s m meth c) (X : St p l e R s m args below meth c n0 T h k n) {x : Int32} {o : Int} (hd : decode code pc = .ok (.ifCond .lt o, 3)) (ry : x < (0 : Int32) → Run p e below n0 Q G m T pY ls st) (rn : ¬ x < (0 : Int32) → Run p e below n0 Q G m T pN ls st) (hp : 0 ≤ (pc : Int) + o ∧ ((pc : Int) + o).toNat = pY ∧ pc + 3 = pN := by decide) : Run p e below n0 Q G m T pc ls (.int x :: st) := by
  by_cases g : x < (0 : Int32)
  · exact Run.step (fun t q => XS.ifYes X.at' C.1 rfl rfl (C.d hd) rfl ((if0 _ _).trans (tlt g).1) hp.1 hp.2.1 q) (ry g)
  · obtain rfl := hp.2.2
    exact Run.step (fun t q => XS.ifNo X.at' C.1 rfl (C.d hd) rfl ((if0 _ _).trans (flt g).1) q) (rn g)
theorem s_icmp_ge (pY pN : Nat) (C : Cx tabs a0 Z own nm code ml ret p s m meth c) (X : St p l e R s m args below meth c n0 T h k n) {x y : Int32} {o : Int} (hd : decode code pc = .ok (.if_icmp .ge o, 3)) (ry : ¬ x < y → Run p e below n0 Q G m T pY ls st) (rn : x < y → Run p e below n0 Q G m T pN ls st) (hp : 0 ≤ (pc : Int) + o ∧ ((pc : Int) + o).toNat = pY ∧ pc + 3 = pN := by decide) : Run p e below n0 Q G m T pc ls (.int y :: .int x :: st) := by
  by_cases g : x < y
  · obtain rfl := hp.2.2
    exact Run.step (fun t q => XS.icmpNo X.at' C.1 rfl (C.d hd) rfl (tlt g).2.1 q) (rn g)
  · exact Run.step (fun t q => XS.icmpYes X.at' C.1 rfl rfl (C.d hd) rfl (flt g).2.1 hp.1 hp.2.1 q) (ry g)
theorem s_if_ge (pY pN : Nat) (C : Cx tabs a0 Z own nm code ml ret p s m meth c) (X : St p l e R s m args below meth c n0 T h k n) {x : Int32} {o : Int} (hd : decode code pc = .ok (.ifCond .ge o, 3)) (ry : ¬ x < (0 : Int32) → Run p e below n0 Q G m T pY ls st) (rn : x < (0 : Int32) → Run p e below n0 Q G m T pN ls st) (hp : 0 ≤ (pc : Int) + o ∧ ((pc : Int) + o).toNat = pY ∧ pc + 3 = pN := by decide) : Run p e below n0 Q G m T pc ls (.int x :: st) := by
  by_cases g : x < (0 : Int32)
  · obtain rfl := hp.2.2
    exact Run.step (fun t q => XS.ifNo X.at' C.1 rfl (C.d hd) rfl ((if0 _ _).trans (tlt g).2.1) q) (rn g)
  · exact Run.step (fun t q => XS.ifYes X.at' C.1 rfl rfl (C.d hd) rfl ((if0 _ _).trans (flt g).2.1) hp.1 hp.2.1 q) (ry g)
theorem s_icmp_gt (pY pN : Nat) (C : Cx tabs a0 Z own nm code ml ret p s m meth c) (X : St p l e R s m args below meth c n0 T h k n) {x y : Int32} {o : Int} (hd : decode code pc = .ok (.if_icmp .gt o, 3)) (ry : y < x → Run p e below n0 Q G m T pY ls st) (rn : ¬ y < x → Run p e below n0 Q G m T pN ls st) (hp : 0 ≤ (pc : Int) + o ∧ ((pc : Int) + o).toNat = pY ∧ pc + 3 = pN := by decide) : Run p e below n0 Q G m T pc ls (.int y :: .int x :: st) := by
  by_cases g : y < x
  · exact Run.step (fun t q => XS.icmpYes X.at' C.1 rfl rfl (C.d hd) rfl (tlt g).2.2.1 hp.1 hp.2.1 q) (ry g)
  · obtain rfl := hp.2.2
    exact Run.step (fun t q => XS.icmpNo X.at' C.1 rfl (C.d hd) rfl (flt g).2.2.1 q) (rn g)
theorem s_if_gt (pY pN : Nat) (C : Cx tabs a0 Z own nm code ml ret p s m meth c) (X : St p l e R s m args below meth c n0 T h k n) {x : Int32} {o : Int} (hd : decode code pc = .ok (.ifCond .gt o, 3)) (ry : (0 : Int32) < x → Run p e below n0 Q G m T pY ls st) (rn : ¬ (0 : Int32) < x → Run p e below n0 Q G m T pN ls st) (hp : 0 ≤ (pc : Int) + o ∧ ((pc : Int) + o).toNat = pY ∧ pc + 3 = pN := by decide) : Run p e below n0 Q G m T pc ls (.int x :: st) := by
  by_cases g : (0 : Int32) < x
  · exact Run.step (fun t q => XS.ifYes X.at' C.1 rfl rfl (C.d hd) rfl ((if0 _ _).trans (tlt g).2.2.1) hp.1 hp.2.1 q) (ry g)
  · obtain rfl := hp.2.2
    exact Run.step (fun t q => XS.ifNo X.at' C.1 rfl (C.d hd) rfl ((if0 _ _).trans (flt g).2.2.1) q) (rn g)
theorem s_icmp_eq (pY pN : Nat) (C : Cx tabs a0 Z own nm code ml ret p s m meth c) (X : St p l e R s m args below meth c n0 T h k n) {x y : Int32} {o : Int} (hd : decode code pc = .ok (.if_icmp .eq o, 3)) (ry : x = y → Run p e below n0 Q G m T pY ls st) (rn : ¬ x = y → Run p e below n0 Q G m T pN ls st) (hp : 0 ≤ (pc : Int) + o ∧ ((pc : Int) + o).toNat = pY ∧ pc + 3 = pN := by decide) : Run p e below n0 Q G m T pc ls (.int y :: .int x :: st) := by
  by_cases g : x = y
  · exact Run.step (fun t q => XS.icmpYes X.at' C.1 rfl rfl (C.d hd) rfl (teq g).1 hp.1 hp.2.1 q) (ry g)
  · obtain rfl := hp.2.2
    exact Run.step (fun t q => XS.icmpNo X.at' C.1 rfl (C.d hd) rfl (feq g).1 q) (rn g)
theorem s_if_eq (pY pN : Nat) (C : Cx tabs a0 Z own nm code ml ret p s m meth c) (X : St p l e R s m args below meth c n0 T h k n) {x : Int32} {o : Int} (hd : decode code pc = .ok (.ifCond .eq o, 3)) (ry : x = (0 : Int32) → Run p e below n0 Q G m T pY ls st) (rn : ¬ x = (0 : Int32) → Run p e below n0 Q G m T pN ls st) (hp : 0 ≤ (pc : Int) + o ∧ ((pc : Int) + o).toNat = pY ∧ pc + 3 = pN := by decide) : Run p e below n0 Q G m T pc ls (.int x :: st) := by
  by_cases g : x = (0 : Int32)
  · exact Run.step (fun t q => XS.ifYes X.at' C.1 rfl rfl (C.d hd) rfl ((if0 _ _).trans (teq g).1) hp.1 hp.2.1 q) (ry g)
  · obtain rfl := hp.2.2
    exact Run.step (fun t q => XS.ifNo X.at' C.1 rfl (C.d hd) rfl ((if0 _ _).trans (feq g).1) q) (rn g)
theorem s_icmp_ne (pY pN : Nat) (C : Cx tabs a0 Z own nm code ml ret p s m meth c) (X : St p l e R s m args below meth c n0 T h k n) {x y : Int32} {o : Int} (hd : decode code pc = .ok (.if_icmp .ne o, 3)) (ry : ¬ x = y → Run p e below n0 Q G m T pY ls st) (rn : x = y → Run p e below n0 Q G m T pN ls st) (hp : 0 ≤ (pc : Int) + o ∧ ((pc : Int) + o).toNat = pY ∧ pc + 3 = pN := by decide) : Run p e below n0 Q G m T pc ls (.int y :: .int x :: st) := by
  by_cases g : x = y
  · obtain rfl := hp.2.2
    exact Run.step (fun t q => XS.icmpNo X.at' C.1 rfl (C.d hd) rfl (teq g).2 q) (rn g)
  · exact Run.step (fun t q => XS.icmpYes X.at' C.1 rfl rfl (C.d hd) rfl (feq g).2 hp.1 hp.2.1 q) (ry g)
theorem s_if_ne (pY pN : Nat) (C : Cx tabs a0 Z own nm code ml ret p s m meth c) (X : St p l e R s m args below meth c n0 T h k n) {x : Int32} {o : Int} (hd : decode code pc = .ok (.ifCond .ne o, 3)) (ry : ¬ x = (0 : Int32) → Run p e below n0 Q G m T pY ls st) (rn : x = (0 : Int32) → Run p e below n0 Q G m T pN ls st) (hp : 0 ≤ (pc : Int) + o ∧ ((pc : Int) + o).toNat = pY ∧ pc + 3 = pN := by decide) : Run p e below n0 Q G m T pc ls (.int x :: st) := by
  by_cases g : x = (0 : Int32)
  · obtain rfl := hp.2.2
    exact Run.step (fun t q => XS.ifNo X.at' C.1 rfl (C.d hd) rfl ((if0 _ _).trans (teq g).2) q) (rn g)
  · exact Run.step (fun t q => XS.ifYes X.at' C.1 rfl rfl (C.d hd) rfl ((if0 _ _).trans (feq g).2) hp.1 hp.2.1 q) (ry g)
theorem s_acmp_eq (pY pN : Nat) (C : Cx tabs a0 Z own nm code ml ret p s m meth c) (X : St p l e R s m args below meth c n0 T h k n) {v w : Value} {o : Int} (hd : decode code pc = .ok (.if_acmp .eq o, 3)) (hv : v.isRef = true) (hw : w.isRef = true) (ry : v = w → Run p e below n0 Q G m T pY ls st) (rn : ¬ v = w → Run p e below n0 Q G m T pN ls st) (hp : 0 ≤ (pc : Int) + o ∧ ((pc : Int) + o).toNat = pY ∧ pc + 3 = pN := by decide) : Run p e below n0 Q G m T pc ls (w :: v :: st) := by
  by_cases g : v = w
  · exact Run.step (fun t q => XT.acmpYes X.at' C.1 rfl rfl (C.d hd) rfl hv hw (by simp [XT.acmp, g]) hp.1 hp.2.1 q) (ry g)
  · obtain rfl := hp.2.2; exact Run.step (fun t q => XT.acmpNo X.at' C.1 rfl (C.d hd) rfl hv hw (by simp [XT.acmp, g]) q) (rn g)
theorem s_ifnullY (pY : Nat) (C : Cx tabs a0 Z own nm code ml ret p s m meth c) (X : St p l e R s m args below meth c n0 T h k n) {o : Int} (hd : decode code pc = .ok (.ifnull o, 3)) (ry : Run p e below n0 Q G m T pY ls st) (hp : 0 ≤ (pc : Int) + o ∧ ((pc : Int) + o).toNat = pY := by decide) : Run p e below n0 Q G m T pc ls (.null :: st) := Run.step (fun t q => XS.ifnullYes X.at' C.1 rfl rfl (C.d hd) rfl hp.1 hp.2 q) ry
theorem s_ifnullN (pN : Nat) (C : Cx tabs a0 Z own nm code ml ret p s m meth c) (X : St p l e R s m args below meth c n0 T h k n) {b : Addr} {o : Int} (hd : decode code pc = .ok (.ifnull o, 3)) (rn : Run p e below n0 Q G m T pN ls st) (hp : pc + 3 = pN := by rfl) : Run p e below n0 Q G m T pc ls (.ref b :: st) := by
  subst hp
  exact Run.step (fun t q => XS.ifnullNo X.at' C.1 rfl (C.d hd) rfl q) rn
theorem s_ifnonnullY (pY : Nat) (C : Cx tabs a0 Z own nm code ml ret p s m meth c) (X : St p l e R s m args below meth c n0 T h k n) {b : Addr} {o : Int} (hd : decode code pc = .ok (.ifnonnull o, 3)) (ry : Run p e below n0 Q G m T pY ls st) (hp : 0 ≤ (pc : Int) + o ∧ ((pc : Int) + o).toNat = pY := by decide) : Run p e below n0 Q G m T pc ls (.ref b :: st) := Run.step (fun t q => XT.ifnonnullYes X.at' C.1 rfl rfl (C.d hd) rfl hp.1 hp.2 q) ry
theorem s_ifnonnullN (pN : Nat) (C : Cx tabs a0 Z own nm code ml ret p s m meth c) (X : St p l e R s m args below meth c n0 T h k n) {o : Int} (hd : decode code pc = .ok (.ifnonnull o, 3)) (rn : Run p e below n0 Q G m T pN ls st) (hp : pc + 3 = pN := by rfl) : Run p e below n0 Q G m T pc ls (.null :: st) := by
  subst hp
  exact Run.step (fun t q => XT.ifnonnullNo X.at' C.1 rfl (C.d hd) rfl q) rn
theorem s_ldc2Long (pc' : Nat) (C : Cx tabs a0 Z own nm code ml ret p s m meth c) (X : St p l e R s m args below meth c n0 T h k n) {idx : Nat} {z : Int64} (hd : decode code pc = .ok (.ldc2_w idx, 3)) (w : Jvm.Cond.constantLong own idx z ∈ tabs) (r : Run p e below n0 Q G m T pc' ls (.long z :: st)) (hp : pc + 3 = pc' := by rfl) : Run p e below n0 Q G m T pc ls st := by
  subst hp
  obtain ⟨_, Y, -⟩ := X
  exact Run.step (Y.ldc2Long C.1 C.2.2.2.2.1 (mvT C.2.1 (C.w w)) (g := mkF m pc ls st) rfl (C.d hd)) r
theorem cl_lt {x y : Int64} : XT.cmpL x y < 0 ↔ x.toInt < y.toInt := by
  rw [← Int64.lt_iff_toInt_lt]; exact lw_lt x y
theorem cl_gt {x y : Int64} : 0 < XT.cmpL x y ↔ y.toInt < x.toInt := by
  rw [← Int64.lt_iff_toInt_lt]; exact lw_gt x y
theorem cl_eq {x y : Int64} : XT.cmpL x y = 0 ↔ x.toInt = y.toInt := by
  rw [Int64.toInt_inj]; exact lw_eq x y
theorem FE_mono {kc ks : Nat} (hk : k ≤ kc) (hn : n ≤ ks) : ∀ (v : Option Value) (t : State) (L : List Loc), t.heap = h → FrameEnd s (.returned v) t L k n → FrameEnd s (.returned v) t L kc ks := fun v t L _ h => ⟨h.1, h.2.1, h.2.2.mono hk hn⟩
theorem Run.done (C : Cx tabs a0 Z own nm code ml ret p s m meth c) (X : St p l e R s m args below meth c n0 T h k n) {v : Option Value} (hv : ret = none → v = none) (hG : ∀ (v : Option Value) (t : State) (L : List Loc), t.heap = h → FrameEnd s (.returned v) t L k n → G (.returned v) t L) (q : Q v h) (f : ∀ locs fs, Stand p l e R s m args below meth c T locs k n → (∀ (f : JFrame) (acts : List Action), f.method = m → f.locked = none → f.entered = [] → (doReturn e (T.setTop f) acts v).1 = T.setFrames fs) → Steps p.tables e below (T.setTop (mkF m pc ls st)) (T.setFrames fs)) : Run p e below n0 Q G m T pc ls st := by
  obtain ⟨locs, Y, rfl, N, -⟩ := X
  obtain ⟨fs, hr, hrun, hended, hW, hsame⟩ := Y.leave (v := v) (by rw [C.2.2.2.2.2.1]; exact hv) C.2.2.2.2.2.2.1
  exact ⟨_, _, f locs fs Y hr, hrun, hended, _, _, rfl, ⟨q, N⟩, hG _ _ _ rfl ⟨⟨_, rfl⟩, hW, hsame⟩⟩
theorem s_return (C : Cx tabs a0 Z own nm code ml ret p s m meth c) (X : St p l e R s m args below meth c n0 T h k n) (hd : decode code pc = .ok (.return_, 1)) (hr : ret = none) (q : Q none h) (hG : ∀ (v : Option Value) (t : State) (L : List Loc), t.heap = h → FrameEnd s (.returned v) t L k n → G (.returned v) t L := by exact FE_mono (by decide) (by decide)) : Run p e below n0 Q G m T pc ls [] := by
  subst hr
  exact Run.done C X (fun _ => rfl) hG q (fun locs fs Y hr => Y.returnOut C.1 C.2.2.2.2.2.1 (C.d hd) hr)
theorem s_ireturn (C : Cx tabs a0 Z own nm code ml ret p s m meth c) (X : St p l e R s m args below meth c n0 T h k n) {z : Int32} (hd : decode code pc = .ok (.ireturn, 1)) (hr : ret = some .int) (q : Q (some (.int z)) h) (hG : ∀ (v : Option Value) (t : State) (L : List Loc), t.heap = h → FrameEnd s (.returned v) t L k n → G (.returned v) t L := by exact FE_mono (by decide) (by decide)) : Run p e below n0 Q G m T pc ls (.int z :: st) := by
  subst hr
  refine Run.done C X (fun w => by cases w) hG q (fun locs fs Y hr => ?_)
  exact retOut Y C.1 C.2.2.2.2.2.1 (t := .int) rfl (Or.inl ⟨rfl, Or.inl rfl, _, rfl⟩) (C.d hd) hr
theorem s_nreturn (C : Cx tabs a0 Z own nm code ml ret p s m meth c) (X : St p l e R s m args below meth c n0 T h k n) {z z' : Int32} {t : FieldType} (hd : decode code pc = .ok (.ireturn, 1)) (hr : ret = some t) (ht : t = .boolean ∨ t = .byte ∨ t = .char ∨ t = .short) (hz : nar t z = z') (q : Q (some (.int z')) h) (hG : ∀ (v : Option Value) (t : State) (L : List Loc), t.heap = h → FrameEnd s (.returned v) t L k n → G (.returned v) t L := by exact FE_mono (by decide) (by decide)) : Run p e below n0 Q G m T pc ls (.int z :: st) := by
  subst hr hz
  refine Run.done C X (fun w => by cases w) hG q (fun locs fs Y hr => ?_)
  exact retN Y C.1 C.2.2.2.2.2.1 ht (C.d hd) hr
theorem s_lreturn (C : Cx tabs a0 Z own nm code ml ret p s m meth c) (X : St p l e R s m args below meth c n0 T h k n) {z : Int64} (hd : decode code pc = .ok (.lreturn, 1)) (hr : ret = some .long) (q : Q (some (.long z)) h) (hG : ∀ (v : Option Value) (t : State) (L : List Loc), t.heap = h → FrameEnd s (.returned v) t L k n → G (.returned v) t L := by exact FE_mono (by decide) (by decide)) : Run p e below n0 Q G m T pc ls (.long z :: st) := by
  subst hr
  refine Run.done C X (fun w => by cases w) hG q (fun locs fs Y hr => ?_)
  exact retOut Y C.1 C.2.2.2.2.2.1 (t := .long) rfl (Or.inr (Or.inl ⟨rfl, rfl, _, rfl⟩)) (C.d hd) hr
theorem s_areturn (C : Cx tabs a0 Z own nm code ml ret p s m meth c) (X : St p l e R s m args below meth c n0 T h k n) {v : Value} {t : FieldType} (hd : decode code pc = .ok (.areturn, 1)) (hr : ret = some t) (ht : t.isReference = true) (hv : v.isRef = true) (q : Q (some v) h) (hG : ∀ (v : Option Value) (t : State) (L : List Loc), t.heap = h → FrameEnd s (.returned v) t L k n → G (.returned v) t L := by exact FE_mono (by decide) (by decide)) : Run p e below n0 Q G m T pc ls (v :: st) := by
  subst hr
  refine Run.done C X (fun w => by cases w) hG q (fun locs fs Y hr => ?_)
  exact retOut Y C.1 C.2.2.2.2.2.1 (t := t) (by rcases ref_cases hv with rfl | ⟨_, rfl⟩ <;> cases t <;> first | rfl | simp [FieldType.isReference] at ht) (Or.inr (Or.inr (Or.inr (Or.inr ⟨rfl, ht, hv⟩)))) (C.d hd) hr
theorem s_getfield (pc' : Nat) (C : Cx tabs a0 Z own nm code ml ret p s m meth c) (X : St p l e R s m args below meth c n0 T h k n) {R0 O fn d host : String} {idx : Nat} {a : Addr} {v : Value} (hd : decode code pc = .ok (.getfield idx, 3)) (w : Jvm.Cond.fieldLink own idx R0 fn d ∈ tabs ∨ Jvm.Cond.fieldLinkNest own idx R0 fn d host ∈ tabs) (via : Via Z R0 O fn d) (F : Fld Z h a O fn d v) (r : ∀ T', St p l e R s m args below meth c n0 T' h k n → Run p e below n0 Q G m T' pc' ls (v :: st)) (hp : pc + 3 = pc' := by rfl) : Run p e below n0 Q G m T pc ls (.ref a :: st) := by
  subst hp
  obtain ⟨locs, Y, eT, N, q⟩ := X
  obtain ⟨T', Y', e', f⟩ := getF (host := host) Y C.1 C.2.1 C.2.2.2.2.1 (w.imp C.w C.w) via eT F (g := mkF m pc ls (.ref a :: st)) rfl rfl (C.d hd)
  exact Run.step f (r T' ⟨locs, Y', e', N, q⟩)
theorem s_getstatic (pc' : Nat) (C : Cx tabs a0 Z own nm code ml ret p s m meth c) (X : St p l e R s m args below meth c n0 T h k n) {R0 O fn d host : String} {idx : Nat} {v : Value} (hd : decode code pc = .ok (.getstatic idx, 3)) (w : Jvm.Cond.fieldLink own idx R0 fn d ∈ tabs ∨ Jvm.Cond.fieldLinkNest own idx R0 fn d host ∈ tabs) (via : Via Z R0 O fn d) (F : Sta Z h O fn d v) (r : ∀ T', St p l e R s m args below meth c n0 T' h k n → Run p e below n0 Q G m T' pc' ls (v :: st)) (hp : pc + 3 = pc' := by rfl) : Run p e below n0 Q G m T pc ls st := by
  subst hp
  obtain ⟨locs, Y, eT, N, q⟩ := X
  obtain ⟨T', Y', e', f⟩ := getS2 (host := host) Y C.1 C.2.1 C.2.2.2.2.1 (w.imp C.w C.w) via eT F (g := mkF m pc ls st) rfl (C.d hd)
  exact Run.step f (r T' ⟨locs, Y', e', N, q⟩)
theorem s_putfield (pc' : Nat) (C : Cx tabs a0 Z own nm code ml ret p s m meth c) (X : St p l e R s m args below meth c n0 T h k n) {R0 O fn d host K : String} {idx kk : Nat} {ty : FieldType} {a : Addr} {v old : Value} (hd : decode code pc = .ok (.putfield idx, 3)) (w : Jvm.Cond.fieldLink own idx R0 fn d ∈ tabs ∨ Jvm.Cond.fieldLinkNest own idx R0 fn d host ∈ tabs) (via : Via Z R0 O fn d) (F : Fld Z h a O fn d old) (E : Exa Z h a K) (L : Jvm.Cond.lays K O fn d ∈ tabs ∨ (Jvm.Cond.laysFinal K O fn d ∈ tabs ∧ own = O ∧ nm = "<init>")) (wi : Jvm.Cond.instantiable K kk ∈ tabs) (hty : parseFieldDescriptor d = some ty) (hn : narrow ty v = v) (hf : fits ty v = true) (ge : n0 ≤ a)
    (r : ∀ T' h', St p l e R s m args below meth c n0 T' h' k n → Wr h h' a (RoadKit.slotOf Z O fn d) v → Run p e below n0 Q G m T' pc' ls st) (hp : pc + 3 = pc' := by rfl) : Run p e below n0 Q G m T pc ls (v :: .ref a :: st) := by
  subst hp
  obtain ⟨locs, Y, eT, N, q⟩ := X
  obtain ⟨T', h', Y', e', W, f⟩ := putF (host := host) Y C.1 C.2.1 C.2.2.2.2.1 (w.imp C.w C.w) via eT F E (L.imp C.w fun z => ⟨C.w z.1, z.2.1, C.2.2.2.2.2.2.2.1.trans z.2.2⟩) (C.w wi) hty hn hf (g := mkF m pc ls (v :: .ref a :: st)) rfl rfl (C.d hd)
  exact Run.step f (r T' h' ⟨_, Y', e', Fr.snoc Y' N ge, q⟩ W)
theorem s_new (pc' : Nat) (C : Cx tabs a0 Z own nm code ml ret p s m meth c) (X : St p l e R s m args below meth c n0 T h k n) {K : String} {idx nn : Nat} (hd : decode code pc = .ok (.new idx, 3)) (w1 : Jvm.Cond.classLink own idx K ∈ tabs) (w2 : Jvm.Cond.instantiable K nn ∈ tabs) (w3 : Jvm.Cond.initialized K ∈ tabs)
    (r : ∀ T' h' b, h.size = b → St p l e R s m args below meth c n0 T' h' (k + 1) (n + nn) → Ext h h' → Exa Z h' b K → (∀ {O fn d : String} {ty : FieldType}, Laid Z a0 K O fn d → parseFieldDescriptor d = some ty → Fld Z h' b O fn d (defaultValue ty)) → n0 ≤ b → Run p e below n0 Q G m T' pc' ls (.ref b :: st)) (hp : pc + 3 = pc' := by rfl) (hc : k + 1 ≤ R.cells ∧ n + nn ≤ R.slots := by decide) : Run p e below n0 Q G m T pc ls st := by
  subst hp
  have hz := X.sz
  obtain ⟨locs, Y, eT, N, q⟩ := X
  obtain ⟨T', h', Y', e', E, A, D, -, f⟩ := newO Y C.1 C.2.1 C.2.2.2.2.1 (C.w w1) (C.w w2) (C.w w3) eT (g := mkF m pc ls st) rfl (C.d hd) hc.1 hc.2
  exact Run.step f (r T' h' _ rfl ⟨locs, Y', e', N, q⟩ E A D hz)
theorem s_objInit (pc' : Nat) (C : Cx tabs a0 Z own nm code ml ret p s m meth c) (X : St p l e R s m args below meth c n0 T h k n) {idx W : Nat} {a : Addr} (hd : decode code pc = .ok (.invokespecial idx, 3)) (w1 : Jvm.Cond.methodLink own idx Lib.objectInit ∈ tabs) (w2 : Jvm.Cond.instanceMethod Lib.objectInit ∈ tabs) (w3 : Jvm.Cond.code Lib.objectInit ⟨#[0xb1]⟩ 1 none ∈ tabs) (hsz : ls.size = ml) (hW : (st.map fun v => v.category).sum = W) (hf : 1 ≤ R.frames ∧ W + 12 ≤ R.locals)
    (r : ∀ T', St p l e R s m args below meth c n0 T' h k n → Run p e below n0 Q G m T' pc' ls st) (hp : pc + 3 = pc' := by rfl) : Run p e below n0 Q G m T pc ls (.ref a :: st) := by
  subst hp
  obtain ⟨locs, Y, eT, N, q⟩ := X
  obtain ⟨T', Y', e', f⟩ := initO Y C.1 C.2.1 C.2.2.2.2.1 (C.w w1) (C.w w2) (C.w w3) eT (g := mkF m pc ls (.ref a :: st)) rfl (hsz.trans C.2.2.2.1.symm) rfl (C.d hd) hf.1 (W := W) (by show 2 * 0 + _ ≤ _; rw [hW]; omega) hf.2
  exact Run.step f (r T' ⟨locs, Y', e', N, q⟩)
theorem s_castY (pc' : Nat) (C : Cx tabs a0 Z own nm code ml ret p s m meth c) (X : St p l e R s m args below meth c n0 T h k n) {K : String} {idx : Nat} {a : Addr} (hd : decode code pc = .ok (.checkcast idx, 3)) (w : Jvm.Cond.classLink own idx K ∈ tabs) (F : Ins Z h a K true) (r : ∀ T', St p l e R s m args below meth c n0 T' h k n → Run p e below n0 Q G m T' pc' ls (.ref a :: st)) (hp : pc + 3 = pc' := by rfl) : Run p e below n0 Q G m T pc ls (.ref a :: st) := by
  subst hp
  obtain ⟨locs, Y, eT, N, q⟩ := X
  obtain ⟨T', Y', e', f⟩ := castY Y C.1 C.2.1 C.2.2.2.2.1 (C.w w) eT F (g := mkF m pc ls (.ref a :: st)) rfl rfl (C.d hd)
  exact Run.step f (r T' ⟨locs, Y', e', N, q⟩)
theorem s_newarray (pc' : Nat) (cap : Nat) (C : Cx tabs a0 Z own nm code ml ret p s m meth c) (X : St p l e R s m args below meth c n0 T h k n) {aty : ArrayType} {z : Int32} (hd : decode code pc = .ok (.newarray aty, 2)) (w : Jvm.Cond.arrayClass (newarray.typeOf aty) ∈ tabs) (hz : ¬ z < 0) (hcap : z.toNatClampNeg ≤ cap)
    (r : ∀ T' h' b kA, h.size = b → St p l e R s m args below meth c n0 T' h' (k + 1) (n + cap) → Ext h h' → Arv Z h' b kA (newarray.typeOf aty) z [] (defaultValue (newarray.typeOf aty)) → n0 ≤ b → Run p e below n0 Q G m T' pc' ls (.ref b :: st)) (hp : pc + 2 = pc' := by rfl) (hc : cap * 8 ≤ 536870912 ∧ k + 1 ≤ R.cells ∧ n + cap ≤ R.slots := by decide) : Run p e below n0 Q G m T pc ls (.int z :: st) := by
  subst hp
  have hs := X.sz
  obtain ⟨locs, Y, eT, N, q⟩ := X
  obtain ⟨T', h', kA, Y', e', E, A, f⟩ := newP Y C.1 C.2.1 (C.w w) eT (g := mkF m pc ls (.int z :: st)) rfl (C.d hd) rfl hz hcap hc.1 hc.2.1 hc.2.2
  exact Run.step f (r T' h' _ kA rfl ⟨locs, Y', e', N, q⟩ E (Arv.new A hz) hs)
theorem s_lastore (pc' : Nat) (i : Nat) (C : Cx tabs a0 Z own nm code ml ret p s m meth c) (X : St p l e R s m args below meth c n0 T h k n) {a : Addr} {kA : ClassId} {z j : Int32} {x : Int64} {vs : List Value} {dv : Value} (hd : decode code pc = .ok (.lastore, 1)) (F : Arv Z h a kA .long z vs dv) (ge : n0 ≤ a) (hj : ¬ j < 0 ∧ j < z) (hi : j.toNatClampNeg = i) (hl : i < vs.length)
    (r : ∀ T' h', St p l e R s m args below meth c n0 T' h' k n → Wr h h' a j.toNatClampNeg (.long x) → Arv Z h' a kA .long z (vs.set i (.long x)) dv → Run p e below n0 Q G m T' pc' ls st) (hp : pc + 1 = pc' := by rfl) : Run p e below n0 Q G m T pc ls (.long x :: .int j :: .ref a :: st) := by
  subst hp
  obtain ⟨locs, Y, eT, N, q⟩ := X
  obtain ⟨cl, A, q1, S, q3, H, G⟩ := F
  obtain ⟨T', h', Y', e', W, f⟩ := stJ Y C.1 C.2.1 eT A (j := j) (inb_of S hj) (g := mkF m pc ls (.long x :: .int j :: .ref a :: st)) rfl rfl (C.d hd)
  exact Run.step f (r T' h' ⟨_, Y', e', Fr.snoc Y' N ge, q⟩ W (Arv.set A q1 S q3 H G (rfl) W i hi hl))
theorem s_laload (pc' : Nat) (C : Cx tabs a0 Z own nm code ml ret p s m meth c) (X : St p l e R s m args below meth c n0 T h k n) {a : Addr} {kA : ClassId} {z j : Int32} {v : Value} {vs : List Value} {dv : Value} (hd : decode code pc = .ok (.laload, 1)) (F : Arv Z h a kA .long z vs dv) (hj : ¬ j < 0 ∧ j < z) (hv : vs.getD j.toNatClampNeg dv = v)
    (r : Run p e below n0 Q G m T pc' ls (v :: st)) (hp : pc + 1 = pc' := by rfl) : Run p e below n0 Q G m T pc ls (.int j :: .ref a :: st) := by
  subst hp
  obtain ⟨locs, Y, eT, N, q⟩ := X
  obtain ⟨cl, A, q1, S, q3, H, G⟩ := F
  exact Run.step (fun t q => Y.laload C.1 (j := j) (v := v) (by rw [eT]; exact A.1) (State.isArrayOf_alike C.2.1.alike A.2.1) A.2.2 (inb_of S hj) (H.at (inb_of S hj) hv) (g := mkF m pc ls (.int j :: .ref a :: st)) rfl rfl (C.d hd) t q) r
theorem s_aaload (pc' : Nat) (C : Cx tabs a0 Z own nm code ml ret p s m meth c) (X : St p l e R s m args below meth c n0 T h k n) {a : Addr} {kA : ClassId} {z j : Int32} {v : Value} {ty : FieldType} {vs : List Value} {dv : Value} (hd : decode code pc = .ok (.aaload, 1)) (F : Arv Z h a kA ty z vs dv) (ht : ty.isReference = true) (hj : ¬ j < 0 ∧ j < z) (hv : vs.getD j.toNatClampNeg dv = v)
    (r : Run p e below n0 Q G m T pc' ls (v :: st)) (hp : pc + 1 = pc' := by rfl) : Run p e below n0 Q G m T pc ls (.int j :: .ref a :: st) := by
  subst hp
  obtain ⟨locs, Y, eT, N, q⟩ := X
  obtain ⟨cl, A, q1, S, q3, H, G⟩ := F
  exact Run.step (fun t q => Y.aaload C.1 (j := j) (v := v) (by rw [eT]; exact A.1) (State.isArrayOf_alike C.2.1.alike A.2.1) ht A.2.2 (inb_of S hj) (H.at (inb_of S hj) hv) (g := mkF m pc ls (.int j :: .ref a :: st)) rfl rfl (C.d hd) t q) r
theorem s_arraylength (pc' : Nat) (C : Cx tabs a0 Z own nm code ml ret p s m meth c) (X : St p l e R s m args below meth c n0 T h k n) {a : Addr} {kA : ClassId} {z : Int32} {ty : FieldType} {vs : List Value} {dv : Value} (hd : decode code pc = .ok (.arraylength, 1)) (F : Arv Z h a kA ty z vs dv)
    (r : Run p e below n0 Q G m T pc' ls (.int z :: st)) (hp : pc + 1 = pc' := by rfl) : Run p e below n0 Q G m T pc ls (.ref a :: st) := by
  subst hp
  obtain ⟨locs, Y, eT, N, q⟩ := X
  obtain ⟨cl, A, q1, S, q3, H, G⟩ := F
  rw [← len_of S q3] at r
  exact Run.step (fun t q => Y.arraylength C.1 (by rw [eT]; exact A.1) (State.isArrayOf_alike C.2.1.alike A.2.1) (g := mkF m pc ls (.ref a :: st)) rfl rfl (C.d hd) t q) r
theorem s_anewarray (pc' : Nat) (cap : Nat) (ad : String) (C : Cx tabs a0 Z own nm code ml ret p s m meth c) (X : St p l e R s m args below meth c n0 T h k n) {K : String} {idx : Nat} {z : Int32} (hd : decode code pc = .ok (.anewarray idx, 3)) (w1 : Jvm.Cond.classLink own idx K ∈ tabs) (w2 : Jvm.Cond.arrayOver (.object K) ∈ tabs) (hz : ¬ z < 0) (hcap : z.toNatClampNeg ≤ cap) (had : "[" ++ (FieldType.object K).toString = ad)
    (r : ∀ T' h' b kA, h.size = b → St p l e R s m args below meth c n0 T' h' (k + 1) (n + cap) → Ext h h' → Arv Z h' b kA (.object K) z [] .null → Exa Z h' b ad → Ovr Z kA K → n0 ≤ b → Run p e below n0 Q G m T' pc' ls (.ref b :: st)) (hp : pc + 3 = pc' := by rfl) (hc : cap * 8 ≤ 536870912 ∧ k + 1 ≤ R.cells ∧ n + cap ≤ R.slots := by decide) : Run p e below n0 Q G m T pc ls (.int z :: st) := by
  subst hp
  have hs := X.sz
  obtain ⟨locs, Y, eT, N, q⟩ := X
  obtain ⟨T', h', kA, Y', e', E, A, EA, O, f⟩ := newRE Y C.1 C.2.1 C.2.2.2.2.1 (C.w w1) (C.w w2) eT (g := mkF m pc ls (.int z :: st)) rfl (C.d hd) rfl hz hcap hc.1 hc.2.1 hc.2.2 had
  exact Run.step f (r T' h' _ kA rfl ⟨locs, Y', e', N, q⟩ E (Arv.new A hz) EA O hs)
theorem s_aastore (pc' : Nat) (i : Nat) (C : Cx tabs a0 Z own nm code ml ret p s m meth c) (X : St p l e R s m args below meth c n0 T h k n) {a : Addr} {kA : ClassId} {ty : FieldType} {z j : Int32} {v : Value} {vs : List Value} {dv : Value} (hd : decode code pc = .ok (.aastore, 1)) (F : Arv Z h a kA ty z vs dv) (ht : ty.isReference = true) (hf : fits ty v = true) (hS : ∀ cl, Arr Z h a cl ty → cl.cls = kA → Sto Z h a v) (ge : n0 ≤ a) (hj : ¬ j < 0 ∧ j < z) (hi : j.toNatClampNeg = i) (hl : i < vs.length)
    (r : ∀ T' h', St p l e R s m args below meth c n0 T' h' k n → Wr h h' a j.toNatClampNeg v → Arv Z h' a kA ty z (vs.set i v) dv → Run p e below n0 Q G m T' pc' ls st) (hp : pc + 1 = pc' := by rfl) : Run p e below n0 Q G m T pc ls (v :: .int j :: .ref a :: st) := by
  subst hp
  obtain ⟨locs, Y, eT, N, q⟩ := X
  obtain ⟨cl, A, q1, S, q3, H, G⟩ := F
  obtain ⟨T', h', Y', e', W, f⟩ := RoadKit.stR Y C.1 C.2.1 eT A (j := j) (inb_of S hj) ht (hS cl A q1) (g := mkF m pc ls (v :: .int j :: .ref a :: st)) rfl rfl (C.d hd)
  exact Run.step f (r T' h' ⟨_, Y', e', Fr.snoc Y' N ge, q⟩ W (Arv.set A q1 S q3 H G hf W i hi hl))
/-- a method's contract at given arguments and a given heap -/
def Met (l : Launch) (Z : State) (y : MethodName) (bytes : ByteArray) (ml : Nat) (ret : Option FieldType) (rm : Room) (ws : List Jvm.Cond) (as : Array Value) (h : Heap) (n0 : Nat) (Q : Option Value → Heap → Prop) : Prop :=
  MetFree l y (head1 (Jvm.Cond.code y bytes ml ret :: ws) rm) (fun a U => a = as ∧ Z.Warmed39 U.vm ∧ U.heap = h) (fun _ _ _ _ _ => True) (fun _ U o U' => ∃ v L, o = .returned v ∧ (Q v U'.heap ∧ Fr n0 L) ∧ FrameEnd U o U' L rm.cells rm.slots)
theorem Met.mk {y : MethodName} {rm : Room} {ws : List Jvm.Cond} {as : Array Value} {ls0 : Array Slot} (hpl : plainFor y = true) (hw : ∀ d ∈ tabs, d.before a0 Z = true) (hn : n0 ≤ h.size) (hef : ∀ m, entryFrame m as ml = mkF m 0 ls0 [])
    (body : ∀ p e s m below meth c T, Cx tabs a0 Z y.cls y.name code ml ret p s m meth c → St p l e rm s m as below meth c n0 T h 0 0 → Run p e below n0 Q (fun o t L => FrameEnd s o t L rm.cells rm.slots) m T 0 ls0 []) : Met l Z y code ml ret rm ws as h n0 Q := by
  refine MetFree.of_bodySF hpl hisR ?_
  intro p e s m args below meth c s₁ Bd hml0 hP hK
  obtain ⟨rfl, hZ, rfl⟩ := hP
  have X0 : Stand p l e rm s m args below meth c s₁ [] 0 0 := Stand.of_body Bd
  have e0 : s₁.heap = s.heap := by rw [Bd.state]; rfl
  have r := body p e s m below meth c s₁ ⟨Bd.exec, hZ, Bd.bytes, hml0, findClass_of_methodNamed Bd.named, Bd.returns, Bd.notSynchronized, (name_of_methodNamed Bd.named Bd.method).1, hw⟩ ⟨[], X0, e0, Fr.nil n0, hn⟩
  obtain ⟨s₂, o, h1, h2⟩ := r
  exact ⟨s₂, o, castTop (hef m) h1, h2⟩
theorem s_callS (pc' : Nat) (argsL rest : List Value) (W : Nat) (C : Cx tabs a0 Z own nm code ml ret p s m meth c) (X : St p l e R s m args below meth c n0 T h k n) {idx : Nat} {y : MethodName} {bytes : ByteArray} {maxL : Nat} {rt : Option FieldType} {rm : Room} {stk : List Value} {Q1 : Option Value → Heap → Prop} (hd : decode code pc = .ok (.invokestatic idx, 3)) (w1 : Jvm.Cond.methodLink own idx y ∈ tabs) (w2 : Jvm.Cond.static y ∈ tabs) (w3 : Jvm.Cond.initialized y.cls ∈ tabs) (w4 : Jvm.Cond.code y bytes maxL rt ∈ tabs)
    (M : Met l Z y bytes maxL rt rm [] argsL.toArray h n0 Q1) (hlen : ∀ sig, parseMethodDescriptor y.desc = some sig → argsL.length = sig.parameters.length) (hs : stk = argsL.reverse ++ rest) (hsz : ls.size = ml) (hW : (rest.map fun v => v.category).sum = W)
    (r : ∀ T' v h', St p l e R s m args below meth c n0 T' h' (k + rm.cells) (n + rm.slots) → Q1 v h' → Run p e below n0 Q G m T' pc' ls (v.toList ++ rest)) (hp : pc + 3 = pc' := by rfl) (hr : rm.frames + 1 ≤ R.frames ∧ W + (maxL + 11) + rm.locals ≤ R.locals ∧ k + rm.cells ≤ R.cells ∧ n + rm.slots ≤ R.slots := by decide) (hy : y.cls ≠ "java/lang/invoke/MethodHandle" ∧ y.cls ≠ "java/lang/invoke/VarHandle" := by decide) : Run p e below n0 Q G m T pc ls stk := by
  subst hp hs
  obtain ⟨locs, Y, eT, N, q⟩ := X
  obtain ⟨v, _, ⟨T1, L1, k1, n1⟩, -, Y', ⟨Lc, hQ, l1, y1, z1⟩, f⟩ := Jvm.LawKit.callS Y C.1 C.2.2.2.2.1 (mvT C.2.1 (C.w w1)) (mvT C.2.1 (C.w w2)) (mvT C.2.1 (C.w w3)) (mvT C.2.1 (C.w w4)) hy (backOf (W := W) (Q := fun v h L => Q1 v h ∧ Fr n0 L) M C.2.1 (C.w w4) (C.w w3) hr.1 hr.2.1) (g := mkF m pc ls (argsL.reverse ++ rest)) rfl (hsz.trans C.2.2.2.1.symm) (argsL := argsL) (rest := rest) hlen rfl (by show 2 * 0 + _ ≤ _; rw [hW]; omega) (C.d hd) (fun _ _ => ⟨rfl, eT, hr.2.2.1, hr.2.2.2⟩)
  dsimp only [Pt.U, Pt.locs, Pt.cells, Pt.slots] at Y' l1 y1 z1 f hQ
  subst l1 y1 z1
  exact Run.step f (r T1 v _ ⟨_, Y', rfl, Fr.app N hQ.2, q⟩ hQ.1)
theorem s_callC (pc' : Nat) (argsL rest : List Value) (W : Nat) (C : Cx tabs a0 Z own nm code ml ret p s m meth c) (X : St p l e R s m args below meth c n0 T h k n) {idx : Nat} {y : MethodName} {bytes : ByteArray} {maxL : Nat} {rm : Room} {stk : List Value} {Q1 : Option Value → Heap → Prop} {a : Addr} (hd : decode code pc = .ok (.invokespecial idx, 3)) (hi : y.name = "<init>") (w1 : Jvm.Cond.methodLink own idx y ∈ tabs) (w2 : Jvm.Cond.instanceMethod y ∈ tabs) (w3 : Jvm.Cond.initialized y.cls ∈ tabs) (w4 : Jvm.Cond.code y bytes maxL none ∈ tabs)
    (M : Met l Z y bytes maxL none rm [] (.ref a :: argsL).toArray h n0 Q1) (hlen : ∀ sig, parseMethodDescriptor y.desc = some sig → argsL.length = sig.parameters.length) (hs : stk = argsL.reverse ++ .ref a :: rest) (hsz : ls.size = ml) (hW : (rest.map fun v => v.category).sum = W)
    (r : ∀ T' v h', St p l e R s m args below meth c n0 T' h' (k + rm.cells) (n + rm.slots) → Q1 v h' → Run p e below n0 Q G m T' pc' ls (v.toList ++ rest)) (hp : pc + 3 = pc' := by rfl) (hr : rm.frames + 1 ≤ R.frames ∧ W + (maxL + 11) + rm.locals ≤ R.locals ∧ k + rm.cells ≤ R.cells ∧ n + rm.slots ≤ R.slots := by decide) (hy : y.cls ≠ "java/lang/invoke/MethodHandle" ∧ y.cls ≠ "java/lang/invoke/VarHandle" := by decide) : Run p e below n0 Q G m T pc ls stk := by
  subst hp hs
  obtain ⟨locs, Y, eT, N, q⟩ := X
  obtain ⟨v, _, ⟨T1, L1, k1, n1⟩, -, Y', ⟨Lc, hQ, l1, y1, z1⟩, f⟩ := Y.specialBack C.1 (y := y) hi C.2.2.2.2.1 (mvT C.2.1 (C.w w1)) (mvT C.2.1 (C.w w2)) (mvT C.2.1 (C.w w4)) hy (backOf (W := W) (Q := fun v h L => Q1 v h ∧ Fr n0 L) M C.2.1 (C.w w4) (C.w w3) hr.1 hr.2.1) (g := mkF m pc ls (argsL.reverse ++ .ref a :: rest)) rfl (hsz.trans C.2.2.2.1.symm) (Steps.refl _) (a := a) (argsL := argsL) (rest := rest) hlen rfl (by show 2 * 0 + _ ≤ _; rw [hW]; omega) (C.d hd) (fun _ _ => ⟨rfl, eT, hr.2.2.1, hr.2.2.2⟩)
  dsimp only [Pt.U, Pt.locs, Pt.cells, Pt.slots] at Y' l1 y1 z1 f hQ
  subst l1 y1 z1
  exact Run.steps f (r T1 v _ ⟨_, Y', rfl, Fr.app N hQ.2, q⟩ hQ.1)
theorem s_callV (pc' : Nat) (argsL rest : List Value) (W : Nat) (C : Cx tabs a0 Z own nm code ml ret p s m meth c) (X : St p l e R s m args below meth c n0 T h k n) {idx : Nat} {y : MethodName} {bytes : ByteArray} {maxL : Nat} {rt : Option FieldType} {rm : Room} {stk : List Value} {Q1 : Option Value → Heap → Prop} {y0 : MethodName} {K : String} {a : Addr} (hd : decode code pc = .ok (.invokevirtual idx, 3)) (w1 : Jvm.Cond.methodLink own idx y0 ∈ tabs) (w2 : Jvm.Cond.declares y0 ∈ tabs) (hnf : NotFace s y0) (w5 : Jvm.Cond.selects K y0 y ∈ tabs) (w6 : Jvm.Cond.instanceMethod y ∈ tabs) (w3 : Jvm.Cond.initialized y.cls ∈ tabs) (w4 : Jvm.Cond.code y bytes maxL rt ∈ tabs)
    (E : Exa Z h a K) (M : Met l Z y bytes maxL rt rm [] (.ref a :: argsL).toArray h n0 Q1) (hlen : ∀ sig, parseMethodDescriptor y0.desc = some sig → argsL.length = sig.parameters.length) (hs : stk = argsL.reverse ++ .ref a :: rest) (hsz : ls.size = ml) (hW : (rest.map fun v => v.category).sum = W)
    (r : ∀ T' v h', St p l e R s m args below meth c n0 T' h' (k + rm.cells) (n + rm.slots) → Q1 v h' → Run p e below n0 Q G m T' pc' ls (v.toList ++ rest)) (hp : pc + 3 = pc' := by rfl) (hr : rm.frames + 1 ≤ R.frames ∧ W + (maxL + 11) + rm.locals ≤ R.locals ∧ k + rm.cells ≤ R.cells ∧ n + rm.slots ≤ R.slots := by decide) (hy : y0.cls ≠ "java/lang/invoke/MethodHandle" ∧ y0.cls ≠ "java/lang/invoke/VarHandle" := by decide) : Run p e below n0 Q G m T pc ls stk := by
  subst hp hs
  obtain ⟨locs, Y, eT, N, q⟩ := X
  obtain ⟨cq, kq, qa, qb, qc⟩ := isOf C.2.1 eT E
  obtain ⟨v, _, ⟨T1, L1, k1, n1⟩, -, Y', ⟨Lc, hQ, l1, y1, z1⟩, f⟩ := Y.virtualBack C.1 (y := y0) (z := y) C.2.2.2.2.1 (mvT C.2.1 (C.w w1)) (mvT C.2.1 (C.w w2)) hnf (mvT C.2.1 (C.w w5)) (mvT C.2.1 (C.w w6)) hy (backOf (W := W) (Q := fun v h L => Q1 v h ∧ Fr n0 L) M C.2.1 (C.w w4) (C.w w3) hr.1 hr.2.1) qa qc (g := mkF m pc ls (argsL.reverse ++ .ref a :: rest)) rfl (hsz.trans C.2.2.2.1.symm) (Steps.refl _) (argsL := argsL) (rest := rest) hlen rfl (by show 2 * 0 + _ ≤ _; rw [hW]; omega) (C.d hd) (fun _ _ => ⟨rfl, eT, hr.2.2.1, hr.2.2.2⟩)
  dsimp only [Pt.U, Pt.locs, Pt.cells, Pt.slots] at Y' l1 y1 z1 f hQ
  subst l1 y1 z1
  exact Run.steps f (r T1 v _ ⟨_, Y', rfl, Fr.app N hQ.2, q⟩ hQ.1)
theorem s_callP (pc' : Nat) (argsL rest : List Value) (W : Nat) (C : Cx tabs a0 Z own nm code ml ret p s m meth c) (X : St p l e R s m args below meth c n0 T h k n) {idx : Nat} {y : MethodName} {bytes : ByteArray} {maxL : Nat} {rt : Option FieldType} {rm : Room} {stk : List Value} {Q1 : Option Value → Heap → Prop} {K : String} {a : Addr} (hd : decode code pc = .ok (.invokevirtual idx, 3)) (w1 : Jvm.Cond.methodLink own idx y ∈ tabs) (w2 : Jvm.Cond.instanceMethod y ∈ tabs) (w5 : Jvm.Cond.selects y.cls y y ∈ tabs) (w6 : Jvm.Cond.privateMethod y ∈ tabs) (w3 : Jvm.Cond.initialized y.cls ∈ tabs) (w4 : Jvm.Cond.code y bytes maxL rt ∈ tabs)
    (E : Exa Z h a K) (M : Met l Z y bytes maxL rt rm [] (.ref a :: argsL).toArray h n0 Q1) (hlen : ∀ sig, parseMethodDescriptor y.desc = some sig → argsL.length = sig.parameters.length) (hs : stk = argsL.reverse ++ .ref a :: rest) (hsz : ls.size = ml) (hW : (rest.map fun v => v.category).sum = W)
    (r : ∀ T' v h', St p l e R s m args below meth c n0 T' h' (k + rm.cells) (n + rm.slots) → Q1 v h' → Run p e below n0 Q G m T' pc' ls (v.toList ++ rest)) (hp : pc + 3 = pc' := by rfl) (hr : rm.frames + 1 ≤ R.frames ∧ W + (maxL + 11) + rm.locals ≤ R.locals ∧ k + rm.cells ≤ R.cells ∧ n + rm.slots ≤ R.slots := by decide) (hy : y.cls ≠ "java/lang/invoke/MethodHandle" ∧ y.cls ≠ "java/lang/invoke/VarHandle" := by decide) : Run p e below n0 Q G m T pc ls stk := by
  subst hp hs
  obtain ⟨locs, Y, eT, N, q⟩ := X
  obtain ⟨cq, qa, qb⟩ := E.cell
  obtain ⟨v, _, ⟨T1, L1, k1, n1⟩, -, Y', ⟨Lc, hQ, l1, y1, z1⟩, f⟩ := Y.privateBack C.1 (y := y) C.2.2.2.2.1 (mvT C.2.1 (C.w w1)) (mvT C.2.1 (C.w w2)) (mvT C.2.1 (C.w w5)) (Cond.privateMethod_at (mvP C.2.1 (C.w w6) (args := #[]))) (mvT C.2.1 (C.w w4)) hy (backOf (W := W) (Q := fun v h L => Q1 v h ∧ Fr n0 L) M C.2.1 (C.w w4) (C.w w3) hr.1 hr.2.1) (g := mkF m pc ls (argsL.reverse ++ .ref a :: rest)) rfl (hsz.trans C.2.2.2.1.symm) (Steps.refl _) (a := a) (by rw [eT]; exact qa) qb (argsL := argsL) (rest := rest) hlen rfl (by show 2 * 0 + _ ≤ _; rw [hW]; omega) (C.d hd) (fun _ _ => ⟨rfl, eT, hr.2.2.1, hr.2.2.2⟩)
  dsimp only [Pt.U, Pt.locs, Pt.cells, Pt.slots] at Y' l1 y1 z1 f hQ
  subst l1 y1 z1
  exact Run.steps f (r T1 v _ ⟨_, Y', rfl, Fr.app N hQ.2, q⟩ hQ.1)
theorem s_callPI (pc' : Nat) (argsL rest : List Value) (W : Nat) (C : Cx tabs a0 Z own nm code ml ret p s m meth c) (X : St p l e R s m args below meth c n0 T h k n) {idx : Nat} {y : MethodName} {bytes : ByteArray} {maxL : Nat} {rt : Option FieldType} {rm : Room} {stk : List Value} {Q1 : Option Value → Heap → Prop} {K : String} {a : Addr} {nn : Nat} (hd : decode code pc = .ok (.invokevirtual idx, 3)) (w1 : Jvm.Cond.methodLink own idx y ∈ tabs) (w2 : Jvm.Cond.instanceMethod y ∈ tabs) (w5 : Jvm.Cond.instantiable y.cls nn ∈ tabs) (w6 : Jvm.Cond.privateMethod y ∈ tabs) (w3 : Jvm.Cond.initialized y.cls ∈ tabs) (w4 : Jvm.Cond.code y bytes maxL rt ∈ tabs)
    (E : Exa Z h a K) (M : Met l Z y bytes maxL rt rm [] (.ref a :: argsL).toArray h n0 Q1) (hlen : ∀ sig, parseMethodDescriptor y.desc = some sig → argsL.length = sig.parameters.length) (hs : stk = argsL.reverse ++ .ref a :: rest) (hsz : ls.size = ml) (hW : (rest.map fun v => v.category).sum = W)
    (r : ∀ T' v h', St p l e R s m args below meth c n0 T' h' (k + rm.cells) (n + rm.slots) → Q1 v h' → Run p e below n0 Q G m T' pc' ls (v.toList ++ rest)) (hp : pc + 3 = pc' := by rfl) (hr : rm.frames + 1 ≤ R.frames ∧ W + (maxL + 11) + rm.locals ≤ R.locals ∧ k + rm.cells ≤ R.cells ∧ n + rm.slots ≤ R.slots := by decide) (hy : y.cls ≠ "java/lang/invoke/MethodHandle" ∧ y.cls ≠ "java/lang/invoke/VarHandle" := by decide) : Run p e below n0 Q G m T pc ls stk := by
  subst hp hs
  obtain ⟨locs, Y, eT, N, q⟩ := X
  obtain ⟨cq, qa, qb⟩ := E.cell
  obtain ⟨c1, k1, i1, i2, -, i4, -⟩ := Cond.instantiable_spec (mvT (args := args) C.2.1 (C.w w5))
  have hsel : (Jvm.Cond.selects y.cls y y).before args s = true := Jvm.Stand.selects_self_of_private i1 i2 (Bool.or_eq_false_iff.mp i4).1 (Cond.privateMethod_at (mvP C.2.1 (C.w w6) (args := #[]))) (mvT C.2.1 (C.w w2)) hy
  obtain ⟨v, _, ⟨T1, L1, k1, n1⟩, -, Y', ⟨Lc, hQ, l1, y1, z1⟩, f⟩ := Y.privateBack C.1 (y := y) C.2.2.2.2.1 (mvT C.2.1 (C.w w1)) (mvT C.2.1 (C.w w2)) hsel (Cond.privateMethod_at (mvP C.2.1 (C.w w6) (args := #[]))) (mvT C.2.1 (C.w w4)) hy (backOf (W := W) (Q := fun v h L => Q1 v h ∧ Fr n0 L) M C.2.1 (C.w w4) (C.w w3) hr.1 hr.2.1) (g := mkF m pc ls (argsL.reverse ++ .ref a :: rest)) rfl (hsz.trans C.2.2.2.1.symm) (Steps.refl _) (a := a) (by rw [eT]; exact qa) qb (argsL := argsL) (rest := rest) hlen rfl (by show 2 * 0 + _ ≤ _; rw [hW]; omega) (C.d hd) (fun _ _ => ⟨rfl, eT, hr.2.2.1, hr.2.2.2⟩)
  dsimp only [Pt.U, Pt.locs, Pt.cells, Pt.slots] at Y' l1 y1 z1 f hQ
  subst l1 y1 z1
  exact Run.steps f (r T1 v _ ⟨_, Y', rfl, Fr.app N hQ.2, q⟩ hQ.1)
theorem s_grid3 (pc' : Nat) (cap : Nat) (C : Cx tabs a0 Z own nm code ml ret p s m meth c) (X : St p l e R s m args below meth c n0 T h k n) {K ad : String} {ty : FieldType} {idx : Nat} {z : Int32} (hd : decode code pc = .ok (.multianewarray idx 2, 4)) (hC : (FieldType.array ty).toString = K) (had : "[" ++ K = ad) (w1 : Jvm.Cond.classLink own idx ad ∈ tabs) (w2 : Jvm.Cond.arrayOver (.array ty) ∈ tabs) (w3 : Jvm.Cond.arrayClass ty ∈ tabs) (hz : ¬ z < 0) (hcap : z.toNatClampNeg ≤ cap) (hdf : fits ty (defaultValue ty) = true) (hdd : (defaultValue ty).isDefault = true)
    (r : ∀ T' h' b x0 x1 x2 kA kC, h.size = b → h.size ≤ x0 → h.size ≤ x1 → h.size ≤ x2 → b ≠ x0 ∧ b ≠ x1 ∧ b ≠ x2 ∧ x0 ≠ x1 ∧ x0 ≠ x2 ∧ x1 ≠ x2 → St p l e R s m args below meth c n0 T' h' (k + (1 + 3)) (n + (3 + 3 * cap)) → Ext h h' → Arv Z h' b kA (.array ty) 3 [.ref x0, .ref x1, .ref x2] .null → Arv Z h' x0 kC ty z [] (defaultValue ty) → Arv Z h' x1 kC ty z [] (defaultValue ty) → Arv Z h' x2 kC ty z [] (defaultValue ty) → n0 ≤ b → n0 ≤ x0 → n0 ≤ x1 → n0 ≤ x2 → Run p e below n0 Q G m T' pc' ls (.ref b :: st)) (hp : pc + 4 = pc' := by rfl) (hc : cap * 8 ≤ 536870912 ∧ k + (1 + 3) ≤ R.cells ∧ n + (3 + 3 * cap) ≤ R.slots := by decide) : Run p e below n0 Q G m T pc ls (.int z :: .int 3 :: st) := by
  subst hp
  have hs := X.sz
  obtain ⟨locs, Y, eT, N, q⟩ := X
  obtain ⟨T', h', kA, kC, Y', e', E, A, -, -, I, f⟩ := gridM Y C.1 C.2.1 C.2.2.2.2.1 hC had (C.w w1) (C.w w2) (C.w w3) eT (g := mkF m pc ls (.int z :: .int 3 :: st)) rfl (C.d hd) rfl (by decide) hz (N := 3) (by decide) (xs := [h.size + 1 + 0, h.size + 1 + 1, h.size + 1 + 2]) (by simp [List.range, List.range.loop]) hcap hc.1 (by omega) hdf hdd hc.2.1 hc.2.2
  exact Run.step f (r T' h' _ (h.size + 1 + 0) (h.size + 1 + 1) (h.size + 1 + 2) kA kC rfl (by omega) (by omega) (by omega) (by omega) ⟨locs, Y', e', N, q⟩ E A (Arv.new (I 0 _ rfl).1 hz) (Arv.new (I 1 _ rfl).1 hz) (Arv.new (I 2 _ rfl).1 hz) hs (by omega) (by omega) (by omega))
theorem s_callI (pc' : Nat) (argsL rest : List Value) (W : Nat) (C : Cx tabs a0 Z own nm code ml ret p s m meth c) (X : St p l e R s m args below meth c n0 T h k n) {idx : Nat} {y : MethodName} {bytes : ByteArray} {maxL : Nat} {rt : Option FieldType} {rm : Room} {stk : List Value} {Q1 : Option Value → Heap → Prop} {y0 : MethodName} {K : String} {a : Addr} {ct : Nat} (hd : decode code pc = .ok (.invokeinterface idx ct, 5)) (w1 : Jvm.Cond.methodLink own idx y0 ∈ tabs) (w2 : Jvm.Cond.declares y0 ∈ tabs) (wf : Jvm.Cond.interfaceMethod y0.cls y0.cls y0.name y0.desc ∈ tabs) (w5 : Jvm.Cond.selects K y0 y ∈ tabs) (w6 : Jvm.Cond.instanceMethod y ∈ tabs) (wp : Jvm.Cond.publicMethod y ∈ tabs) (wu : Jvm.Cond.unhidden K y0.name y0.desc ∈ tabs) (wc : Jvm.Cond.castable K y0.cls ∈ tabs) (w3 : Jvm.Cond.initialized y.cls ∈ tabs) (w4 : Jvm.Cond.code y bytes maxL rt ∈ tabs)
    (E : Exa Z h a K) (M : Met l Z y bytes maxL rt rm [] (.ref a :: argsL).toArray h n0 Q1) (hlen : ∀ sig, parseMethodDescriptor y0.desc = some sig → argsL.length = sig.parameters.length) (hs : stk = argsL.reverse ++ .ref a :: rest) (hsz : ls.size = ml) (hW : (rest.map fun v => v.category).sum = W)
    (r : ∀ T' v h', St p l e R s m args below meth c n0 T' h' (k + rm.cells) (n + rm.slots) → Q1 v h' → Run p e below n0 Q G m T' pc' ls (v.toList ++ rest)) (hp : pc + 5 = pc' := by rfl) (hr : rm.frames + 1 ≤ R.frames ∧ W + (maxL + 11) + rm.locals ≤ R.locals ∧ k + rm.cells ≤ R.cells ∧ n + rm.slots ≤ R.slots := by decide) (hy : y0.cls ≠ "java/lang/invoke/MethodHandle" ∧ y0.cls ≠ "java/lang/invoke/VarHandle" := by decide) : Run p e below n0 Q G m T pc ls stk := by
  subst hp hs
  obtain ⟨locs, Y, eT, N, q⟩ := X
  obtain ⟨cq, kq, qa, qb, qc⟩ := isOf C.2.1 eT E
  obtain ⟨v, _, ⟨T1, L1, k1, n1⟩, -, Y', ⟨Lc, hQ, l1, y1, z1⟩, f⟩ := Y.interfaceBack C.1 (xi := y0) (y := y) C.2.2.2.2.1 (mvT C.2.1 (C.w w1)) (mvT C.2.1 (C.w w2)) (mvT C.2.1 (C.w wf) (by simp [Cond.onTables, Cond.keepsFace, Cond.keeps, Cond.steady, Cond.faceAtom, hy.1, hy.2])) (mvT C.2.1 (C.w w5)) (mvT C.2.1 (C.w w6)) (mvT C.2.1 (C.w wp)) (mvT C.2.1 (C.w wu)) (mvT C.2.1 (C.w wc)) hy (backOf (W := W) (Q := fun v h L => Q1 v h ∧ Fr n0 L) M C.2.1 (C.w w4) (C.w w3) hr.1 hr.2.1) qa qb qc (g := mkF m pc ls (argsL.reverse ++ .ref a :: rest)) rfl (hsz.trans C.2.2.2.1.symm) (Steps.refl _) (argsL := argsL) (rest := rest) hlen rfl (by show 2 * 0 + _ ≤ _; rw [hW]; omega) (C.d hd) (fun _ _ => ⟨rfl, eT, hr.2.2.1, hr.2.2.2⟩)
  dsimp only [Pt.U, Pt.locs, Pt.cells, Pt.slots] at Y' l1 y1 z1 f hQ
  subst l1 y1 z1
  exact Run.steps f (r T1 v _ ⟨_, Y', rfl, Fr.app N hQ.2, q⟩ hQ.1)
theorem Met.mkQ {y : MethodName} {rm : Room} {ws : List Jvm.Cond} {as : Array Value} {ls0 : Array Slot} (hpl : plainFor y = true) (hw : ∀ d ∈ tabs, d.before a0 Z = true) (hn : n0 ≤ h.size) (hef : ∀ m, entryFrame m as ml = mkF m 0 ls0 [])
    (body : ∀ p e s m below meth c T (Q' : Option Value → Heap → Prop) (G' : Outcome → State → List Loc → Prop), (∀ v h', Q v h' → Q' v h') → (∀ v t L, FrameEnd s (.returned v) t L rm.cells rm.slots → G' (.returned v) t L) → Cx tabs a0 Z y.cls y.name code ml ret p s m meth c → St p l e rm s m as below meth c n0 T h 0 0 → Run p e below n0 Q' G' m T 0 ls0 []) : Met l Z y code ml ret rm ws as h n0 Q :=
  Met.mk hpl hw hn hef (fun p e s m below meth c T C X => body p e s m below meth c T Q _ (fun _ _ q => q) (fun _ _ _ q => q) C X)
theorem FG {kc ks : Nat} {G' : Outcome → State → List Loc → Prop} (hG : ∀ v t L, FrameEnd s (.returned v) t L kc ks → G' (.returned v) t L) (hk : k ≤ kc) (hn : n ≤ ks) : ∀ (v : Option Value) (t : State) (L : List Loc), t.heap = h → FrameEnd s (.returned v) t L k n → G' (.returned v) t L := fun v t L _ q => hG v t L ⟨q.1, q.2.1, q.2.2.mono hk hn⟩
theorem s_refSteps {tb : Tables} [Ours tb] {e : Env} {below : List Frame} {s U : State} {mm : MethodId} {cc : Code} (h : At U mm cc below) (hexec : tb.exec = Jvm.exec) (hW : s.WarmedH U.vm)
    {own : String} (hown : s.vm.findClass own = some mm.cls) {idx : Nat} {t : MethodName} (ht1 : t.name = "<init>")
    (hnot : t.cls ≠ "java/lang/invoke/MethodHandle" ∧ t.cls ≠ "java/lang/invoke/VarHandle") {args : Array Value} {bytes : ByteArray} {maxL : Nat} {V : State} (hV : V.vm = U.vm)
    (href : (Cond.methodRef own idx t).before args V = true) (hinst : (Cond.instanceMethod t).before args s = true) (hcode : (Cond.code t bytes maxL none).before args s = true)
    {f : JFrame} (hf : f.method = mm) {a : Addr} {argsL rest : List Value} (hlen : ∀ sig, parseMethodDescriptor t.desc = some sig → argsL.length = sig.parameters.length) (hstack : f.stack = argsL.reverse ++ .ref a :: rest) (hd : decode cc.code f.pc = .ok (.invokespecial idx, 3)) :
    ∃ tm, s.methodNamed? t = some tm ∧
      ∀ target, (∀ acts, Steps tb e below (doInvoke e (U.setTop { f with stack := rest }) acts tm (.ref a :: argsL).toArray).1 target) → Steps tb e below (U.setTop f) target := by
  subst hf
  obtain ⟨obj, methO, hnO, hmO, hstO, habO⟩ := Cond.instanceMethod_spec hinst
  obtain ⟨methO', cO, hmO', hcO, hbO, hlO, -, hlockO, -, hsigO⟩ := Cond.code_spec hnO hcode
  cases hmO.symm.trans hmO'
  obtain ⟨kO, hkO, hnameO⟩ := className_of_methodNamed hnO
  obtain ⟨hnameMO, hdescO⟩ := name_of_methodNamed hnO hmO
  have hcur : V.vm.findClass own = some f.method.cls := by rw [hV, hW.alike.findClass]; exact hown
  obtain ⟨m', c', hfm, hready, hfc, hnr⟩ := Cond.methodRef_named e hcur href
  have hnV : V.methodNamed? t = some obj := by
    have q := State.methodNamed?_setVm (s := s) hW.alike t
    rw [← hnO, ← q]
    simp only [State.methodNamed?, State.vm_setVm, hV]
  cases (State.methodFound?_of_named hnV hnot).symm.trans hfm
  have hcc : c' = obj.cls := by
    have q := findClass_of_methodNamed hnV
    exact Option.some.inj (hfc.symm.trans q)
  subst hcc
  rw [hV] at hready hnr
  obtain ⟨kO₂, hkO₂, heO₂⟩ := hW.alike.2.2 _ _ hkO
  have hmO₂ : U.vm.method? obj = some methO := by rw [hW.alike.method?]; exact hmO
  have hfound : lookupSpecial U.vm obj.cls "<init>" methO.desc = .method obj := by
    rw [hW.alike.lookupSpecial, hdescO, ← ht1]; exact lookupSpecial_of_named hnO hmO hstO
  refine ⟨obj, hnO, fun target hrest => ?_⟩
  jvm_step h [hexec, hd, invokespecial.wp_init (e := e) (s := U) (k := kO₂) (meth := methO) (m := obj) (a := a) (args := argsL) (rest := rest) (f := f)
      h.top hnr hready hkO₂ hmO₂ (by rw [hnameMO]; exact ht1) hstO habO hfound (hlen _ hsigO) hstack]
  exact hrest
theorem s_callCR (pc' : Nat) (argsL rest : List Value) (W : Nat) (C : Cx tabs a0 Z own nm code ml ret p s m meth c) (X : St p l e R s m args below meth c n0 T h k n) {idx : Nat} {y : MethodName} {bytes : ByteArray} {maxL : Nat} {rm : Room} {stk : List Value} {Q1 : Option Value → Heap → Prop} {a : Addr} (hd : decode code pc = .ok (.invokespecial idx, 3)) (hi : y.name = "<init>") (w1 : Jvm.Cond.methodRef own idx y ∈ tabs) (w2 : Jvm.Cond.instanceMethod y ∈ tabs) (w3 : Jvm.Cond.initialized y.cls ∈ tabs) (w4 : Jvm.Cond.code y bytes maxL none ∈ tabs)
    (M : Met l Z y bytes maxL none rm [] (.ref a :: argsL).toArray h n0 Q1) (hlen : ∀ sig, parseMethodDescriptor y.desc = some sig → argsL.length = sig.parameters.length) (hs : stk = argsL.reverse ++ .ref a :: rest) (hsz : ls.size = ml) (hW : (rest.map fun v => v.category).sum = W)
    (r : ∀ T' v h', St p l e R s m args below meth c n0 T' h' (k + rm.cells) (n + rm.slots) → Q1 v h' → Run p e below n0 Q G m T' pc' ls (v.toList ++ rest)) (hp : pc + 3 = pc' := by rfl) (hr0 : rm.frames + 1 ≤ R.frames ∧ W + (maxL + 11) + rm.locals ≤ R.locals ∧ k + rm.cells ≤ R.cells ∧ n + rm.slots ≤ R.slots := by decide) (hy : y.cls ≠ "java/lang/invoke/MethodHandle" ∧ y.cls ≠ "java/lang/invoke/VarHandle" := by decide) : Run p e below n0 Q G m T pc ls stk := by
  subst hp hs
  obtain ⟨locs, Y, eT, N, q⟩ := X
  have hZT : Z.Warmed39 T.vm := wtrans C.2.1 Y.warmed
  obtain ⟨mz, -, hnz, -⟩ := Cond.instanceMethod_spec (C.w w2)
  have hr := Cond.methodRef_warmed39 hZT hnz hy (C.w w1)
  obtain ⟨mk, hnamed, hstep⟩ := s_refSteps (e := e) Y.here C.1 Y.warmed C.2.2.2.2.1 hi hy (V := Z.setVm T.vm) (args := args) rfl (by simpa [Cond.before, Cond.holds, Cond.value] using hr) (mvT C.2.1 (C.w w2)) (mvT C.2.1 (C.w w4)) (f := mkF m pc ls (argsL.reverse ++ .ref a :: rest)) rfl hlen rfl (C.d hd)
  obtain ⟨v, ⟨T1, L1, k1, n1⟩, Y', ⟨Lc, hQ, l1, y1, z1⟩, f⟩ := (backOf (W := W) (Q := fun v h L => Q1 v h ∧ Fr n0 L) M C.2.1 (C.w w4) (C.w w3) hr0.1 hr0.2.1) m meth c ⟨T, locs, k, n⟩ { mkF m pc ls (argsL.reverse ++ .ref a :: rest) with stack := rest } (.invokespecial idx) mk (.ref a :: argsL).toArray Y rfl (hsz.trans C.2.2.2.1.symm) (C.d hd) (by show 2 * 0 + _ ≤ _; rw [hW]; omega) (Y.named hnamed) ⟨rfl, eT, hr0.2.2.1, hr0.2.2.2⟩
  dsimp only [Pt.U, Pt.locs, Pt.cells, Pt.slots] at Y' l1 y1 z1 f hQ
  subst l1 y1 z1
  exact Run.steps ((hstep _ fun acts => by rw [doInvoke_state]; exact Steps.refl _).trans f) (r T1 v _ ⟨_, Y', rfl, Fr.app N hQ.2, q⟩ hQ.1)
theorem mW {α : Type} {l : List α} {a : α} (i : Nat) (h : l[i]? = some a) : a ∈ l := List.mem_of_getElem? h
theorem oth {Z : State} {h h' : Heap} {a b : Addr} {v w : Value} {a0 : Array Value} {K C n d O' n' d' : String} (F : Fld Z h b C n d w) (W : Wr h h' a (Jvm.RoadKit.slotOf Z O' n' d') v) (L : Laid Z a0 K C n d) (L' : Laid Z a0 K O' n' d') (q : (n != n' && (parseFieldDescriptor d).isSome && (parseFieldDescriptor d').isSome) = true) : Fld Z h' b C n d w := by
  simp only [Bool.and_eq_true, bne_iff_ne, Option.isSome_iff_exists] at q
  obtain ⟨⟨q1, t, q2⟩, t', q3⟩ := q
  exact F.other W (Or.inr (slot_ne L L' q1 q2 q3))
variable {EL : List (String × Nat)} {so : List Addr} {vm : Vm} {k1 : Nat}
end A
end Jvm.OwnK
namespace Jvm.Pilot.@@N@@
open Jvm Jvm.ClassFile Sem Op Lib Jvm.Free Jvm.Stand Jvm.LawKit Jvm.RoadKit Bundle Jvm.OwnK Jvm.Pilot.@@N@@.Jvm.D
theorem pn_com_example_dayweave_dayweave_solve_TemporalNetworkMinimisePinLaw : plainName "com/example/dayweave/dayweave/solve/TemporalNetworkMinimisePinLaw" = true := by first | (simp [plainName, overriddenIn]; done) | decide +kernel
theorem kc_iconst_3 : Int32.ofInt 3 = (3 : Int32) := by decide +kernel
theorem d1_0 : decode prog_67_method_1_code 0 = .ok (.aload_n 0, 1) := by decide +kernel
theorem d1_1 : decode prog_67_method_1_code 1 = .ok (.invokespecial 3, 3) := by decide +kernel
theorem d1_4 : decode prog_67_method_1_code 4 = .ok (.aload_n 0, 1) := by decide +kernel
theorem d1_5 : decode prog_67_method_1_code 5 = .ok (.iload_n 1, 1) := by decide +kernel
theorem d1_6 : decode prog_67_method_1_code 6 = .ok (.iload_n 1, 1) := by decide +kernel
theorem d1_7 : decode prog_67_method_1_code 7 = .ok (.multianewarray 9 2, 4) := by decide +kernel
theorem d1_11 : decode prog_67_method_1_code 11 = .ok (.putfield 11, 3) := by decide +kernel
theorem d1_14 : decode prog_67_method_1_code 14 = .ok (.iconst 0, 1) := by decide +kernel
theorem kc_iconst_0 : Int32.ofInt 0 = (0 : Int32) := by decide +kernel
theorem d1_15 : decode prog_67_method_1_code 15 = .ok (.istore_n 2, 1) := by decide +kernel
theorem d1_16 : decode prog_67_method_1_code 16 = .ok (.iload_n 2, 1) := by decide +kernel
theorem d1_17 : decode prog_67_method_1_code 17 = .ok (.iload_n 1, 1) := by decide +kernel
theorem d1_18 : decode prog_67_method_1_code 18 = .ok (.if_icmp .ge 30, 3) := by decide +kernel
theorem d1_21 : decode prog_67_method_1_code 21 = .ok (.aload_n 0, 1) := by decide +kernel
theorem d1_22 : decode prog_67_method_1_code 22 = .ok (.getfield 11, 3) := by decide +kernel
theorem d1_25 : decode prog_67_method_1_code 25 = .ok (.iload_n 2, 1) := by decide +kernel
theorem d1_26 : decode prog_67_method_1_code 26 = .ok (.aaload, 1) := by decide +kernel
theorem d1_27 : decode prog_67_method_1_code 27 = .ok (.ldc2_w 16, 3) := by decide +kernel
theorem d1_30 : decode prog_67_method_1_code 30 = .ok (.invokestatic 18, 3) := by decide +kernel
theorem d3_0 : decode jdk_65_method_101_code 0 = .ok (.iconst 0, 1) := by decide +kernel
theorem d3_1 : decode jdk_65_method_101_code 1 = .ok (.istore_n 3, 1) := by decide +kernel
theorem d3_2 : decode jdk_65_method_101_code 2 = .ok (.aload_n 0, 1) := by decide +kernel
theorem d3_3 : decode jdk_65_method_101_code 3 = .ok (.arraylength, 1) := by decide +kernel
theorem d3_4 : decode jdk_65_method_101_code 4 = .ok (.istore 4, 2) := by decide +kernel
theorem d3_6 : decode jdk_65_method_101_code 6 = .ok (.iload_n 3, 1) := by decide +kernel
theorem d3_7 : decode jdk_65_method_101_code 7 = .ok (.iload 4, 2) := by decide +kernel
theorem d3_9 : decode jdk_65_method_101_code 9 = .ok (.if_icmp .ge 13, 3) := by decide +kernel
theorem d3_12 : decode jdk_65_method_101_code 12 = .ok (.aload_n 0, 1) := by decide +kernel
theorem d3_13 : decode jdk_65_method_101_code 13 = .ok (.iload_n 3, 1) := by decide +kernel
theorem d3_14 : decode jdk_65_method_101_code 14 = .ok (.lload_n 1, 1) := by decide +kernel
theorem d3_15 : decode jdk_65_method_101_code 15 = .ok (.lastore, 1) := by decide +kernel
theorem d3_16 : decode jdk_65_method_101_code 16 = .ok (.iinc 3 1, 3) := by decide +kernel
theorem kc_iconst_1 : Int32.ofInt 1 = (1 : Int32) := by decide +kernel
theorem d3_19 : decode jdk_65_method_101_code 19 = .ok (.goto (-13), 3) := by decide +kernel
theorem d3_22 : decode jdk_65_method_101_code 22 = .ok (.return_, 1) := by decide +kernel
theorem pn_java_util_Arrays : plainName "java/util/Arrays" = true := by first | (simp [plainName, overriddenIn]; done) | decide +kernel
theorem pd___JJ_V : parseMethodDescriptor "([JJ)V" = some ⟨[(.array .long), .long], none⟩ := by decide +kernel
theorem d1_33 : decode prog_67_method_1_code 33 = .ok (.aload_n 0, 1) := by decide +kernel
theorem d1_34 : decode prog_67_method_1_code 34 = .ok (.getfield 11, 3) := by decide +kernel
theorem d1_37 : decode prog_67_method_1_code 37 = .ok (.iload_n 2, 1) := by decide +kernel
theorem d1_38 : decode prog_67_method_1_code 38 = .ok (.aaload, 1) := by decide +kernel
theorem d1_39 : decode prog_67_method_1_code 39 = .ok (.iload_n 2, 1) := by decide +kernel
theorem d1_40 : decode prog_67_method_1_code 40 = .ok (.lconst 0, 1) := by decide +kernel
theorem d1_41 : decode prog_67_method_1_code 41 = .ok (.lastore, 1) := by decide +kernel
theorem d1_42 : decode prog_67_method_1_code 42 = .ok (.iinc 2 1, 3) := by decide +kernel
theorem d1_45 : decode prog_67_method_1_code 45 = .ok (.goto (-29), 3) := by decide +kernel
theorem d1_48 : decode prog_67_method_1_code 48 = .ok (.return_, 1) := by decide +kernel
theorem pn_com_example_dayweave_dayweave_solve_TemporalNetwork : plainName "com/example/dayweave/dayweave/solve/TemporalNetwork" = true := by first | (simp [plainName, overriddenIn]; done) | decide +kernel
theorem pd__I_V : parseMethodDescriptor "(I)V" = some ⟨[.int], none⟩ := by decide +kernel
theorem d4_0 : decode method_5_code 0 = .ok (.iload_n 3, 1) := by decide +kernel
theorem d4_1 : decode method_5_code 1 = .ok (.iconst 1, 1) := by decide +kernel
theorem d4_2 : decode method_5_code 2 = .ok (.iand, 1) := by decide +kernel
theorem d4_3 : decode method_5_code 3 = .ok (.ifCond .eq 13, 3) := by decide +kernel
theorem d4_6 : decode method_5_code 6 = .ok (.aload_n 0, 1) := by decide +kernel
theorem d4_7 : decode method_5_code 7 = .ok (.iload_n 1, 1) := by decide +kernel
theorem d4_8 : decode method_5_code 8 = .ok (.iload_n 2, 1) := by decide +kernel
theorem d4_9 : decode method_5_code 9 = .ok (.iload_n 3, 1) := by decide +kernel
theorem d4_10 : decode method_5_code 10 = .ok (.iconst 3, 1) := by decide +kernel
theorem d4_11 : decode method_5_code 11 = .ok (.ishr, 1) := by decide +kernel
theorem d4_12 : decode method_5_code 12 = .ok (.i2l, 1) := by decide +kernel
theorem d4_13 : decode method_5_code 13 = .ok (.invokevirtual 15, 3) := by decide +kernel
theorem d5_0 : decode prog_67_method_2_code 0 = .ok (.aload_n 0, 1) := by decide +kernel
theorem d5_1 : decode prog_67_method_2_code 1 = .ok (.getfield 11, 3) := by decide +kernel
theorem d5_4 : decode prog_67_method_2_code 4 = .ok (.iload_n 1, 1) := by decide +kernel
theorem d5_5 : decode prog_67_method_2_code 5 = .ok (.aaload, 1) := by decide +kernel
theorem d5_6 : decode prog_67_method_2_code 6 = .ok (.iload_n 2, 1) := by decide +kernel
theorem d5_7 : decode prog_67_method_2_code 7 = .ok (.aload_n 0, 1) := by decide +kernel
theorem d5_8 : decode prog_67_method_2_code 8 = .ok (.getfield 11, 3) := by decide +kernel
theorem d5_11 : decode prog_67_method_2_code 11 = .ok (.iload_n 1, 1) := by decide +kernel
theorem d5_12 : decode prog_67_method_2_code 12 = .ok (.aaload, 1) := by decide +kernel
theorem d5_13 : decode prog_67_method_2_code 13 = .ok (.iload_n 2, 1) := by decide +kernel
theorem d5_14 : decode prog_67_method_2_code 14 = .ok (.laload, 1) := by decide +kernel
theorem d5_15 : decode prog_67_method_2_code 15 = .ok (.lload_n 3, 1) := by decide +kernel
theorem d5_16 : decode prog_67_method_2_code 16 = .ok (.invokestatic 24, 3) := by decide +kernel
theorem d6_0 : decode jdk_29_method_70_code 0 = .ok (.lload_n 0, 1) := by decide +kernel
theorem d6_1 : decode jdk_29_method_70_code 1 = .ok (.lload_n 2, 1) := by decide +kernel
theorem d6_2 : decode jdk_29_method_70_code 2 = .ok (.lcmp, 1) := by decide +kernel
theorem d6_3 : decode jdk_29_method_70_code 3 = .ok (.ifCond .gt 7, 3) := by decide +kernel
theorem d6_10 : decode jdk_29_method_70_code 10 = .ok (.lload_n 2, 1) := by decide +kernel
theorem d6_6 : decode jdk_29_method_70_code 6 = .ok (.lload_n 0, 1) := by decide +kernel
theorem d6_7 : decode jdk_29_method_70_code 7 = .ok (.goto 4, 3) := by decide +kernel
theorem d6_11 : decode jdk_29_method_70_code 11 = .ok (.lreturn, 1) := by decide +kernel
theorem pd__JJ_J : parseMethodDescriptor "(JJ)J" = some ⟨[.long, .long], some .long⟩ := by decide +kernel
theorem d5_19 : decode prog_67_method_2_code 19 = .ok (.lastore, 1) := by decide +kernel
theorem d5_20 : decode prog_67_method_2_code 20 = .ok (.return_, 1) := by decide +kernel
theorem pd__IIJ_V : parseMethodDescriptor "(IIJ)V" = some ⟨[.int, .int, .long], none⟩ := by decide +kernel
theorem d4_16 : decode method_5_code 16 = .ok (.return_, 1) := by decide +kernel
theorem pd__Lcom_example_dayweave_dayweave_solve_TemporalNetwork_III_V : parseMethodDescriptor "(Lcom/example/dayweave/dayweave/solve/TemporalNetwork;III)V" = some ⟨[(.object "com/example/dayweave/dayweave/solve/TemporalNetwork"), .int, .int, .int], none⟩ := by decide +kernel
theorem kc_iconst_2 : Int32.ofInt 2 = (2 : Int32) := by decide +kernel
theorem d7_0 : decode prog_67_method_4_code 0 = .ok (.aload_n 0, 1) := by decide +kernel
theorem d7_1 : decode prog_67_method_4_code 1 = .ok (.getfield 11, 3) := by decide +kernel
theorem d7_4 : decode prog_67_method_4_code 4 = .ok (.arraylength, 1) := by decide +kernel
theorem d7_5 : decode prog_67_method_4_code 5 = .ok (.istore_n 1, 1) := by decide +kernel
theorem d7_6 : decode prog_67_method_4_code 6 = .ok (.iconst 0, 1) := by decide +kernel
theorem d7_7 : decode prog_67_method_4_code 7 = .ok (.istore_n 2, 1) := by decide +kernel
theorem d7_8 : decode prog_67_method_4_code 8 = .ok (.iload_n 2, 1) := by decide +kernel
theorem d7_9 : decode prog_67_method_4_code 9 = .ok (.iload_n 1, 1) := by decide +kernel
theorem d7_10 : decode prog_67_method_4_code 10 = .ok (.if_icmp .ge 149, 3) := by decide +kernel
theorem d7_13 : decode prog_67_method_4_code 13 = .ok (.aload_n 0, 1) := by decide +kernel
theorem d7_14 : decode prog_67_method_4_code 14 = .ok (.getfield 11, 3) := by decide +kernel
theorem d7_17 : decode prog_67_method_4_code 17 = .ok (.iload_n 2, 1) := by decide +kernel
theorem d7_18 : decode prog_67_method_4_code 18 = .ok (.aaload, 1) := by decide +kernel
theorem d7_19 : decode prog_67_method_4_code 19 = .ok (.astore_n 3, 1) := by decide +kernel
theorem d7_20 : decode prog_67_method_4_code 20 = .ok (.iconst 0, 1) := by decide +kernel
theorem d7_21 : decode prog_67_method_4_code 21 = .ok (.istore 4, 2) := by decide +kernel
theorem d7_23 : decode prog_67_method_4_code 23 = .ok (.iload 4, 2) := by decide +kernel
theorem d7_25 : decode prog_67_method_4_code 25 = .ok (.iload_n 1, 1) := by decide +kernel
theorem d7_26 : decode prog_67_method_4_code 26 = .ok (.if_icmp .ge 95, 3) := by decide +kernel
theorem d7_29 : decode prog_67_method_4_code 29 = .ok (.aload_n 0, 1) := by decide +kernel
theorem d7_30 : decode prog_67_method_4_code 30 = .ok (.getfield 11, 3) := by decide +kernel
theorem d7_33 : decode prog_67_method_4_code 33 = .ok (.iload 4, 2) := by decide +kernel
theorem d7_35 : decode prog_67_method_4_code 35 = .ok (.aaload, 1) := by decide +kernel
theorem d7_36 : decode prog_67_method_4_code 36 = .ok (.iload_n 2, 1) := by decide +kernel
theorem d7_37 : decode prog_67_method_4_code 37 = .ok (.laload, 1) := by decide +kernel
theorem d7_38 : decode prog_67_method_4_code 38 = .ok (.lstore 5, 2) := by decide +kernel
theorem d7_40 : decode prog_67_method_4_code 40 = .ok (.lload 5, 2) := by decide +kernel
theorem d7_42 : decode prog_67_method_4_code 42 = .ok (.ldc2_w 16, 3) := by decide +kernel
theorem d7_45 : decode prog_67_method_4_code 45 = .ok (.lcmp, 1) := by decide +kernel
theorem d7_46 : decode prog_67_method_4_code 46 = .ok (.ifCond .ne 6, 3) := by decide +kernel
theorem d7_52 : decode prog_67_method_4_code 52 = .ok (.aload_n 0, 1) := by decide +kernel
theorem d7_53 : decode prog_67_method_4_code 53 = .ok (.getfield 11, 3) := by decide +kernel
theorem d7_56 : decode prog_67_method_4_code 56 = .ok (.iload 4, 2) := by decide +kernel
theorem d7_58 : decode prog_67_method_4_code 58 = .ok (.aaload, 1) := by decide +kernel
theorem d7_59 : decode prog_67_method_4_code 59 = .ok (.astore 7, 2) := by decide +kernel
theorem d7_61 : decode prog_67_method_4_code 61 = .ok (.iconst 0, 1) := by decide +kernel
theorem d7_62 : decode prog_67_method_4_code 62 = .ok (.istore 8, 2) := by decide +kernel
theorem d7_64 : decode prog_67_method_4_code 64 = .ok (.iload 8, 2) := by decide +kernel
theorem d7_66 : decode prog_67_method_4_code 66 = .ok (.iload_n 1, 1) := by decide +kernel
theorem d7_67 : decode prog_67_method_4_code 67 = .ok (.if_icmp .ge 48, 3) := by decide +kernel
theorem d7_70 : decode prog_67_method_4_code 70 = .ok (.aload_n 3, 1) := by decide +kernel
theorem d7_71 : decode prog_67_method_4_code 71 = .ok (.iload 8, 2) := by decide +kernel
theorem d7_73 : decode prog_67_method_4_code 73 = .ok (.laload, 1) := by decide +kernel
theorem d7_74 : decode prog_67_method_4_code 74 = .ok (.ldc2_w 16, 3) := by decide +kernel
theorem d7_77 : decode prog_67_method_4_code 77 = .ok (.lcmp, 1) := by decide +kernel
theorem d7_78 : decode prog_67_method_4_code 78 = .ok (.ifCond .eq 31, 3) := by decide +kernel
theorem d7_81 : decode prog_67_method_4_code 81 = .ok (.lload 5, 2) := by decide +kernel
theorem d7_83 : decode prog_67_method_4_code 83 = .ok (.aload_n 3, 1) := by decide +kernel
theorem d7_84 : decode prog_67_method_4_code 84 = .ok (.iload 8, 2) := by decide +kernel
theorem d7_86 : decode prog_67_method_4_code 86 = .ok (.laload, 1) := by decide +kernel
theorem d7_87 : decode prog_67_method_4_code 87 = .ok (.ladd, 1) := by decide +kernel
theorem d7_88 : decode prog_67_method_4_code 88 = .ok (.aload 7, 2) := by decide +kernel
theorem d7_90 : decode prog_67_method_4_code 90 = .ok (.iload 8, 2) := by decide +kernel
theorem d7_92 : decode prog_67_method_4_code 92 = .ok (.laload, 1) := by decide +kernel
theorem d7_93 : decode prog_67_method_4_code 93 = .ok (.lcmp, 1) := by decide +kernel
theorem d7_94 : decode prog_67_method_4_code 94 = .ok (.ifCond .ge 15, 3) := by decide +kernel
theorem d7_97 : decode prog_67_method_4_code 97 = .ok (.aload 7, 2) := by decide +kernel
theorem d7_99 : decode prog_67_method_4_code 99 = .ok (.iload 8, 2) := by decide +kernel
theorem d7_101 : decode prog_67_method_4_code 101 = .ok (.lload 5, 2) := by decide +kernel
theorem d7_103 : decode prog_67_method_4_code 103 = .ok (.aload_n 3, 1) := by decide +kernel
theorem d7_104 : decode prog_67_method_4_code 104 = .ok (.iload 8, 2) := by decide +kernel
theorem d7_106 : decode prog_67_method_4_code 106 = .ok (.laload, 1) := by decide +kernel
theorem d7_107 : decode prog_67_method_4_code 107 = .ok (.ladd, 1) := by decide +kernel
theorem d7_108 : decode prog_67_method_4_code 108 = .ok (.lastore, 1) := by decide +kernel
theorem d7_109 : decode prog_67_method_4_code 109 = .ok (.iinc 8 1, 3) := by decide +kernel
theorem d7_112 : decode prog_67_method_4_code 112 = .ok (.goto (-48), 3) := by decide +kernel
theorem d7_49 : decode prog_67_method_4_code 49 = .ok (.goto 66, 3) := by decide +kernel
theorem d7_115 : decode prog_67_method_4_code 115 = .ok (.iinc 4 1, 3) := by decide +kernel
theorem d7_118 : decode prog_67_method_4_code 118 = .ok (.goto (-95), 3) := by decide +kernel
theorem d7_121 : decode prog_67_method_4_code 121 = .ok (.iconst 0, 1) := by decide +kernel
theorem d7_122 : decode prog_67_method_4_code 122 = .ok (.istore 4, 2) := by decide +kernel
theorem d7_124 : decode prog_67_method_4_code 124 = .ok (.iload 4, 2) := by decide +kernel
theorem d7_126 : decode prog_67_method_4_code 126 = .ok (.iload_n 1, 1) := by decide +kernel
theorem d7_127 : decode prog_67_method_4_code 127 = .ok (.if_icmp .ge 26, 3) := by decide +kernel
theorem d7_130 : decode prog_67_method_4_code 130 = .ok (.aload_n 0, 1) := by decide +kernel
theorem d7_131 : decode prog_67_method_4_code 131 = .ok (.getfield 11, 3) := by decide +kernel
theorem d7_134 : decode prog_67_method_4_code 134 = .ok (.iload 4, 2) := by decide +kernel
theorem d7_136 : decode prog_67_method_4_code 136 = .ok (.aaload, 1) := by decide +kernel
theorem d7_137 : decode prog_67_method_4_code 137 = .ok (.iload 4, 2) := by decide +kernel
theorem d7_139 : decode prog_67_method_4_code 139 = .ok (.laload, 1) := by decide +kernel
theorem d7_140 : decode prog_67_method_4_code 140 = .ok (.lconst 0, 1) := by decide +kernel
theorem d7_141 : decode prog_67_method_4_code 141 = .ok (.lcmp, 1) := by decide +kernel
theorem d7_142 : decode prog_67_method_4_code 142 = .ok (.ifCond .ge 5, 3) := by decide +kernel
theorem d7_147 : decode prog_67_method_4_code 147 = .ok (.iinc 4 1, 3) := by decide +kernel
theorem d7_150 : decode prog_67_method_4_code 150 = .ok (.goto (-26), 3) := by decide +kernel
theorem d7_153 : decode prog_67_method_4_code 153 = .ok (.iinc 2 1, 3) := by decide +kernel
theorem d7_156 : decode prog_67_method_4_code 156 = .ok (.goto (-148), 3) := by decide +kernel
theorem d7_159 : decode prog_67_method_4_code 159 = .ok (.iconst 1, 1) := by decide +kernel
theorem d7_160 : decode prog_67_method_4_code 160 = .ok (.ireturn, 1) := by decide +kernel
theorem d7_145 : decode prog_67_method_4_code 145 = .ok (.iconst 0, 1) := by decide +kernel
theorem d7_146 : decode prog_67_method_4_code 146 = .ok (.ireturn, 1) := by decide +kernel
theorem pd___Z : parseMethodDescriptor "()Z" = some ⟨[], some .boolean⟩ := by decide +kernel
theorem d8_0 : decode method_3_code 0 = .ok (.iload_n 0, 1) := by decide +kernel
theorem d8_1 : decode method_3_code 1 = .ok (.iconst 1, 1) := by decide +kernel
theorem d8_2 : decode method_3_code 2 = .ok (.iand, 1) := by decide +kernel
theorem d8_3 : decode method_3_code 3 = .ok (.ifCond .eq 10, 3) := by decide +kernel
theorem d8_13 : decode method_3_code 13 = .ok (.invokestatic 9, 3) := by decide +kernel
theorem d9_0 : decode method_2_code 0 = .ok (.ldc2_w 7, 3) := by decide +kernel
theorem d9_3 : decode method_2_code 3 = .ok (.lreturn, 1) := by decide +kernel
theorem pd___J : parseMethodDescriptor "()J" = some ⟨[], some .long⟩ := by decide +kernel
theorem d8_6 : decode method_3_code 6 = .ok (.iload_n 0, 1) := by decide +kernel
theorem d8_7 : decode method_3_code 7 = .ok (.iconst 3, 1) := by decide +kernel
theorem d8_8 : decode method_3_code 8 = .ok (.ishr, 1) := by decide +kernel
theorem d8_9 : decode method_3_code 9 = .ok (.i2l, 1) := by decide +kernel
theorem d8_10 : decode method_3_code 10 = .ok (.goto 6, 3) := by decide +kernel
theorem d8_16 : decode method_3_code 16 = .ok (.lreturn, 1) := by decide +kernel
theorem pd__I_J : parseMethodDescriptor "(I)J" = some ⟨[.int], some .long⟩ := by decide +kernel
theorem d10_0 : decode method_4_code 0 = .ok (.invokestatic 9, 3) := by decide +kernel
theorem d10_3 : decode method_4_code 3 = .ok (.lstore 4, 2) := by decide +kernel
theorem d10_5 : decode method_4_code 5 = .ok (.lload_n 0, 1) := by decide +kernel
theorem d10_6 : decode method_4_code 6 = .ok (.lload 4, 2) := by decide +kernel
theorem d10_8 : decode method_4_code 8 = .ok (.lcmp, 1) := by decide +kernel
theorem d10_9 : decode method_4_code 9 = .ok (.ifCond .eq 10, 3) := by decide +kernel
theorem d10_19 : decode method_4_code 19 = .ok (.lload 4, 2) := by decide +kernel
theorem d10_21 : decode method_4_code 21 = .ok (.goto 6, 3) := by decide +kernel
theorem d10_12 : decode method_4_code 12 = .ok (.lload_n 2, 1) := by decide +kernel
theorem d10_13 : decode method_4_code 13 = .ok (.lload 4, 2) := by decide +kernel
theorem d10_15 : decode method_4_code 15 = .ok (.lcmp, 1) := by decide +kernel
theorem d10_16 : decode method_4_code 16 = .ok (.ifCond .ne 8, 3) := by decide +kernel
theorem d10_24 : decode method_4_code 24 = .ok (.lload_n 0, 1) := by decide +kernel
theorem d10_25 : decode method_4_code 25 = .ok (.lload_n 2, 1) := by decide +kernel
theorem d10_26 : decode method_4_code 26 = .ok (.ladd, 1) := by decide +kernel
theorem d10_27 : decode method_4_code 27 = .ok (.lreturn, 1) := by decide +kernel
theorem d11_0 : decode prog_67_method_6_code 0 = .ok (.new 48, 3) := by decide +kernel
theorem d11_3 : decode prog_67_method_6_code 3 = .ok (.dup, 1) := by decide +kernel
theorem d11_4 : decode prog_67_method_6_code 4 = .ok (.aload_n 0, 1) := by decide +kernel
theorem d11_5 : decode prog_67_method_6_code 5 = .ok (.invokespecial 50, 3) := by decide +kernel
theorem d12_0 : decode prog_68_method_1_code 0 = .ok (.aload_n 0, 1) := by decide +kernel
theorem d12_1 : decode prog_68_method_1_code 1 = .ok (.aload_n 1, 1) := by decide +kernel
theorem d12_2 : decode prog_68_method_1_code 2 = .ok (.putfield 3, 3) := by decide +kernel
theorem d12_5 : decode prog_68_method_1_code 5 = .ok (.aload_n 0, 1) := by decide +kernel
theorem d12_6 : decode prog_68_method_1_code 6 = .ok (.invokespecial 9, 3) := by decide +kernel
theorem d12_9 : decode prog_68_method_1_code 9 = .ok (.aload_n 0, 1) := by decide +kernel
theorem d12_10 : decode prog_68_method_1_code 10 = .ok (.aload_n 0, 1) := by decide +kernel
theorem d12_11 : decode prog_68_method_1_code 11 = .ok (.getfield 3, 3) := by decide +kernel
theorem d12_14 : decode prog_68_method_1_code 14 = .ok (.getfield 15, 3) := by decide +kernel
theorem d12_17 : decode prog_68_method_1_code 17 = .ok (.arraylength, 1) := by decide +kernel
theorem d12_18 : decode prog_68_method_1_code 18 = .ok (.newarray .long, 2) := by decide +kernel
theorem d12_20 : decode prog_68_method_1_code 20 = .ok (.putfield 19, 3) := by decide +kernel
theorem d12_23 : decode prog_68_method_1_code 23 = .ok (.aload_n 0, 1) := by decide +kernel
theorem d12_24 : decode prog_68_method_1_code 24 = .ok (.aload_n 0, 1) := by decide +kernel
theorem d12_25 : decode prog_68_method_1_code 25 = .ok (.getfield 3, 3) := by decide +kernel
theorem d12_28 : decode prog_68_method_1_code 28 = .ok (.getfield 15, 3) := by decide +kernel
theorem d12_31 : decode prog_68_method_1_code 31 = .ok (.arraylength, 1) := by decide +kernel
theorem d12_32 : decode prog_68_method_1_code 32 = .ok (.newarray .long, 2) := by decide +kernel
theorem d12_34 : decode prog_68_method_1_code 34 = .ok (.putfield 23, 3) := by decide +kernel
theorem d12_37 : decode prog_68_method_1_code 37 = .ok (.aload_n 0, 1) := by decide +kernel
theorem d12_38 : decode prog_68_method_1_code 38 = .ok (.new 26, 3) := by decide +kernel
theorem d12_41 : decode prog_68_method_1_code 41 = .ok (.dup, 1) := by decide +kernel
theorem d12_42 : decode prog_68_method_1_code 42 = .ok (.invokespecial 28, 3) := by decide +kernel
theorem d13_0 : decode jdk_38_method_2_code 0 = .ok (.aload_n 0, 1) := by decide +kernel
theorem d13_1 : decode jdk_38_method_2_code 1 = .ok (.invokespecial 1, 3) := by decide +kernel
theorem d14_0 : decode jdk_39_method_1_code 0 = .ok (.aload_n 0, 1) := by decide +kernel
theorem d14_1 : decode jdk_39_method_1_code 1 = .ok (.invokespecial 1, 3) := by decide +kernel
theorem d15_0 : decode jdk_22_method_1_code 0 = .ok (.aload_n 0, 1) := by decide +kernel
theorem d15_1 : decode jdk_22_method_1_code 1 = .ok (.invokespecial 1, 3) := by decide +kernel
theorem d15_4 : decode jdk_22_method_1_code 4 = .ok (.return_, 1) := by decide +kernel
theorem pn_java_util_AbstractCollection : plainName "java/util/AbstractCollection" = true := by first | (simp [plainName, overriddenIn]; done) | decide +kernel
theorem pd___V : parseMethodDescriptor "()V" = some ⟨[], none⟩ := by decide +kernel
theorem d14_4 : decode jdk_39_method_1_code 4 = .ok (.aload_n 0, 1) := by decide +kernel
theorem d14_5 : decode jdk_39_method_1_code 5 = .ok (.iconst 0, 1) := by decide +kernel
theorem d14_6 : decode jdk_39_method_1_code 6 = .ok (.putfield 7, 3) := by decide +kernel
theorem d14_9 : decode jdk_39_method_1_code 9 = .ok (.return_, 1) := by decide +kernel
theorem pn_java_util_AbstractList : plainName "java/util/AbstractList" = true := by first | (simp [plainName, overriddenIn]; done) | decide +kernel
theorem d13_4 : decode jdk_38_method_2_code 4 = .ok (.aload_n 0, 1) := by decide +kernel
theorem d13_5 : decode jdk_38_method_2_code 5 = .ok (.getstatic 39, 3) := by decide +kernel
theorem d13_8 : decode jdk_38_method_2_code 8 = .ok (.putfield 9, 3) := by decide +kernel
theorem d13_11 : decode jdk_38_method_2_code 11 = .ok (.return_, 1) := by decide +kernel
theorem pn_java_util_ArrayList : plainName "java/util/ArrayList" = true := by first | (simp [plainName, overriddenIn]; done) | decide +kernel
theorem d12_45 : decode prog_68_method_1_code 45 = .ok (.putfield 29, 3) := by decide +kernel
theorem d12_48 : decode prog_68_method_1_code 48 = .ok (.aload_n 0, 1) := by decide +kernel
theorem d12_49 : decode prog_68_method_1_code 49 = .ok (.getfield 19, 3) := by decide +kernel
theorem d12_52 : decode prog_68_method_1_code 52 = .ok (.ldc2_w 33, 3) := by decide +kernel
theorem d12_55 : decode prog_68_method_1_code 55 = .ok (.invokestatic 35, 3) := by decide +kernel
theorem d12_58 : decode prog_68_method_1_code 58 = .ok (.aload_n 0, 1) := by decide +kernel
theorem d12_59 : decode prog_68_method_1_code 59 = .ok (.getfield 23, 3) := by decide +kernel
theorem d12_62 : decode prog_68_method_1_code 62 = .ok (.ldc2_w 33, 3) := by decide +kernel
theorem d12_65 : decode prog_68_method_1_code 65 = .ok (.invokestatic 35, 3) := by decide +kernel
theorem d12_68 : decode prog_68_method_1_code 68 = .ok (.return_, 1) := by decide +kernel
theorem pn_com_example_dayweave_dayweave_solve_TemporalNetwork_Newcomer : plainName "com/example/dayweave/dayweave/solve/TemporalNetwork$Newcomer" = true := by first | (simp [plainName, overriddenIn]; done) | decide +kernel
theorem pd__Lcom_example_dayweave_dayweave_solve_TemporalNetwork__V : parseMethodDescriptor "(Lcom/example/dayweave/dayweave/solve/TemporalNetwork;)V" = some ⟨[(.object "com/example/dayweave/dayweave/solve/TemporalNetwork")], none⟩ := by decide +kernel
theorem d11_8 : decode prog_67_method_6_code 8 = .ok (.areturn, 1) := by decide +kernel
theorem pd___Lcom_example_dayweave_dayweave_solve_TemporalNetwork_Newcomer_ : parseMethodDescriptor "()Lcom/example/dayweave/dayweave/solve/TemporalNetwork$Newcomer;" = some ⟨[], some (.object "com/example/dayweave/dayweave/solve/TemporalNetwork$Newcomer")⟩ := by decide +kernel
theorem d16_0 : decode prog_68_method_2_code 0 = .ok (.aload_n 0, 1) := by decide +kernel
theorem d16_1 : decode prog_68_method_2_code 1 = .ok (.iload_n 1, 1) := by decide +kernel
theorem d16_2 : decode prog_68_method_2_code 2 = .ok (.invokevirtual 41, 3) := by decide +kernel
theorem d17_0 : decode prog_68_method_4_code 0 = .ok (.aload_n 0, 1) := by decide +kernel
theorem d17_1 : decode prog_68_method_4_code 1 = .ok (.getfield 19, 3) := by decide +kernel
theorem d17_4 : decode prog_68_method_4_code 4 = .ok (.iload_n 1, 1) := by decide +kernel
theorem d17_5 : decode prog_68_method_4_code 5 = .ok (.laload, 1) := by decide +kernel
theorem d17_6 : decode prog_68_method_4_code 6 = .ok (.ldc2_w 33, 3) := by decide +kernel
theorem d17_9 : decode prog_68_method_4_code 9 = .ok (.lcmp, 1) := by decide +kernel
theorem kf_0 : (XT.cmpL (2305843009213693951 : Int64) (2305843009213693951 : Int64)) = (0 : Int32) := by decide +kernel
theorem d17_10 : decode prog_68_method_4_code 10 = .ok (.ifCond .ne 30, 3) := by decide +kernel
theorem d17_13 : decode prog_68_method_4_code 13 = .ok (.aload_n 0, 1) := by decide +kernel
theorem d17_14 : decode prog_68_method_4_code 14 = .ok (.getfield 23, 3) := by decide +kernel
theorem d17_17 : decode prog_68_method_4_code 17 = .ok (.iload_n 1, 1) := by decide +kernel
theorem d17_18 : decode prog_68_method_4_code 18 = .ok (.laload, 1) := by decide +kernel
theorem d17_19 : decode prog_68_method_4_code 19 = .ok (.ldc2_w 33, 3) := by decide +kernel
theorem d17_22 : decode prog_68_method_4_code 22 = .ok (.lcmp, 1) := by decide +kernel
theorem d17_23 : decode prog_68_method_4_code 23 = .ok (.ifCond .ne 17, 3) := by decide +kernel
theorem d17_26 : decode prog_68_method_4_code 26 = .ok (.aload_n 0, 1) := by decide +kernel
theorem d17_27 : decode prog_68_method_4_code 27 = .ok (.getfield 29, 3) := by decide +kernel
theorem d17_30 : decode prog_68_method_4_code 30 = .ok (.iload_n 1, 1) := by decide +kernel
theorem d17_31 : decode prog_68_method_4_code 31 = .ok (.invokestatic 51, 3) := by decide +kernel
theorem d18_0 : decode jdk_33_method_22_code 0 = .ok (.iload_n 0, 1) := by decide +kernel
theorem d18_1 : decode jdk_33_method_22_code 1 = .ok (.bipush (-128), 2) := by decide +kernel
theorem kc_bipush_m128 : (Int8.ofInt (-128)).toInt32 = (-128 : Int32) := by decide +kernel
theorem d18_3 : decode jdk_33_method_22_code 3 = .ok (.if_icmp .lt 20, 3) := by decide +kernel
theorem d18_6 : decode jdk_33_method_22_code 6 = .ok (.iload_n 0, 1) := by decide +kernel
theorem d18_7 : decode jdk_33_method_22_code 7 = .ok (.getstatic 191, 3) := by decide +kernel
theorem d18_10 : decode jdk_33_method_22_code 10 = .ok (.if_icmp .gt 13, 3) := by decide +kernel
theorem d18_13 : decode jdk_33_method_22_code 13 = .ok (.getstatic 195, 3) := by decide +kernel
theorem d18_16 : decode jdk_33_method_22_code 16 = .ok (.iload_n 0, 1) := by decide +kernel
theorem d18_17 : decode jdk_33_method_22_code 17 = .ok (.sipush 128, 3) := by decide +kernel
theorem kc_sipush_128 : (Int16.ofInt 128).toInt32 = (128 : Int32) := by decide +kernel
theorem d18_20 : decode jdk_33_method_22_code 20 = .ok (.iadd, 1) := by decide +kernel
theorem kf_1 : ((2 : Int32) + (128 : Int32)) = (130 : Int32) := by decide +kernel
theorem d18_21 : decode jdk_33_method_22_code 21 = .ok (.aaload, 1) := by decide +kernel
theorem d18_22 : decode jdk_33_method_22_code 22 = .ok (.areturn, 1) := by decide +kernel
theorem pn_java_lang_Integer : plainName "java/lang/Integer" = true := by first | (simp [plainName, overriddenIn]; done) | decide +kernel
theorem pd__I_Ljava_lang_Integer_ : parseMethodDescriptor "(I)Ljava/lang/Integer;" = some ⟨[.int], some (.object "java/lang/Integer")⟩ := by decide +kernel
theorem d17_34 : decode prog_68_method_4_code 34 = .ok (.invokeinterface 57 2, 5) := by decide +kernel
theorem d19_0 : decode jdk_38_method_25_code 0 = .ok (.aload_n 0, 1) := by decide +kernel
theorem d19_1 : decode jdk_38_method_25_code 1 = .ok (.dup, 1) := by decide +kernel
theorem d19_2 : decode jdk_38_method_25_code 2 = .ok (.getfield 63, 3) := by decide +kernel
theorem d19_5 : decode jdk_38_method_25_code 5 = .ok (.iconst 1, 1) := by decide +kernel
theorem d19_6 : decode jdk_38_method_25_code 6 = .ok (.iadd, 1) := by decide +kernel
theorem kf_2 : ((0 : Int32) + (1 : Int32)) = (1 : Int32) := by decide +kernel
theorem d19_7 : decode jdk_38_method_25_code 7 = .ok (.putfield 63, 3) := by decide +kernel
theorem d19_10 : decode jdk_38_method_25_code 10 = .ok (.aload_n 0, 1) := by decide +kernel
theorem d19_11 : decode jdk_38_method_25_code 11 = .ok (.aload_n 1, 1) := by decide +kernel
theorem d19_12 : decode jdk_38_method_25_code 12 = .ok (.aload_n 0, 1) := by decide +kernel
theorem d19_13 : decode jdk_38_method_25_code 13 = .ok (.getfield 9, 3) := by decide +kernel
theorem d19_16 : decode jdk_38_method_25_code 16 = .ok (.aload_n 0, 1) := by decide +kernel
theorem d19_17 : decode jdk_38_method_25_code 17 = .ok (.getfield 48, 3) := by decide +kernel
theorem d19_20 : decode jdk_38_method_25_code 20 = .ok (.invokevirtual 131, 3) := by decide +kernel
theorem d20_0 : decode jdk_38_method_24_code 0 = .ok (.iload_n 3, 1) := by decide +kernel
theorem d20_1 : decode jdk_38_method_24_code 1 = .ok (.aload_n 2, 1) := by decide +kernel
theorem d20_2 : decode jdk_38_method_24_code 2 = .ok (.arraylength, 1) := by decide +kernel
theorem d20_3 : decode jdk_38_method_24_code 3 = .ok (.if_icmp .ne 8, 3) := by decide +kernel
theorem d20_6 : decode jdk_38_method_24_code 6 = .ok (.aload_n 0, 1) := by decide +kernel
theorem d20_7 : decode jdk_38_method_24_code 7 = .ok (.invokevirtual 129, 3) := by decide +kernel
theorem d21_0 : decode jdk_38_method_7_code 0 = .ok (.aload_n 0, 1) := by decide +kernel
theorem d21_1 : decode jdk_38_method_7_code 1 = .ok (.aload_n 0, 1) := by decide +kernel
theorem d21_2 : decode jdk_38_method_7_code 2 = .ok (.getfield 48, 3) := by decide +kernel
theorem d21_5 : decode jdk_38_method_7_code 5 = .ok (.iconst 1, 1) := by decide +kernel
theorem d21_6 : decode jdk_38_method_7_code 6 = .ok (.iadd, 1) := by decide +kernel
theorem d21_7 : decode jdk_38_method_7_code 7 = .ok (.invokevirtual 69, 3) := by decide +kernel
theorem d22_0 : decode jdk_38_method_6_code 0 = .ok (.aload_n 0, 1) := by decide +kernel
theorem d22_1 : decode jdk_38_method_6_code 1 = .ok (.getfield 9, 3) := by decide +kernel
theorem d22_4 : decode jdk_38_method_6_code 4 = .ok (.arraylength, 1) := by decide +kernel
theorem d22_5 : decode jdk_38_method_6_code 5 = .ok (.istore_n 2, 1) := by decide +kernel
theorem d22_6 : decode jdk_38_method_6_code 6 = .ok (.iload_n 2, 1) := by decide +kernel
theorem d22_7 : decode jdk_38_method_6_code 7 = .ok (.ifCond .gt 13, 3) := by decide +kernel
theorem d22_10 : decode jdk_38_method_6_code 10 = .ok (.aload_n 0, 1) := by decide +kernel
theorem d22_11 : decode jdk_38_method_6_code 11 = .ok (.getfield 9, 3) := by decide +kernel
theorem d22_14 : decode jdk_38_method_6_code 14 = .ok (.getstatic 39, 3) := by decide +kernel
theorem d22_17 : decode jdk_38_method_6_code 17 = .ok (.if_acmp .eq 28, 3) := by decide +kernel
theorem d22_45 : decode jdk_38_method_6_code 45 = .ok (.aload_n 0, 1) := by decide +kernel
theorem d22_46 : decode jdk_38_method_6_code 46 = .ok (.bipush 10, 2) := by decide +kernel
theorem kc_bipush_10 : (Int8.ofInt 10).toInt32 = (10 : Int32) := by decide +kernel
theorem d22_48 : decode jdk_38_method_6_code 48 = .ok (.iload_n 1, 1) := by decide +kernel
theorem d22_49 : decode jdk_38_method_6_code 49 = .ok (.invokestatic 79, 3) := by decide +kernel
theorem d23_0 : decode jdk_29_method_65_code 0 = .ok (.iload_n 0, 1) := by decide +kernel
theorem d23_1 : decode jdk_29_method_65_code 1 = .ok (.iload_n 1, 1) := by decide +kernel
theorem d23_2 : decode jdk_29_method_65_code 2 = .ok (.if_icmp .lt 7, 3) := by decide +kernel
theorem d23_5 : decode jdk_29_method_65_code 5 = .ok (.iload_n 0, 1) := by decide +kernel
theorem d23_6 : decode jdk_29_method_65_code 6 = .ok (.goto 4, 3) := by decide +kernel
theorem d23_10 : decode jdk_29_method_65_code 10 = .ok (.ireturn, 1) := by decide +kernel
theorem pd__II_I : parseMethodDescriptor "(II)I" = some ⟨[.int, .int], some .int⟩ := by decide +kernel
theorem d22_52 : decode jdk_38_method_6_code 52 = .ok (.anewarray 7, 3) := by decide +kernel
theorem d22_55 : decode jdk_38_method_6_code 55 = .ok (.dup_x1, 1) := by decide +kernel
theorem d22_56 : decode jdk_38_method_6_code 56 = .ok (.putfield 9, 3) := by decide +kernel
theorem d22_59 : decode jdk_38_method_6_code 59 = .ok (.areturn, 1) := by decide +kernel
theorem pd__I__Ljava_lang_Object_ : parseMethodDescriptor "(I)[Ljava/lang/Object;" = some ⟨[.int], some (.array (.object "java/lang/Object"))⟩ := by decide +kernel
theorem d21_10 : decode jdk_38_method_7_code 10 = .ok (.areturn, 1) := by decide +kernel
theorem pd____Ljava_lang_Object_ : parseMethodDescriptor "()[Ljava/lang/Object;" = some ⟨[], some (.array (.object "java/lang/Object"))⟩ := by decide +kernel
theorem d20_10 : decode jdk_38_method_24_code 10 = .ok (.astore_n 2, 1) := by decide +kernel
theorem d20_11 : decode jdk_38_method_24_code 11 = .ok (.aload_n 2, 1) := by decide +kernel
theorem d20_12 : decode jdk_38_method_24_code 12 = .ok (.iload_n 3, 1) := by decide +kernel
theorem d20_13 : decode jdk_38_method_24_code 13 = .ok (.aload_n 1, 1) := by decide +kernel
theorem d20_14 : decode jdk_38_method_24_code 14 = .ok (.aastore, 1) := by decide +kernel
theorem d20_15 : decode jdk_38_method_24_code 15 = .ok (.aload_n 0, 1) := by decide +kernel
theorem d20_16 : decode jdk_38_method_24_code 16 = .ok (.iload_n 3, 1) := by decide +kernel
theorem d20_17 : decode jdk_38_method_24_code 17 = .ok (.iconst 1, 1) := by decide +kernel
theorem d20_18 : decode jdk_38_method_24_code 18 = .ok (.iadd, 1) := by decide +kernel
theorem d20_19 : decode jdk_38_method_24_code 19 = .ok (.putfield 48, 3) := by decide +kernel
theorem d20_22 : decode jdk_38_method_24_code 22 = .ok (.return_, 1) := by decide +kernel
theorem pd__Ljava_lang_Object__Ljava_lang_Object_I_V : parseMethodDescriptor "(Ljava/lang/Object;[Ljava/lang/Object;I)V" = some ⟨[(.object "java/lang/Object"), (.array (.object "java/lang/Object")), .int], none⟩ := by decide +kernel
theorem d19_23 : decode jdk_38_method_25_code 23 = .ok (.iconst 1, 1) := by decide +kernel
theorem d19_24 : decode jdk_38_method_25_code 24 = .ok (.ireturn, 1) := by decide +kernel
theorem pd__Ljava_lang_Object__Z : parseMethodDescriptor "(Ljava/lang/Object;)Z" = some ⟨[(.object "java/lang/Object")], some .boolean⟩ := by decide +kernel
theorem d17_39 : decode prog_68_method_4_code 39 = .ok (.pop, 1) := by decide +kernel
theorem d17_40 : decode prog_68_method_4_code 40 = .ok (.return_, 1) := by decide +kernel
theorem d16_5 : decode prog_68_method_2_code 5 = .ok (.aload_n 0, 1) := by decide +kernel
theorem d16_6 : decode prog_68_method_2_code 6 = .ok (.getfield 19, 3) := by decide +kernel
theorem d16_9 : decode prog_68_method_2_code 9 = .ok (.iload_n 1, 1) := by decide +kernel
theorem d16_10 : decode prog_68_method_2_code 10 = .ok (.aload_n 0, 1) := by decide +kernel
theorem d16_11 : decode prog_68_method_2_code 11 = .ok (.getfield 19, 3) := by decide +kernel
theorem d16_14 : decode prog_68_method_2_code 14 = .ok (.iload_n 1, 1) := by decide +kernel
theorem d16_15 : decode prog_68_method_2_code 15 = .ok (.laload, 1) := by decide +kernel
theorem d16_16 : decode prog_68_method_2_code 16 = .ok (.lload_n 2, 1) := by decide +kernel
theorem d16_17 : decode prog_68_method_2_code 17 = .ok (.invokestatic 45, 3) := by decide +kernel
theorem kf_3 : (XT.cmpL (2305843009213693951 : Int64) (0 : Int64)) = (1 : Int32) := by decide +kernel
theorem d16_20 : decode prog_68_method_2_code 20 = .ok (.lastore, 1) := by decide +kernel
theorem d16_21 : decode prog_68_method_2_code 21 = .ok (.return_, 1) := by decide +kernel
theorem pd__IJ_V : parseMethodDescriptor "(IJ)V" = some ⟨[.int, .long], none⟩ := by decide +kernel
theorem d24_0 : decode prog_68_method_3_code 0 = .ok (.aload_n 0, 1) := by decide +kernel
theorem d24_1 : decode prog_68_method_3_code 1 = .ok (.iload_n 1, 1) := by decide +kernel
theorem d24_2 : decode prog_68_method_3_code 2 = .ok (.invokevirtual 41, 3) := by decide +kernel
theorem kf_4 : (XT.cmpL (0 : Int64) (2305843009213693951 : Int64)) = (-1 : Int32) := by decide +kernel
theorem d24_5 : decode prog_68_method_3_code 5 = .ok (.aload_n 0, 1) := by decide +kernel
theorem d24_6 : decode prog_68_method_3_code 6 = .ok (.getfield 23, 3) := by decide +kernel
theorem d24_9 : decode prog_68_method_3_code 9 = .ok (.iload_n 1, 1) := by decide +kernel
theorem d24_10 : decode prog_68_method_3_code 10 = .ok (.aload_n 0, 1) := by decide +kernel
theorem d24_11 : decode prog_68_method_3_code 11 = .ok (.getfield 23, 3) := by decide +kernel
theorem d24_14 : decode prog_68_method_3_code 14 = .ok (.iload_n 1, 1) := by decide +kernel
theorem d24_15 : decode prog_68_method_3_code 15 = .ok (.laload, 1) := by decide +kernel
theorem d24_16 : decode prog_68_method_3_code 16 = .ok (.lload_n 2, 1) := by decide +kernel
theorem d24_17 : decode prog_68_method_3_code 17 = .ok (.lneg, 1) := by decide +kernel
theorem kf_5 : (-(0 : Int64)) = (0 : Int64) := by decide +kernel
theorem d24_18 : decode prog_68_method_3_code 18 = .ok (.invokestatic 45, 3) := by decide +kernel
theorem d24_21 : decode prog_68_method_3_code 21 = .ok (.lastore, 1) := by decide +kernel
theorem d24_22 : decode prog_68_method_3_code 22 = .ok (.return_, 1) := by decide +kernel
theorem d25_0 : decode prog_68_method_5_code 0 = .ok (.ldc2_w 33, 3) := by decide +kernel
theorem d25_3 : decode prog_68_method_5_code 3 = .ok (.lstore_n 1, 1) := by decide +kernel
theorem d25_4 : decode prog_68_method_5_code 4 = .ok (.ldc2_w 63, 3) := by decide +kernel
theorem d25_7 : decode prog_68_method_5_code 7 = .ok (.lstore_n 3, 1) := by decide +kernel
theorem d25_8 : decode prog_68_method_5_code 8 = .ok (.aload_n 0, 1) := by decide +kernel
theorem d25_9 : decode prog_68_method_5_code 9 = .ok (.getfield 29, 3) := by decide +kernel
theorem d25_12 : decode prog_68_method_5_code 12 = .ok (.invokeinterface 65 1, 5) := by decide +kernel
theorem d26_0 : decode jdk_38_method_55_code 0 = .ok (.new 267, 3) := by decide +kernel
theorem d26_3 : decode jdk_38_method_55_code 3 = .ok (.dup, 1) := by decide +kernel
theorem d26_4 : decode jdk_38_method_55_code 4 = .ok (.aload_n 0, 1) := by decide +kernel
theorem d26_5 : decode jdk_38_method_55_code 5 = .ok (.invokespecial 269, 3) := by decide +kernel
theorem d27_0 : decode jdk_49_method_1_code 0 = .ok (.aload_n 0, 1) := by decide +kernel
theorem d27_1 : decode jdk_49_method_1_code 1 = .ok (.aload_n 1, 1) := by decide +kernel
theorem d27_2 : decode jdk_49_method_1_code 2 = .ok (.putfield 1, 3) := by decide +kernel
theorem d27_5 : decode jdk_49_method_1_code 5 = .ok (.aload_n 0, 1) := by decide +kernel
theorem d27_6 : decode jdk_49_method_1_code 6 = .ok (.invokespecial 7, 3) := by decide +kernel
theorem d27_9 : decode jdk_49_method_1_code 9 = .ok (.aload_n 0, 1) := by decide +kernel
theorem d27_10 : decode jdk_49_method_1_code 10 = .ok (.iconst (-1), 1) := by decide +kernel
theorem kc_iconst_m1 : Int32.ofInt (-1) = (-1 : Int32) := by decide +kernel
theorem d27_11 : decode jdk_49_method_1_code 11 = .ok (.putfield 13, 3) := by decide +kernel
theorem d27_14 : decode jdk_49_method_1_code 14 = .ok (.aload_n 0, 1) := by decide +kernel
theorem d27_15 : decode jdk_49_method_1_code 15 = .ok (.aload_n 0, 1) := by decide +kernel
theorem d27_16 : decode jdk_49_method_1_code 16 = .ok (.getfield 1, 3) := by decide +kernel
theorem d27_19 : decode jdk_49_method_1_code 19 = .ok (.getfield 17, 3) := by decide +kernel
theorem d27_22 : decode jdk_49_method_1_code 22 = .ok (.putfield 22, 3) := by decide +kernel
theorem d27_25 : decode jdk_49_method_1_code 25 = .ok (.return_, 1) := by decide +kernel
theorem pn_java_util_ArrayList_Itr : plainName "java/util/ArrayList$Itr" = true := by first | (simp [plainName, overriddenIn]; done) | decide +kernel
theorem pd__Ljava_util_ArrayList__V : parseMethodDescriptor "(Ljava/util/ArrayList;)V" = some ⟨[(.object "java/util/ArrayList")], none⟩ := by decide +kernel
theorem d26_8 : decode jdk_38_method_55_code 8 = .ok (.areturn, 1) := by decide +kernel
theorem pd___Ljava_util_Iterator_ : parseMethodDescriptor "()Ljava/util/Iterator;" = some ⟨[], some (.object "java/util/Iterator")⟩ := by decide +kernel
theorem d25_17 : decode prog_68_method_5_code 17 = .ok (.astore 5, 2) := by decide +kernel
theorem d25_19 : decode prog_68_method_5_code 19 = .ok (.aload 5, 2) := by decide +kernel
theorem d25_21 : decode prog_68_method_5_code 21 = .ok (.invokeinterface 69 1, 5) := by decide +kernel
theorem d28_0 : decode jdk_49_method_2_code 0 = .ok (.aload_n 0, 1) := by decide +kernel
theorem d28_1 : decode jdk_49_method_2_code 1 = .ok (.getfield 25, 3) := by decide +kernel
theorem d28_4 : decode jdk_49_method_2_code 4 = .ok (.aload_n 0, 1) := by decide +kernel
theorem d28_5 : decode jdk_49_method_2_code 5 = .ok (.getfield 1, 3) := by decide +kernel
theorem d28_8 : decode jdk_49_method_2_code 8 = .ok (.getfield 28, 3) := by decide +kernel
theorem d28_11 : decode jdk_49_method_2_code 11 = .ok (.if_icmp .eq 7, 3) := by decide +kernel
theorem d28_14 : decode jdk_49_method_2_code 14 = .ok (.iconst 1, 1) := by decide +kernel
theorem d28_15 : decode jdk_49_method_2_code 15 = .ok (.goto 4, 3) := by decide +kernel
theorem d28_19 : decode jdk_49_method_2_code 19 = .ok (.ireturn, 1) := by decide +kernel
theorem d25_26 : decode prog_68_method_5_code 26 = .ok (.ifCond .eq 138, 3) := by decide +kernel
theorem d25_29 : decode prog_68_method_5_code 29 = .ok (.aload 5, 2) := by decide +kernel
theorem d25_31 : decode prog_68_method_5_code 31 = .ok (.invokeinterface 75 1, 5) := by decide +kernel
theorem d29_0 : decode jdk_49_method_3_code 0 = .ok (.aload_n 0, 1) := by decide +kernel
theorem d29_1 : decode jdk_49_method_3_code 1 = .ok (.invokevirtual 31, 3) := by decide +kernel
theorem d30_0 : decode jdk_49_method_6_code 0 = .ok (.aload_n 0, 1) := by decide +kernel
theorem d30_1 : decode jdk_49_method_6_code 1 = .ok (.getfield 1, 3) := by decide +kernel
theorem d30_4 : decode jdk_49_method_6_code 4 = .ok (.getfield 17, 3) := by decide +kernel
theorem d30_7 : decode jdk_49_method_6_code 7 = .ok (.aload_n 0, 1) := by decide +kernel
theorem d30_8 : decode jdk_49_method_6_code 8 = .ok (.getfield 22, 3) := by decide +kernel
theorem d30_11 : decode jdk_49_method_6_code 11 = .ok (.if_icmp .eq 11, 3) := by decide +kernel
theorem d30_22 : decode jdk_49_method_6_code 22 = .ok (.return_, 1) := by decide +kernel
theorem d29_4 : decode jdk_49_method_3_code 4 = .ok (.aload_n 0, 1) := by decide +kernel
theorem d29_5 : decode jdk_49_method_3_code 5 = .ok (.getfield 25, 3) := by decide +kernel
theorem d29_8 : decode jdk_49_method_3_code 8 = .ok (.istore_n 1, 1) := by decide +kernel
theorem d29_9 : decode jdk_49_method_3_code 9 = .ok (.iload_n 1, 1) := by decide +kernel
theorem d29_10 : decode jdk_49_method_3_code 10 = .ok (.aload_n 0, 1) := by decide +kernel
theorem d29_11 : decode jdk_49_method_3_code 11 = .ok (.getfield 1, 3) := by decide +kernel
theorem d29_14 : decode jdk_49_method_3_code 14 = .ok (.getfield 28, 3) := by decide +kernel
theorem d29_17 : decode jdk_49_method_3_code 17 = .ok (.if_icmp .lt 11, 3) := by decide +kernel
theorem d29_28 : decode jdk_49_method_3_code 28 = .ok (.aload_n 0, 1) := by decide +kernel
theorem d29_29 : decode jdk_49_method_3_code 29 = .ok (.getfield 1, 3) := by decide +kernel
theorem d29_32 : decode jdk_49_method_3_code 32 = .ok (.getfield 37, 3) := by decide +kernel
theorem d29_35 : decode jdk_49_method_3_code 35 = .ok (.astore_n 2, 1) := by decide +kernel
theorem d29_36 : decode jdk_49_method_3_code 36 = .ok (.iload_n 1, 1) := by decide +kernel
theorem d29_37 : decode jdk_49_method_3_code 37 = .ok (.aload_n 2, 1) := by decide +kernel
theorem d29_38 : decode jdk_49_method_3_code 38 = .ok (.arraylength, 1) := by decide +kernel
theorem d29_39 : decode jdk_49_method_3_code 39 = .ok (.if_icmp .lt 11, 3) := by decide +kernel
theorem d29_50 : decode jdk_49_method_3_code 50 = .ok (.aload_n 0, 1) := by decide +kernel
theorem d29_51 : decode jdk_49_method_3_code 51 = .ok (.iload_n 1, 1) := by decide +kernel
theorem d29_52 : decode jdk_49_method_3_code 52 = .ok (.iconst 1, 1) := by decide +kernel
theorem d29_53 : decode jdk_49_method_3_code 53 = .ok (.iadd, 1) := by decide +kernel
theorem d29_54 : decode jdk_49_method_3_code 54 = .ok (.putfield 25, 3) := by decide +kernel
theorem d29_57 : decode jdk_49_method_3_code 57 = .ok (.aload_n 2, 1) := by decide +kernel
theorem d29_58 : decode jdk_49_method_3_code 58 = .ok (.aload_n 0, 1) := by decide +kernel
theorem d29_59 : decode jdk_49_method_3_code 59 = .ok (.iload_n 1, 1) := by decide +kernel
theorem d29_60 : decode jdk_49_method_3_code 60 = .ok (.dup_x1, 1) := by decide +kernel
theorem d29_61 : decode jdk_49_method_3_code 61 = .ok (.putfield 13, 3) := by decide +kernel
theorem d29_64 : decode jdk_49_method_3_code 64 = .ok (.aaload, 1) := by decide +kernel
theorem d29_65 : decode jdk_49_method_3_code 65 = .ok (.areturn, 1) := by decide +kernel
theorem pd___Ljava_lang_Object_ : parseMethodDescriptor "()Ljava/lang/Object;" = some ⟨[], some (.object "java/lang/Object")⟩ := by decide +kernel
theorem d25_36 : decode prog_68_method_5_code 36 = .ok (.checkcast 52, 3) := by decide +kernel
theorem d25_39 : decode prog_68_method_5_code 39 = .ok (.invokevirtual 79, 3) := by decide +kernel
theorem d31_0 : decode jdk_33_method_27_code 0 = .ok (.aload_n 0, 1) := by decide +kernel
theorem d31_1 : decode jdk_33_method_27_code 1 = .ok (.getfield 205, 3) := by decide +kernel
theorem d31_4 : decode jdk_33_method_27_code 4 = .ok (.ireturn, 1) := by decide +kernel
theorem pd___I : parseMethodDescriptor "()I" = some ⟨[], some .int⟩ := by decide +kernel
theorem d25_42 : decode prog_68_method_5_code 42 = .ok (.istore 6, 2) := by decide +kernel
theorem d25_44 : decode prog_68_method_5_code 44 = .ok (.aload_n 0, 1) := by decide +kernel
theorem d25_45 : decode prog_68_method_5_code 45 = .ok (.getfield 19, 3) := by decide +kernel
theorem d25_48 : decode prog_68_method_5_code 48 = .ok (.iload 6, 2) := by decide +kernel
theorem d25_50 : decode prog_68_method_5_code 50 = .ok (.laload, 1) := by decide +kernel
theorem d25_51 : decode prog_68_method_5_code 51 = .ok (.ldc2_w 33, 3) := by decide +kernel
theorem d25_54 : decode prog_68_method_5_code 54 = .ok (.lcmp, 1) := by decide +kernel
theorem d25_55 : decode prog_68_method_5_code 55 = .ok (.ifCond .eq 47, 3) := by decide +kernel
theorem d25_58 : decode prog_68_method_5_code 58 = .ok (.aload_n 0, 1) := by decide +kernel
theorem d25_59 : decode prog_68_method_5_code 59 = .ok (.getfield 3, 3) := by decide +kernel
theorem d25_62 : decode prog_68_method_5_code 62 = .ok (.getfield 15, 3) := by decide +kernel
theorem d25_65 : decode prog_68_method_5_code 65 = .ok (.iconst 0, 1) := by decide +kernel
theorem d25_66 : decode prog_68_method_5_code 66 = .ok (.aaload, 1) := by decide +kernel
theorem d25_67 : decode prog_68_method_5_code 67 = .ok (.iload 6, 2) := by decide +kernel
theorem d25_69 : decode prog_68_method_5_code 69 = .ok (.laload, 1) := by decide +kernel
theorem d25_70 : decode prog_68_method_5_code 70 = .ok (.ldc2_w 33, 3) := by decide +kernel
theorem d25_73 : decode prog_68_method_5_code 73 = .ok (.lcmp, 1) := by decide +kernel
theorem d25_74 : decode prog_68_method_5_code 74 = .ok (.ifCond .eq 28, 3) := by decide +kernel
theorem d25_77 : decode prog_68_method_5_code 77 = .ok (.lload_n 1, 1) := by decide +kernel
theorem d25_78 : decode prog_68_method_5_code 78 = .ok (.aload_n 0, 1) := by decide +kernel
theorem d25_79 : decode prog_68_method_5_code 79 = .ok (.getfield 3, 3) := by decide +kernel
theorem d25_82 : decode prog_68_method_5_code 82 = .ok (.getfield 15, 3) := by decide +kernel
theorem d25_85 : decode prog_68_method_5_code 85 = .ok (.iconst 0, 1) := by decide +kernel
theorem d25_86 : decode prog_68_method_5_code 86 = .ok (.aaload, 1) := by decide +kernel
theorem d25_87 : decode prog_68_method_5_code 87 = .ok (.iload 6, 2) := by decide +kernel
theorem d25_89 : decode prog_68_method_5_code 89 = .ok (.laload, 1) := by decide +kernel
theorem d25_90 : decode prog_68_method_5_code 90 = .ok (.aload_n 0, 1) := by decide +kernel
theorem d25_91 : decode prog_68_method_5_code 91 = .ok (.getfield 19, 3) := by decide +kernel
theorem d25_94 : decode prog_68_method_5_code 94 = .ok (.iload 6, 2) := by decide +kernel
theorem d25_96 : decode prog_68_method_5_code 96 = .ok (.laload, 1) := by decide +kernel
theorem d25_97 : decode prog_68_method_5_code 97 = .ok (.ladd, 1) := by decide +kernel
theorem d25_98 : decode prog_68_method_5_code 98 = .ok (.invokestatic 45, 3) := by decide +kernel
theorem d25_101 : decode prog_68_method_5_code 101 = .ok (.lstore_n 1, 1) := by decide +kernel
theorem d25_102 : decode prog_68_method_5_code 102 = .ok (.aload_n 0, 1) := by decide +kernel
theorem d25_103 : decode prog_68_method_5_code 103 = .ok (.getfield 23, 3) := by decide +kernel
theorem d25_106 : decode prog_68_method_5_code 106 = .ok (.iload 6, 2) := by decide +kernel
theorem d25_108 : decode prog_68_method_5_code 108 = .ok (.laload, 1) := by decide +kernel
theorem d25_109 : decode prog_68_method_5_code 109 = .ok (.ldc2_w 33, 3) := by decide +kernel
theorem d25_112 : decode prog_68_method_5_code 112 = .ok (.lcmp, 1) := by decide +kernel
theorem d25_113 : decode prog_68_method_5_code 113 = .ok (.ifCond .eq 48, 3) := by decide +kernel
theorem d25_116 : decode prog_68_method_5_code 116 = .ok (.aload_n 0, 1) := by decide +kernel
theorem d25_117 : decode prog_68_method_5_code 117 = .ok (.getfield 3, 3) := by decide +kernel
theorem d25_120 : decode prog_68_method_5_code 120 = .ok (.getfield 15, 3) := by decide +kernel
theorem d25_123 : decode prog_68_method_5_code 123 = .ok (.iload 6, 2) := by decide +kernel
theorem d25_125 : decode prog_68_method_5_code 125 = .ok (.aaload, 1) := by decide +kernel
theorem d25_126 : decode prog_68_method_5_code 126 = .ok (.iconst 0, 1) := by decide +kernel
theorem d25_127 : decode prog_68_method_5_code 127 = .ok (.laload, 1) := by decide +kernel
theorem d25_128 : decode prog_68_method_5_code 128 = .ok (.ldc2_w 33, 3) := by decide +kernel
theorem d25_131 : decode prog_68_method_5_code 131 = .ok (.lcmp, 1) := by decide +kernel
theorem d25_132 : decode prog_68_method_5_code 132 = .ok (.ifCond .eq 29, 3) := by decide +kernel
theorem d25_135 : decode prog_68_method_5_code 135 = .ok (.lload_n 3, 1) := by decide +kernel
theorem d25_136 : decode prog_68_method_5_code 136 = .ok (.aload_n 0, 1) := by decide +kernel
theorem d25_137 : decode prog_68_method_5_code 137 = .ok (.getfield 23, 3) := by decide +kernel
theorem d25_140 : decode prog_68_method_5_code 140 = .ok (.iload 6, 2) := by decide +kernel
theorem d25_142 : decode prog_68_method_5_code 142 = .ok (.laload, 1) := by decide +kernel
theorem d25_143 : decode prog_68_method_5_code 143 = .ok (.aload_n 0, 1) := by decide +kernel
theorem d25_144 : decode prog_68_method_5_code 144 = .ok (.getfield 3, 3) := by decide +kernel
theorem d25_147 : decode prog_68_method_5_code 147 = .ok (.getfield 15, 3) := by decide +kernel
theorem d25_150 : decode prog_68_method_5_code 150 = .ok (.iload 6, 2) := by decide +kernel
theorem d25_152 : decode prog_68_method_5_code 152 = .ok (.aaload, 1) := by decide +kernel
theorem d25_153 : decode prog_68_method_5_code 153 = .ok (.iconst 0, 1) := by decide +kernel
theorem d25_154 : decode prog_68_method_5_code 154 = .ok (.laload, 1) := by decide +kernel
theorem d25_155 : decode prog_68_method_5_code 155 = .ok (.ladd, 1) := by decide +kernel
theorem d25_156 : decode prog_68_method_5_code 156 = .ok (.lneg, 1) := by decide +kernel
theorem d25_157 : decode prog_68_method_5_code 157 = .ok (.invokestatic 83, 3) := by decide +kernel
theorem d32_0 : decode jdk_29_method_66_code 0 = .ok (.lload_n 0, 1) := by decide +kernel
theorem d32_1 : decode jdk_29_method_66_code 1 = .ok (.lload_n 2, 1) := by decide +kernel
theorem d32_2 : decode jdk_29_method_66_code 2 = .ok (.lcmp, 1) := by decide +kernel
theorem d32_3 : decode jdk_29_method_66_code 3 = .ok (.ifCond .lt 7, 3) := by decide +kernel
theorem d32_10 : decode jdk_29_method_66_code 10 = .ok (.lload_n 2, 1) := by decide +kernel
theorem d32_6 : decode jdk_29_method_66_code 6 = .ok (.lload_n 0, 1) := by decide +kernel
theorem d32_7 : decode jdk_29_method_66_code 7 = .ok (.goto 4, 3) := by decide +kernel
theorem d32_11 : decode jdk_29_method_66_code 11 = .ok (.lreturn, 1) := by decide +kernel
theorem d25_160 : decode prog_68_method_5_code 160 = .ok (.lstore_n 3, 1) := by decide +kernel
theorem d25_161 : decode prog_68_method_5_code 161 = .ok (.goto (-142), 3) := by decide +kernel
theorem d28_18 : decode jdk_49_method_2_code 18 = .ok (.iconst 0, 1) := by decide +kernel
theorem d25_164 : decode prog_68_method_5_code 164 = .ok (.lload_n 1, 1) := by decide +kernel
theorem d25_165 : decode prog_68_method_5_code 165 = .ok (.ldc2_w 33, 3) := by decide +kernel
theorem d25_168 : decode prog_68_method_5_code 168 = .ok (.lcmp, 1) := by decide +kernel
theorem d25_169 : decode prog_68_method_5_code 169 = .ok (.ifCond .eq 18, 3) := by decide +kernel
theorem d25_172 : decode prog_68_method_5_code 172 = .ok (.lload_n 3, 1) := by decide +kernel
theorem d25_173 : decode prog_68_method_5_code 173 = .ok (.ldc2_w 63, 3) := by decide +kernel
theorem d25_176 : decode prog_68_method_5_code 176 = .ok (.lcmp, 1) := by decide +kernel
theorem d25_177 : decode prog_68_method_5_code 177 = .ok (.ifCond .eq 10, 3) := by decide +kernel
theorem d25_180 : decode prog_68_method_5_code 180 = .ok (.aload_n 0, 1) := by decide +kernel
theorem d25_181 : decode prog_68_method_5_code 181 = .ok (.invokevirtual 86, 3) := by decide +kernel
theorem d33_0 : decode prog_68_method_6_code 0 = .ok (.aload_n 0, 1) := by decide +kernel
theorem d33_1 : decode prog_68_method_6_code 1 = .ok (.getfield 29, 3) := by decide +kernel
theorem d33_4 : decode prog_68_method_6_code 4 = .ok (.invokeinterface 65 1, 5) := by decide +kernel
theorem d33_9 : decode prog_68_method_6_code 9 = .ok (.astore_n 1, 1) := by decide +kernel
theorem d33_10 : decode prog_68_method_6_code 10 = .ok (.aload_n 1, 1) := by decide +kernel
theorem d33_11 : decode prog_68_method_6_code 11 = .ok (.invokeinterface 69 1, 5) := by decide +kernel
theorem d33_16 : decode prog_68_method_6_code 16 = .ok (.ifCond .eq 132, 3) := by decide +kernel
theorem d33_19 : decode prog_68_method_6_code 19 = .ok (.aload_n 1, 1) := by decide +kernel
theorem d33_20 : decode prog_68_method_6_code 20 = .ok (.invokeinterface 75 1, 5) := by decide +kernel
theorem d33_25 : decode prog_68_method_6_code 25 = .ok (.checkcast 52, 3) := by decide +kernel
theorem d33_28 : decode prog_68_method_6_code 28 = .ok (.invokevirtual 79, 3) := by decide +kernel
theorem d33_31 : decode prog_68_method_6_code 31 = .ok (.istore_n 2, 1) := by decide +kernel
theorem d33_32 : decode prog_68_method_6_code 32 = .ok (.aload_n 0, 1) := by decide +kernel
theorem d33_33 : decode prog_68_method_6_code 33 = .ok (.getfield 23, 3) := by decide +kernel
theorem d33_36 : decode prog_68_method_6_code 36 = .ok (.iload_n 2, 1) := by decide +kernel
theorem d33_37 : decode prog_68_method_6_code 37 = .ok (.laload, 1) := by decide +kernel
theorem d33_38 : decode prog_68_method_6_code 38 = .ok (.ldc2_w 33, 3) := by decide +kernel
theorem d33_41 : decode prog_68_method_6_code 41 = .ok (.lcmp, 1) := by decide +kernel
theorem d33_42 : decode prog_68_method_6_code 42 = .ok (.ifCond .ne 6, 3) := by decide +kernel
theorem d33_48 : decode prog_68_method_6_code 48 = .ok (.aload_n 0, 1) := by decide +kernel
theorem d33_49 : decode prog_68_method_6_code 49 = .ok (.getfield 29, 3) := by decide +kernel
theorem d33_52 : decode prog_68_method_6_code 52 = .ok (.invokeinterface 65 1, 5) := by decide +kernel
theorem d33_57 : decode prog_68_method_6_code 57 = .ok (.astore_n 3, 1) := by decide +kernel
theorem d33_58 : decode prog_68_method_6_code 58 = .ok (.aload_n 3, 1) := by decide +kernel
theorem d33_59 : decode prog_68_method_6_code 59 = .ok (.invokeinterface 69 1, 5) := by decide +kernel
theorem d33_64 : decode prog_68_method_6_code 64 = .ok (.ifCond .eq 81, 3) := by decide +kernel
theorem d33_67 : decode prog_68_method_6_code 67 = .ok (.aload_n 3, 1) := by decide +kernel
theorem d33_68 : decode prog_68_method_6_code 68 = .ok (.invokeinterface 75 1, 5) := by decide +kernel
theorem d33_73 : decode prog_68_method_6_code 73 = .ok (.checkcast 52, 3) := by decide +kernel
theorem d33_76 : decode prog_68_method_6_code 76 = .ok (.invokevirtual 79, 3) := by decide +kernel
theorem d33_79 : decode prog_68_method_6_code 79 = .ok (.istore 4, 2) := by decide +kernel
theorem d33_81 : decode prog_68_method_6_code 81 = .ok (.aload_n 0, 1) := by decide +kernel
theorem d33_82 : decode prog_68_method_6_code 82 = .ok (.getfield 3, 3) := by decide +kernel
theorem d33_85 : decode prog_68_method_6_code 85 = .ok (.getfield 15, 3) := by decide +kernel
theorem d33_88 : decode prog_68_method_6_code 88 = .ok (.iload_n 2, 1) := by decide +kernel
theorem d33_89 : decode prog_68_method_6_code 89 = .ok (.aaload, 1) := by decide +kernel
theorem d33_90 : decode prog_68_method_6_code 90 = .ok (.iload 4, 2) := by decide +kernel
theorem d33_92 : decode prog_68_method_6_code 92 = .ok (.laload, 1) := by decide +kernel
theorem d33_93 : decode prog_68_method_6_code 93 = .ok (.lstore 5, 2) := by decide +kernel
theorem d33_95 : decode prog_68_method_6_code 95 = .ok (.aload_n 0, 1) := by decide +kernel
theorem d33_96 : decode prog_68_method_6_code 96 = .ok (.getfield 19, 3) := by decide +kernel
theorem d33_99 : decode prog_68_method_6_code 99 = .ok (.iload 4, 2) := by decide +kernel
theorem d33_101 : decode prog_68_method_6_code 101 = .ok (.laload, 1) := by decide +kernel
theorem d33_102 : decode prog_68_method_6_code 102 = .ok (.ldc2_w 33, 3) := by decide +kernel
theorem d33_105 : decode prog_68_method_6_code 105 = .ok (.lcmp, 1) := by decide +kernel
theorem d33_106 : decode prog_68_method_6_code 106 = .ok (.ifCond .eq 36, 3) := by decide +kernel
theorem d33_109 : decode prog_68_method_6_code 109 = .ok (.lload 5, 2) := by decide +kernel
theorem d33_111 : decode prog_68_method_6_code 111 = .ok (.ldc2_w 33, 3) := by decide +kernel
theorem d33_114 : decode prog_68_method_6_code 114 = .ok (.lcmp, 1) := by decide +kernel
theorem d33_115 : decode prog_68_method_6_code 115 = .ok (.ifCond .eq 27, 3) := by decide +kernel
theorem d33_118 : decode prog_68_method_6_code 118 = .ok (.aload_n 0, 1) := by decide +kernel
theorem d33_119 : decode prog_68_method_6_code 119 = .ok (.getfield 23, 3) := by decide +kernel
theorem d33_122 : decode prog_68_method_6_code 122 = .ok (.iload_n 2, 1) := by decide +kernel
theorem d33_123 : decode prog_68_method_6_code 123 = .ok (.laload, 1) := by decide +kernel
theorem d33_124 : decode prog_68_method_6_code 124 = .ok (.lload 5, 2) := by decide +kernel
theorem d33_126 : decode prog_68_method_6_code 126 = .ok (.ladd, 1) := by decide +kernel
theorem d33_127 : decode prog_68_method_6_code 127 = .ok (.aload_n 0, 1) := by decide +kernel
theorem d33_128 : decode prog_68_method_6_code 128 = .ok (.getfield 19, 3) := by decide +kernel
theorem d33_131 : decode prog_68_method_6_code 131 = .ok (.iload 4, 2) := by decide +kernel
theorem d33_133 : decode prog_68_method_6_code 133 = .ok (.laload, 1) := by decide +kernel
theorem d33_134 : decode prog_68_method_6_code 134 = .ok (.ladd, 1) := by decide +kernel
theorem d33_135 : decode prog_68_method_6_code 135 = .ok (.lconst 0, 1) := by decide +kernel
theorem d33_136 : decode prog_68_method_6_code 136 = .ok (.lcmp, 1) := by decide +kernel
theorem d33_137 : decode prog_68_method_6_code 137 = .ok (.ifCond .ge 5, 3) := by decide +kernel
theorem d33_140 : decode prog_68_method_6_code 140 = .ok (.iconst 0, 1) := by decide +kernel
theorem d33_141 : decode prog_68_method_6_code 141 = .ok (.ireturn, 1) := by decide +kernel
theorem d33_142 : decode prog_68_method_6_code 142 = .ok (.goto (-84), 3) := by decide +kernel
theorem d33_145 : decode prog_68_method_6_code 145 = .ok (.goto (-135), 3) := by decide +kernel
theorem d33_148 : decode prog_68_method_6_code 148 = .ok (.iconst 1, 1) := by decide +kernel
theorem d33_149 : decode prog_68_method_6_code 149 = .ok (.ireturn, 1) := by decide +kernel
theorem d25_184 : decode prog_68_method_5_code 184 = .ok (.ifCond .ne 5, 3) := by decide +kernel
theorem d25_189 : decode prog_68_method_5_code 189 = .ok (.new 89, 3) := by decide +kernel
theorem d25_192 : decode prog_68_method_5_code 192 = .ok (.dup, 1) := by decide +kernel
theorem d25_193 : decode prog_68_method_5_code 193 = .ok (.lload_n 3, 1) := by decide +kernel
theorem d25_194 : decode prog_68_method_5_code 194 = .ok (.l2i, 1) := by decide +kernel
theorem d25_195 : decode prog_68_method_5_code 195 = .ok (.lload_n 1, 1) := by decide +kernel
theorem d25_196 : decode prog_68_method_5_code 196 = .ok (.l2i, 1) := by decide +kernel
theorem d25_197 : decode prog_68_method_5_code 197 = .ok (.invokespecial 91, 3) := by decide +kernel
theorem d34_0 : decode prog_11_method_1_code 0 = .ok (.aload_n 0, 1) := by decide +kernel
theorem d34_1 : decode prog_11_method_1_code 1 = .ok (.invokespecial 1, 3) := by decide +kernel
theorem d35_0 : decode jdk_30_method_1_code 0 = .ok (.aload_n 0, 1) := by decide +kernel
theorem d35_1 : decode jdk_30_method_1_code 1 = .ok (.invokespecial 1, 3) := by decide +kernel
theorem d35_4 : decode jdk_30_method_1_code 4 = .ok (.return_, 1) := by decide +kernel
theorem pn_java_lang_Record : plainName "java/lang/Record" = true := by first | (simp [plainName, overriddenIn]; done) | decide +kernel
theorem d34_4 : decode prog_11_method_1_code 4 = .ok (.aload_n 0, 1) := by decide +kernel
theorem d34_5 : decode prog_11_method_1_code 5 = .ok (.iload_n 1, 1) := by decide +kernel
theorem d34_6 : decode prog_11_method_1_code 6 = .ok (.putfield 7, 3) := by decide +kernel
theorem d34_9 : decode prog_11_method_1_code 9 = .ok (.aload_n 0, 1) := by decide +kernel
theorem d34_10 : decode prog_11_method_1_code 10 = .ok (.iload_n 2, 1) := by decide +kernel
theorem d34_11 : decode prog_11_method_1_code 11 = .ok (.putfield 13, 3) := by decide +kernel
theorem d34_14 : decode prog_11_method_1_code 14 = .ok (.return_, 1) := by decide +kernel
theorem pn_com_example_dayweave_dayweave_model_Range : plainName "com/example/dayweave/dayweave/model/Range" = true := by first | (simp [plainName, overriddenIn]; done) | decide +kernel
theorem pd__II_V : parseMethodDescriptor "(II)V" = some ⟨[.int, .int], none⟩ := by decide +kernel
theorem d25_200 : decode prog_68_method_5_code 200 = .ok (.areturn, 1) := by decide +kernel
theorem d25_187 : decode prog_68_method_5_code 187 = .ok (.aconst_null, 1) := by decide +kernel
theorem d25_188 : decode prog_68_method_5_code 188 = .ok (.areturn, 1) := by decide +kernel
theorem pd___Lcom_example_dayweave_dayweave_model_Range_ : parseMethodDescriptor "()Lcom/example/dayweave/dayweave/model/Range;" = some ⟨[], some (.object "com/example/dayweave/dayweave/model/Range")⟩ := by decide +kernel
theorem d36_0 : decode prog_11_method_6_code 0 = .ok (.aload_n 0, 1) := by decide +kernel
theorem d36_1 : decode prog_11_method_6_code 1 = .ok (.getfield 7, 3) := by decide +kernel
theorem d36_4 : decode prog_11_method_6_code 4 = .ok (.ireturn, 1) := by decide +kernel
theorem d37_0 : decode prog_11_method_7_code 0 = .ok (.aload_n 0, 1) := by decide +kernel
theorem d37_1 : decode prog_11_method_7_code 1 = .ok (.getfield 13, 3) := by decide +kernel
theorem d37_4 : decode prog_11_method_7_code 4 = .ok (.ireturn, 1) := by decide +kernel
theorem kf_6 : ((1 : Int32) + (128 : Int32)) = (129 : Int32) := by decide +kernel
def own_W (x : Int32) (y : Int64) : Prop := ((x &&& (1 : Int32)).toInt = 0 ∧ y = (2305843009213693951 : Int64)) ∨ (¬ (x &&& (1 : Int32)).toInt = 0 ∧ y = (x >>> ((3 : Int32) &&& 31)).toInt64)
def own_V (x : Int32) (y : Int64) : Prop := ((x &&& (1 : Int32)).toInt = 0 ∧ y = (1099511627776 : Int64)) ∨ (¬ (x &&& (1 : Int32)).toInt = 0 ∧ y = (x >>> ((3 : Int32) &&& 31)).toInt64)
def own_A (a b y : Int64) : Prop := (a.toInt = 1099511627776 ∧ y = (1099511627776 : Int64)) ∨ (¬ a.toInt = 1099511627776 ∧ ¬ b.toInt = 1099511627776 ∧ y = a + b) ∨ (¬ a.toInt = 1099511627776 ∧ b.toInt = 1099511627776 ∧ y = (1099511627776 : Int64))
def own_D (t f h y : Int64) : Prop := (f.toInt = 2305843009213693951 ∧ y = h) ∨ (¬ f.toInt = 2305843009213693951 ∧ ¬ (t + f).toInt < h.toInt ∧ y = h) ∨ (¬ f.toInt = 2305843009213693951 ∧ (t + f).toInt < h.toInt ∧ y = t + f)
def own_E (t f h y : Int64) : Prop := (t.toInt = 2305843009213693951 ∧ y = h) ∨ (¬ t.toInt = 2305843009213693951 ∧ own_D t f h y)
def own_B (b : Int) (y : Int64) : Prop := y.toInt = 2305843009213693951 ∨ (-b ≤ y.toInt ∧ y.toInt ≤ b)
def own_R (t f h y : Int) : Prop := ((t = 2305843009213693951 ∨ f = 2305843009213693951) ∧ y = h) ∨ (t ≠ 2305843009213693951 ∧ f ≠ 2305843009213693951 ∧ ¬ t + f < h ∧ y = h) ∨ (t ≠ 2305843009213693951 ∧ f ≠ 2305843009213693951 ∧ t + f < h ∧ y = t + f)
/-- a cycle below zero -/
def own_N (a01 a10 a02 a20 a12 a21 : Int) : Prop := (a01 ≠ 2305843009213693951 ∧ a10 ≠ 2305843009213693951 ∧ a01 + a10 < 0) ∨ (a02 ≠ 2305843009213693951 ∧ a20 ≠ 2305843009213693951 ∧ a02 + a20 < 0) ∨ (a12 ≠ 2305843009213693951 ∧ a21 ≠ 2305843009213693951 ∧ a12 + a21 < 0) ∨ (a01 ≠ 2305843009213693951 ∧ a12 ≠ 2305843009213693951 ∧ a20 ≠ 2305843009213693951 ∧ a01 + a12 + a20 < 0) ∨ (a02 ≠ 2305843009213693951 ∧ a21 ≠ 2305843009213693951 ∧ a10 ≠ 2305843009213693951 ∧ a02 + a21 + a10 < 0)
def own_Y (a01 a10 a02 a20 a12 a21 f00 f01 f02 f10 f11 f20 f22 : Int) : Prop := ¬ own_N a01 a10 a02 a20 a12 a21 ∧ own_R a02 a21 a01 f01 ∧ own_R a12 a20 a10 f10 ∧ own_R a01 a12 a02 f02 ∧ own_R a21 a10 a20 f20 ∧ f00 = 0 ∧ f11 = 0 ∧ f22 = 0
theorem own_e {b : Int} {t f h y : Int64} (hb : 0 ≤ b ∧ b ≤ 1125899906842624) (Bt : own_B b t) (Bf : own_B b f) (Bh : own_B b h) (e : own_E t f h y) : own_R t.toInt f.toInt h.toInt y.toInt ∧ own_B (2 * b) y := by
  have c := c_ladd t f
  have r := rng64 (t + f)
  unfold own_E own_D at e
  unfold own_B at Bt Bf Bh ⊢
  unfold own_R
  rcases e with ⟨e1, rfl⟩ | ⟨e1, ⟨e2, rfl⟩ | ⟨e2, e3, rfl⟩ | ⟨e2, e3, rfl⟩⟩ <;> constructor <;> omega
theorem own_e0 {b : Int} {t f h y : Int64} (hb : 0 ≤ b ∧ b ≤ 1125899906842624) (ht : t.toInt = 0) (hf : f.toInt = h.toInt) (Bh : own_B b h) (e : own_E t f h y) : y = h := by
  have c := c_ladd t f
  have r := rng64 (t + f)
  unfold own_E own_D at e
  unfold own_B at Bh
  rcases e with ⟨e1, e2⟩ | ⟨e1, ⟨e2, e3⟩ | ⟨e2, e3, e4⟩ | ⟨e2, e3, e4⟩⟩
  · exact e2
  · exact e3
  · exact e4
  · exfalso; omega
theorem own_e1 {b : Int} {t f h y : Int64} (hb : 0 ≤ b ∧ b ≤ 1125899906842624) (hf : f.toInt = 0) (ht : t.toInt = h.toInt) (Bh : own_B b h) (e : own_E t f h y) : y = h := by
  have c := c_ladd t f
  have r := rng64 (t + f)
  unfold own_E own_D at e
  unfold own_B at Bh
  rcases e with ⟨e1, e2⟩ | ⟨e1, ⟨e2, e3⟩ | ⟨e2, e3, e4⟩ | ⟨e2, e3, e4⟩⟩
  · exact e2
  · exact e3
  · exact e4
  · exfalso; omega
theorem own_B2 {b : Int} {y : Int64} (hb : 0 ≤ b) (h : own_B b y) : own_B (2 * b) y := by unfold own_B at *; omega
theorem own_Bz {b : Int} {y : Int64} (hb : 0 ≤ b) (h : y.toInt = 0) : own_B b y := by unfold own_B; omega
/-- one turn of 'via' (v; the others are p and q): what it makes of the nine -/
theorem own_round {b : Int} {vv vp vq pv pp pq qv qp qq fpv fpp fpq fqv fqp fqq yvv yvp yvq ypv ypp ypq yqv yqp yqq : Int64} (hb : 0 ≤ b ∧ b ≤ 1125899906842624) (zv : vv.toInt = 0) (zp : pp.toInt = 0) (zq : qq.toInt = 0)
    (Bvp : own_B b vp) (Bvq : own_B b vq) (Bpv : own_B b pv) (Bpq : own_B b pq) (Bqv : own_B b qv) (Bqp : own_B b qp)
    (v1 : own_E vv vv vv yvv) (v2 : own_E vv vp vp yvp) (v3 : own_E vv vq vq yvq) (gp : (fpv = vv ∧ fpp = vp ∧ fpq = vq) ∨ (fpv = yvv ∧ fpp = yvp ∧ fpq = yvq)) (gq : (fqv = vv ∧ fqp = vp ∧ fqq = vq) ∨ (fqv = yvv ∧ fqp = yvp ∧ fqq = yvq))
    (p1 : own_E pv fpv pv ypv) (p2 : own_E pv fpp pp ypp) (p3 : own_E pv fpq pq ypq) (q1 : own_E qv fqv qv yqv) (q2 : own_E qv fqp qp yqp) (q3 : own_E qv fqq qq yqq) :
    yvv.toInt = 0 ∧ yvp = vp ∧ yvq = vq ∧ ypv = pv ∧ yqv = qv ∧ own_R pv.toInt vp.toInt 0 ypp.toInt ∧ own_R qv.toInt vq.toInt 0 yqq.toInt ∧ own_R pv.toInt vq.toInt pq.toInt ypq.toInt ∧ own_R qv.toInt vp.toInt qp.toInt yqp.toInt ∧ own_B (2 * b) ypq ∧ own_B (2 * b) yqp := by
  have e1 := own_e0 hb zv rfl (own_Bz hb.1 zv) v1
  have e2 := own_e0 hb zv rfl Bvp v2
  have e3 := own_e0 hb zv rfl Bvq v3
  subst e1 e2 e3
  have gp : fpv = yvv ∧ fpp = yvp ∧ fpq = yvq := by rcases gp with g | g <;> exact g
  have gq : fqv = yvv ∧ fqp = yvp ∧ fqq = yvq := by rcases gq with g | g <;> exact g
  obtain ⟨rfl, rfl, rfl⟩ := gp
  obtain ⟨rfl, rfl, rfl⟩ := gq
  have e4 := own_e1 hb zv rfl Bpv p1
  have e5 := own_e1 hb zv rfl Bqv q1
  have k2 := own_e hb Bpv Bvp (own_Bz hb.1 zp) p2
  have k3 := own_e hb Bpv Bvq Bpq p3
  have k4 := own_e hb Bqv Bvp Bqp q2
  have k5 := own_e hb Bqv Bvq (own_Bz hb.1 zq) q3
  rw [zp] at k2
  rw [zq] at k5
  exact ⟨zv, rfl, rfl, e4, e5, k2.1, k5.1, k3.1, k4.1, k3.2, k4.2⟩
def own_b (y : Int) : Prop := y = 2305843009213693951 ∨ (-1099511627776 ≤ y ∧ y ≤ 1099511627776)
/-- not both there, or together no less than zero -/
def own_P (a b : Int) : Prop := a ≠ 2305843009213693951 → b ≠ 2305843009213693951 → 0 ≤ a + b
def own_M (t f h y : Int) : Prop := y ≤ h ∧ (t ≠ 2305843009213693951 → f ≠ 2305843009213693951 → y ≤ t + f) ∧ (y = h ∨ (t ≠ 2305843009213693951 ∧ f ≠ 2305843009213693951 ∧ y = t + f))
theorem own_M_of {t f h y : Int} (bt : own_b t) (bf : own_b f) (bh : own_b h) (r : own_R t f h y) : own_M t f h y ∧ own_b y ∨ own_M t f h y ∧ y = t + f ∧ t ≠ 2305843009213693951 ∧ f ≠ 2305843009213693951 := by
  unfold own_R at r
  unfold own_M own_b at *
  rcases r with ⟨r1, r2⟩ | ⟨r1, r2, r3, r4⟩ | ⟨r1, r2, r3, r4⟩
  · left; subst r2; exact ⟨⟨by omega, fun a b => by omega, Or.inl rfl⟩, bh⟩
  · left; subst r4; exact ⟨⟨by omega, fun a b => by omega, Or.inl rfl⟩, bh⟩
  · right; exact ⟨⟨by omega, fun a b => by omega, Or.inr ⟨r1, r2, r4⟩⟩, r4, r1, r2⟩
theorem own_R_of {t f h y : Int} (bt : own_b t) (bf : own_b f) (bh : own_b h) (m : own_M t f h y) : own_R t f h y := by
  obtain ⟨m1, m2, m3⟩ := m
  unfold own_R
  unfold own_b at *
  by_cases ht : t = 2305843009213693951
  · left; exact ⟨Or.inl ht, by omega⟩
  · by_cases hf : f = 2305843009213693951
    · left; exact ⟨Or.inr hf, by omega⟩
    · have q := m2 ht hf
      right
      by_cases hl : t + f < h
      · right; exact ⟨ht, hf, hl, by omega⟩
      · left; exact ⟨ht, hf, hl, by omega⟩
theorem own_diag {p v y : Int} (r : own_R p v 0 y) : (y < 0 → p ≠ 2305843009213693951 ∧ v ≠ 2305843009213693951 ∧ p + v < 0) ∧ (¬ y < 0 → y = 0 ∧ own_P p v) := by
  unfold own_R own_P at *
  rcases r with ⟨r1, r2⟩ | ⟨r1, r2, r3, r4⟩ | ⟨r1, r2, r3, r4⟩
  · exact ⟨fun h => by omega, fun h => ⟨by omega, fun a b => by omega⟩⟩
  · exact ⟨fun h => by omega, fun h => ⟨by omega, fun a b => by omega⟩⟩
  · exact ⟨fun h => ⟨r1, r2, by omega⟩, fun h => ⟨by omega, fun a b => by omega⟩⟩
theorem own_b_of {b : Int} {y : Int64} (hb : 0 ≤ b ∧ b ≤ 1099511627776) (h : own_B b y) : own_b y.toInt := by unfold own_B own_b at *; omega
/-- after turn 1 the cycle through the third point is seen -/
theorem own_n2 {a01 a10 a02 a20 a12 a21 n12 n21 : Int} (P1 : own_P a10 a01) (P2 : own_P a20 a02) (m1 : own_M a10 a02 a12 n12) (m2 : own_M a20 a01 a21 n21) (h1 : n21 ≠ 2305843009213693951) (h2 : n12 ≠ 2305843009213693951) (h : n21 + n12 < 0) : own_N a01 a10 a02 a20 a12 a21 := by
  obtain ⟨-, -, u⟩ := m1
  obtain ⟨-, -, w⟩ := m2
  unfold own_P at *
  unfold own_N
  rcases u with u | ⟨u1, u2, u⟩ <;> rcases w with w | ⟨w1, w2, w⟩
  · right; right; left; exact ⟨by omega, by omega, by omega⟩
  · right; right; right; left; exact ⟨w2, by omega, w1, by omega⟩
  · right; right; right; right; exact ⟨u2, by omega, u1, by omega⟩
  · have q1 := P1 u1 w2
    have q2 := P2 w1 u2
    omega
theorem own_n3 {a01 a10 a02 a20 a12 a21 n12 n21 s02 s20 : Int} (b12 : own_b n12) (b21 : own_b n21) (P1 : own_P a10 a01) (P2 : own_P a20 a02) (P3 : own_P n21 n12) (m1 : own_M a10 a02 a12 n12) (m2 : own_M a20 a01 a21 n21) (m3 : own_M a01 n12 a02 s02) (m4 : own_M n21 a10 a20 s20) (ba : own_b a01 ∧ own_b a10 ∧ own_b a02 ∧ own_b a20) (h1 : s02 ≠ 2305843009213693951) (h2 : s20 ≠ 2305843009213693951) : 0 ≤ s02 + s20 := by
  obtain ⟨-, u1, -⟩ := m1
  obtain ⟨-, w1, -⟩ := m2
  obtain ⟨-, -, u⟩ := m3
  obtain ⟨-, -, w⟩ := m4
  obtain ⟨c1, c2, c3, c4⟩ := ba
  unfold own_P own_b at *
  rcases u with u | ⟨u2, u3, u⟩ <;> rcases w with w | ⟨w2, w3, w⟩
  · have q := P2 (by omega) (by omega); omega
  · have q := u1 w3 (by omega)
    have q2 := P3 w2 (by omega)
    omega
  · have q := w1 (by omega) u2
    have q2 := P3 (by omega) u3
    omega
  · have q := P1 w3 u2
    have q2 := P3 w2 u3
    omega
/-- no cycle below zero is left -/
theorem own_ok {a01 a10 a02 a20 a12 a21 n12 n21 : Int} (b12 : own_b n12) (b21 : own_b n21) (ba : own_b a01 ∧ own_b a10 ∧ own_b a02 ∧ own_b a20 ∧ own_b a12 ∧ own_b a21) (P1 : own_P a10 a01) (P2 : own_P a20 a02) (P3 : own_P n21 n12) (m1 : own_M a10 a02 a12 n12) (m2 : own_M a20 a01 a21 n21) : ¬ own_N a01 a10 a02 a20 a12 a21 := by
  obtain ⟨u0, u1, -⟩ := m1
  obtain ⟨w0, w1, -⟩ := m2
  obtain ⟨c1, c2, c3, c4, c5, c6⟩ := ba
  unfold own_P own_b own_N at *
  intro hN
  rcases hN with ⟨x1, x2, x⟩ | ⟨x1, x2, x⟩ | ⟨x1, x2, x⟩ | ⟨x1, x2, x3, x⟩ | ⟨x1, x2, x3, x⟩
  · have q := P1 x2 x1; omega
  · have q := P2 x2 x1; omega
  · have q := P3 (by omega) (by omega); omega
  · have q2 := w1 x3 x1
    have q := P3 (by omega) (by omega); omega
  · have q2 := u1 x3 x1
    have q := P3 (by omega) (by omega); omega
theorem own_f2 {a01 a10 a02 a12 n12 s02 : Int} (ba : own_b a01 ∧ own_b a10 ∧ own_b a02 ∧ own_b a12 ∧ own_b n12) (P1 : own_P a10 a01) (m1 : own_M a10 a02 a12 n12) (m3 : own_M a01 n12 a02 s02) : own_M a01 a12 a02 s02 := by
  obtain ⟨u0, u1, u2⟩ := m1
  obtain ⟨w0, w1, w2⟩ := m3
  obtain ⟨c1, c2, c3, c4, c5⟩ := ba
  unfold own_P own_b at *
  refine ⟨w0, fun x y => ?_, ?_⟩
  · have q := w1 x (by omega); omega
  · rcases w2 with w2 | ⟨w3, w4, w5⟩
    · exact Or.inl w2
    · rcases u2 with u2 | ⟨u3, u4, u5⟩
      · exact Or.inr ⟨w3, by omega, by omega⟩
      · have q := P1 u3 w3
        exact Or.inl (by omega)
theorem own_f3 {a01 a10 a20 a21 n21 s20 : Int} (ba : own_b a01 ∧ own_b a10 ∧ own_b a20 ∧ own_b a21 ∧ own_b n21) (P1 : own_P a10 a01) (m2 : own_M a20 a01 a21 n21) (m4 : own_M n21 a10 a20 s20) : own_M a21 a10 a20 s20 := by
  obtain ⟨u0, u1, u2⟩ := m2
  obtain ⟨w0, w1, w2⟩ := m4
  obtain ⟨c1, c2, c3, c4, c5⟩ := ba
  unfold own_P own_b at *
  refine ⟨w0, fun x y => ?_, ?_⟩
  · have q := w1 (by omega) y; omega
  · rcases w2 with w2 | ⟨w3, w4, w5⟩
    · exact Or.inl w2
    · rcases u2 with u2 | ⟨u3, u4, u5⟩
      · exact Or.inr ⟨by omega, w4, by omega⟩
      · have q := P1 w4 u4
        exact Or.inl (by omega)
theorem own_f1 {a01 a02 a20 a12 a21 n21 s02 f01 : Int} (ba : own_b a01 ∧ own_b a02 ∧ own_b a20 ∧ own_b a12 ∧ own_b a21 ∧ own_b n21 ∧ own_b s02) (P2 : own_P a20 a02) (P4 : own_P a12 a21) (P5 : a01 ≠ 2305843009213693951 → a12 ≠ 2305843009213693951 → a20 ≠ 2305843009213693951 → 0 ≤ a01 + a12 + a20) (m2 : own_M a20 a01 a21 n21) (m3 : own_M a01 a12 a02 s02) (m5 : own_M s02 n21 a01 f01) : own_M a02 a21 a01 f01 := by
  obtain ⟨u0, u1, u2⟩ := m2
  obtain ⟨v0, v1, v2⟩ := m3
  obtain ⟨w0, w1, w2⟩ := m5
  obtain ⟨c1, c2, c3, c4, c5, c6, c7⟩ := ba
  unfold own_P own_b at *
  refine ⟨w0, fun x y => ?_, ?_⟩
  · have q := w1 (by omega) (by omega); omega
  · rcases w2 with w2 | ⟨w3, w4, w5⟩
    · exact Or.inl w2
    · rcases u2 with u2 | ⟨u3, u4, u5⟩ <;> rcases v2 with v2 | ⟨v3, v4, v5⟩
      · exact Or.inr ⟨by omega, by omega, by omega⟩
      · have q := P4 v4 (by omega)
        exact Or.inl (by omega)
      · have q := P2 u3 (by omega)
        exact Or.inl (by omega)
      · have q := P5 v3 v4 u3
        exact Or.inl (by omega)
theorem own_f4 {a10 a02 a20 a12 a21 n12 s20 f10 : Int} (ba : own_b a10 ∧ own_b a02 ∧ own_b a20 ∧ own_b a12 ∧ own_b a21 ∧ own_b n12 ∧ own_b s20) (P2 : own_P a20 a02) (P4 : own_P a12 a21) (P6 : a02 ≠ 2305843009213693951 → a21 ≠ 2305843009213693951 → a10 ≠ 2305843009213693951 → 0 ≤ a02 + a21 + a10) (m1 : own_M a10 a02 a12 n12) (m4 : own_M a21 a10 a20 s20) (m6 : own_M n12 s20 a10 f10) : own_M a12 a20 a10 f10 := by
  obtain ⟨u0, u1, u2⟩ := m1
  obtain ⟨v0, v1, v2⟩ := m4
  obtain ⟨w0, w1, w2⟩ := m6
  obtain ⟨c1, c2, c3, c4, c5, c6, c7⟩ := ba
  unfold own_P own_b at *
  refine ⟨w0, fun x y => ?_, ?_⟩
  · have q := w1 (by omega) (by omega); omega
  · rcases w2 with w2 | ⟨w3, w4, w5⟩
    · exact Or.inl w2
    · rcases u2 with u2 | ⟨u3, u4, u5⟩ <;> rcases v2 with v2 | ⟨v3, v4, v5⟩
      · exact Or.inr ⟨by omega, by omega, by omega⟩
      · have q := P4 (by omega) v3
        exact Or.inl (by omega)
      · have q := P2 (by omega) u4
        exact Or.inl (by omega)
      · have q := P6 u4 v3 v4
        exact Or.inl (by omega)
theorem own_Mo {t f h y : Int} (bt : own_b t) (bf : own_b f) (bh : own_b h) (r : own_R t f h y) : own_M t f h y := by
  rcases own_M_of bt bf bh r with q | q
  · exact q.1
  · exact q.1
theorem own_neg00 {dz m01 m02 m10 m12 m20 m21 y000 y001 y002 y010 y011 y012 y020 y021 y022 : Int64} (hz : dz.toInt = 0) (B01 : own_B 268435456 m01) (B02 : own_B 268435456 m02) (B10 : own_B 268435456 m10) (B12 : own_B 268435456 m12) (B20 : own_B 268435456 m20) (B21 : own_B 268435456 m21) (e000 : own_E dz dz dz y000) (e001 : own_E dz m01 m01 y001) (e002 : own_E dz m02 m02 y002) (e010 : own_E m10 y000 m10 y010) (e011 : own_E m10 y001 dz y011) (e012 : own_E m10 y002 m12 y012) (e020 : own_E m20 y000 m20 y020) (e021 : own_E m20 y001 m21 y021) (e022 : own_E m20 y002 dz y022) (n00 : y000.toInt < 0) : own_N m01.toInt m10.toInt m02.toInt m20.toInt m12.toInt m21.toInt := by
  obtain ⟨z0, q01, q02, q03, q04, a0, c0, d0, f0, B0, C0⟩ := own_round (b := 268435456) (by omega) hz hz hz B01 B02 B10 B12 B20 B21 e000 e001 e002 (Or.inr ⟨rfl, rfl, rfl⟩) (Or.inr ⟨rfl, rfl, rfl⟩) e010 e011 e012 e020 e021 e022
  subst q01 q02 q03 q04
  exfalso
  omega
theorem own_neg01 {dz m01 m02 m10 m12 m20 m21 y000 y001 y002 y010 y011 y012 y020 y021 y022 : Int64} (hz : dz.toInt = 0) (B01 : own_B 268435456 m01) (B02 : own_B 268435456 m02) (B10 : own_B 268435456 m10) (B12 : own_B 268435456 m12) (B20 : own_B 268435456 m20) (B21 : own_B 268435456 m21) (e000 : own_E dz dz dz y000) (e001 : own_E dz m01 m01 y001) (e002 : own_E dz m02 m02 y002) (e010 : own_E m10 y000 m10 y010) (e011 : own_E m10 y001 dz y011) (e012 : own_E m10 y002 m12 y012) (e020 : own_E m20 y000 m20 y020) (e021 : own_E m20 y001 m21 y021) (e022 : own_E m20 y002 dz y022) (n00 : ¬ y000.toInt < 0) (n01 : y011.toInt < 0) : own_N m01.toInt m10.toInt m02.toInt m20.toInt m12.toInt m21.toInt := by
  obtain ⟨z0, q01, q02, q03, q04, a0, c0, d0, f0, B0, C0⟩ := own_round (b := 268435456) (by omega) hz hz hz B01 B02 B10 B12 B20 B21 e000 e001 e002 (Or.inr ⟨rfl, rfl, rfl⟩) (Or.inr ⟨rfl, rfl, rfl⟩) e010 e011 e012 e020 e021 e022
  subst q01 q02 q03 q04
  have h := (own_diag a0).1 n01
  exact Or.inl ⟨h.2.1, h.1, by omega⟩
theorem own_neg02 {dz m01 m02 m10 m12 m20 m21 y000 y001 y002 y010 y011 y012 y020 y021 y022 : Int64} (hz : dz.toInt = 0) (B01 : own_B 268435456 m01) (B02 : own_B 268435456 m02) (B10 : own_B 268435456 m10) (B12 : own_B 268435456 m12) (B20 : own_B 268435456 m20) (B21 : own_B 268435456 m21) (e000 : own_E dz dz dz y000) (e001 : own_E dz m01 m01 y001) (e002 : own_E dz m02 m02 y002) (e010 : own_E m10 y000 m10 y010) (e011 : own_E m10 y001 dz y011) (e012 : own_E m10 y002 m12 y012) (e020 : own_E m20 y000 m20 y020) (e021 : own_E m20 y001 m21 y021) (e022 : own_E m20 y002 dz y022) (n00 : ¬ y000.toInt < 0) (n01 : ¬ y011.toInt < 0) (n02 : y022.toInt < 0) : own_N m01.toInt m10.toInt m02.toInt m20.toInt m12.toInt m21.toInt := by
  obtain ⟨z0, q01, q02, q03, q04, a0, c0, d0, f0, B0, C0⟩ := own_round (b := 268435456) (by omega) hz hz hz B01 B02 B10 B12 B20 B21 e000 e001 e002 (Or.inr ⟨rfl, rfl, rfl⟩) (Or.inr ⟨rfl, rfl, rfl⟩) e010 e011 e012 e020 e021 e022
  subst q01 q02 q03 q04
  have h := (own_diag c0).1 n02
  exact Or.inr (Or.inl ⟨h.2.1, h.1, by omega⟩)
theorem own_neg10 {dz m01 m02 m10 m12 m20 m21 y000 y001 y002 y010 y011 y012 y020 y021 y022 y100 y101 y102 y110 y111 y112 y120 y121 y122 : Int64} (hz : dz.toInt = 0) (B01 : own_B 268435456 m01) (B02 : own_B 268435456 m02) (B10 : own_B 268435456 m10) (B12 : own_B 268435456 m12) (B20 : own_B 268435456 m20) (B21 : own_B 268435456 m21) (e000 : own_E dz dz dz y000) (e001 : own_E dz m01 m01 y001) (e002 : own_E dz m02 m02 y002) (e010 : own_E m10 y000 m10 y010) (e011 : own_E m10 y001 dz y011) (e012 : own_E m10 y002 m12 y012) (e020 : own_E m20 y000 m20 y020) (e021 : own_E m20 y001 m21 y021) (e022 : own_E m20 y002 dz y022) (n00 : ¬ y000.toInt < 0) (n01 : ¬ y011.toInt < 0) (n02 : ¬ y022.toInt < 0) (e100 : own_E y001 y010 y000 y100) (e101 : own_E y001 y011 y001 y101) (e102 : own_E y001 y012 y002 y102) (e110 : own_E y011 y010 y010 y110) (e111 : own_E y011 y011 y011 y111) (e112 : own_E y011 y012 y012 y112) (e120 : own_E y021 y110 y020 y120) (e121 : own_E y021 y111 y021 y121) (e122 : own_E y021 y112 y022 y122) (n10 : y100.toInt < 0) : own_N m01.toInt m10.toInt m02.toInt m20.toInt m12.toInt m21.toInt := by
  obtain ⟨z0, q01, q02, q03, q04, a0, c0, d0, f0, B0, C0⟩ := own_round (b := 268435456) (by omega) hz hz hz B01 B02 B10 B12 B20 B21 e000 e001 e002 (Or.inr ⟨rfl, rfl, rfl⟩) (Or.inr ⟨rfl, rfl, rfl⟩) e010 e011 e012 e020 e021 e022
  subst q01 q02 q03 q04
  obtain ⟨z1, q11, q12, q13, q14, a1, c1, d1, f1, B1, C1⟩ := own_round (b := (2 * 268435456)) (by omega) ((own_diag a0).2 n01).1 z0 ((own_diag c0).2 n02).1 (own_B2 (by omega) B10) B0 (own_B2 (by omega) B01) (own_B2 (by omega) B02) C0 (own_B2 (by omega) B20) e111 e110 e112 (Or.inl ⟨rfl, rfl, rfl⟩) (Or.inr ⟨rfl, rfl, rfl⟩) e101 e100 e102 e121 e120 e122
  subst q11 q12 q13 q14
  have h := (own_diag a1).1 n10
  exact Or.inl h
theorem own_neg11 {dz m01 m02 m10 m12 m20 m21 y000 y001 y002 y010 y011 y012 y020 y021 y022 y100 y101 y102 y110 y111 y112 y120 y121 y122 : Int64} (hz : dz.toInt = 0) (B01 : own_B 268435456 m01) (B02 : own_B 268435456 m02) (B10 : own_B 268435456 m10) (B12 : own_B 268435456 m12) (B20 : own_B 268435456 m20) (B21 : own_B 268435456 m21) (e000 : own_E dz dz dz y000) (e001 : own_E dz m01 m01 y001) (e002 : own_E dz m02 m02 y002) (e010 : own_E m10 y000 m10 y010) (e011 : own_E m10 y001 dz y011) (e012 : own_E m10 y002 m12 y012) (e020 : own_E m20 y000 m20 y020) (e021 : own_E m20 y001 m21 y021) (e022 : own_E m20 y002 dz y022) (n00 : ¬ y000.toInt < 0) (n01 : ¬ y011.toInt < 0) (n02 : ¬ y022.toInt < 0) (e100 : own_E y001 y010 y000 y100) (e101 : own_E y001 y011 y001 y101) (e102 : own_E y001 y012 y002 y102) (e110 : own_E y011 y010 y010 y110) (e111 : own_E y011 y011 y011 y111) (e112 : own_E y011 y012 y012 y112) (e120 : own_E y021 y110 y020 y120) (e121 : own_E y021 y111 y021 y121) (e122 : own_E y021 y112 y022 y122) (n10 : ¬ y100.toInt < 0) (n11 : y111.toInt < 0) : own_N m01.toInt m10.toInt m02.toInt m20.toInt m12.toInt m21.toInt := by
  obtain ⟨z0, q01, q02, q03, q04, a0, c0, d0, f0, B0, C0⟩ := own_round (b := 268435456) (by omega) hz hz hz B01 B02 B10 B12 B20 B21 e000 e001 e002 (Or.inr ⟨rfl, rfl, rfl⟩) (Or.inr ⟨rfl, rfl, rfl⟩) e010 e011 e012 e020 e021 e022
  subst q01 q02 q03 q04
  obtain ⟨z1, q11, q12, q13, q14, a1, c1, d1, f1, B1, C1⟩ := own_round (b := (2 * 268435456)) (by omega) ((own_diag a0).2 n01).1 z0 ((own_diag c0).2 n02).1 (own_B2 (by omega) B10) B0 (own_B2 (by omega) B01) (own_B2 (by omega) B02) C0 (own_B2 (by omega) B20) e111 e110 e112 (Or.inl ⟨rfl, rfl, rfl⟩) (Or.inr ⟨rfl, rfl, rfl⟩) e101 e100 e102 e121 e120 e122
  subst q11 q12 q13 q14
  exfalso
  omega
theorem own_neg12 {dz m01 m02 m10 m12 m20 m21 y000 y001 y002 y010 y011 y012 y020 y021 y022 y100 y101 y102 y110 y111 y112 y120 y121 y122 : Int64} (hz : dz.toInt = 0) (B01 : own_B 268435456 m01) (B02 : own_B 268435456 m02) (B10 : own_B 268435456 m10) (B12 : own_B 268435456 m12) (B20 : own_B 268435456 m20) (B21 : own_B 268435456 m21) (e000 : own_E dz dz dz y000) (e001 : own_E dz m01 m01 y001) (e002 : own_E dz m02 m02 y002) (e010 : own_E m10 y000 m10 y010) (e011 : own_E m10 y001 dz y011) (e012 : own_E m10 y002 m12 y012) (e020 : own_E m20 y000 m20 y020) (e021 : own_E m20 y001 m21 y021) (e022 : own_E m20 y002 dz y022) (n00 : ¬ y000.toInt < 0) (n01 : ¬ y011.toInt < 0) (n02 : ¬ y022.toInt < 0) (e100 : own_E y001 y010 y000 y100) (e101 : own_E y001 y011 y001 y101) (e102 : own_E y001 y012 y002 y102) (e110 : own_E y011 y010 y010 y110) (e111 : own_E y011 y011 y011 y111) (e112 : own_E y011 y012 y012 y112) (e120 : own_E y021 y110 y020 y120) (e121 : own_E y021 y111 y021 y121) (e122 : own_E y021 y112 y022 y122) (n10 : ¬ y100.toInt < 0) (n11 : ¬ y111.toInt < 0) (n12 : y122.toInt < 0) : own_N m01.toInt m10.toInt m02.toInt m20.toInt m12.toInt m21.toInt := by
  obtain ⟨z0, q01, q02, q03, q04, a0, c0, d0, f0, B0, C0⟩ := own_round (b := 268435456) (by omega) hz hz hz B01 B02 B10 B12 B20 B21 e000 e001 e002 (Or.inr ⟨rfl, rfl, rfl⟩) (Or.inr ⟨rfl, rfl, rfl⟩) e010 e011 e012 e020 e021 e022
  subst q01 q02 q03 q04
  obtain ⟨z1, q11, q12, q13, q14, a1, c1, d1, f1, B1, C1⟩ := own_round (b := (2 * 268435456)) (by omega) ((own_diag a0).2 n01).1 z0 ((own_diag c0).2 n02).1 (own_B2 (by omega) B10) B0 (own_B2 (by omega) B01) (own_B2 (by omega) B02) C0 (own_B2 (by omega) B20) e111 e110 e112 (Or.inl ⟨rfl, rfl, rfl⟩) (Or.inr ⟨rfl, rfl, rfl⟩) e101 e100 e102 e121 e120 e122
  subst q11 q12 q13 q14
  have h := (own_diag c1).1 n12
  exact own_n2 ((own_diag a0).2 n01).2 ((own_diag c0).2 n02).2 (own_Mo (own_b_of (by omega) B10) (own_b_of (by omega) B02) (own_b_of (by omega) B12) d0) (own_Mo (own_b_of (by omega) B20) (own_b_of (by omega) B01) (own_b_of (by omega) B21) f0) h.1 h.2.1 h.2.2
theorem own_neg20 {dz m01 m02 m10 m12 m20 m21 y000 y001 y002 y010 y011 y012 y020 y021 y022 y100 y101 y102 y110 y111 y112 y120 y121 y122 y200 y201 y202 y210 y211 y212 y220 y221 y222 : Int64} (hz : dz.toInt = 0) (B01 : own_B 268435456 m01) (B02 : own_B 268435456 m02) (B10 : own_B 268435456 m10) (B12 : own_B 268435456 m12) (B20 : own_B 268435456 m20) (B21 : own_B 268435456 m21) (e000 : own_E dz dz dz y000) (e001 : own_E dz m01 m01 y001) (e002 : own_E dz m02 m02 y002) (e010 : own_E m10 y000 m10 y010) (e011 : own_E m10 y001 dz y011) (e012 : own_E m10 y002 m12 y012) (e020 : own_E m20 y000 m20 y020) (e021 : own_E m20 y001 m21 y021) (e022 : own_E m20 y002 dz y022) (n00 : ¬ y000.toInt < 0) (n01 : ¬ y011.toInt < 0) (n02 : ¬ y022.toInt < 0) (e100 : own_E y001 y010 y000 y100) (e101 : own_E y001 y011 y001 y101) (e102 : own_E y001 y012 y002 y102) (e110 : own_E y011 y010 y010 y110) (e111 : own_E y011 y011 y011 y111) (e112 : own_E y011 y012 y012 y112) (e120 : own_E y021 y110 y020 y120) (e121 : own_E y021 y111 y021 y121) (e122 : own_E y021 y112 y022 y122) (n10 : ¬ y100.toInt < 0) (n11 : ¬ y111.toInt < 0) (n12 : ¬ y122.toInt < 0) (e200 : own_E y102 y120 y100 y200) (e201 : own_E y102 y121 y101 y201) (e202 : own_E y102 y122 y102 y202) (e210 : own_E y112 y120 y110 y210) (e211 : own_E y112 y121 y111 y211) (e212 : own_E y112 y122 y112 y212) (e220 : own_E y122 y120 y120 y220) (e221 : own_E y122 y121 y121 y221) (e222 : own_E y122 y122 y122 y222) (n20 : y200.toInt < 0) : own_N m01.toInt m10.toInt m02.toInt m20.toInt m12.toInt m21.toInt := by
  obtain ⟨z0, q01, q02, q03, q04, a0, c0, d0, f0, B0, C0⟩ := own_round (b := 268435456) (by omega) hz hz hz B01 B02 B10 B12 B20 B21 e000 e001 e002 (Or.inr ⟨rfl, rfl, rfl⟩) (Or.inr ⟨rfl, rfl, rfl⟩) e010 e011 e012 e020 e021 e022
  subst q01 q02 q03 q04
  obtain ⟨z1, q11, q12, q13, q14, a1, c1, d1, f1, B1, C1⟩ := own_round (b := (2 * 268435456)) (by omega) ((own_diag a0).2 n01).1 z0 ((own_diag c0).2 n02).1 (own_B2 (by omega) B10) B0 (own_B2 (by omega) B01) (own_B2 (by omega) B02) C0 (own_B2 (by omega) B20) e111 e110 e112 (Or.inl ⟨rfl, rfl, rfl⟩) (Or.inr ⟨rfl, rfl, rfl⟩) e101 e100 e102 e121 e120 e122
  subst q11 q12 q13 q14
  obtain ⟨z2, q21, q22, q23, q24, a2, c2, d2, f2, B2, C2⟩ := own_round (b := (2 * (2 * 268435456))) (by omega) ((own_diag c1).2 n12).1 ((own_diag a1).2 n10).1 z1 C1 (own_B2 (by omega) C0) B1 (own_B2 (by omega) (own_B2 (by omega) B01)) (own_B2 (by omega) B0) (own_B2 (by omega) (own_B2 (by omega) B10)) e222 e220 e221 (Or.inl ⟨rfl, rfl, rfl⟩) (Or.inl ⟨rfl, rfl, rfl⟩) e202 e200 e201 e212 e210 e211
  subst q21 q22 q23 q24
  exfalso
  have h := (own_diag a2).1 n20
  have k := own_n3 (own_b_of (by omega) B0) (own_b_of (by omega) C0) ((own_diag a0).2 n01).2 ((own_diag c0).2 n02).2 ((own_diag c1).2 n12).2 (own_Mo (own_b_of (by omega) B10) (own_b_of (by omega) B02) (own_b_of (by omega) B12) d0) (own_Mo (own_b_of (by omega) B20) (own_b_of (by omega) B01) (own_b_of (by omega) B21) f0) (own_Mo (own_b_of (by omega) B01) (own_b_of (by omega) B0) (own_b_of (by omega) B02) d1) (own_Mo (own_b_of (by omega) C0) (own_b_of (by omega) B10) (own_b_of (by omega) B20) f1) ⟨(own_b_of (by omega) B01), (own_b_of (by omega) B10), (own_b_of (by omega) B02), (own_b_of (by omega) B20)⟩ h.1 h.2.1
  omega
theorem own_neg21 {dz m01 m02 m10 m12 m20 m21 y000 y001 y002 y010 y011 y012 y020 y021 y022 y100 y101 y102 y110 y111 y112 y120 y121 y122 y200 y201 y202 y210 y211 y212 y220 y221 y222 : Int64} (hz : dz.toInt = 0) (B01 : own_B 268435456 m01) (B02 : own_B 268435456 m02) (B10 : own_B 268435456 m10) (B12 : own_B 268435456 m12) (B20 : own_B 268435456 m20) (B21 : own_B 268435456 m21) (e000 : own_E dz dz dz y000) (e001 : own_E dz m01 m01 y001) (e002 : own_E dz m02 m02 y002) (e010 : own_E m10 y000 m10 y010) (e011 : own_E m10 y001 dz y011) (e012 : own_E m10 y002 m12 y012) (e020 : own_E m20 y000 m20 y020) (e021 : own_E m20 y001 m21 y021) (e022 : own_E m20 y002 dz y022) (n00 : ¬ y000.toInt < 0) (n01 : ¬ y011.toInt < 0) (n02 : ¬ y022.toInt < 0) (e100 : own_E y001 y010 y000 y100) (e101 : own_E y001 y011 y001 y101) (e102 : own_E y001 y012 y002 y102) (e110 : own_E y011 y010 y010 y110) (e111 : own_E y011 y011 y011 y111) (e112 : own_E y011 y012 y012 y112) (e120 : own_E y021 y110 y020 y120) (e121 : own_E y021 y111 y021 y121) (e122 : own_E y021 y112 y022 y122) (n10 : ¬ y100.toInt < 0) (n11 : ¬ y111.toInt < 0) (n12 : ¬ y122.toInt < 0) (e200 : own_E y102 y120 y100 y200) (e201 : own_E y102 y121 y101 y201) (e202 : own_E y102 y122 y102 y202) (e210 : own_E y112 y120 y110 y210) (e211 : own_E y112 y121 y111 y211) (e212 : own_E y112 y122 y112 y212) (e220 : own_E y122 y120 y120 y220) (e221 : own_E y122 y121 y121 y221) (e222 : own_E y122 y122 y122 y222) (n20 : ¬ y200.toInt < 0) (n21 : y211.toInt < 0) : own_N m01.toInt m10.toInt m02.toInt m20.toInt m12.toInt m21.toInt := by
  obtain ⟨z0, q01, q02, q03, q04, a0, c0, d0, f0, B0, C0⟩ := own_round (b := 268435456) (by omega) hz hz hz B01 B02 B10 B12 B20 B21 e000 e001 e002 (Or.inr ⟨rfl, rfl, rfl⟩) (Or.inr ⟨rfl, rfl, rfl⟩) e010 e011 e012 e020 e021 e022
  subst q01 q02 q03 q04
  obtain ⟨z1, q11, q12, q13, q14, a1, c1, d1, f1, B1, C1⟩ := own_round (b := (2 * 268435456)) (by omega) ((own_diag a0).2 n01).1 z0 ((own_diag c0).2 n02).1 (own_B2 (by omega) B10) B0 (own_B2 (by omega) B01) (own_B2 (by omega) B02) C0 (own_B2 (by omega) B20) e111 e110 e112 (Or.inl ⟨rfl, rfl, rfl⟩) (Or.inr ⟨rfl, rfl, rfl⟩) e101 e100 e102 e121 e120 e122
  subst q11 q12 q13 q14
  obtain ⟨z2, q21, q22, q23, q24, a2, c2, d2, f2, B2, C2⟩ := own_round (b := (2 * (2 * 268435456))) (by omega) ((own_diag c1).2 n12).1 ((own_diag a1).2 n10).1 z1 C1 (own_B2 (by omega) C0) B1 (own_B2 (by omega) (own_B2 (by omega) B01)) (own_B2 (by omega) B0) (own_B2 (by omega) (own_B2 (by omega) B10)) e222 e220 e221 (Or.inl ⟨rfl, rfl, rfl⟩) (Or.inl ⟨rfl, rfl, rfl⟩) e202 e200 e201 e212 e210 e211
  subst q21 q22 q23 q24
  exfalso
  have h := (own_diag c2).1 n21
  have k := ((own_diag c1).2 n12).2 h.2.1 h.1
  omega
theorem own_neg22 {dz m01 m02 m10 m12 m20 m21 y000 y001 y002 y010 y011 y012 y020 y021 y022 y100 y101 y102 y110 y111 y112 y120 y121 y122 y200 y201 y202 y210 y211 y212 y220 y221 y222 : Int64} (hz : dz.toInt = 0) (B01 : own_B 268435456 m01) (B02 : own_B 268435456 m02) (B10 : own_B 268435456 m10) (B12 : own_B 268435456 m12) (B20 : own_B 268435456 m20) (B21 : own_B 268435456 m21) (e000 : own_E dz dz dz y000) (e001 : own_E dz m01 m01 y001) (e002 : own_E dz m02 m02 y002) (e010 : own_E m10 y000 m10 y010) (e011 : own_E m10 y001 dz y011) (e012 : own_E m10 y002 m12 y012) (e020 : own_E m20 y000 m20 y020) (e021 : own_E m20 y001 m21 y021) (e022 : own_E m20 y002 dz y022) (n00 : ¬ y000.toInt < 0) (n01 : ¬ y011.toInt < 0) (n02 : ¬ y022.toInt < 0) (e100 : own_E y001 y010 y000 y100) (e101 : own_E y001 y011 y001 y101) (e102 : own_E y001 y012 y002 y102) (e110 : own_E y011 y010 y010 y110) (e111 : own_E y011 y011 y011 y111) (e112 : own_E y011 y012 y012 y112) (e120 : own_E y021 y110 y020 y120) (e121 : own_E y021 y111 y021 y121) (e122 : own_E y021 y112 y022 y122) (n10 : ¬ y100.toInt < 0) (n11 : ¬ y111.toInt < 0) (n12 : ¬ y122.toInt < 0) (e200 : own_E y102 y120 y100 y200) (e201 : own_E y102 y121 y101 y201) (e202 : own_E y102 y122 y102 y202) (e210 : own_E y112 y120 y110 y210) (e211 : own_E y112 y121 y111 y211) (e212 : own_E y112 y122 y112 y212) (e220 : own_E y122 y120 y120 y220) (e221 : own_E y122 y121 y121 y221) (e222 : own_E y122 y122 y122 y222) (n20 : ¬ y200.toInt < 0) (n21 : ¬ y211.toInt < 0) (n22 : y222.toInt < 0) : own_N m01.toInt m10.toInt m02.toInt m20.toInt m12.toInt m21.toInt := by
  obtain ⟨z0, q01, q02, q03, q04, a0, c0, d0, f0, B0, C0⟩ := own_round (b := 268435456) (by omega) hz hz hz B01 B02 B10 B12 B20 B21 e000 e001 e002 (Or.inr ⟨rfl, rfl, rfl⟩) (Or.inr ⟨rfl, rfl, rfl⟩) e010 e011 e012 e020 e021 e022
  subst q01 q02 q03 q04
  obtain ⟨z1, q11, q12, q13, q14, a1, c1, d1, f1, B1, C1⟩ := own_round (b := (2 * 268435456)) (by omega) ((own_diag a0).2 n01).1 z0 ((own_diag c0).2 n02).1 (own_B2 (by omega) B10) B0 (own_B2 (by omega) B01) (own_B2 (by omega) B02) C0 (own_B2 (by omega) B20) e111 e110 e112 (Or.inl ⟨rfl, rfl, rfl⟩) (Or.inr ⟨rfl, rfl, rfl⟩) e101 e100 e102 e121 e120 e122
  subst q11 q12 q13 q14
  obtain ⟨z2, q21, q22, q23, q24, a2, c2, d2, f2, B2, C2⟩ := own_round (b := (2 * (2 * 268435456))) (by omega) ((own_diag c1).2 n12).1 ((own_diag a1).2 n10).1 z1 C1 (own_B2 (by omega) C0) B1 (own_B2 (by omega) (own_B2 (by omega) B01)) (own_B2 (by omega) B0) (own_B2 (by omega) (own_B2 (by omega) B10)) e222 e220 e221 (Or.inl ⟨rfl, rfl, rfl⟩) (Or.inl ⟨rfl, rfl, rfl⟩) e202 e200 e201 e212 e210 e211
  subst q21 q22 q23 q24
  exfalso
  omega
theorem own_pos {dz m01 m02 m10 m12 m20 m21 y000 y001 y002 y010 y011 y012 y020 y021 y022 y100 y101 y102 y110 y111 y112 y120 y121 y122 y200 y201 y202 y210 y211 y212 y220 y221 y222 : Int64} (hz : dz.toInt = 0) (B01 : own_B 268435456 m01) (B02 : own_B 268435456 m02) (B10 : own_B 268435456 m10) (B12 : own_B 268435456 m12) (B20 : own_B 268435456 m20) (B21 : own_B 268435456 m21) (e000 : own_E dz dz dz y000) (e001 : own_E dz m01 m01 y001) (e002 : own_E dz m02 m02 y002) (e010 : own_E m10 y000 m10 y010) (e011 : own_E m10 y001 dz y011) (e012 : own_E m10 y002 m12 y012) (e020 : own_E m20 y000 m20 y020) (e021 : own_E m20 y001 m21 y021) (e022 : own_E m20 y002 dz y022) (n00 : ¬ y000.toInt < 0) (n01 : ¬ y011.toInt < 0) (n02 : ¬ y022.toInt < 0) (e100 : own_E y001 y010 y000 y100) (e101 : own_E y001 y011 y001 y101) (e102 : own_E y001 y012 y002 y102) (e110 : own_E y011 y010 y010 y110) (e111 : own_E y011 y011 y011 y111) (e112 : own_E y011 y012 y012 y112) (e120 : own_E y021 y110 y020 y120) (e121 : own_E y021 y111 y021 y121) (e122 : own_E y021 y112 y022 y122) (n10 : ¬ y100.toInt < 0) (n11 : ¬ y111.toInt < 0) (n12 : ¬ y122.toInt < 0) (e200 : own_E y102 y120 y100 y200) (e201 : own_E y102 y121 y101 y201) (e202 : own_E y102 y122 y102 y202) (e210 : own_E y112 y120 y110 y210) (e211 : own_E y112 y121 y111 y211) (e212 : own_E y112 y122 y112 y212) (e220 : own_E y122 y120 y120 y220) (e221 : own_E y122 y121 y121 y221) (e222 : own_E y122 y122 y122 y222) (n20 : ¬ y200.toInt < 0) (n21 : ¬ y211.toInt < 0) (n22 : ¬ y222.toInt < 0) : own_Y m01.toInt m10.toInt m02.toInt m20.toInt m12.toInt m21.toInt y200.toInt y201.toInt y202.toInt y210.toInt y211.toInt y220.toInt y222.toInt := by
  obtain ⟨z0, q01, q02, q03, q04, a0, c0, d0, f0, B0, C0⟩ := own_round (b := 268435456) (by omega) hz hz hz B01 B02 B10 B12 B20 B21 e000 e001 e002 (Or.inr ⟨rfl, rfl, rfl⟩) (Or.inr ⟨rfl, rfl, rfl⟩) e010 e011 e012 e020 e021 e022
  subst q01 q02 q03 q04
  obtain ⟨z1, q11, q12, q13, q14, a1, c1, d1, f1, B1, C1⟩ := own_round (b := (2 * 268435456)) (by omega) ((own_diag a0).2 n01).1 z0 ((own_diag c0).2 n02).1 (own_B2 (by omega) B10) B0 (own_B2 (by omega) B01) (own_B2 (by omega) B02) C0 (own_B2 (by omega) B20) e111 e110 e112 (Or.inl ⟨rfl, rfl, rfl⟩) (Or.inr ⟨rfl, rfl, rfl⟩) e101 e100 e102 e121 e120 e122
  subst q11 q12 q13 q14
  obtain ⟨z2, q21, q22, q23, q24, a2, c2, d2, f2, B2, C2⟩ := own_round (b := (2 * (2 * 268435456))) (by omega) ((own_diag c1).2 n12).1 ((own_diag a1).2 n10).1 z1 C1 (own_B2 (by omega) C0) B1 (own_B2 (by omega) (own_B2 (by omega) B01)) (own_B2 (by omega) B0) (own_B2 (by omega) (own_B2 (by omega) B10)) e222 e220 e221 (Or.inl ⟨rfl, rfl, rfl⟩) (Or.inl ⟨rfl, rfl, rfl⟩) e202 e200 e201 e212 e210 e211
  subst q21 q22 q23 q24
  have M1 := (own_Mo (own_b_of (by omega) B10) (own_b_of (by omega) B02) (own_b_of (by omega) B12) d0)
  have M2 := (own_Mo (own_b_of (by omega) B20) (own_b_of (by omega) B01) (own_b_of (by omega) B21) f0)
  have N12 := (own_b_of (by omega) B0)
  have N21 := (own_b_of (by omega) C0)
  have S02 := (own_b_of (by omega) B1)
  have S20 := (own_b_of (by omega) C1)
  have ok := own_ok N12 N21 ⟨(own_b_of (by omega) B01), (own_b_of (by omega) B10), (own_b_of (by omega) B02), (own_b_of (by omega) B20), (own_b_of (by omega) B12), (own_b_of (by omega) B21)⟩ ((own_diag a0).2 n01).2 ((own_diag c0).2 n02).2 ((own_diag c1).2 n12).2 M1 M2
  have M3 := own_f2 ⟨(own_b_of (by omega) B01), (own_b_of (by omega) B10), (own_b_of (by omega) B02), (own_b_of (by omega) B12), N12⟩ ((own_diag a0).2 n01).2 M1 (own_Mo (own_b_of (by omega) B01) (own_b_of (by omega) B0) (own_b_of (by omega) B02) d1)
  have M4 := own_f3 ⟨(own_b_of (by omega) B01), (own_b_of (by omega) B10), (own_b_of (by omega) B20), (own_b_of (by omega) B21), N21⟩ ((own_diag a0).2 n01).2 M2 (own_Mo (own_b_of (by omega) C0) (own_b_of (by omega) B10) (own_b_of (by omega) B20) f1)
  have P4 : own_P m12.toInt m21.toInt := fun x y => Int.not_lt.mp fun l => ok (Or.inr (Or.inr (Or.inl ⟨x, y, l⟩)))
  have M5 := own_f1 ⟨(own_b_of (by omega) B01), (own_b_of (by omega) B02), (own_b_of (by omega) B20), (own_b_of (by omega) B12), (own_b_of (by omega) B21), N21, S02⟩ ((own_diag c0).2 n02).2 P4 (fun x y w => Int.not_lt.mp fun l => ok (Or.inr (Or.inr (Or.inr (Or.inl ⟨x, y, w, l⟩))))) M2 M3 (own_Mo S02 N21 (own_b_of (by omega) B01) d2)
  have M6 := own_f4 ⟨(own_b_of (by omega) B10), (own_b_of (by omega) B02), (own_b_of (by omega) B20), (own_b_of (by omega) B12), (own_b_of (by omega) B21), N12, S20⟩ ((own_diag c0).2 n02).2 P4 (fun x y w => Int.not_lt.mp fun l => ok (Or.inr (Or.inr (Or.inr (Or.inr ⟨x, y, w, l⟩))))) M1 M4 (own_Mo N12 S20 (own_b_of (by omega) B10) f2)
  exact ⟨ok, own_R_of (own_b_of (by omega) B02) (own_b_of (by omega) B21) (own_b_of (by omega) B01) M5, own_R_of (own_b_of (by omega) B12) (own_b_of (by omega) B20) (own_b_of (by omega) B10) M6, own_R_of (own_b_of (by omega) B01) (own_b_of (by omega) B12) (own_b_of (by omega) B02) M3, own_R_of (own_b_of (by omega) B21) (own_b_of (by omega) B10) (own_b_of (by omega) B20) M4, ((own_diag a2).2 n20).1, ((own_diag c2).2 n21).1, z2⟩
theorem own_put {x : Int32} {y : Int64} (D : ((x &&& (1 : Int32)).toInt = 0 ∧ y = (2305843009213693951 : Int64)) ∨ (∃ z : Int64, ¬ (x &&& (1 : Int32)).toInt = 0 ∧ (((x >>> ((3 : Int32) &&& 31)).toInt64.toInt < 2305843009213693951 ∧ z = (x >>> ((3 : Int32) &&& 31)).toInt64) ∨ (¬ (x >>> ((3 : Int32) &&& 31)).toInt64.toInt < 2305843009213693951 ∧ z = (2305843009213693951 : Int64))) ∧ y = z)) : own_W x y := by
  rcases D with D | ⟨z, d1, d2, rfl⟩
  · exact Or.inl D
  · have c := c_i2l (x >>> ((3 : Int32) &&& 31))
    have r := rng32 (x >>> ((3 : Int32) &&& 31))
    rcases d2 with d2 | d2
    · exact Or.inr ⟨d1, d2.2⟩
    · exfalso; omega
theorem own_s (x : Int32) : (x >>> ((3 : Int32) &&& 31)).toInt = x.toInt / 8 := by
  have e : ((3 : Int32) &&& 31) = 3 := by decide
  rw [e]
  show (x.toBitVec.sshiftRight (((3 : Int32).toBitVec.smod 32)).toNat).toInt = _
  have e2 : ((3 : Int32).toBitVec.smod 32).toNat = 3 := by decide
  rw [e2, BitVec.toInt_sshiftRight]
  simp [Int.shiftRight_eq_div_pow]
theorem own_sh (x : Int32) : -268435456 ≤ (x >>> ((3 : Int32) &&& 31)).toInt64.toInt ∧ (x >>> ((3 : Int32) &&& 31)).toInt64.toInt ≤ 268435456 := by
  have c := c_i2l (x >>> ((3 : Int32) &&& 31))
  have r := rng32 x
  have q := own_s x
  omega
theorem own_WB {x : Int32} {y : Int64} (h : own_W x y) : own_B 268435456 y := by
  have q := own_sh x
  unfold own_W at h
  unfold own_B
  rcases h with ⟨-, rfl⟩ | ⟨-, rfl⟩
  · exact Or.inl (by decide)
  · exact Or.inr q
def own_X (m w : Int) : Prop := (m = 2305843009213693951 ∧ w = 1099511627776) ∨ (m = w ∧ -268435456 ≤ m ∧ m ≤ 268435456)
theorem own_x {x : Int32} {m w : Int64} (h : own_W x m) (k : own_V x w) : own_X m.toInt w.toInt := by
  have q := own_sh x
  unfold own_W at h
  unfold own_V at k
  unfold own_X
  rcases h with ⟨h1, rfl⟩ | ⟨h1, rfl⟩ <;> rcases k with ⟨k1, rfl⟩ | ⟨k1, rfl⟩
  · exact Or.inl ⟨by decide, by decide⟩
  · exact absurd h1 k1
  · exact absurd k1 h1
  · exact Or.inr ⟨rfl, q⟩
def own_I (a b y : Int) : Prop := ((a = 1099511627776 ∨ b = 1099511627776) ∧ y = 1099511627776) ∨ (a ≠ 1099511627776 ∧ b ≠ 1099511627776 ∧ y = a + b)
theorem own_i {a b y : Int64} (ba : -4398046511104 ≤ a.toInt ∧ a.toInt ≤ 4398046511104) (bb : -4398046511104 ≤ b.toInt ∧ b.toInt ≤ 4398046511104) (h : own_A a b y) : own_I a.toInt b.toInt y.toInt := by
  have c := c_ladd a b
  have r := rng64 (a + b)
  have kN : (1099511627776 : Int64).toInt = 1099511627776 := by decide
  unfold own_A at h
  unfold own_I
  rcases h with ⟨h1, rfl⟩ | ⟨h1, h2, rfl⟩ | ⟨h1, h2, rfl⟩
  · left; exact ⟨Or.inl h1, kN⟩
  · right; exact ⟨h1, h2, by omega⟩
  · left; exact ⟨Or.inr h2, kN⟩
def own_Z (f d : Int) : Prop := (f = 2305843009213693951 ∧ d = 1099511627776) ∨ (f = d ∧ -536870912 ≤ f ∧ f ≤ 536870912)
theorem own_key {mh mt mf f : Int} {wh wt wf s d : Int64} (xh : own_X mh wh.toInt) (xt : own_X mt wt.toInt) (xf : own_X mf wf.toInt) (A : own_A wt wf s) (D : (s.toInt < wh.toInt ∧ d = s) ∨ (¬ s.toInt < wh.toInt ∧ d = wh)) (r : own_R mt mf mh f) : own_Z f d.toInt := by
  have i := own_i (by unfold own_X at xt; omega) (by unfold own_X at xf; omega) A
  unfold own_X at xh xt xf
  unfold own_I at i
  unfold own_R at r
  unfold own_Z
  rcases D with ⟨d1, rfl⟩ | ⟨d1, rfl⟩ <;> omega
theorem own_kU : ((-2305843009213693951 : Int64)).toInt = -2305843009213693951 := by
  have c := c_lneg (2305843009213693951 : Int64)
  have r := rng64 (-(2305843009213693951 : Int64))
  have k : (2305843009213693951 : Int64).toInt = 2305843009213693951 := by decide
  omega
theorem own_lat {f y : Int64} {d : Int} (z : own_Z f.toInt d) (D : (f.toInt = 2305843009213693951 ∧ y = (2305843009213693951 : Int64)) ∨ (∃ z : Int64, ¬ f.toInt = 2305843009213693951 ∧ (((f + (0 : Int64)).toInt < (2305843009213693951 : Int64).toInt ∧ z = f + (0 : Int64)) ∨ (¬ (f + (0 : Int64)).toInt < (2305843009213693951 : Int64).toInt ∧ z = (2305843009213693951 : Int64))) ∧ y = z)) : (f.toInt = 2305843009213693951 ∧ y.toInt = 2305843009213693951) ∨ (f.toInt ≠ 2305843009213693951 ∧ y.toInt = f.toInt) := by
  have c := c_ladd f (0 : Int64)
  have r := rng64 (f + (0 : Int64))
  have k : (2305843009213693951 : Int64).toInt = 2305843009213693951 := by decide
  have k0 : (0 : Int64).toInt = 0 := by decide
  unfold own_Z at z
  rcases D with ⟨d1, rfl⟩ | ⟨z, d1, ⟨d2, rfl⟩ | ⟨d2, rfl⟩, rfl⟩
  · exact Or.inl ⟨d1, k⟩
  · right; exact ⟨d1, by omega⟩
  · exfalso; omega
theorem own_ear {f y : Int64} {d : Int} (z : own_Z f.toInt d) (D : (f.toInt = 2305843009213693951 ∧ y = (-2305843009213693951 : Int64)) ∨ (∃ z : Int64, ¬ f.toInt = 2305843009213693951 ∧ (((-2305843009213693951 : Int64).toInt < (-((0 : Int64) + f)).toInt ∧ z = -((0 : Int64) + f)) ∨ (¬ (-2305843009213693951 : Int64).toInt < (-((0 : Int64) + f)).toInt ∧ z = (-2305843009213693951 : Int64))) ∧ y = z)) : (f.toInt = 2305843009213693951 ∧ y.toInt = -2305843009213693951) ∨ (f.toInt ≠ 2305843009213693951 ∧ y.toInt = -f.toInt) := by
  have c := c_ladd (0 : Int64) f
  have r := rng64 ((0 : Int64) + f)
  have c2 := c_lneg ((0 : Int64) + f)
  have r2 := rng64 (-((0 : Int64) + f))
  have k0 : (0 : Int64).toInt = 0 := by decide
  have kU := own_kU
  unfold own_Z at z
  rcases D with ⟨d1, rfl⟩ | ⟨z, d1, ⟨d2, rfl⟩ | ⟨d2, rfl⟩, rfl⟩
  · exact Or.inl ⟨d1, kU⟩
  · right; refine ⟨d1, ?_⟩
    have e : ((0 : Int64) + f).toInt = f.toInt := by omega
    omega
  · exfalso
    have e : ((0 : Int64) + f).toInt = f.toInt := by omega
    omega
theorem own_zz {y : Int64} (h : y.toInt = 0) : ((((0 : Int64) + y) + (0 : Int64))).toInt = 0 := by
  have k : y = 0 := Int64.toInt_inj.mp h
  subst k
  decide
theorem own_iN {a b y : Int64} {ma mb : Int} (xa : own_X ma a.toInt) (xb : own_X mb b.toInt) (A : own_A a b y) : (ma ≠ 2305843009213693951 ∧ mb ≠ 2305843009213693951 ∧ y.toInt = ma + mb) ∨ ((ma = 2305843009213693951 ∨ mb = 2305843009213693951) ∧ y.toInt = 1099511627776) := by
  have i := own_i (by unfold own_X at xa; omega) (by unfold own_X at xb; omega) A
  unfold own_X at xa xb
  unfold own_I at i
  omega
theorem own_iN3 {a b c s y : Int64} {ma mb mc : Int} (xa : own_X ma a.toInt) (xb : own_X mb b.toInt) (xc : own_X mc c.toInt) (A : own_A a b s) (B : own_A s c y) : (ma ≠ 2305843009213693951 ∧ mb ≠ 2305843009213693951 ∧ mc ≠ 2305843009213693951 ∧ y.toInt = ma + mb + mc) ∨ ((ma = 2305843009213693951 ∨ mb = 2305843009213693951 ∨ mc = 2305843009213693951) ∧ y.toInt = 1099511627776) := by
  have i := own_iN xa xb A
  have j := own_i (by unfold own_X at xa xb; omega) (by unfold own_X at xc; omega) B
  unfold own_X at xa xb xc
  unfold own_I at j
  omega
theorem own_lf0 {y305 : Int64} {y359 : Int64} {y361 : Int64} {y29 : Int64} {y29_512 : Int64} {y579 : Int64} {y589 : Int64} (Z0 : own_Z y305.toInt y29.toInt) (Z1 : own_Z y359.toInt y29_512.toInt) (la : (y305.toInt = 2305843009213693951 ∧ y579.toInt = 2305843009213693951) ∨ (y305.toInt ≠ 2305843009213693951 ∧ y579.toInt = y305.toInt)) (ea : (y359.toInt = 2305843009213693951 ∧ y589.toInt = -2305843009213693951) ∨ (y359.toInt ≠ 2305843009213693951 ∧ y589.toInt = -y359.toInt)) (hz : y361.toInt = 0) (t_c169_643 : ((y579).toInt = (2305843009213693951 : Int))) (t_c374_741 : (¬ ((y29).toInt = (1099511627776 : Int)))) (t_c383_743 : (¬ ((y29_512).toInt = (1099511627776 : Int)))) : False := by
  have kU := own_kU
  have zz := own_zz hz
  have n1 := c_lneg y29_512
  have n2 := rng64 (-y29_512)
  unfold own_Z at Z0 Z1
  omega
theorem own_lf1 {y305 : Int64} {y359 : Int64} {y361 : Int64} {y29 : Int64} {y29_512 : Int64} {y579 : Int64} {y589 : Int64} (Z0 : own_Z y305.toInt y29.toInt) (Z1 : own_Z y359.toInt y29_512.toInt) (la : (y305.toInt = 2305843009213693951 ∧ y579.toInt = 2305843009213693951) ∨ (y305.toInt ≠ 2305843009213693951 ∧ y579.toInt = y305.toInt)) (ea : (y359.toInt = 2305843009213693951 ∧ y589.toInt = -2305843009213693951) ∨ (y359.toInt ≠ 2305843009213693951 ∧ y589.toInt = -y359.toInt)) (hz : y361.toInt = 0) (t_c169_643 : (¬ ((y579).toInt = (2305843009213693951 : Int)))) (t_c177_692 : ((y589).toInt = ((-2305843009213693951 : Int64)).toInt)) (t_c374_745 : (¬ ((y29).toInt = (1099511627776 : Int)))) (t_c383_747 : (¬ ((y29_512).toInt = (1099511627776 : Int)))) : False := by
  have kU := own_kU
  have zz := own_zz hz
  have n1 := c_lneg y29_512
  have n2 := rng64 (-y29_512)
  unfold own_Z at Z0 Z1
  omega
theorem own_lf2 {y305 : Int64} {y359 : Int64} {y361 : Int64} {y29 : Int64} {y29_512 : Int64} {y579 : Int64} {y589 : Int64} {ni734 : Int32} {xi735 : Int32} (Z0 : own_Z y305.toInt y29.toInt) (Z1 : own_Z y359.toInt y29_512.toInt) (la : (y305.toInt = 2305843009213693951 ∧ y579.toInt = 2305843009213693951) ∨ (y305.toInt ≠ 2305843009213693951 ∧ y579.toInt = y305.toInt)) (ea : (y359.toInt = 2305843009213693951 ∧ y589.toInt = -2305843009213693951) ∨ (y359.toInt ≠ 2305843009213693951 ∧ y589.toInt = -y359.toInt)) (hz : y361.toInt = 0) (t_c169_643 : (¬ ((y579).toInt = (2305843009213693951 : Int)))) (t_c177_692 : (¬ ((y589).toInt = ((-2305843009213693951 : Int64)).toInt))) (e_ni734 : ni734 = (y589).toInt32) (e_xi735 : xi735 = (y579).toInt32) (t_c374_749 : ((y29).toInt = (1099511627776 : Int))) : False := by
  have kU := own_kU
  have zz := own_zz hz
  have n1 := c_lneg y29_512
  have n2 := rng64 (-y29_512)
  have ini734 := c_i2l ni734
  have jni734 := c_l2i y589
  have kni734 := rng32 ni734
  rw [← e_ni734] at jni734
  clear e_ni734
  have ixi735 := c_i2l xi735
  have jxi735 := c_l2i y579
  have kxi735 := rng32 xi735
  rw [← e_xi735] at jxi735
  clear e_xi735
  unfold own_Z at Z0 Z1
  omega
theorem own_lf3 {y305 : Int64} {y359 : Int64} {y361 : Int64} {y29 : Int64} {y29_512 : Int64} {y579 : Int64} {y589 : Int64} {ni734 : Int32} {xi735 : Int32} (Z0 : own_Z y305.toInt y29.toInt) (Z1 : own_Z y359.toInt y29_512.toInt) (la : (y305.toInt = 2305843009213693951 ∧ y579.toInt = 2305843009213693951) ∨ (y305.toInt ≠ 2305843009213693951 ∧ y579.toInt = y305.toInt)) (ea : (y359.toInt = 2305843009213693951 ∧ y589.toInt = -2305843009213693951) ∨ (y359.toInt ≠ 2305843009213693951 ∧ y589.toInt = -y359.toInt)) (hz : y361.toInt = 0) (t_c169_643 : (¬ ((y579).toInt = (2305843009213693951 : Int)))) (t_c177_692 : (¬ ((y589).toInt = ((-2305843009213693951 : Int64)).toInt))) (e_ni734 : ni734 = (y589).toInt32) (e_xi735 : xi735 = (y579).toInt32) (t_c374_749 : (¬ ((y29).toInt = (1099511627776 : Int)))) (t_c383_751 : (¬ ((y29_512).toInt = (1099511627776 : Int)))) (t_c412_753 : (¬ (((ni734).toInt64).toInt = ((-y29_512)).toInt))) : False := by
  have kU := own_kU
  have zz := own_zz hz
  have n1 := c_lneg y29_512
  have n2 := rng64 (-y29_512)
  have ini734 := c_i2l ni734
  have jni734 := c_l2i y589
  have kni734 := rng32 ni734
  rw [← e_ni734] at jni734
  clear e_ni734
  have ixi735 := c_i2l xi735
  have jxi735 := c_l2i y579
  have kxi735 := rng32 xi735
  rw [← e_xi735] at jxi735
  clear e_xi735
  unfold own_Z at Z0 Z1
  omega
theorem own_lf4 {y305 : Int64} {y359 : Int64} {y361 : Int64} {y29 : Int64} {y29_512 : Int64} {y579 : Int64} {y589 : Int64} {ni734 : Int32} {xi735 : Int32} (Z0 : own_Z y305.toInt y29.toInt) (Z1 : own_Z y359.toInt y29_512.toInt) (la : (y305.toInt = 2305843009213693951 ∧ y579.toInt = 2305843009213693951) ∨ (y305.toInt ≠ 2305843009213693951 ∧ y579.toInt = y305.toInt)) (ea : (y359.toInt = 2305843009213693951 ∧ y589.toInt = -2305843009213693951) ∨ (y359.toInt ≠ 2305843009213693951 ∧ y589.toInt = -y359.toInt)) (hz : y361.toInt = 0) (t_c169_643 : (¬ ((y579).toInt = (2305843009213693951 : Int)))) (t_c177_692 : (¬ ((y589).toInt = ((-2305843009213693951 : Int64)).toInt))) (e_ni734 : ni734 = (y589).toInt32) (e_xi735 : xi735 = (y579).toInt32) (t_c374_749 : (¬ ((y29).toInt = (1099511627776 : Int)))) (t_c383_751 : (¬ ((y29_512).toInt = (1099511627776 : Int)))) (t_c412_753 : (((ni734).toInt64).toInt = ((-y29_512)).toInt)) (t_c424_755 : (¬ (((xi735).toInt64).toInt = (y29).toInt))) : False := by
  have kU := own_kU
  have zz := own_zz hz
  have n1 := c_lneg y29_512
  have n2 := rng64 (-y29_512)
  have ini734 := c_i2l ni734
  have jni734 := c_l2i y589
  have kni734 := rng32 ni734
  rw [← e_ni734] at jni734
  clear e_ni734
  have ixi735 := c_i2l xi735
  have jxi735 := c_l2i y579
  have kxi735 := rng32 xi735
  rw [← e_xi735] at jxi735
  clear e_xi735
  unfold own_Z at Z0 Z1
  omega
theorem own_lf5 {y305 : Int64} {y359 : Int64} {y361 : Int64} {y29 : Int64} {y29_512 : Int64} {y579 : Int64} {y589 : Int64} {ni734 : Int32} {xi735 : Int32} (Z0 : own_Z y305.toInt y29.toInt) (Z1 : own_Z y359.toInt y29_512.toInt) (la : (y305.toInt = 2305843009213693951 ∧ y579.toInt = 2305843009213693951) ∨ (y305.toInt ≠ 2305843009213693951 ∧ y579.toInt = y305.toInt)) (ea : (y359.toInt = 2305843009213693951 ∧ y589.toInt = -2305843009213693951) ∨ (y359.toInt ≠ 2305843009213693951 ∧ y589.toInt = -y359.toInt)) (hz : y361.toInt = 0) (t_c169_643 : (¬ ((y579).toInt = (2305843009213693951 : Int)))) (t_c177_692 : (¬ ((y589).toInt = ((-2305843009213693951 : Int64)).toInt))) (e_ni734 : ni734 = (y589).toInt32) (e_xi735 : xi735 = (y579).toInt32) (t_c374_749 : (¬ ((y29).toInt = (1099511627776 : Int)))) (t_c383_751 : ((y29_512).toInt = (1099511627776 : Int))) : False := by
  have kU := own_kU
  have zz := own_zz hz
  have n1 := c_lneg y29_512
  have n2 := rng64 (-y29_512)
  have ini734 := c_i2l ni734
  have jni734 := c_l2i y589
  have kni734 := rng32 ni734
  rw [← e_ni734] at jni734
  clear e_ni734
  have ixi735 := c_i2l xi735
  have jxi735 := c_l2i y579
  have kxi735 := rng32 xi735
  rw [← e_xi735] at jxi735
  clear e_xi735
  unfold own_Z at Z0 Z1
  omega
theorem own_lf6 {y305 : Int64} {y359 : Int64} {y361 : Int64} {y29 : Int64} {y29_512 : Int64} {y579 : Int64} {y589 : Int64} (Z0 : own_Z y305.toInt y29.toInt) (Z1 : own_Z y359.toInt y29_512.toInt) (la : (y305.toInt = 2305843009213693951 ∧ y579.toInt = 2305843009213693951) ∨ (y305.toInt ≠ 2305843009213693951 ∧ y579.toInt = y305.toInt)) (ea : (y359.toInt = 2305843009213693951 ∧ y589.toInt = -2305843009213693951) ∨ (y359.toInt ≠ 2305843009213693951 ∧ y589.toInt = -y359.toInt)) (hz : y361.toInt = 0) (t_c169_643 : (¬ ((y579).toInt = (2305843009213693951 : Int)))) (t_c177_692 : (¬ ((y589).toInt = ((-2305843009213693951 : Int64)).toInt))) (t_c115_624 : (¬ ((y361).toInt = (2305843009213693951 : Int)))) (t_c137_625 : (((((0 : Int64) + y361) + (0 : Int64))).toInt < (0 : Int))) (t_c374_757 : (¬ ((y29).toInt = (1099511627776 : Int)))) (t_c383_759 : (¬ ((y29_512).toInt = (1099511627776 : Int)))) : False := by
  have kU := own_kU
  have zz := own_zz hz
  have n1 := c_lneg y29_512
  have n2 := rng64 (-y29_512)
  unfold own_Z at Z0 Z1
  omega
theorem own_lf7 {y304 : Int64} {y331 : Int64} {y332 : Int64} {y29 : Int64} {y29_792 : Int64} {y859 : Int64} {y869 : Int64} (Z0 : own_Z y304.toInt y29.toInt) (Z1 : own_Z y331.toInt y29_792.toInt) (la : (y304.toInt = 2305843009213693951 ∧ y859.toInt = 2305843009213693951) ∨ (y304.toInt ≠ 2305843009213693951 ∧ y859.toInt = y304.toInt)) (ea : (y331.toInt = 2305843009213693951 ∧ y869.toInt = -2305843009213693951) ∨ (y331.toInt ≠ 2305843009213693951 ∧ y869.toInt = -y331.toInt)) (hz : y332.toInt = 0) (t_c169_923 : ((y859).toInt = (2305843009213693951 : Int))) (t_c374_1021 : (¬ ((y29).toInt = (1099511627776 : Int)))) (t_c383_1023 : (¬ ((y29_792).toInt = (1099511627776 : Int)))) : False := by
  have kU := own_kU
  have zz := own_zz hz
  have n1 := c_lneg y29_792
  have n2 := rng64 (-y29_792)
  unfold own_Z at Z0 Z1
  omega
theorem own_lf8 {y304 : Int64} {y331 : Int64} {y332 : Int64} {y29 : Int64} {y29_792 : Int64} {y859 : Int64} {y869 : Int64} (Z0 : own_Z y304.toInt y29.toInt) (Z1 : own_Z y331.toInt y29_792.toInt) (la : (y304.toInt = 2305843009213693951 ∧ y859.toInt = 2305843009213693951) ∨ (y304.toInt ≠ 2305843009213693951 ∧ y859.toInt = y304.toInt)) (ea : (y331.toInt = 2305843009213693951 ∧ y869.toInt = -2305843009213693951) ∨ (y331.toInt ≠ 2305843009213693951 ∧ y869.toInt = -y331.toInt)) (hz : y332.toInt = 0) (t_c169_923 : (¬ ((y859).toInt = (2305843009213693951 : Int)))) (t_c177_972 : ((y869).toInt = ((-2305843009213693951 : Int64)).toInt)) (t_c374_1025 : (¬ ((y29).toInt = (1099511627776 : Int)))) (t_c383_1027 : (¬ ((y29_792).toInt = (1099511627776 : Int)))) : False := by
  have kU := own_kU
  have zz := own_zz hz
  have n1 := c_lneg y29_792
  have n2 := rng64 (-y29_792)
  unfold own_Z at Z0 Z1
  omega
theorem own_lf9 {y304 : Int64} {y331 : Int64} {y332 : Int64} {y29 : Int64} {y29_792 : Int64} {y859 : Int64} {y869 : Int64} {ni1014 : Int32} {xi1015 : Int32} (Z0 : own_Z y304.toInt y29.toInt) (Z1 : own_Z y331.toInt y29_792.toInt) (la : (y304.toInt = 2305843009213693951 ∧ y859.toInt = 2305843009213693951) ∨ (y304.toInt ≠ 2305843009213693951 ∧ y859.toInt = y304.toInt)) (ea : (y331.toInt = 2305843009213693951 ∧ y869.toInt = -2305843009213693951) ∨ (y331.toInt ≠ 2305843009213693951 ∧ y869.toInt = -y331.toInt)) (hz : y332.toInt = 0) (t_c169_923 : (¬ ((y859).toInt = (2305843009213693951 : Int)))) (t_c177_972 : (¬ ((y869).toInt = ((-2305843009213693951 : Int64)).toInt))) (e_ni1014 : ni1014 = (y869).toInt32) (e_xi1015 : xi1015 = (y859).toInt32) (t_c374_1029 : ((y29).toInt = (1099511627776 : Int))) : False := by
  have kU := own_kU
  have zz := own_zz hz
  have n1 := c_lneg y29_792
  have n2 := rng64 (-y29_792)
  have ini1014 := c_i2l ni1014
  have jni1014 := c_l2i y869
  have kni1014 := rng32 ni1014
  rw [← e_ni1014] at jni1014
  clear e_ni1014
  have ixi1015 := c_i2l xi1015
  have jxi1015 := c_l2i y859
  have kxi1015 := rng32 xi1015
  rw [← e_xi1015] at jxi1015
  clear e_xi1015
  unfold own_Z at Z0 Z1
  omega
theorem own_lf10 {y304 : Int64} {y331 : Int64} {y332 : Int64} {y29 : Int64} {y29_792 : Int64} {y859 : Int64} {y869 : Int64} {ni1014 : Int32} {xi1015 : Int32} (Z0 : own_Z y304.toInt y29.toInt) (Z1 : own_Z y331.toInt y29_792.toInt) (la : (y304.toInt = 2305843009213693951 ∧ y859.toInt = 2305843009213693951) ∨ (y304.toInt ≠ 2305843009213693951 ∧ y859.toInt = y304.toInt)) (ea : (y331.toInt = 2305843009213693951 ∧ y869.toInt = -2305843009213693951) ∨ (y331.toInt ≠ 2305843009213693951 ∧ y869.toInt = -y331.toInt)) (hz : y332.toInt = 0) (t_c169_923 : (¬ ((y859).toInt = (2305843009213693951 : Int)))) (t_c177_972 : (¬ ((y869).toInt = ((-2305843009213693951 : Int64)).toInt))) (e_ni1014 : ni1014 = (y869).toInt32) (e_xi1015 : xi1015 = (y859).toInt32) (t_c374_1029 : (¬ ((y29).toInt = (1099511627776 : Int)))) (t_c383_1031 : (¬ ((y29_792).toInt = (1099511627776 : Int)))) (t_c412_1033 : (¬ (((ni1014).toInt64).toInt = ((-y29_792)).toInt))) : False := by
  have kU := own_kU
  have zz := own_zz hz
  have n1 := c_lneg y29_792
  have n2 := rng64 (-y29_792)
  have ini1014 := c_i2l ni1014
  have jni1014 := c_l2i y869
  have kni1014 := rng32 ni1014
  rw [← e_ni1014] at jni1014
  clear e_ni1014
  have ixi1015 := c_i2l xi1015
  have jxi1015 := c_l2i y859
  have kxi1015 := rng32 xi1015
  rw [← e_xi1015] at jxi1015
  clear e_xi1015
  unfold own_Z at Z0 Z1
  omega
theorem own_lf11 {y304 : Int64} {y331 : Int64} {y332 : Int64} {y29 : Int64} {y29_792 : Int64} {y859 : Int64} {y869 : Int64} {ni1014 : Int32} {xi1015 : Int32} (Z0 : own_Z y304.toInt y29.toInt) (Z1 : own_Z y331.toInt y29_792.toInt) (la : (y304.toInt = 2305843009213693951 ∧ y859.toInt = 2305843009213693951) ∨ (y304.toInt ≠ 2305843009213693951 ∧ y859.toInt = y304.toInt)) (ea : (y331.toInt = 2305843009213693951 ∧ y869.toInt = -2305843009213693951) ∨ (y331.toInt ≠ 2305843009213693951 ∧ y869.toInt = -y331.toInt)) (hz : y332.toInt = 0) (t_c169_923 : (¬ ((y859).toInt = (2305843009213693951 : Int)))) (t_c177_972 : (¬ ((y869).toInt = ((-2305843009213693951 : Int64)).toInt))) (e_ni1014 : ni1014 = (y869).toInt32) (e_xi1015 : xi1015 = (y859).toInt32) (t_c374_1029 : (¬ ((y29).toInt = (1099511627776 : Int)))) (t_c383_1031 : (¬ ((y29_792).toInt = (1099511627776 : Int)))) (t_c412_1033 : (((ni1014).toInt64).toInt = ((-y29_792)).toInt)) (t_c424_1035 : (¬ (((xi1015).toInt64).toInt = (y29).toInt))) : False := by
  have kU := own_kU
  have zz := own_zz hz
  have n1 := c_lneg y29_792
  have n2 := rng64 (-y29_792)
  have ini1014 := c_i2l ni1014
  have jni1014 := c_l2i y869
  have kni1014 := rng32 ni1014
  rw [← e_ni1014] at jni1014
  clear e_ni1014
  have ixi1015 := c_i2l xi1015
  have jxi1015 := c_l2i y859
  have kxi1015 := rng32 xi1015
  rw [← e_xi1015] at jxi1015
  clear e_xi1015
  unfold own_Z at Z0 Z1
  omega
theorem own_lf12 {y304 : Int64} {y331 : Int64} {y332 : Int64} {y29 : Int64} {y29_792 : Int64} {y859 : Int64} {y869 : Int64} {ni1014 : Int32} {xi1015 : Int32} (Z0 : own_Z y304.toInt y29.toInt) (Z1 : own_Z y331.toInt y29_792.toInt) (la : (y304.toInt = 2305843009213693951 ∧ y859.toInt = 2305843009213693951) ∨ (y304.toInt ≠ 2305843009213693951 ∧ y859.toInt = y304.toInt)) (ea : (y331.toInt = 2305843009213693951 ∧ y869.toInt = -2305843009213693951) ∨ (y331.toInt ≠ 2305843009213693951 ∧ y869.toInt = -y331.toInt)) (hz : y332.toInt = 0) (t_c169_923 : (¬ ((y859).toInt = (2305843009213693951 : Int)))) (t_c177_972 : (¬ ((y869).toInt = ((-2305843009213693951 : Int64)).toInt))) (e_ni1014 : ni1014 = (y869).toInt32) (e_xi1015 : xi1015 = (y859).toInt32) (t_c374_1029 : (¬ ((y29).toInt = (1099511627776 : Int)))) (t_c383_1031 : ((y29_792).toInt = (1099511627776 : Int))) : False := by
  have kU := own_kU
  have zz := own_zz hz
  have n1 := c_lneg y29_792
  have n2 := rng64 (-y29_792)
  have ini1014 := c_i2l ni1014
  have jni1014 := c_l2i y869
  have kni1014 := rng32 ni1014
  rw [← e_ni1014] at jni1014
  clear e_ni1014
  have ixi1015 := c_i2l xi1015
  have jxi1015 := c_l2i y859
  have kxi1015 := rng32 xi1015
  rw [← e_xi1015] at jxi1015
  clear e_xi1015
  unfold own_Z at Z0 Z1
  omega
theorem own_lf13 {y304 : Int64} {y331 : Int64} {y332 : Int64} {y29 : Int64} {y29_792 : Int64} {y859 : Int64} {y869 : Int64} (Z0 : own_Z y304.toInt y29.toInt) (Z1 : own_Z y331.toInt y29_792.toInt) (la : (y304.toInt = 2305843009213693951 ∧ y859.toInt = 2305843009213693951) ∨ (y304.toInt ≠ 2305843009213693951 ∧ y859.toInt = y304.toInt)) (ea : (y331.toInt = 2305843009213693951 ∧ y869.toInt = -2305843009213693951) ∨ (y331.toInt ≠ 2305843009213693951 ∧ y869.toInt = -y331.toInt)) (hz : y332.toInt = 0) (t_c169_923 : (¬ ((y859).toInt = (2305843009213693951 : Int)))) (t_c177_972 : (¬ ((y869).toInt = ((-2305843009213693951 : Int64)).toInt))) (t_c115_904 : (¬ ((y332).toInt = (2305843009213693951 : Int)))) (t_c137_905 : (((((0 : Int64) + y332) + (0 : Int64))).toInt < (0 : Int))) (t_c374_1037 : (¬ ((y29).toInt = (1099511627776 : Int)))) (t_c383_1039 : (¬ ((y29_792).toInt = (1099511627776 : Int)))) : False := by
  have kU := own_kU
  have zz := own_zz hz
  have n1 := c_lneg y29_792
  have n2 := rng64 (-y29_792)
  unfold own_Z at Z0 Z1
  omega
theorem own_ng14 {y34 : Int64} {y45 : Int64} {y56 : Int64} {y67 : Int64} {y78 : Int64} {y89 : Int64} {y376 : Int64} {y376_385 : Int64} {y376_392 : Int64} {y376_399 : Int64} {y376_406 : Int64} {y376_413 : Int64} {y418 : Int64} {y475 : Int32} (X01 : own_X y34.toInt y376.toInt) (X10 : own_X y45.toInt y376_385.toInt) (X02 : own_X y56.toInt y376_392.toInt) (X20 : own_X y67.toInt y376_399.toInt) (X12 : own_X y78.toInt y376_406.toInt) (X21 : own_X y89.toInt y376_413.toInt) (A_y418 : own_A y376 y376_385 y418) (D476 : ((((y418).toInt < (0 : Int)) ∧ y475 = (1 : Int32)) ∨ (∃ (y418_429 : Int64), (¬ ((y418).toInt < (0 : Int))) ∧ own_A y376_392 y376_399 y418_429 ∧ ((y418_429).toInt < (0 : Int)) ∧ y475 = (1 : Int32)) ∨ (∃ (y418_429 : Int64) (y418_438 : Int64), (¬ ((y418).toInt < (0 : Int))) ∧ own_A y376_392 y376_399 y418_429 ∧ (¬ ((y418_429).toInt < (0 : Int))) ∧ own_A y376_406 y376_413 y418_438 ∧ ((y418_438).toInt < (0 : Int)) ∧ y475 = (1 : Int32)) ∨ (∃ (y418_429 : Int64) (y418_438 : Int64) (y418_447 : Int64) (y418_455 : Int64), (¬ ((y418).toInt < (0 : Int))) ∧ own_A y376_392 y376_399 y418_429 ∧ (¬ ((y418_429).toInt < (0 : Int))) ∧ own_A y376_406 y376_413 y418_438 ∧ (¬ ((y418_438).toInt < (0 : Int))) ∧ own_A y376 y376_406 y418_447 ∧ own_A y418_447 y376_399 y418_455 ∧ ((y418_455).toInt < (0 : Int)) ∧ y475 = (1 : Int32)) ∨ (∃ (y418_429 : Int64) (y418_438 : Int64) (y418_447 : Int64) (y418_455 : Int64) (y418_464 : Int64) (y418_472 : Int64), (¬ ((y418).toInt < (0 : Int))) ∧ own_A y376_392 y376_399 y418_429 ∧ (¬ ((y418_429).toInt < (0 : Int))) ∧ own_A y376_406 y376_413 y418_438 ∧ (¬ ((y418_438).toInt < (0 : Int))) ∧ own_A y376 y376_406 y418_447 ∧ own_A y418_447 y376_399 y418_455 ∧ (¬ ((y418_455).toInt < (0 : Int))) ∧ own_A y376_392 y376_413 y418_464 ∧ own_A y418_464 y376_385 y418_472 ∧ (¬ ((y418_472).toInt < (0 : Int))) ∧ y475 = (0 : Int32)) ∨ (∃ (y418_429 : Int64) (y418_438 : Int64) (y418_447 : Int64) (y418_455 : Int64) (y418_464 : Int64) (y418_472 : Int64), (¬ ((y418).toInt < (0 : Int))) ∧ own_A y376_392 y376_399 y418_429 ∧ (¬ ((y418_429).toInt < (0 : Int))) ∧ own_A y376_406 y376_413 y418_438 ∧ (¬ ((y418_438).toInt < (0 : Int))) ∧ own_A y376 y376_406 y418_447 ∧ own_A y418_447 y376_399 y418_455 ∧ (¬ ((y418_455).toInt < (0 : Int))) ∧ own_A y376_392 y376_413 y418_464 ∧ own_A y418_464 y376_385 y418_472 ∧ ((y418_472).toInt < (0 : Int)) ∧ y475 = (1 : Int32)))) : (y475.toInt = 0 ∧ ¬ own_N y34.toInt y45.toInt y56.toInt y67.toInt y78.toInt y89.toInt) ∨ (¬ y475.toInt = 0 ∧ own_N y34.toInt y45.toInt y56.toInt y67.toInt y78.toInt y89.toInt) := by
  have i1 := own_iN X01 X10 A_y418
  rcases D476 with ⟨d1, rfl⟩ | ⟨s2, d1, a2, d2, rfl⟩ | ⟨s2, s3, d1, a2, d2, a3, d3, rfl⟩ | ⟨s2, s3, s4, s5, d1, a2, d2, a3, d3, a4, a5, d5, rfl⟩ | ⟨s2, s3, s4, s5, s6, s7, d1, a2, d2, a3, d3, a4, a5, d5, a6, a7, d7, rfl⟩ | ⟨s2, s3, s4, s5, s6, s7, d1, a2, d2, a3, d3, a4, a5, d5, a6, a7, d7, rfl⟩
  · right; refine ⟨by decide, Or.inl ?_⟩; omega
  · have i2 := own_iN X02 X20 a2; right; refine ⟨by decide, Or.inr (Or.inl ?_)⟩; omega
  · have i3 := own_iN X12 X21 a3; right; refine ⟨by decide, Or.inr (Or.inr (Or.inl ?_))⟩; omega
  · have i5 := own_iN3 X01 X12 X20 a4 a5; right; refine ⟨by decide, Or.inr (Or.inr (Or.inr (Or.inl ?_)))⟩; omega
  · have i2 := own_iN X02 X20 a2; have i3 := own_iN X12 X21 a3; have i5 := own_iN3 X01 X12 X20 a4 a5; have i7 := own_iN3 X02 X21 X10 a6 a7; left; refine ⟨by decide, ?_⟩; intro hN; rcases hN with hN | hN | hN | hN | hN <;> omega
  · have i7 := own_iN3 X02 X21 X10 a6 a7; right; refine ⟨by decide, Or.inr (Or.inr (Or.inr (Or.inr ?_)))⟩; omega
theorem own_ng15 {y34 : Int64} {y45 : Int64} {y56 : Int64} {y67 : Int64} {y78 : Int64} {y89 : Int64} {y376 : Int64} {y376_1053 : Int64} {y376_1060 : Int64} {y376_1067 : Int64} {y376_1074 : Int64} {y376_1081 : Int64} {y418 : Int64} {y1143 : Int32} (X01 : own_X y34.toInt y376.toInt) (X10 : own_X y45.toInt y376_1053.toInt) (X02 : own_X y56.toInt y376_1060.toInt) (X20 : own_X y67.toInt y376_1067.toInt) (X12 : own_X y78.toInt y376_1074.toInt) (X21 : own_X y89.toInt y376_1081.toInt) (A_y418 : own_A y376 y376_1053 y418) (D1144 : ((((y418).toInt < (0 : Int)) ∧ y1143 = (1 : Int32)) ∨ (∃ (y418_1097 : Int64), (¬ ((y418).toInt < (0 : Int))) ∧ own_A y376_1060 y376_1067 y418_1097 ∧ ((y418_1097).toInt < (0 : Int)) ∧ y1143 = (1 : Int32)) ∨ (∃ (y418_1097 : Int64) (y418_1106 : Int64), (¬ ((y418).toInt < (0 : Int))) ∧ own_A y376_1060 y376_1067 y418_1097 ∧ (¬ ((y418_1097).toInt < (0 : Int))) ∧ own_A y376_1074 y376_1081 y418_1106 ∧ ((y418_1106).toInt < (0 : Int)) ∧ y1143 = (1 : Int32)) ∨ (∃ (y418_1097 : Int64) (y418_1106 : Int64) (y418_1115 : Int64) (y418_1123 : Int64), (¬ ((y418).toInt < (0 : Int))) ∧ own_A y376_1060 y376_1067 y418_1097 ∧ (¬ ((y418_1097).toInt < (0 : Int))) ∧ own_A y376_1074 y376_1081 y418_1106 ∧ (¬ ((y418_1106).toInt < (0 : Int))) ∧ own_A y376 y376_1074 y418_1115 ∧ own_A y418_1115 y376_1067 y418_1123 ∧ ((y418_1123).toInt < (0 : Int)) ∧ y1143 = (1 : Int32)) ∨ (∃ (y418_1097 : Int64) (y418_1106 : Int64) (y418_1115 : Int64) (y418_1123 : Int64) (y418_1132 : Int64) (y418_1140 : Int64), (¬ ((y418).toInt < (0 : Int))) ∧ own_A y376_1060 y376_1067 y418_1097 ∧ (¬ ((y418_1097).toInt < (0 : Int))) ∧ own_A y376_1074 y376_1081 y418_1106 ∧ (¬ ((y418_1106).toInt < (0 : Int))) ∧ own_A y376 y376_1074 y418_1115 ∧ own_A y418_1115 y376_1067 y418_1123 ∧ (¬ ((y418_1123).toInt < (0 : Int))) ∧ own_A y376_1060 y376_1081 y418_1132 ∧ own_A y418_1132 y376_1053 y418_1140 ∧ (¬ ((y418_1140).toInt < (0 : Int))) ∧ y1143 = (0 : Int32)) ∨ (∃ (y418_1097 : Int64) (y418_1106 : Int64) (y418_1115 : Int64) (y418_1123 : Int64) (y418_1132 : Int64) (y418_1140 : Int64), (¬ ((y418).toInt < (0 : Int))) ∧ own_A y376_1060 y376_1067 y418_1097 ∧ (¬ ((y418_1097).toInt < (0 : Int))) ∧ own_A y376_1074 y376_1081 y418_1106 ∧ (¬ ((y418_1106).toInt < (0 : Int))) ∧ own_A y376 y376_1074 y418_1115 ∧ own_A y418_1115 y376_1067 y418_1123 ∧ (¬ ((y418_1123).toInt < (0 : Int))) ∧ own_A y376_1060 y376_1081 y418_1132 ∧ own_A y418_1132 y376_1053 y418_1140 ∧ ((y418_1140).toInt < (0 : Int)) ∧ y1143 = (1 : Int32)))) : (y1143.toInt = 0 ∧ ¬ own_N y34.toInt y45.toInt y56.toInt y67.toInt y78.toInt y89.toInt) ∨ (¬ y1143.toInt = 0 ∧ own_N y34.toInt y45.toInt y56.toInt y67.toInt y78.toInt y89.toInt) := by
  have i1 := own_iN X01 X10 A_y418
  rcases D1144 with ⟨d1, rfl⟩ | ⟨s2, d1, a2, d2, rfl⟩ | ⟨s2, s3, d1, a2, d2, a3, d3, rfl⟩ | ⟨s2, s3, s4, s5, d1, a2, d2, a3, d3, a4, a5, d5, rfl⟩ | ⟨s2, s3, s4, s5, s6, s7, d1, a2, d2, a3, d3, a4, a5, d5, a6, a7, d7, rfl⟩ | ⟨s2, s3, s4, s5, s6, s7, d1, a2, d2, a3, d3, a4, a5, d5, a6, a7, d7, rfl⟩
  · right; refine ⟨by decide, Or.inl ?_⟩; omega
  · have i2 := own_iN X02 X20 a2; right; refine ⟨by decide, Or.inr (Or.inl ?_)⟩; omega
  · have i3 := own_iN X12 X21 a3; right; refine ⟨by decide, Or.inr (Or.inr (Or.inl ?_))⟩; omega
  · have i5 := own_iN3 X01 X12 X20 a4 a5; right; refine ⟨by decide, Or.inr (Or.inr (Or.inr (Or.inl ?_)))⟩; omega
  · have i2 := own_iN X02 X20 a2; have i3 := own_iN X12 X21 a3; have i5 := own_iN3 X01 X12 X20 a4 a5; have i7 := own_iN3 X02 X21 X10 a6 a7; left; refine ⟨by decide, ?_⟩; intro hN; rcases hN with hN | hN | hN | hN | hN <;> omega
  · have i7 := own_iN3 X02 X21 X10 a6 a7; right; refine ⟨by decide, Or.inr (Or.inr (Or.inr (Or.inr ?_)))⟩; omega
theorem own_sub {args : Array Value} {s : State} {j : Int32} (hj : ¬ j < 0) : (Term.sub (Term.index 0) (Term.int 128)).eval args s none [j.toNatClampNeg] s = some (.int (j - 128)) := by
  have h := idx_at (args := args) (s := s) (first := s) (o := none) hj
  have h2 : (Term.int 128).eval args s none [j.toNatClampNeg] s = some (.int 128) := rfl
  simp only [Term.eval] at h h2 ⊢
  rw [h]
  rfl
theorem own_lenOf {s : State} {args : Array Value} {t : Term} {a : Addr} {cl : Cell} {z : Int32} (et : t.eval args s none [] s = some (.ref a)) (fin : s.arrayAt? a = some cl) (L : (Term.length t).eval args s none [] s = some (.int z)) : cl.slots.size < 2 ^ 31 ∧ cl.slots.size.toInt32 = z := by
  have hl : cl.slots.size < 2 ^ 31 := by
    by_cases g : cl.slots.size < 2 ^ 31
    · exact g
    · simp [Term.eval, et, fin, g] at L
  exact ⟨hl, Value.int.inj (Option.some.inj ((len_f et fin hl).symm.trans L))⟩
theorem own_arvOf {Z : State} {h : Heap} {a : Addr} {c : Cell} {ty : FieldType} {z : Int32} {P : Int32 → Addr → Prop} (A : Arr Z h a c ty) (hs : c.slots.size = z.toNatClampNeg) (hz : ¬ z < 0) (hr : refKind ty = true ∨ True)
    (H : ∀ j : Int32, ¬ (j < 0 ∨ c.slots.size ≤ j.toNatClampNeg) → ∃ b : Addr, c.slots[j.toNatClampNeg]? = some (.ref b) ∧ P j b) (hf : ∀ b : Addr, fits ty (.ref b) = true) (hm : c.slots.size < 2 ^ 31) :
    ∃ vs : List Value, Arv Z h a c.cls ty z vs .null ∧ ∀ j : Int32, ¬ j < 0 ∧ j < z → ∃ b : Addr, vs.getD j.toNatClampNeg .null = .ref b ∧ P j b := by
  have e : ∀ i, i < c.slots.size → c.slots[i]? = some (c.slots.toList.getD i .null) := by
    intro i hi
    rw [List.getD_eq_getElem?_getD, Array.getElem?_toList, Array.getElem?_eq_getElem hi]; rfl
  refine ⟨c.slots.toList, ⟨c, A, rfl, hs, hz, e, fun i hi => ?_⟩, fun j hj => ?_⟩
  · have q := idx_in hi hm
    have hm' : i < 2 ^ 31 := Nat.lt_trans hi hm
    obtain ⟨b, h1, -⟩ := H i.toInt32 q
    have t : (i.toInt32).toNatClampNeg = i := by
      have z1 := nat_of (fun x => q (Or.inl x))
      have z2 := len_toInt hm'
      omega
    rw [t, e i hi] at h1
    rw [Option.some.inj h1]; exact hf b
  · have q := inb_of hs hj
    obtain ⟨b, h1, h2⟩ := H j q
    rw [e _ (Nat.lt_of_not_le fun x => q (Or.inr x))] at h1
    exact ⟨b, Option.some.inj h1, h2⟩
theorem own_arv0 {Z : State} {h : Heap} {a : Addr} {c : Cell} {ty : FieldType} (A : Arr Z h a c ty) (hl : c.slots.size < 2 ^ 31) (e : c.slots.size.toInt32 = 0) : Arv Z h a c.cls ty 0 [] .null := by
  have q := len_toInt hl
  rw [e] at q
  have k0 : (0 : Int32).toInt = 0 := by decide
  have z : c.slots.size = 0 := by omega
  exact ⟨c, A, rfl, by rw [z]; rfl, by decide, fun i hi => by omega, fun i hi => by omega⟩
set_option maxRecDepth 65536
set_option maxHeartbeats 40000000
abbrev i3 : Int32 := 3
abbrev i0 : Int32 := 0
abbrev i1 : Int32 := 1
abbrev i2 : Int32 := 2
abbrev i127 : Int32 := 127
abbrev i256 : Int32 := 256
abbrev i130 : Int32 := 130
abbrev i10 : Int32 := 10
abbrev im1 : Int32 := -1
abbrev i129 : Int32 := 129
abbrev j0 : Int64 := 0
abbrev jU19 : Int64 := 2305843009213693951
abbrev jU13 : Int64 := 1099511627776
abbrev jUm20 : Int64 := -2305843009213693951
abbrev rv (a : Addr) : Slot := .val (.ref a)
abbrev iv (a : Int32) : Slot := .val (.int a)
abbrev lv (a : Int64) : Slot := .val (.long a)
theorem rm_a11 (l : Launch) (Z : State) (a0 : Array Value) (hw : ∀ d ∈ tables_1, d.before a0 Z = true) (o3 : Addr) (k_o3 : ClassId) (h0 : Heap) (n0 : Nat) (Z0 : n0 ≤ h0.size) (A_o3 : Arv Z h0 o3 k_o3 .long i3 [(.long j0), (.long j0), (.long j0)] (.long j0)) (g_o3 : n0 ≤ o3) :
    Met l Z (⟨"java/util/Arrays", "fill", "([JJ)V"⟩ : MethodName) jdk_65_method_101_code 5 none { frames := 0, cells := 0, slots := 0, locals := 0 } [] #[(.ref o3), (.long jU19)] h0 n0 (fun v h => v = none ∧ Arv Z h o3 k_o3 .long i3 [(.long jU19), (.long jU19), (.long jU19)] (.long j0) ∧ Keep h0 h [o3]) := by
  refine Met.mkQ (tabs := tables_1) (a0 := a0) (ls0 := #[rv o3, lv jU19, .second, .unset, .unset]) (plainFor_of_name pn_java_util_Arrays) hw Z0 (fun m => by first | (simp [entryFrame, mkF, argsToLocals, Value.category]; done) | rfl) ?_
  intro p e s m below meth c T Q' G' hQ hG C X
  have Kp : Keep h0 h0 [o3] := Keep.refl _ _
  refine s_iconst 1 C X d3_0 kc_iconst_0 ?_
  refine s_istoreN 2 C X (l' := #[rv o3, lv jU19, .second, iv i0, .unset]) d3_1 rfl ?_
  refine s_aloadN 3 C X d3_2 rfl rfl ?_
  refine s_arraylength 4 C X d3_3 A_o3 ?_
  refine s_istore 6 C X (l' := #[rv o3, lv jU19, .second, iv i0, iv i3]) d3_4 rfl ?_
  refine s_iloadN 7 C X d3_6 rfl ?_
  refine s_iload 9 C X d3_7 rfl ?_
  refine s_icmp_ge 22 12 C X d3_9 (fun c => absurd (by decide : i0 < i3) c) (fun _ => ?_)
  refine s_aloadN 13 C X d3_12 rfl rfl ?_
  refine s_iloadN 14 C X d3_13 rfl ?_
  refine s_lloadN 15 C X d3_14 rfl ?_
  refine s_lastore 16 0 C X d3_15 A_o3 g_o3 ⟨by decide, by decide⟩ rfl (Nat.le_of_ble_eq_true rfl) (fun T hh X W A_o3 => ?_)
  have A_o3 : Arv Z _ o3 k_o3 .long i3 [(.long jU19), (.long j0), (.long j0)] (.long j0) := A_o3
  have Kp := Kp.wr W (Or.inl (by simp))
  refine s_iinc 19 C X (l' := #[rv o3, lv jU19, .second, iv i1, iv i3]) d3_16 kc_iconst_1 rfl rfl ?_
  refine s_goto 6 C X d3_19 ?_
  refine s_iloadN 7 C X d3_6 rfl ?_
  refine s_iload 9 C X d3_7 rfl ?_
  refine s_icmp_ge 22 12 C X d3_9 (fun c => absurd (by decide : i1 < i3) c) (fun _ => ?_)
  refine s_aloadN 13 C X d3_12 rfl rfl ?_
  refine s_iloadN 14 C X d3_13 rfl ?_
  refine s_lloadN 15 C X d3_14 rfl ?_
  refine s_lastore 16 1 C X d3_15 A_o3 g_o3 ⟨by decide, by decide⟩ rfl (Nat.le_of_ble_eq_true rfl) (fun T hh X W A_o3 => ?_)
  have A_o3 : Arv Z _ o3 k_o3 .long i3 [(.long jU19), (.long jU19), (.long j0)] (.long j0) := A_o3
  have Kp := Kp.wr W (Or.inl (by simp))
  refine s_iinc 19 C X (l' := #[rv o3, lv jU19, .second, iv i2, iv i3]) d3_16 kc_iconst_1 rfl rfl ?_
  refine s_goto 6 C X d3_19 ?_
  refine s_iloadN 7 C X d3_6 rfl ?_
  refine s_iload 9 C X d3_7 rfl ?_
  refine s_icmp_ge 22 12 C X d3_9 (fun c => absurd (by decide : i2 < i3) c) (fun _ => ?_)
  refine s_aloadN 13 C X d3_12 rfl rfl ?_
  refine s_iloadN 14 C X d3_13 rfl ?_
  refine s_lloadN 15 C X d3_14 rfl ?_
  refine s_lastore 16 2 C X d3_15 A_o3 g_o3 ⟨by decide, by decide⟩ rfl (Nat.le_of_ble_eq_true rfl) (fun T hh X W A_o3 => ?_)
  have A_o3 : Arv Z _ o3 k_o3 .long i3 [(.long jU19), (.long jU19), (.long jU19)] (.long j0) := A_o3
  have Kp := Kp.wr W (Or.inl (by simp))
  refine s_iinc 19 C X (l' := #[rv o3, lv jU19, .second, iv i3, iv i3]) d3_16 kc_iconst_1 rfl rfl ?_
  refine s_goto 6 C X d3_19 ?_
  refine s_iloadN 7 C X d3_6 rfl ?_
  refine s_iload 9 C X d3_7 rfl ?_
  refine s_icmp_ge 22 12 C X d3_9 (fun _ => ?_) (fun c => absurd c (by decide))
  refine s_return C X d3_22 rfl ?_ (FG hG (by decide) (by decide))
  exact hQ _ _ ⟨rfl, A_o3, Kp⟩
theorem rm_a17 (l : Launch) (Z : State) (a0 : Array Value) (hw : ∀ d ∈ tables_1, d.before a0 Z = true) (o4 : Addr) (k_o3 : ClassId) (h0 : Heap) (n0 : Nat) (Z0 : n0 ≤ h0.size) (A_o4 : Arv Z h0 o4 k_o3 .long i3 [(.long j0), (.long j0), (.long j0)] (.long j0)) (g_o4 : n0 ≤ o4) :
    Met l Z (⟨"java/util/Arrays", "fill", "([JJ)V"⟩ : MethodName) jdk_65_method_101_code 5 none { frames := 0, cells := 0, slots := 0, locals := 0 } [] #[(.ref o4), (.long jU19)] h0 n0 (fun v h => v = none ∧ Arv Z h o4 k_o3 .long i3 [(.long jU19), (.long jU19), (.long jU19)] (.long j0) ∧ Keep h0 h [o4]) := by
  refine Met.mkQ (tabs := tables_1) (a0 := a0) (ls0 := #[rv o4, lv jU19, .second, .unset, .unset]) (plainFor_of_name pn_java_util_Arrays) hw Z0 (fun m => by first | (simp [entryFrame, mkF, argsToLocals, Value.category]; done) | rfl) ?_
  intro p e s m below meth c T Q' G' hQ hG C X
  have Kp : Keep h0 h0 [o4] := Keep.refl _ _
  refine s_iconst 1 C X d3_0 kc_iconst_0 ?_
  refine s_istoreN 2 C X (l' := #[rv o4, lv jU19, .second, iv i0, .unset]) d3_1 rfl ?_
  refine s_aloadN 3 C X d3_2 rfl rfl ?_
  refine s_arraylength 4 C X d3_3 A_o4 ?_
  refine s_istore 6 C X (l' := #[rv o4, lv jU19, .second, iv i0, iv i3]) d3_4 rfl ?_
  refine s_iloadN 7 C X d3_6 rfl ?_
  refine s_iload 9 C X d3_7 rfl ?_
  refine s_icmp_ge 22 12 C X d3_9 (fun c => absurd (by decide : i0 < i3) c) (fun _ => ?_)
  refine s_aloadN 13 C X d3_12 rfl rfl ?_
  refine s_iloadN 14 C X d3_13 rfl ?_
  refine s_lloadN 15 C X d3_14 rfl ?_
  refine s_lastore 16 0 C X d3_15 A_o4 g_o4 ⟨by decide, by decide⟩ rfl (Nat.le_of_ble_eq_true rfl) (fun T hh X W A_o4 => ?_)
  have A_o4 : Arv Z _ o4 k_o3 .long i3 [(.long jU19), (.long j0), (.long j0)] (.long j0) := A_o4
  have Kp := Kp.wr W (Or.inl (by simp))
  refine s_iinc 19 C X (l' := #[rv o4, lv jU19, .second, iv i1, iv i3]) d3_16 kc_iconst_1 rfl rfl ?_
  refine s_goto 6 C X d3_19 ?_
  refine s_iloadN 7 C X d3_6 rfl ?_
  refine s_iload 9 C X d3_7 rfl ?_
  refine s_icmp_ge 22 12 C X d3_9 (fun c => absurd (by decide : i1 < i3) c) (fun _ => ?_)
  refine s_aloadN 13 C X d3_12 rfl rfl ?_
  refine s_iloadN 14 C X d3_13 rfl ?_
  refine s_lloadN 15 C X d3_14 rfl ?_
  refine s_lastore 16 1 C X d3_15 A_o4 g_o4 ⟨by decide, by decide⟩ rfl (Nat.le_of_ble_eq_true rfl) (fun T hh X W A_o4 => ?_)
  have A_o4 : Arv Z _ o4 k_o3 .long i3 [(.long jU19), (.long jU19), (.long j0)] (.long j0) := A_o4
  have Kp := Kp.wr W (Or.inl (by simp))
  refine s_iinc 19 C X (l' := #[rv o4, lv jU19, .second, iv i2, iv i3]) d3_16 kc_iconst_1 rfl rfl ?_
  refine s_goto 6 C X d3_19 ?_
  refine s_iloadN 7 C X d3_6 rfl ?_
  refine s_iload 9 C X d3_7 rfl ?_
  refine s_icmp_ge 22 12 C X d3_9 (fun c => absurd (by decide : i2 < i3) c) (fun _ => ?_)
  refine s_aloadN 13 C X d3_12 rfl rfl ?_
  refine s_iloadN 14 C X d3_13 rfl ?_
  refine s_lloadN 15 C X d3_14 rfl ?_
  refine s_lastore 16 2 C X d3_15 A_o4 g_o4 ⟨by decide, by decide⟩ rfl (Nat.le_of_ble_eq_true rfl) (fun T hh X W A_o4 => ?_)
  have A_o4 : Arv Z _ o4 k_o3 .long i3 [(.long jU19), (.long jU19), (.long jU19)] (.long j0) := A_o4
  have Kp := Kp.wr W (Or.inl (by simp))
  refine s_iinc 19 C X (l' := #[rv o4, lv jU19, .second, iv i3, iv i3]) d3_16 kc_iconst_1 rfl rfl ?_
  refine s_goto 6 C X d3_19 ?_
  refine s_iloadN 7 C X d3_6 rfl ?_
  refine s_iload 9 C X d3_7 rfl ?_
  refine s_icmp_ge 22 12 C X d3_9 (fun _ => ?_) (fun c => absurd c (by decide))
  refine s_return C X d3_22 rfl ?_ (FG hG (by decide) (by decide))
  exact hQ _ _ ⟨rfl, A_o4, Kp⟩
theorem rm_a23 (l : Launch) (Z : State) (a0 : Array Value) (hw : ∀ d ∈ tables_1, d.before a0 Z = true) (o5 : Addr) (k_o3 : ClassId) (h0 : Heap) (n0 : Nat) (Z0 : n0 ≤ h0.size) (A_o5 : Arv Z h0 o5 k_o3 .long i3 [(.long j0), (.long j0), (.long j0)] (.long j0)) (g_o5 : n0 ≤ o5) :
    Met l Z (⟨"java/util/Arrays", "fill", "([JJ)V"⟩ : MethodName) jdk_65_method_101_code 5 none { frames := 0, cells := 0, slots := 0, locals := 0 } [] #[(.ref o5), (.long jU19)] h0 n0 (fun v h => v = none ∧ Arv Z h o5 k_o3 .long i3 [(.long jU19), (.long jU19), (.long jU19)] (.long j0) ∧ Keep h0 h [o5]) := by
  refine Met.mkQ (tabs := tables_1) (a0 := a0) (ls0 := #[rv o5, lv jU19, .second, .unset, .unset]) (plainFor_of_name pn_java_util_Arrays) hw Z0 (fun m => by first | (simp [entryFrame, mkF, argsToLocals, Value.category]; done) | rfl) ?_
  intro p e s m below meth c T Q' G' hQ hG C X
  have Kp : Keep h0 h0 [o5] := Keep.refl _ _
  refine s_iconst 1 C X d3_0 kc_iconst_0 ?_
  refine s_istoreN 2 C X (l' := #[rv o5, lv jU19, .second, iv i0, .unset]) d3_1 rfl ?_
  refine s_aloadN 3 C X d3_2 rfl rfl ?_
  refine s_arraylength 4 C X d3_3 A_o5 ?_
  refine s_istore 6 C X (l' := #[rv o5, lv jU19, .second, iv i0, iv i3]) d3_4 rfl ?_
  refine s_iloadN 7 C X d3_6 rfl ?_
  refine s_iload 9 C X d3_7 rfl ?_
  refine s_icmp_ge 22 12 C X d3_9 (fun c => absurd (by decide : i0 < i3) c) (fun _ => ?_)
  refine s_aloadN 13 C X d3_12 rfl rfl ?_
  refine s_iloadN 14 C X d3_13 rfl ?_
  refine s_lloadN 15 C X d3_14 rfl ?_
  refine s_lastore 16 0 C X d3_15 A_o5 g_o5 ⟨by decide, by decide⟩ rfl (Nat.le_of_ble_eq_true rfl) (fun T hh X W A_o5 => ?_)
  have A_o5 : Arv Z _ o5 k_o3 .long i3 [(.long jU19), (.long j0), (.long j0)] (.long j0) := A_o5
  have Kp := Kp.wr W (Or.inl (by simp))
  refine s_iinc 19 C X (l' := #[rv o5, lv jU19, .second, iv i1, iv i3]) d3_16 kc_iconst_1 rfl rfl ?_
  refine s_goto 6 C X d3_19 ?_
  refine s_iloadN 7 C X d3_6 rfl ?_
  refine s_iload 9 C X d3_7 rfl ?_
  refine s_icmp_ge 22 12 C X d3_9 (fun c => absurd (by decide : i1 < i3) c) (fun _ => ?_)
  refine s_aloadN 13 C X d3_12 rfl rfl ?_
  refine s_iloadN 14 C X d3_13 rfl ?_
  refine s_lloadN 15 C X d3_14 rfl ?_
  refine s_lastore 16 1 C X d3_15 A_o5 g_o5 ⟨by decide, by decide⟩ rfl (Nat.le_of_ble_eq_true rfl) (fun T hh X W A_o5 => ?_)
  have A_o5 : Arv Z _ o5 k_o3 .long i3 [(.long jU19), (.long jU19), (.long j0)] (.long j0) := A_o5
  have Kp := Kp.wr W (Or.inl (by simp))
  refine s_iinc 19 C X (l' := #[rv o5, lv jU19, .second, iv i2, iv i3]) d3_16 kc_iconst_1 rfl rfl ?_
  refine s_goto 6 C X d3_19 ?_
  refine s_iloadN 7 C X d3_6 rfl ?_
  refine s_iload 9 C X d3_7 rfl ?_
  refine s_icmp_ge 22 12 C X d3_9 (fun c => absurd (by decide : i2 < i3) c) (fun _ => ?_)
  refine s_aloadN 13 C X d3_12 rfl rfl ?_
  refine s_iloadN 14 C X d3_13 rfl ?_
  refine s_lloadN 15 C X d3_14 rfl ?_
  refine s_lastore 16 2 C X d3_15 A_o5 g_o5 ⟨by decide, by decide⟩ rfl (Nat.le_of_ble_eq_true rfl) (fun T hh X W A_o5 => ?_)
  have A_o5 : Arv Z _ o5 k_o3 .long i3 [(.long jU19), (.long jU19), (.long jU19)] (.long j0) := A_o5
  have Kp := Kp.wr W (Or.inl (by simp))
  refine s_iinc 19 C X (l' := #[rv o5, lv jU19, .second, iv i3, iv i3]) d3_16 kc_iconst_1 rfl rfl ?_
  refine s_goto 6 C X d3_19 ?_
  refine s_iloadN 7 C X d3_6 rfl ?_
  refine s_iload 9 C X d3_7 rfl ?_
  refine s_icmp_ge 22 12 C X d3_9 (fun _ => ?_) (fun c => absurd c (by decide))
  refine s_return C X d3_22 rfl ?_ (FG hG (by decide) (by decide))
  exact hQ _ _ ⟨rfl, A_o5, Kp⟩
theorem rm_a25 (l : Launch) (Z : State) (a0 : Array Value) (hw : ∀ d ∈ tables_1, d.before a0 Z = true) (o1 : Addr) (h0 : Heap) (n0 : Nat) (Z0 : n0 ≤ h0.size) (E_o1 : Exa Z h0 o1 "com/example/dayweave/dayweave/solve/TemporalNetwork") (F_o1_most : Fld Z h0 o1 "com/example/dayweave/dayweave/solve/TemporalNetwork" "most" "[[J" .null) (g_o1 : n0 ≤ o1) :
    Met l Z (⟨"com/example/dayweave/dayweave/solve/TemporalNetwork", "<init>", "(I)V"⟩ : MethodName) prog_67_method_1_code 3 none { frames := 1, cells := 4, slots := 12, locals := 16 } [] #[(.ref o1), (.int i3)] h0 n0 (fun v h => ∃ (o2 : Addr) (o3 : Addr) (o4 : Addr) (o5 : Addr) (k_o2 : ClassId) (k_o3 : ClassId), v = none ∧ Exa Z h o1 "com/example/dayweave/dayweave/solve/TemporalNetwork" ∧ Fld Z h o1 "com/example/dayweave/dayweave/solve/TemporalNetwork" "most" "[[J" (.ref o2) ∧ Keep h0 h [o1] ∧ Arv Z h o2 k_o2 (.array .long) i3 [(.ref o3), (.ref o4), (.ref o5)] .null ∧ Arv Z h o3 k_o3 .long i3 [(.long j0), (.long jU19), (.long jU19)] (.long j0) ∧ Arv Z h o4 k_o3 .long i3 [(.long jU19), (.long j0), (.long jU19)] (.long j0) ∧ Arv Z h o5 k_o3 .long i3 [(.long jU19), (.long jU19), (.long j0)] (.long j0) ∧ o1 ≠ o2 ∧ h0.size ≤ o2 ∧ n0 ≤ o2 ∧ o1 ≠ o3 ∧ h0.size ≤ o3 ∧ n0 ≤ o3 ∧ o1 ≠ o4 ∧ h0.size ≤ o4 ∧ n0 ≤ o4 ∧ o1 ≠ o5 ∧ h0.size ≤ o5 ∧ n0 ≤ o5 ∧ o2 ≠ o3 ∧ o2 ≠ o4 ∧ o2 ≠ o5 ∧ o3 ≠ o4 ∧ o3 ≠ o5 ∧ o4 ≠ o5) := by
  refine Met.mkQ (tabs := tables_1) (a0 := a0) (ls0 := #[rv o1, iv i3, .unset]) (plainFor_of_name pn_com_example_dayweave_dayweave_solve_TemporalNetwork) hw Z0 (fun m => by first | (simp [entryFrame, mkF, argsToLocals, Value.category]; done) | rfl) ?_
  intro p e s m below meth c T Q' G' hQ hG C X
  have Kp : Keep h0 h0 [o1] := Keep.refl _ _
  refine s_aloadN 1 C X d1_0 rfl rfl ?_
  refine s_objInit 4 C X d1_1 (mW 6 rfl) (mW 7 rfl) (mW 8 rfl) rfl (W := 0) rfl (by decide) (fun T X => ?_)
  refine s_aloadN 5 C X d1_4 rfl rfl ?_
  refine s_iloadN 6 C X d1_5 rfl ?_
  refine s_iloadN 7 C X d1_6 rfl ?_
  refine s_grid3 11 3 C X d1_7 (K := "[J") rfl rfl (mW 9 rfl) (mW 10 rfl) (mW 11 rfl) (by decide) (by decide) rfl rfl (fun T hh o2 o3 o4 o5 k_o2 k_o3 hb_o2 hb_o3 hb_o4 hb_o5 hne X E A_o2 A_o3 A_o4 A_o5 g_o2 g_o3 g_o4 g_o5 => ?_)
  obtain ⟨ne_o2_o3, ne_o2_o4, ne_o2_o5, ne_o3_o4, ne_o3_o5, ne_o4_o5⟩ := hne
  have ne_o1_o2 : o1 ≠ o2 := Nat.ne_of_lt (Nat.lt_of_lt_of_le E_o1.lt (Nat.le_of_eq hb_o2))
  have sz_o2 : h0.size ≤ o2 := Nat.le_trans Kp.1 (Nat.le_of_eq hb_o2)
  have ne_o1_o3 : o1 ≠ o3 := Nat.ne_of_lt (Nat.lt_of_lt_of_le E_o1.lt (hb_o3))
  have sz_o3 : h0.size ≤ o3 := Nat.le_trans Kp.1 (hb_o3)
  have ne_o1_o4 : o1 ≠ o4 := Nat.ne_of_lt (Nat.lt_of_lt_of_le E_o1.lt (hb_o4))
  have sz_o4 : h0.size ≤ o4 := Nat.le_trans Kp.1 (hb_o4)
  have ne_o1_o5 : o1 ≠ o5 := Nat.ne_of_lt (Nat.lt_of_lt_of_le E_o1.lt (hb_o5))
  have sz_o5 : h0.size ≤ o5 := Nat.le_trans Kp.1 (hb_o5)
  have E_o1 := E_o1.ext E
  have F_o1_most := F_o1_most.ext E
  have Kp := Kp.ext E
  have A_o3 : Arv Z _ o3 k_o3 .long i3 [(.long j0), (.long j0), (.long j0)] (.long j0) := A_o3.pad (pad_rep [] _ 3)
  have A_o4 : Arv Z _ o4 k_o3 .long i3 [(.long j0), (.long j0), (.long j0)] (.long j0) := A_o4.pad (pad_rep [] _ 3)
  have A_o5 : Arv Z _ o5 k_o3 .long i3 [(.long j0), (.long j0), (.long j0)] (.long j0) := A_o5.pad (pad_rep [] _ 3)
  refine s_putfield 14 C X (host := "") d1_11 (Or.inl (mW 12 rfl)) Via.refl F_o1_most E_o1 (Or.inr ⟨(mW 13 rfl), rfl, rfl⟩) (mW 1 rfl) (ty := (.array (.array .long))) (by decide) rfl rfl g_o1 (fun T hh X W => ?_)
  have E_o1 := E_o1.wr W
  have F_o1_most := F_o1_most.same W
  have Kp := Kp.wr W (Or.inl (by simp))
  have A_o2 := A_o2.other W (Ne.symm ne_o1_o2)
  have A_o3 := A_o3.other W (Ne.symm ne_o1_o3)
  have A_o4 := A_o4.other W (Ne.symm ne_o1_o4)
  have A_o5 := A_o5.other W (Ne.symm ne_o1_o5)
  refine s_iconst 15 C X d1_14 kc_iconst_0 ?_
  refine s_istoreN 16 C X (l' := #[rv o1, iv i3, iv i0]) d1_15 rfl ?_
  refine s_iloadN 17 C X d1_16 rfl ?_
  refine s_iloadN 18 C X d1_17 rfl ?_
  refine s_icmp_ge 48 21 C X d1_18 (fun c => absurd (by decide : i0 < i3) c) (fun _ => ?_)
  refine s_aloadN 22 C X d1_21 rfl rfl ?_
  refine s_getfield 25 C X (host := "") d1_22 (Or.inl (mW 12 rfl)) Via.refl F_o1_most (fun T X => ?_)
  refine s_iloadN 26 C X d1_25 rfl ?_
  refine s_aaload 27 C X d1_26 A_o2 rfl ⟨by decide, by decide⟩ (v := (.ref o3)) rfl ?_
  refine s_ldc2Long 30 C X d1_27 (mW 14 rfl) ?_
  refine s_callS 33 [(.ref o3), (.long jU19)] [] 0 C X d1_30 (mW 15 rfl) (mW 16 rfl) (mW 17 rfl) (mW 18 rfl) (rm_a11 l Z a0 hw o3 k_o3 _ n0 X.sz A_o3 g_o3) (lenOf pd___JJ_V rfl) rfl rfl rfl (fun T v hh X q => ?_)
  obtain ⟨rfl, A_o3, Kc⟩ := q
  have E_o1 := E_o1.keep Kc
  have F_o1_most := F_o1_most.keep Kc (ninS ne_o1_o3 nin0)
  have Kp := Kp.trans Kc (allS (Or.inr sz_o3) all0)
  have A_o2 := A_o2.keep Kc (ninS ne_o2_o3 nin0)
  have A_o4 := A_o4.keep Kc (ninS (Ne.symm ne_o3_o4) nin0)
  have A_o5 := A_o5.keep Kc (ninS (Ne.symm ne_o3_o5) nin0)
  refine Run.cast (st' := []) rfl ?_
  refine s_aloadN 34 C X d1_33 rfl rfl ?_
  refine s_getfield 37 C X (host := "") d1_34 (Or.inl (mW 12 rfl)) Via.refl F_o1_most (fun T X => ?_)
  refine s_iloadN 38 C X d1_37 rfl ?_
  refine s_aaload 39 C X d1_38 A_o2 rfl ⟨by decide, by decide⟩ (v := (.ref o3)) rfl ?_
  refine s_iloadN 40 C X d1_39 rfl ?_
  refine s_lconst 41 C X (z := j0) d1_40 rfl ?_
  refine s_lastore 42 0 C X d1_41 A_o3 g_o3 ⟨by decide, by decide⟩ rfl (Nat.le_of_ble_eq_true rfl) (fun T hh X W A_o3 => ?_)
  have A_o3 : Arv Z _ o3 k_o3 .long i3 [(.long j0), (.long jU19), (.long jU19)] (.long j0) := A_o3
  have E_o1 := E_o1.wr W
  have F_o1_most := F_o1_most.other W (Or.inl ne_o1_o3)
  have Kp := Kp.wr W (Or.inr sz_o3)
  have A_o2 := A_o2.other W ne_o2_o3
  have A_o4 := A_o4.other W (Ne.symm ne_o3_o4)
  have A_o5 := A_o5.other W (Ne.symm ne_o3_o5)
  refine s_iinc 45 C X (l' := #[rv o1, iv i3, iv i1]) d1_42 kc_iconst_1 rfl rfl ?_
  refine s_goto 16 C X d1_45 ?_
  refine s_iloadN 17 C X d1_16 rfl ?_
  refine s_iloadN 18 C X d1_17 rfl ?_
  refine s_icmp_ge 48 21 C X d1_18 (fun c => absurd (by decide : i1 < i3) c) (fun _ => ?_)
  refine s_aloadN 22 C X d1_21 rfl rfl ?_
  refine s_getfield 25 C X (host := "") d1_22 (Or.inl (mW 12 rfl)) Via.refl F_o1_most (fun T X => ?_)
  refine s_iloadN 26 C X d1_25 rfl ?_
  refine s_aaload 27 C X d1_26 A_o2 rfl ⟨by decide, by decide⟩ (v := (.ref o4)) rfl ?_
  refine s_ldc2Long 30 C X d1_27 (mW 14 rfl) ?_
  refine s_callS 33 [(.ref o4), (.long jU19)] [] 0 C X d1_30 (mW 15 rfl) (mW 16 rfl) (mW 17 rfl) (mW 18 rfl) (rm_a17 l Z a0 hw o4 k_o3 _ n0 X.sz A_o4 g_o4) (lenOf pd___JJ_V rfl) rfl rfl rfl (fun T v hh X q => ?_)
  obtain ⟨rfl, A_o4, Kc⟩ := q
  have E_o1 := E_o1.keep Kc
  have F_o1_most := F_o1_most.keep Kc (ninS ne_o1_o4 nin0)
  have Kp := Kp.trans Kc (allS (Or.inr sz_o4) all0)
  have A_o2 := A_o2.keep Kc (ninS ne_o2_o4 nin0)
  have A_o5 := A_o5.keep Kc (ninS (Ne.symm ne_o4_o5) nin0)
  have A_o3 := A_o3.keep Kc (ninS ne_o3_o4 nin0)
  refine Run.cast (st' := []) rfl ?_
  refine s_aloadN 34 C X d1_33 rfl rfl ?_
  refine s_getfield 37 C X (host := "") d1_34 (Or.inl (mW 12 rfl)) Via.refl F_o1_most (fun T X => ?_)
  refine s_iloadN 38 C X d1_37 rfl ?_
  refine s_aaload 39 C X d1_38 A_o2 rfl ⟨by decide, by decide⟩ (v := (.ref o4)) rfl ?_
  refine s_iloadN 40 C X d1_39 rfl ?_
  refine s_lconst 41 C X (z := j0) d1_40 rfl ?_
  refine s_lastore 42 1 C X d1_41 A_o4 g_o4 ⟨by decide, by decide⟩ rfl (Nat.le_of_ble_eq_true rfl) (fun T hh X W A_o4 => ?_)
  have A_o4 : Arv Z _ o4 k_o3 .long i3 [(.long jU19), (.long j0), (.long jU19)] (.long j0) := A_o4
  have E_o1 := E_o1.wr W
  have F_o1_most := F_o1_most.other W (Or.inl ne_o1_o4)
  have Kp := Kp.wr W (Or.inr sz_o4)
  have A_o2 := A_o2.other W ne_o2_o4
  have A_o5 := A_o5.other W (Ne.symm ne_o4_o5)
  have A_o3 := A_o3.other W ne_o3_o4
  refine s_iinc 45 C X (l' := #[rv o1, iv i3, iv i2]) d1_42 kc_iconst_1 rfl rfl ?_
  refine s_goto 16 C X d1_45 ?_
  refine s_iloadN 17 C X d1_16 rfl ?_
  refine s_iloadN 18 C X d1_17 rfl ?_
  refine s_icmp_ge 48 21 C X d1_18 (fun c => absurd (by decide : i2 < i3) c) (fun _ => ?_)
  refine s_aloadN 22 C X d1_21 rfl rfl ?_
  refine s_getfield 25 C X (host := "") d1_22 (Or.inl (mW 12 rfl)) Via.refl F_o1_most (fun T X => ?_)
  refine s_iloadN 26 C X d1_25 rfl ?_
  refine s_aaload 27 C X d1_26 A_o2 rfl ⟨by decide, by decide⟩ (v := (.ref o5)) rfl ?_
  refine s_ldc2Long 30 C X d1_27 (mW 14 rfl) ?_
  refine s_callS 33 [(.ref o5), (.long jU19)] [] 0 C X d1_30 (mW 15 rfl) (mW 16 rfl) (mW 17 rfl) (mW 18 rfl) (rm_a23 l Z a0 hw o5 k_o3 _ n0 X.sz A_o5 g_o5) (lenOf pd___JJ_V rfl) rfl rfl rfl (fun T v hh X q => ?_)
  obtain ⟨rfl, A_o5, Kc⟩ := q
  have E_o1 := E_o1.keep Kc
  have F_o1_most := F_o1_most.keep Kc (ninS ne_o1_o5 nin0)
  have Kp := Kp.trans Kc (allS (Or.inr sz_o5) all0)
  have A_o2 := A_o2.keep Kc (ninS ne_o2_o5 nin0)
  have A_o3 := A_o3.keep Kc (ninS ne_o3_o5 nin0)
  have A_o4 := A_o4.keep Kc (ninS ne_o4_o5 nin0)
  refine Run.cast (st' := []) rfl ?_
  refine s_aloadN 34 C X d1_33 rfl rfl ?_
  refine s_getfield 37 C X (host := "") d1_34 (Or.inl (mW 12 rfl)) Via.refl F_o1_most (fun T X => ?_)
  refine s_iloadN 38 C X d1_37 rfl ?_
  refine s_aaload 39 C X d1_38 A_o2 rfl ⟨by decide, by decide⟩ (v := (.ref o5)) rfl ?_
  refine s_iloadN 40 C X d1_39 rfl ?_
  refine s_lconst 41 C X (z := j0) d1_40 rfl ?_
  refine s_lastore 42 2 C X d1_41 A_o5 g_o5 ⟨by decide, by decide⟩ rfl (Nat.le_of_ble_eq_true rfl) (fun T hh X W A_o5 => ?_)
  have A_o5 : Arv Z _ o5 k_o3 .long i3 [(.long jU19), (.long jU19), (.long j0)] (.long j0) := A_o5
  have E_o1 := E_o1.wr W
  have F_o1_most := F_o1_most.other W (Or.inl ne_o1_o5)
  have Kp := Kp.wr W (Or.inr sz_o5)
  have A_o2 := A_o2.other W ne_o2_o5
  have A_o3 := A_o3.other W ne_o3_o5
  have A_o4 := A_o4.other W ne_o4_o5
  refine s_iinc 45 C X (l' := #[rv o1, iv i3, iv i3]) d1_42 kc_iconst_1 rfl rfl ?_
  refine s_goto 16 C X d1_45 ?_
  refine s_iloadN 17 C X d1_16 rfl ?_
  refine s_iloadN 18 C X d1_17 rfl ?_
  refine s_icmp_ge 48 21 C X d1_18 (fun _ => ?_) (fun c => absurd c (by decide))
  refine s_return C X d1_48 rfl ?_ (FG hG (by decide) (by decide))
  exact hQ _ _ ⟨o2, o3, o4, o5, k_o2, k_o3, rfl, E_o1, F_o1_most, Kp, A_o2, A_o3, A_o4, A_o5, ne_o1_o2, sz_o2, g_o2, ne_o1_o3, sz_o3, g_o3, ne_o1_o4, sz_o4, g_o4, ne_o1_o5, sz_o5, g_o5, ne_o2_o3, ne_o2_o4, ne_o2_o5, ne_o3_o4, ne_o3_o5, ne_o4_o5⟩
theorem rm_a31 (l : Launch) (Z : State) (a0 : Array Value) (hw : ∀ d ∈ tables_1, d.before a0 Z = true) (ga0 : Int64) (ga1 : Int64) (h0 : Heap) (n0 : Nat) (Z0 : n0 ≤ h0.size)  :
    Met l Z (⟨"java/lang/Math", "min", "(JJ)J"⟩ : MethodName) jdk_29_method_70_code 4 (some .long) { frames := 0, cells := 0, slots := 0, locals := 0 } [] #[(.long ga0), (.long ga1)] h0 n0 (fun v h => ∃ (y29 : Int64), v = some (.long y29) ∧ ((((ga1).toInt < (ga0).toInt) ∧ y29 = ga1) ∨ ((¬ ((ga1).toInt < (ga0).toInt)) ∧ y29 = ga0)) ∧ Keep h0 h []) := by
  refine Met.mkQ (tabs := tables_1) (a0 := a0) (ls0 := #[lv ga0, .second, lv ga1, .second]) (Jvm.Free.JP.mathPlain rfl (by decide +kernel)) hw Z0 (fun m => by first | (simp [entryFrame, mkF, argsToLocals, Value.category]; done) | rfl) ?_
  intro p e s m below meth c T Q' G' hQ hG C X
  have Kp : Keep h0 h0 [] := Keep.refl _ _
  refine s_lloadN 1 C X d6_0 rfl ?_
  refine s_lloadN 2 C X d6_1 rfl ?_
  refine s_lcmp 3 C X d6_2 ?_
  suffices J30 : ∀ (T : State) (hh : Heap) (y29 : Int64) (D30 : (((ga1).toInt < (ga0).toInt) ∧ y29 = ga1) ∨ ((¬ ((ga1).toInt < (ga0).toInt)) ∧ y29 = ga0)) (X : St p l e ({ frames := 0, cells := 0, slots := 0, locals := 0 } : Room) s m #[(.long ga0), (.long ga1)] below meth c n0 T hh 0 0) (Kp : Keep h0 hh []), Run p e below n0 Q' G' m T 11 #[lv ga0, .second, lv ga1, .second] [(.long y29)] by
    refine s_if_gt 10 6 C X d6_3 (fun c3_27 => ?_) (fun c3_27 => ?_)
    · have t_c3_27 : (ga1).toInt < (ga0).toInt := cl_gt.mp c3_27
      refine s_lloadN 11 C X d6_10 rfl ?_
      exact J30 T _ (ga1) ((Or.inl ⟨t_c3_27, rfl⟩)) X Kp
    have t_c3_27 : ¬ ((ga1).toInt < (ga0).toInt) := fun q => c3_27 (cl_gt.mpr q)
    refine s_lloadN 7 C X d6_6 rfl ?_
    refine s_goto 11 C X d6_7 ?_
    exact J30 T _ (ga0) (Or.inr ⟨t_c3_27, rfl⟩) X Kp
  intro T hh y29 D30  X Kp
  refine s_lreturn C X d6_11 rfl ?_ (FG hG (by decide) (by decide))
  exact hQ _ _ ⟨y29, rfl, D30, Kp⟩
theorem rm_a32 (l : Launch) (Z : State) (a0 : Array Value) (hw : ∀ d ∈ tables_1, d.before a0 Z = true) (o1 : Addr) (o2 : Addr) (o3 : Addr) (o4 : Addr) (o5 : Addr) (k_o2 : ClassId) (k_o3 : ClassId) (ga3 : Int64) (h0 : Heap) (n0 : Nat) (Z0 : n0 ≤ h0.size) (F_o1_most : Fld Z h0 o1 "com/example/dayweave/dayweave/solve/TemporalNetwork" "most" "[[J" (.ref o2)) (A_o2 : Arv Z h0 o2 k_o2 (.array .long) i3 [(.ref o3), (.ref o4), (.ref o5)] .null) (A_o3 : Arv Z h0 o3 k_o3 .long i3 [(.long j0), (.long jU19), (.long jU19)] (.long j0)) (g_o3 : n0 ≤ o3) (ne_o1_o3 : o1 ≠ o3) (ne_o2_o3 : o2 ≠ o3) :
    Met l Z (⟨"com/example/dayweave/dayweave/solve/TemporalNetwork", "atMost", "(IIJ)V"⟩ : MethodName) prog_67_method_2_code 5 none { frames := 1, cells := 0, slots := 0, locals := 17 } [] #[(.ref o1), (.int i0), (.int i1), (.long ga3)] h0 n0 (fun v h => ∃ (y29 : Int64), v = none ∧ ((((ga3).toInt < (jU19).toInt) ∧ y29 = ga3) ∨ ((¬ ((ga3).toInt < (jU19).toInt)) ∧ y29 = jU19)) ∧ Arv Z h o3 k_o3 .long i3 [(.long j0), (.long y29), (.long jU19)] (.long j0) ∧ Keep h0 h [o3]) := by
  refine Met.mkQ (tabs := tables_1) (a0 := a0) (ls0 := #[rv o1, iv i0, iv i1, lv ga3, .second]) (plainFor_of_name pn_com_example_dayweave_dayweave_solve_TemporalNetwork) hw Z0 (fun m => by first | (simp [entryFrame, mkF, argsToLocals, Value.category]; done) | rfl) ?_
  intro p e s m below meth c T Q' G' hQ hG C X
  have Kp : Keep h0 h0 [o3] := Keep.refl _ _
  refine s_aloadN 1 C X d5_0 rfl rfl ?_
  refine s_getfield 4 C X (host := "") d5_1 (Or.inl (mW 12 rfl)) Via.refl F_o1_most (fun T X => ?_)
  refine s_iloadN 5 C X d5_4 rfl ?_
  refine s_aaload 6 C X d5_5 A_o2 rfl ⟨by decide, by decide⟩ (v := (.ref o3)) rfl ?_
  refine s_iloadN 7 C X d5_6 rfl ?_
  refine s_aloadN 8 C X d5_7 rfl rfl ?_
  refine s_getfield 11 C X (host := "") d5_8 (Or.inl (mW 12 rfl)) Via.refl F_o1_most (fun T X => ?_)
  refine s_iloadN 12 C X d5_11 rfl ?_
  refine s_aaload 13 C X d5_12 A_o2 rfl ⟨by decide, by decide⟩ (v := (.ref o3)) rfl ?_
  refine s_iloadN 14 C X d5_13 rfl ?_
  refine s_laload 15 C X d5_14 A_o3 ⟨by decide, by decide⟩ (v := (.long jU19)) rfl ?_
  refine s_lloadN 16 C X d5_15 rfl ?_
  refine s_callS 19 [(.long jU19), (.long ga3)] [(.int i1), (.ref o3)] 2 C X d5_16 (mW 28 rfl) (mW 29 rfl) (mW 30 rfl) (mW 31 rfl) (rm_a31 l Z a0 hw jU19 (ga3) _ n0 X.sz ) (lenOf pd__JJ_J rfl) rfl rfl rfl (fun T v hh X q => ?_)
  obtain ⟨y29, rfl, D30, Kc⟩ := q
  have A_o3 := A_o3.keep Kc nin0
  have Kp := Kp.trans Kc all0
  refine Run.cast (st' := [(.long y29), (.int i1), (.ref o3)]) rfl ?_
  refine s_lastore 20 1 C X d5_19 A_o3 g_o3 ⟨by decide, by decide⟩ rfl (Nat.le_of_ble_eq_true rfl) (fun T hh X W A_o3 => ?_)
  have A_o3 : Arv Z _ o3 k_o3 .long i3 [(.long j0), (.long y29), (.long jU19)] (.long j0) := A_o3
  have Kp := Kp.wr W (Or.inl (by simp))
  refine s_return C X d5_20 rfl ?_ (FG hG (by decide) (by decide))
  exact hQ _ _ ⟨y29, rfl, D30, A_o3, Kp⟩
theorem rm_a36 (l : Launch) (Z : State) (a0 : Array Value) (hw : ∀ d ∈ tables_1, d.before a0 Z = true) (x0 : Int32) (o1 : Addr) (o2 : Addr) (o3 : Addr) (o4 : Addr) (o5 : Addr) (k_o2 : ClassId) (k_o3 : ClassId) (h0 : Heap) (n0 : Nat) (Z0 : n0 ≤ h0.size) (E_o1 : Exa Z h0 o1 "com/example/dayweave/dayweave/solve/TemporalNetwork") (F_o1_most : Fld Z h0 o1 "com/example/dayweave/dayweave/solve/TemporalNetwork" "most" "[[J" (.ref o2)) (A_o2 : Arv Z h0 o2 k_o2 (.array .long) i3 [(.ref o3), (.ref o4), (.ref o5)] .null) (A_o3 : Arv Z h0 o3 k_o3 .long i3 [(.long j0), (.long jU19), (.long jU19)] (.long j0)) (g_o3 : n0 ≤ o3) (ne_o1_o3 : o1 ≠ o3) (ne_o2_o3 : o2 ≠ o3) :
    Met l Z (⟨"com/example/dayweave/dayweave/solve/TemporalNetworkMinimisePinLaw", "put", "(Lcom/example/dayweave/dayweave/solve/TemporalNetwork;III)V"⟩ : MethodName) method_5_code 4 none { frames := 2, cells := 0, slots := 0, locals := 33 } [] #[(.ref o1), (.int i0), (.int i1), (.int x0)] h0 n0 (fun v h => ∃ (y34 : Int64), v = none ∧ own_W x0 y34 ∧ Arv Z h o3 k_o3 .long i3 [(.long j0), (.long y34), (.long jU19)] (.long j0) ∧ Keep h0 h [o3]) := by
  refine Met.mkQ (tabs := tables_1) (a0 := a0) (ls0 := #[rv o1, iv i0, iv i1, iv x0]) (plainFor_of_name pn_com_example_dayweave_dayweave_solve_TemporalNetworkMinimisePinLaw) hw Z0 (fun m => by first | (simp [entryFrame, mkF, argsToLocals, Value.category]; done) | rfl) ?_
  intro p e s m below meth c T Q' G' hQ hG C X
  have Kp : Keep h0 h0 [o3] := Keep.refl _ _
  refine s_iloadN 1 C X d4_0 rfl ?_
  refine s_iconst 2 C X d4_1 kc_iconst_1 ?_
  refine s_iand 3 C X d4_2 ?_
  suffices J35 : ∀ (T : State) (hh : Heap) (y34 : Int64) (D35 : ((((x0 &&& i1)).toInt = (0 : Int)) ∧ y34 = jU19) ∨ (∃ (y29 : Int64), (¬ (((x0 &&& i1)).toInt = (0 : Int))) ∧ ((((((x0 >>> (i3 &&& 31))).toInt64).toInt < (jU19).toInt) ∧ y29 = ((x0 >>> (i3 &&& 31))).toInt64) ∨ ((¬ ((((x0 >>> (i3 &&& 31))).toInt64).toInt < (jU19).toInt)) ∧ y29 = jU19)) ∧ y34 = y29)) (X : St p l e ({ frames := 2, cells := 0, slots := 0, locals := 33 } : Room) s m #[(.ref o1), (.int i0), (.int i1), (.int x0)] below meth c n0 T hh 0 0) (A_o3 : Arv Z hh o3 k_o3 .long i3 [(.long j0), (.long y34), (.long jU19)] (.long j0)) (Kp : Keep h0 hh [o3]), Run p e below n0 Q' G' m T 16 #[rv o1, iv i0, iv i1, iv x0] [] by
    refine s_if_eq 16 6 C X d4_3 (fun c3_26 => ?_) (fun c3_26 => ?_)
    · have t_c3_26 : ((x0 &&& i1)).toInt = (0 : Int) := congrArg Int32.toInt c3_26
      exact J35 T _ (jU19) ((Or.inl ⟨t_c3_26, rfl⟩)) X A_o3 Kp
    have t_c3_26 : ¬ (((x0 &&& i1)).toInt = (0 : Int)) := fun q => c3_26 (Int32.toInt_inj.mp q)
    refine s_aloadN 7 C X d4_6 rfl rfl ?_
    refine s_iloadN 8 C X d4_7 rfl ?_
    refine s_iloadN 9 C X d4_8 rfl ?_
    refine s_iloadN 10 C X d4_9 rfl ?_
    refine s_iconst 11 C X d4_10 kc_iconst_3 ?_
    refine s_ishr 12 C X d4_11 ?_
    refine s_i2l 13 C X d4_12 ?_
    refine s_callV 16 [(.int i0), (.int i1), (.long ((x0 >>> (i3 &&& 31))).toInt64)] [] 0 C X d4_13 (mW 23 rfl) (mW 24 rfl) (notFace_of_selects (args := #[]) (mvT C.2.1 (C.w (mW 26 rfl)))) (mW 26 rfl) (mW 25 rfl) (mW 2 rfl) (mW 27 rfl) E_o1 (rm_a32 l Z a0 hw o1 o2 o3 o4 o5 k_o2 k_o3 ((x0 >>> (i3 &&& 31))).toInt64 _ n0 X.sz F_o1_most A_o2 A_o3 g_o3 ne_o1_o3 ne_o2_o3) (lenOf pd__IIJ_V rfl) rfl rfl rfl (fun T v hh X q => ?_)
    obtain ⟨y29, rfl, D30, A_o3, Kc⟩ := q
    have Kp := Kp.trans Kc (allS (Or.inl (by simp)) all0)
    refine Run.cast (st' := []) rfl ?_
    exact J35 T _ (y29) (Or.inr ⟨y29, t_c3_26, D30, rfl⟩) X A_o3 Kp
  intro T hh y34 D35  X A_o3 Kp
  have W_y34 : own_W x0 y34 := own_put D35
  refine s_return C X d4_16 rfl ?_ (FG hG (by decide) (by decide))
  exact hQ _ _ ⟨y34, rfl, W_y34, A_o3, Kp⟩
theorem rm_a43 (l : Launch) (Z : State) (a0 : Array Value) (hw : ∀ d ∈ tables_1, d.before a0 Z = true) (o1 : Addr) (o2 : Addr) (o3 : Addr) (o4 : Addr) (o5 : Addr) (k_o2 : ClassId) (k_o3 : ClassId) (ga3 : Int64) (h0 : Heap) (n0 : Nat) (Z0 : n0 ≤ h0.size) (F_o1_most : Fld Z h0 o1 "com/example/dayweave/dayweave/solve/TemporalNetwork" "most" "[[J" (.ref o2)) (A_o2 : Arv Z h0 o2 k_o2 (.array .long) i3 [(.ref o3), (.ref o4), (.ref o5)] .null) (A_o4 : Arv Z h0 o4 k_o3 .long i3 [(.long jU19), (.long j0), (.long jU19)] (.long j0)) (g_o4 : n0 ≤ o4) (ne_o1_o4 : o1 ≠ o4) (ne_o2_o4 : o2 ≠ o4) :
    Met l Z (⟨"com/example/dayweave/dayweave/solve/TemporalNetwork", "atMost", "(IIJ)V"⟩ : MethodName) prog_67_method_2_code 5 none { frames := 1, cells := 0, slots := 0, locals := 17 } [] #[(.ref o1), (.int i1), (.int i0), (.long ga3)] h0 n0 (fun v h => ∃ (y29 : Int64), v = none ∧ ((((ga3).toInt < (jU19).toInt) ∧ y29 = ga3) ∨ ((¬ ((ga3).toInt < (jU19).toInt)) ∧ y29 = jU19)) ∧ Arv Z h o4 k_o3 .long i3 [(.long y29), (.long j0), (.long jU19)] (.long j0) ∧ Keep h0 h [o4]) := by
  refine Met.mkQ (tabs := tables_1) (a0 := a0) (ls0 := #[rv o1, iv i1, iv i0, lv ga3, .second]) (plainFor_of_name pn_com_example_dayweave_dayweave_solve_TemporalNetwork) hw Z0 (fun m => by first | (simp [entryFrame, mkF, argsToLocals, Value.category]; done) | rfl) ?_
  intro p e s m below meth c T Q' G' hQ hG C X
  have Kp : Keep h0 h0 [o4] := Keep.refl _ _
  refine s_aloadN 1 C X d5_0 rfl rfl ?_
  refine s_getfield 4 C X (host := "") d5_1 (Or.inl (mW 12 rfl)) Via.refl F_o1_most (fun T X => ?_)
  refine s_iloadN 5 C X d5_4 rfl ?_
  refine s_aaload 6 C X d5_5 A_o2 rfl ⟨by decide, by decide⟩ (v := (.ref o4)) rfl ?_
  refine s_iloadN 7 C X d5_6 rfl ?_
  refine s_aloadN 8 C X d5_7 rfl rfl ?_
  refine s_getfield 11 C X (host := "") d5_8 (Or.inl (mW 12 rfl)) Via.refl F_o1_most (fun T X => ?_)
  refine s_iloadN 12 C X d5_11 rfl ?_
  refine s_aaload 13 C X d5_12 A_o2 rfl ⟨by decide, by decide⟩ (v := (.ref o4)) rfl ?_
  refine s_iloadN 14 C X d5_13 rfl ?_
  refine s_laload 15 C X d5_14 A_o4 ⟨by decide, by decide⟩ (v := (.long jU19)) rfl ?_
  refine s_lloadN 16 C X d5_15 rfl ?_
  refine s_callS 19 [(.long jU19), (.long ga3)] [(.int i0), (.ref o4)] 2 C X d5_16 (mW 28 rfl) (mW 29 rfl) (mW 30 rfl) (mW 31 rfl) (rm_a31 l Z a0 hw jU19 (ga3) _ n0 X.sz ) (lenOf pd__JJ_J rfl) rfl rfl rfl (fun T v hh X q => ?_)
  obtain ⟨y29, rfl, D30, Kc⟩ := q
  have A_o4 := A_o4.keep Kc nin0
  have Kp := Kp.trans Kc all0
  refine Run.cast (st' := [(.long y29), (.int i0), (.ref o4)]) rfl ?_
  refine s_lastore 20 0 C X d5_19 A_o4 g_o4 ⟨by decide, by decide⟩ rfl (Nat.le_of_ble_eq_true rfl) (fun T hh X W A_o4 => ?_)
  have A_o4 : Arv Z _ o4 k_o3 .long i3 [(.long y29), (.long j0), (.long jU19)] (.long j0) := A_o4
  have Kp := Kp.wr W (Or.inl (by simp))
  refine s_return C X d5_20 rfl ?_ (FG hG (by decide) (by decide))
  exact hQ _ _ ⟨y29, rfl, D30, A_o4, Kp⟩
theorem rm_a47 (l : Launch) (Z : State) (a0 : Array Value) (hw : ∀ d ∈ tables_1, d.before a0 Z = true) (x1 : Int32) (o1 : Addr) (o2 : Addr) (o3 : Addr) (o4 : Addr) (o5 : Addr) (k_o2 : ClassId) (k_o3 : ClassId) (h0 : Heap) (n0 : Nat) (Z0 : n0 ≤ h0.size) (E_o1 : Exa Z h0 o1 "com/example/dayweave/dayweave/solve/TemporalNetwork") (F_o1_most : Fld Z h0 o1 "com/example/dayweave/dayweave/solve/TemporalNetwork" "most" "[[J" (.ref o2)) (A_o2 : Arv Z h0 o2 k_o2 (.array .long) i3 [(.ref o3), (.ref o4), (.ref o5)] .null) (A_o4 : Arv Z h0 o4 k_o3 .long i3 [(.long jU19), (.long j0), (.long jU19)] (.long j0)) (g_o4 : n0 ≤ o4) (ne_o1_o4 : o1 ≠ o4) (ne_o2_o4 : o2 ≠ o4) :
    Met l Z (⟨"com/example/dayweave/dayweave/solve/TemporalNetworkMinimisePinLaw", "put", "(Lcom/example/dayweave/dayweave/solve/TemporalNetwork;III)V"⟩ : MethodName) method_5_code 4 none { frames := 2, cells := 0, slots := 0, locals := 33 } [] #[(.ref o1), (.int i1), (.int i0), (.int x1)] h0 n0 (fun v h => ∃ (y45 : Int64), v = none ∧ own_W x1 y45 ∧ Arv Z h o4 k_o3 .long i3 [(.long y45), (.long j0), (.long jU19)] (.long j0) ∧ Keep h0 h [o4]) := by
  refine Met.mkQ (tabs := tables_1) (a0 := a0) (ls0 := #[rv o1, iv i1, iv i0, iv x1]) (plainFor_of_name pn_com_example_dayweave_dayweave_solve_TemporalNetworkMinimisePinLaw) hw Z0 (fun m => by first | (simp [entryFrame, mkF, argsToLocals, Value.category]; done) | rfl) ?_
  intro p e s m below meth c T Q' G' hQ hG C X
  have Kp : Keep h0 h0 [o4] := Keep.refl _ _
  refine s_iloadN 1 C X d4_0 rfl ?_
  refine s_iconst 2 C X d4_1 kc_iconst_1 ?_
  refine s_iand 3 C X d4_2 ?_
  suffices J46 : ∀ (T : State) (hh : Heap) (y45 : Int64) (D46 : ((((x1 &&& i1)).toInt = (0 : Int)) ∧ y45 = jU19) ∨ (∃ (y29 : Int64), (¬ (((x1 &&& i1)).toInt = (0 : Int))) ∧ ((((((x1 >>> (i3 &&& 31))).toInt64).toInt < (jU19).toInt) ∧ y29 = ((x1 >>> (i3 &&& 31))).toInt64) ∨ ((¬ ((((x1 >>> (i3 &&& 31))).toInt64).toInt < (jU19).toInt)) ∧ y29 = jU19)) ∧ y45 = y29)) (X : St p l e ({ frames := 2, cells := 0, slots := 0, locals := 33 } : Room) s m #[(.ref o1), (.int i1), (.int i0), (.int x1)] below meth c n0 T hh 0 0) (A_o4 : Arv Z hh o4 k_o3 .long i3 [(.long y45), (.long j0), (.long jU19)] (.long j0)) (Kp : Keep h0 hh [o4]), Run p e below n0 Q' G' m T 16 #[rv o1, iv i1, iv i0, iv x1] [] by
    refine s_if_eq 16 6 C X d4_3 (fun c3_37 => ?_) (fun c3_37 => ?_)
    · have t_c3_37 : ((x1 &&& i1)).toInt = (0 : Int) := congrArg Int32.toInt c3_37
      exact J46 T _ (jU19) ((Or.inl ⟨t_c3_37, rfl⟩)) X A_o4 Kp
    have t_c3_37 : ¬ (((x1 &&& i1)).toInt = (0 : Int)) := fun q => c3_37 (Int32.toInt_inj.mp q)
    refine s_aloadN 7 C X d4_6 rfl rfl ?_
    refine s_iloadN 8 C X d4_7 rfl ?_
    refine s_iloadN 9 C X d4_8 rfl ?_
    refine s_iloadN 10 C X d4_9 rfl ?_
    refine s_iconst 11 C X d4_10 kc_iconst_3 ?_
    refine s_ishr 12 C X d4_11 ?_
    refine s_i2l 13 C X d4_12 ?_
    refine s_callV 16 [(.int i1), (.int i0), (.long ((x1 >>> (i3 &&& 31))).toInt64)] [] 0 C X d4_13 (mW 23 rfl) (mW 24 rfl) (notFace_of_selects (args := #[]) (mvT C.2.1 (C.w (mW 26 rfl)))) (mW 26 rfl) (mW 25 rfl) (mW 2 rfl) (mW 27 rfl) E_o1 (rm_a43 l Z a0 hw o1 o2 o3 o4 o5 k_o2 k_o3 ((x1 >>> (i3 &&& 31))).toInt64 _ n0 X.sz F_o1_most A_o2 A_o4 g_o4 ne_o1_o4 ne_o2_o4) (lenOf pd__IIJ_V rfl) rfl rfl rfl (fun T v hh X q => ?_)
    obtain ⟨y29, rfl, D30, A_o4, Kc⟩ := q
    have Kp := Kp.trans Kc (allS (Or.inl (by simp)) all0)
    refine Run.cast (st' := []) rfl ?_
    exact J46 T _ (y29) (Or.inr ⟨y29, t_c3_37, D30, rfl⟩) X A_o4 Kp
  intro T hh y45 D46  X A_o4 Kp
  have W_y45 : own_W x1 y45 := own_put D46
  refine s_return C X d4_16 rfl ?_ (FG hG (by decide) (by decide))
  exact hQ _ _ ⟨y45, rfl, W_y45, A_o4, Kp⟩
theorem rm_a54 (l : Launch) (Z : State) (a0 : Array Value) (hw : ∀ d ∈ tables_1, d.before a0 Z = true) (o1 : Addr) (o2 : Addr) (o3 : Addr) (o4 : Addr) (o5 : Addr) (k_o2 : ClassId) (k_o3 : ClassId) (y34 : Int64) (ga3 : Int64) (h0 : Heap) (n0 : Nat) (Z0 : n0 ≤ h0.size) (F_o1_most : Fld Z h0 o1 "com/example/dayweave/dayweave/solve/TemporalNetwork" "most" "[[J" (.ref o2)) (A_o2 : Arv Z h0 o2 k_o2 (.array .long) i3 [(.ref o3), (.ref o4), (.ref o5)] .null) (A_o3 : Arv Z h0 o3 k_o3 .long i3 [(.long j0), (.long y34), (.long jU19)] (.long j0)) (g_o3 : n0 ≤ o3) (ne_o1_o3 : o1 ≠ o3) (ne_o2_o3 : o2 ≠ o3) :
    Met l Z (⟨"com/example/dayweave/dayweave/solve/TemporalNetwork", "atMost", "(IIJ)V"⟩ : MethodName) prog_67_method_2_code 5 none { frames := 1, cells := 0, slots := 0, locals := 17 } [] #[(.ref o1), (.int i0), (.int i2), (.long ga3)] h0 n0 (fun v h => ∃ (y29 : Int64), v = none ∧ ((((ga3).toInt < (jU19).toInt) ∧ y29 = ga3) ∨ ((¬ ((ga3).toInt < (jU19).toInt)) ∧ y29 = jU19)) ∧ Arv Z h o3 k_o3 .long i3 [(.long j0), (.long y34), (.long y29)] (.long j0) ∧ Keep h0 h [o3]) := by
  refine Met.mkQ (tabs := tables_1) (a0 := a0) (ls0 := #[rv o1, iv i0, iv i2, lv ga3, .second]) (plainFor_of_name pn_com_example_dayweave_dayweave_solve_TemporalNetwork) hw Z0 (fun m => by first | (simp [entryFrame, mkF, argsToLocals, Value.category]; done) | rfl) ?_
  intro p e s m below meth c T Q' G' hQ hG C X
  have Kp : Keep h0 h0 [o3] := Keep.refl _ _
  refine s_aloadN 1 C X d5_0 rfl rfl ?_
  refine s_getfield 4 C X (host := "") d5_1 (Or.inl (mW 12 rfl)) Via.refl F_o1_most (fun T X => ?_)
  refine s_iloadN 5 C X d5_4 rfl ?_
  refine s_aaload 6 C X d5_5 A_o2 rfl ⟨by decide, by decide⟩ (v := (.ref o3)) rfl ?_
  refine s_iloadN 7 C X d5_6 rfl ?_
  refine s_aloadN 8 C X d5_7 rfl rfl ?_
  refine s_getfield 11 C X (host := "") d5_8 (Or.inl (mW 12 rfl)) Via.refl F_o1_most (fun T X => ?_)
  refine s_iloadN 12 C X d5_11 rfl ?_
  refine s_aaload 13 C X d5_12 A_o2 rfl ⟨by decide, by decide⟩ (v := (.ref o3)) rfl ?_
  refine s_iloadN 14 C X d5_13 rfl ?_
  refine s_laload 15 C X d5_14 A_o3 ⟨by decide, by decide⟩ (v := (.long jU19)) rfl ?_
  refine s_lloadN 16 C X d5_15 rfl ?_
  refine s_callS 19 [(.long jU19), (.long ga3)] [(.int i2), (.ref o3)] 2 C X d5_16 (mW 28 rfl) (mW 29 rfl) (mW 30 rfl) (mW 31 rfl) (rm_a31 l Z a0 hw jU19 (ga3) _ n0 X.sz ) (lenOf pd__JJ_J rfl) rfl rfl rfl (fun T v hh X q => ?_)
  obtain ⟨y29, rfl, D30, Kc⟩ := q
  have A_o3 := A_o3.keep Kc nin0
  have Kp := Kp.trans Kc all0
  refine Run.cast (st' := [(.long y29), (.int i2), (.ref o3)]) rfl ?_
  refine s_lastore 20 2 C X d5_19 A_o3 g_o3 ⟨by decide, by decide⟩ rfl (Nat.le_of_ble_eq_true rfl) (fun T hh X W A_o3 => ?_)
  have A_o3 : Arv Z _ o3 k_o3 .long i3 [(.long j0), (.long y34), (.long y29)] (.long j0) := A_o3
  have Kp := Kp.wr W (Or.inl (by simp))
  refine s_return C X d5_20 rfl ?_ (FG hG (by decide) (by decide))
  exact hQ _ _ ⟨y29, rfl, D30, A_o3, Kp⟩
theorem rm_a58 (l : Launch) (Z : State) (a0 : Array Value) (hw : ∀ d ∈ tables_1, d.before a0 Z = true) (x2 : Int32) (o1 : Addr) (o2 : Addr) (o3 : Addr) (o4 : Addr) (o5 : Addr) (k_o2 : ClassId) (k_o3 : ClassId) (y34 : Int64) (h0 : Heap) (n0 : Nat) (Z0 : n0 ≤ h0.size) (E_o1 : Exa Z h0 o1 "com/example/dayweave/dayweave/solve/TemporalNetwork") (F_o1_most : Fld Z h0 o1 "com/example/dayweave/dayweave/solve/TemporalNetwork" "most" "[[J" (.ref o2)) (A_o2 : Arv Z h0 o2 k_o2 (.array .long) i3 [(.ref o3), (.ref o4), (.ref o5)] .null) (A_o3 : Arv Z h0 o3 k_o3 .long i3 [(.long j0), (.long y34), (.long jU19)] (.long j0)) (g_o3 : n0 ≤ o3) (ne_o1_o3 : o1 ≠ o3) (ne_o2_o3 : o2 ≠ o3) :
    Met l Z (⟨"com/example/dayweave/dayweave/solve/TemporalNetworkMinimisePinLaw", "put", "(Lcom/example/dayweave/dayweave/solve/TemporalNetwork;III)V"⟩ : MethodName) method_5_code 4 none { frames := 2, cells := 0, slots := 0, locals := 33 } [] #[(.ref o1), (.int i0), (.int i2), (.int x2)] h0 n0 (fun v h => ∃ (y56 : Int64), v = none ∧ own_W x2 y56 ∧ Arv Z h o3 k_o3 .long i3 [(.long j0), (.long y34), (.long y56)] (.long j0) ∧ Keep h0 h [o3]) := by
  refine Met.mkQ (tabs := tables_1) (a0 := a0) (ls0 := #[rv o1, iv i0, iv i2, iv x2]) (plainFor_of_name pn_com_example_dayweave_dayweave_solve_TemporalNetworkMinimisePinLaw) hw Z0 (fun m => by first | (simp [entryFrame, mkF, argsToLocals, Value.category]; done) | rfl) ?_
  intro p e s m below meth c T Q' G' hQ hG C X
  have Kp : Keep h0 h0 [o3] := Keep.refl _ _
  refine s_iloadN 1 C X d4_0 rfl ?_
  refine s_iconst 2 C X d4_1 kc_iconst_1 ?_
  refine s_iand 3 C X d4_2 ?_
  suffices J57 : ∀ (T : State) (hh : Heap) (y56 : Int64) (D57 : ((((x2 &&& i1)).toInt = (0 : Int)) ∧ y56 = jU19) ∨ (∃ (y29 : Int64), (¬ (((x2 &&& i1)).toInt = (0 : Int))) ∧ ((((((x2 >>> (i3 &&& 31))).toInt64).toInt < (jU19).toInt) ∧ y29 = ((x2 >>> (i3 &&& 31))).toInt64) ∨ ((¬ ((((x2 >>> (i3 &&& 31))).toInt64).toInt < (jU19).toInt)) ∧ y29 = jU19)) ∧ y56 = y29)) (X : St p l e ({ frames := 2, cells := 0, slots := 0, locals := 33 } : Room) s m #[(.ref o1), (.int i0), (.int i2), (.int x2)] below meth c n0 T hh 0 0) (A_o3 : Arv Z hh o3 k_o3 .long i3 [(.long j0), (.long y34), (.long y56)] (.long j0)) (Kp : Keep h0 hh [o3]), Run p e below n0 Q' G' m T 16 #[rv o1, iv i0, iv i2, iv x2] [] by
    refine s_if_eq 16 6 C X d4_3 (fun c3_48 => ?_) (fun c3_48 => ?_)
    · have t_c3_48 : ((x2 &&& i1)).toInt = (0 : Int) := congrArg Int32.toInt c3_48
      exact J57 T _ (jU19) ((Or.inl ⟨t_c3_48, rfl⟩)) X A_o3 Kp
    have t_c3_48 : ¬ (((x2 &&& i1)).toInt = (0 : Int)) := fun q => c3_48 (Int32.toInt_inj.mp q)
    refine s_aloadN 7 C X d4_6 rfl rfl ?_
    refine s_iloadN 8 C X d4_7 rfl ?_
    refine s_iloadN 9 C X d4_8 rfl ?_
    refine s_iloadN 10 C X d4_9 rfl ?_
    refine s_iconst 11 C X d4_10 kc_iconst_3 ?_
    refine s_ishr 12 C X d4_11 ?_
    refine s_i2l 13 C X d4_12 ?_
    refine s_callV 16 [(.int i0), (.int i2), (.long ((x2 >>> (i3 &&& 31))).toInt64)] [] 0 C X d4_13 (mW 23 rfl) (mW 24 rfl) (notFace_of_selects (args := #[]) (mvT C.2.1 (C.w (mW 26 rfl)))) (mW 26 rfl) (mW 25 rfl) (mW 2 rfl) (mW 27 rfl) E_o1 (rm_a54 l Z a0 hw o1 o2 o3 o4 o5 k_o2 k_o3 y34 ((x2 >>> (i3 &&& 31))).toInt64 _ n0 X.sz F_o1_most A_o2 A_o3 g_o3 ne_o1_o3 ne_o2_o3) (lenOf pd__IIJ_V rfl) rfl rfl rfl (fun T v hh X q => ?_)
    obtain ⟨y29, rfl, D30, A_o3, Kc⟩ := q
    have Kp := Kp.trans Kc (allS (Or.inl (by simp)) all0)
    refine Run.cast (st' := []) rfl ?_
    exact J57 T _ (y29) (Or.inr ⟨y29, t_c3_48, D30, rfl⟩) X A_o3 Kp
  intro T hh y56 D57  X A_o3 Kp
  have W_y56 : own_W x2 y56 := own_put D57
  refine s_return C X d4_16 rfl ?_ (FG hG (by decide) (by decide))
  exact hQ _ _ ⟨y56, rfl, W_y56, A_o3, Kp⟩
theorem rm_a65 (l : Launch) (Z : State) (a0 : Array Value) (hw : ∀ d ∈ tables_1, d.before a0 Z = true) (o1 : Addr) (o2 : Addr) (o3 : Addr) (o4 : Addr) (o5 : Addr) (k_o2 : ClassId) (k_o3 : ClassId) (ga3 : Int64) (h0 : Heap) (n0 : Nat) (Z0 : n0 ≤ h0.size) (F_o1_most : Fld Z h0 o1 "com/example/dayweave/dayweave/solve/TemporalNetwork" "most" "[[J" (.ref o2)) (A_o2 : Arv Z h0 o2 k_o2 (.array .long) i3 [(.ref o3), (.ref o4), (.ref o5)] .null) (A_o5 : Arv Z h0 o5 k_o3 .long i3 [(.long jU19), (.long jU19), (.long j0)] (.long j0)) (g_o5 : n0 ≤ o5) (ne_o1_o5 : o1 ≠ o5) (ne_o2_o5 : o2 ≠ o5) :
    Met l Z (⟨"com/example/dayweave/dayweave/solve/TemporalNetwork", "atMost", "(IIJ)V"⟩ : MethodName) prog_67_method_2_code 5 none { frames := 1, cells := 0, slots := 0, locals := 17 } [] #[(.ref o1), (.int i2), (.int i0), (.long ga3)] h0 n0 (fun v h => ∃ (y29 : Int64), v = none ∧ ((((ga3).toInt < (jU19).toInt) ∧ y29 = ga3) ∨ ((¬ ((ga3).toInt < (jU19).toInt)) ∧ y29 = jU19)) ∧ Arv Z h o5 k_o3 .long i3 [(.long y29), (.long jU19), (.long j0)] (.long j0) ∧ Keep h0 h [o5]) := by
  refine Met.mkQ (tabs := tables_1) (a0 := a0) (ls0 := #[rv o1, iv i2, iv i0, lv ga3, .second]) (plainFor_of_name pn_com_example_dayweave_dayweave_solve_TemporalNetwork) hw Z0 (fun m => by first | (simp [entryFrame, mkF, argsToLocals, Value.category]; done) | rfl) ?_
  intro p e s m below meth c T Q' G' hQ hG C X
  have Kp : Keep h0 h0 [o5] := Keep.refl _ _
  refine s_aloadN 1 C X d5_0 rfl rfl ?_
  refine s_getfield 4 C X (host := "") d5_1 (Or.inl (mW 12 rfl)) Via.refl F_o1_most (fun T X => ?_)
  refine s_iloadN 5 C X d5_4 rfl ?_
  refine s_aaload 6 C X d5_5 A_o2 rfl ⟨by decide, by decide⟩ (v := (.ref o5)) rfl ?_
  refine s_iloadN 7 C X d5_6 rfl ?_
  refine s_aloadN 8 C X d5_7 rfl rfl ?_
  refine s_getfield 11 C X (host := "") d5_8 (Or.inl (mW 12 rfl)) Via.refl F_o1_most (fun T X => ?_)
  refine s_iloadN 12 C X d5_11 rfl ?_
  refine s_aaload 13 C X d5_12 A_o2 rfl ⟨by decide, by decide⟩ (v := (.ref o5)) rfl ?_
  refine s_iloadN 14 C X d5_13 rfl ?_
  refine s_laload 15 C X d5_14 A_o5 ⟨by decide, by decide⟩ (v := (.long jU19)) rfl ?_
  refine s_lloadN 16 C X d5_15 rfl ?_
  refine s_callS 19 [(.long jU19), (.long ga3)] [(.int i0), (.ref o5)] 2 C X d5_16 (mW 28 rfl) (mW 29 rfl) (mW 30 rfl) (mW 31 rfl) (rm_a31 l Z a0 hw jU19 (ga3) _ n0 X.sz ) (lenOf pd__JJ_J rfl) rfl rfl rfl (fun T v hh X q => ?_)
  obtain ⟨y29, rfl, D30, Kc⟩ := q
  have A_o5 := A_o5.keep Kc nin0
  have Kp := Kp.trans Kc all0
  refine Run.cast (st' := [(.long y29), (.int i0), (.ref o5)]) rfl ?_
  refine s_lastore 20 0 C X d5_19 A_o5 g_o5 ⟨by decide, by decide⟩ rfl (Nat.le_of_ble_eq_true rfl) (fun T hh X W A_o5 => ?_)
  have A_o5 : Arv Z _ o5 k_o3 .long i3 [(.long y29), (.long jU19), (.long j0)] (.long j0) := A_o5
  have Kp := Kp.wr W (Or.inl (by simp))
  refine s_return C X d5_20 rfl ?_ (FG hG (by decide) (by decide))
  exact hQ _ _ ⟨y29, rfl, D30, A_o5, Kp⟩
theorem rm_a69 (l : Launch) (Z : State) (a0 : Array Value) (hw : ∀ d ∈ tables_1, d.before a0 Z = true) (x3 : Int32) (o1 : Addr) (o2 : Addr) (o3 : Addr) (o4 : Addr) (o5 : Addr) (k_o2 : ClassId) (k_o3 : ClassId) (h0 : Heap) (n0 : Nat) (Z0 : n0 ≤ h0.size) (E_o1 : Exa Z h0 o1 "com/example/dayweave/dayweave/solve/TemporalNetwork") (F_o1_most : Fld Z h0 o1 "com/example/dayweave/dayweave/solve/TemporalNetwork" "most" "[[J" (.ref o2)) (A_o2 : Arv Z h0 o2 k_o2 (.array .long) i3 [(.ref o3), (.ref o4), (.ref o5)] .null) (A_o5 : Arv Z h0 o5 k_o3 .long i3 [(.long jU19), (.long jU19), (.long j0)] (.long j0)) (g_o5 : n0 ≤ o5) (ne_o1_o5 : o1 ≠ o5) (ne_o2_o5 : o2 ≠ o5) :
    Met l Z (⟨"com/example/dayweave/dayweave/solve/TemporalNetworkMinimisePinLaw", "put", "(Lcom/example/dayweave/dayweave/solve/TemporalNetwork;III)V"⟩ : MethodName) method_5_code 4 none { frames := 2, cells := 0, slots := 0, locals := 33 } [] #[(.ref o1), (.int i2), (.int i0), (.int x3)] h0 n0 (fun v h => ∃ (y67 : Int64), v = none ∧ own_W x3 y67 ∧ Arv Z h o5 k_o3 .long i3 [(.long y67), (.long jU19), (.long j0)] (.long j0) ∧ Keep h0 h [o5]) := by
  refine Met.mkQ (tabs := tables_1) (a0 := a0) (ls0 := #[rv o1, iv i2, iv i0, iv x3]) (plainFor_of_name pn_com_example_dayweave_dayweave_solve_TemporalNetworkMinimisePinLaw) hw Z0 (fun m => by first | (simp [entryFrame, mkF, argsToLocals, Value.category]; done) | rfl) ?_
  intro p e s m below meth c T Q' G' hQ hG C X
  have Kp : Keep h0 h0 [o5] := Keep.refl _ _
  refine s_iloadN 1 C X d4_0 rfl ?_
  refine s_iconst 2 C X d4_1 kc_iconst_1 ?_
  refine s_iand 3 C X d4_2 ?_
  suffices J68 : ∀ (T : State) (hh : Heap) (y67 : Int64) (D68 : ((((x3 &&& i1)).toInt = (0 : Int)) ∧ y67 = jU19) ∨ (∃ (y29 : Int64), (¬ (((x3 &&& i1)).toInt = (0 : Int))) ∧ ((((((x3 >>> (i3 &&& 31))).toInt64).toInt < (jU19).toInt) ∧ y29 = ((x3 >>> (i3 &&& 31))).toInt64) ∨ ((¬ ((((x3 >>> (i3 &&& 31))).toInt64).toInt < (jU19).toInt)) ∧ y29 = jU19)) ∧ y67 = y29)) (X : St p l e ({ frames := 2, cells := 0, slots := 0, locals := 33 } : Room) s m #[(.ref o1), (.int i2), (.int i0), (.int x3)] below meth c n0 T hh 0 0) (A_o5 : Arv Z hh o5 k_o3 .long i3 [(.long y67), (.long jU19), (.long j0)] (.long j0)) (Kp : Keep h0 hh [o5]), Run p e below n0 Q' G' m T 16 #[rv o1, iv i2, iv i0, iv x3] [] by
    refine s_if_eq 16 6 C X d4_3 (fun c3_59 => ?_) (fun c3_59 => ?_)
    · have t_c3_59 : ((x3 &&& i1)).toInt = (0 : Int) := congrArg Int32.toInt c3_59
      exact J68 T _ (jU19) ((Or.inl ⟨t_c3_59, rfl⟩)) X A_o5 Kp
    have t_c3_59 : ¬ (((x3 &&& i1)).toInt = (0 : Int)) := fun q => c3_59 (Int32.toInt_inj.mp q)
    refine s_aloadN 7 C X d4_6 rfl rfl ?_
    refine s_iloadN 8 C X d4_7 rfl ?_
    refine s_iloadN 9 C X d4_8 rfl ?_
    refine s_iloadN 10 C X d4_9 rfl ?_
    refine s_iconst 11 C X d4_10 kc_iconst_3 ?_
    refine s_ishr 12 C X d4_11 ?_
    refine s_i2l 13 C X d4_12 ?_
    refine s_callV 16 [(.int i2), (.int i0), (.long ((x3 >>> (i3 &&& 31))).toInt64)] [] 0 C X d4_13 (mW 23 rfl) (mW 24 rfl) (notFace_of_selects (args := #[]) (mvT C.2.1 (C.w (mW 26 rfl)))) (mW 26 rfl) (mW 25 rfl) (mW 2 rfl) (mW 27 rfl) E_o1 (rm_a65 l Z a0 hw o1 o2 o3 o4 o5 k_o2 k_o3 ((x3 >>> (i3 &&& 31))).toInt64 _ n0 X.sz F_o1_most A_o2 A_o5 g_o5 ne_o1_o5 ne_o2_o5) (lenOf pd__IIJ_V rfl) rfl rfl rfl (fun T v hh X q => ?_)
    obtain ⟨y29, rfl, D30, A_o5, Kc⟩ := q
    have Kp := Kp.trans Kc (allS (Or.inl (by simp)) all0)
    refine Run.cast (st' := []) rfl ?_
    exact J68 T _ (y29) (Or.inr ⟨y29, t_c3_59, D30, rfl⟩) X A_o5 Kp
  intro T hh y67 D68  X A_o5 Kp
  have W_y67 : own_W x3 y67 := own_put D68
  refine s_return C X d4_16 rfl ?_ (FG hG (by decide) (by decide))
  exact hQ _ _ ⟨y67, rfl, W_y67, A_o5, Kp⟩
theorem rm_a76 (l : Launch) (Z : State) (a0 : Array Value) (hw : ∀ d ∈ tables_1, d.before a0 Z = true) (o1 : Addr) (o2 : Addr) (o3 : Addr) (o4 : Addr) (o5 : Addr) (k_o2 : ClassId) (k_o3 : ClassId) (y45 : Int64) (ga3 : Int64) (h0 : Heap) (n0 : Nat) (Z0 : n0 ≤ h0.size) (F_o1_most : Fld Z h0 o1 "com/example/dayweave/dayweave/solve/TemporalNetwork" "most" "[[J" (.ref o2)) (A_o2 : Arv Z h0 o2 k_o2 (.array .long) i3 [(.ref o3), (.ref o4), (.ref o5)] .null) (A_o4 : Arv Z h0 o4 k_o3 .long i3 [(.long y45), (.long j0), (.long jU19)] (.long j0)) (g_o4 : n0 ≤ o4) (ne_o1_o4 : o1 ≠ o4) (ne_o2_o4 : o2 ≠ o4) :
    Met l Z (⟨"com/example/dayweave/dayweave/solve/TemporalNetwork", "atMost", "(IIJ)V"⟩ : MethodName) prog_67_method_2_code 5 none { frames := 1, cells := 0, slots := 0, locals := 17 } [] #[(.ref o1), (.int i1), (.int i2), (.long ga3)] h0 n0 (fun v h => ∃ (y29 : Int64), v = none ∧ ((((ga3).toInt < (jU19).toInt) ∧ y29 = ga3) ∨ ((¬ ((ga3).toInt < (jU19).toInt)) ∧ y29 = jU19)) ∧ Arv Z h o4 k_o3 .long i3 [(.long y45), (.long j0), (.long y29)] (.long j0) ∧ Keep h0 h [o4]) := by
  refine Met.mkQ (tabs := tables_1) (a0 := a0) (ls0 := #[rv o1, iv i1, iv i2, lv ga3, .second]) (plainFor_of_name pn_com_example_dayweave_dayweave_solve_TemporalNetwork) hw Z0 (fun m => by first | (simp [entryFrame, mkF, argsToLocals, Value.category]; done) | rfl) ?_
  intro p e s m below meth c T Q' G' hQ hG C X
  have Kp : Keep h0 h0 [o4] := Keep.refl _ _
  refine s_aloadN 1 C X d5_0 rfl rfl ?_
  refine s_getfield 4 C X (host := "") d5_1 (Or.inl (mW 12 rfl)) Via.refl F_o1_most (fun T X => ?_)
  refine s_iloadN 5 C X d5_4 rfl ?_
  refine s_aaload 6 C X d5_5 A_o2 rfl ⟨by decide, by decide⟩ (v := (.ref o4)) rfl ?_
  refine s_iloadN 7 C X d5_6 rfl ?_
  refine s_aloadN 8 C X d5_7 rfl rfl ?_
  refine s_getfield 11 C X (host := "") d5_8 (Or.inl (mW 12 rfl)) Via.refl F_o1_most (fun T X => ?_)
  refine s_iloadN 12 C X d5_11 rfl ?_
  refine s_aaload 13 C X d5_12 A_o2 rfl ⟨by decide, by decide⟩ (v := (.ref o4)) rfl ?_
  refine s_iloadN 14 C X d5_13 rfl ?_
  refine s_laload 15 C X d5_14 A_o4 ⟨by decide, by decide⟩ (v := (.long jU19)) rfl ?_
  refine s_lloadN 16 C X d5_15 rfl ?_
  refine s_callS 19 [(.long jU19), (.long ga3)] [(.int i2), (.ref o4)] 2 C X d5_16 (mW 28 rfl) (mW 29 rfl) (mW 30 rfl) (mW 31 rfl) (rm_a31 l Z a0 hw jU19 (ga3) _ n0 X.sz ) (lenOf pd__JJ_J rfl) rfl rfl rfl (fun T v hh X q => ?_)
  obtain ⟨y29, rfl, D30, Kc⟩ := q
  have A_o4 := A_o4.keep Kc nin0
  have Kp := Kp.trans Kc all0
  refine Run.cast (st' := [(.long y29), (.int i2), (.ref o4)]) rfl ?_
  refine s_lastore 20 2 C X d5_19 A_o4 g_o4 ⟨by decide, by decide⟩ rfl (Nat.le_of_ble_eq_true rfl) (fun T hh X W A_o4 => ?_)
  have A_o4 : Arv Z _ o4 k_o3 .long i3 [(.long y45), (.long j0), (.long y29)] (.long j0) := A_o4
  have Kp := Kp.wr W (Or.inl (by simp))
  refine s_return C X d5_20 rfl ?_ (FG hG (by decide) (by decide))
  exact hQ _ _ ⟨y29, rfl, D30, A_o4, Kp⟩
theorem rm_a80 (l : Launch) (Z : State) (a0 : Array Value) (hw : ∀ d ∈ tables_1, d.before a0 Z = true) (x4 : Int32) (o1 : Addr) (o2 : Addr) (o3 : Addr) (o4 : Addr) (o5 : Addr) (k_o2 : ClassId) (k_o3 : ClassId) (y45 : Int64) (h0 : Heap) (n0 : Nat) (Z0 : n0 ≤ h0.size) (E_o1 : Exa Z h0 o1 "com/example/dayweave/dayweave/solve/TemporalNetwork") (F_o1_most : Fld Z h0 o1 "com/example/dayweave/dayweave/solve/TemporalNetwork" "most" "[[J" (.ref o2)) (A_o2 : Arv Z h0 o2 k_o2 (.array .long) i3 [(.ref o3), (.ref o4), (.ref o5)] .null) (A_o4 : Arv Z h0 o4 k_o3 .long i3 [(.long y45), (.long j0), (.long jU19)] (.long j0)) (g_o4 : n0 ≤ o4) (ne_o1_o4 : o1 ≠ o4) (ne_o2_o4 : o2 ≠ o4) :
    Met l Z (⟨"com/example/dayweave/dayweave/solve/TemporalNetworkMinimisePinLaw", "put", "(Lcom/example/dayweave/dayweave/solve/TemporalNetwork;III)V"⟩ : MethodName) method_5_code 4 none { frames := 2, cells := 0, slots := 0, locals := 33 } [] #[(.ref o1), (.int i1), (.int i2), (.int x4)] h0 n0 (fun v h => ∃ (y78 : Int64), v = none ∧ own_W x4 y78 ∧ Arv Z h o4 k_o3 .long i3 [(.long y45), (.long j0), (.long y78)] (.long j0) ∧ Keep h0 h [o4]) := by
  refine Met.mkQ (tabs := tables_1) (a0 := a0) (ls0 := #[rv o1, iv i1, iv i2, iv x4]) (plainFor_of_name pn_com_example_dayweave_dayweave_solve_TemporalNetworkMinimisePinLaw) hw Z0 (fun m => by first | (simp [entryFrame, mkF, argsToLocals, Value.category]; done) | rfl) ?_
  intro p e s m below meth c T Q' G' hQ hG C X
  have Kp : Keep h0 h0 [o4] := Keep.refl _ _
  refine s_iloadN 1 C X d4_0 rfl ?_
  refine s_iconst 2 C X d4_1 kc_iconst_1 ?_
  refine s_iand 3 C X d4_2 ?_
  suffices J79 : ∀ (T : State) (hh : Heap) (y78 : Int64) (D79 : ((((x4 &&& i1)).toInt = (0 : Int)) ∧ y78 = jU19) ∨ (∃ (y29 : Int64), (¬ (((x4 &&& i1)).toInt = (0 : Int))) ∧ ((((((x4 >>> (i3 &&& 31))).toInt64).toInt < (jU19).toInt) ∧ y29 = ((x4 >>> (i3 &&& 31))).toInt64) ∨ ((¬ ((((x4 >>> (i3 &&& 31))).toInt64).toInt < (jU19).toInt)) ∧ y29 = jU19)) ∧ y78 = y29)) (X : St p l e ({ frames := 2, cells := 0, slots := 0, locals := 33 } : Room) s m #[(.ref o1), (.int i1), (.int i2), (.int x4)] below meth c n0 T hh 0 0) (A_o4 : Arv Z hh o4 k_o3 .long i3 [(.long y45), (.long j0), (.long y78)] (.long j0)) (Kp : Keep h0 hh [o4]), Run p e below n0 Q' G' m T 16 #[rv o1, iv i1, iv i2, iv x4] [] by
    refine s_if_eq 16 6 C X d4_3 (fun c3_70 => ?_) (fun c3_70 => ?_)
    · have t_c3_70 : ((x4 &&& i1)).toInt = (0 : Int) := congrArg Int32.toInt c3_70
      exact J79 T _ (jU19) ((Or.inl ⟨t_c3_70, rfl⟩)) X A_o4 Kp
    have t_c3_70 : ¬ (((x4 &&& i1)).toInt = (0 : Int)) := fun q => c3_70 (Int32.toInt_inj.mp q)
    refine s_aloadN 7 C X d4_6 rfl rfl ?_
    refine s_iloadN 8 C X d4_7 rfl ?_
    refine s_iloadN 9 C X d4_8 rfl ?_
    refine s_iloadN 10 C X d4_9 rfl ?_
    refine s_iconst 11 C X d4_10 kc_iconst_3 ?_
    refine s_ishr 12 C X d4_11 ?_
    refine s_i2l 13 C X d4_12 ?_
    refine s_callV 16 [(.int i1), (.int i2), (.long ((x4 >>> (i3 &&& 31))).toInt64)] [] 0 C X d4_13 (mW 23 rfl) (mW 24 rfl) (notFace_of_selects (args := #[]) (mvT C.2.1 (C.w (mW 26 rfl)))) (mW 26 rfl) (mW 25 rfl) (mW 2 rfl) (mW 27 rfl) E_o1 (rm_a76 l Z a0 hw o1 o2 o3 o4 o5 k_o2 k_o3 y45 ((x4 >>> (i3 &&& 31))).toInt64 _ n0 X.sz F_o1_most A_o2 A_o4 g_o4 ne_o1_o4 ne_o2_o4) (lenOf pd__IIJ_V rfl) rfl rfl rfl (fun T v hh X q => ?_)
    obtain ⟨y29, rfl, D30, A_o4, Kc⟩ := q
    have Kp := Kp.trans Kc (allS (Or.inl (by simp)) all0)
    refine Run.cast (st' := []) rfl ?_
    exact J79 T _ (y29) (Or.inr ⟨y29, t_c3_70, D30, rfl⟩) X A_o4 Kp
  intro T hh y78 D79  X A_o4 Kp
  have W_y78 : own_W x4 y78 := own_put D79
  refine s_return C X d4_16 rfl ?_ (FG hG (by decide) (by decide))
  exact hQ _ _ ⟨y78, rfl, W_y78, A_o4, Kp⟩
theorem rm_a87 (l : Launch) (Z : State) (a0 : Array Value) (hw : ∀ d ∈ tables_1, d.before a0 Z = true) (o1 : Addr) (o2 : Addr) (o3 : Addr) (o4 : Addr) (o5 : Addr) (k_o2 : ClassId) (k_o3 : ClassId) (y67 : Int64) (ga3 : Int64) (h0 : Heap) (n0 : Nat) (Z0 : n0 ≤ h0.size) (F_o1_most : Fld Z h0 o1 "com/example/dayweave/dayweave/solve/TemporalNetwork" "most" "[[J" (.ref o2)) (A_o2 : Arv Z h0 o2 k_o2 (.array .long) i3 [(.ref o3), (.ref o4), (.ref o5)] .null) (A_o5 : Arv Z h0 o5 k_o3 .long i3 [(.long y67), (.long jU19), (.long j0)] (.long j0)) (g_o5 : n0 ≤ o5) (ne_o1_o5 : o1 ≠ o5) (ne_o2_o5 : o2 ≠ o5) :
    Met l Z (⟨"com/example/dayweave/dayweave/solve/TemporalNetwork", "atMost", "(IIJ)V"⟩ : MethodName) prog_67_method_2_code 5 none { frames := 1, cells := 0, slots := 0, locals := 17 } [] #[(.ref o1), (.int i2), (.int i1), (.long ga3)] h0 n0 (fun v h => ∃ (y29 : Int64), v = none ∧ ((((ga3).toInt < (jU19).toInt) ∧ y29 = ga3) ∨ ((¬ ((ga3).toInt < (jU19).toInt)) ∧ y29 = jU19)) ∧ Arv Z h o5 k_o3 .long i3 [(.long y67), (.long y29), (.long j0)] (.long j0) ∧ Keep h0 h [o5]) := by
  refine Met.mkQ (tabs := tables_1) (a0 := a0) (ls0 := #[rv o1, iv i2, iv i1, lv ga3, .second]) (plainFor_of_name pn_com_example_dayweave_dayweave_solve_TemporalNetwork) hw Z0 (fun m => by first | (simp [entryFrame, mkF, argsToLocals, Value.category]; done) | rfl) ?_
  intro p e s m below meth c T Q' G' hQ hG C X
  have Kp : Keep h0 h0 [o5] := Keep.refl _ _
  refine s_aloadN 1 C X d5_0 rfl rfl ?_
  refine s_getfield 4 C X (host := "") d5_1 (Or.inl (mW 12 rfl)) Via.refl F_o1_most (fun T X => ?_)
  refine s_iloadN 5 C X d5_4 rfl ?_
  refine s_aaload 6 C X d5_5 A_o2 rfl ⟨by decide, by decide⟩ (v := (.ref o5)) rfl ?_
  refine s_iloadN 7 C X d5_6 rfl ?_
  refine s_aloadN 8 C X d5_7 rfl rfl ?_
  refine s_getfield 11 C X (host := "") d5_8 (Or.inl (mW 12 rfl)) Via.refl F_o1_most (fun T X => ?_)
  refine s_iloadN 12 C X d5_11 rfl ?_
  refine s_aaload 13 C X d5_12 A_o2 rfl ⟨by decide, by decide⟩ (v := (.ref o5)) rfl ?_
  refine s_iloadN 14 C X d5_13 rfl ?_
  refine s_laload 15 C X d5_14 A_o5 ⟨by decide, by decide⟩ (v := (.long jU19)) rfl ?_
  refine s_lloadN 16 C X d5_15 rfl ?_
  refine s_callS 19 [(.long jU19), (.long ga3)] [(.int i1), (.ref o5)] 2 C X d5_16 (mW 28 rfl) (mW 29 rfl) (mW 30 rfl) (mW 31 rfl) (rm_a31 l Z a0 hw jU19 (ga3) _ n0 X.sz ) (lenOf pd__JJ_J rfl) rfl rfl rfl (fun T v hh X q => ?_)
  obtain ⟨y29, rfl, D30, Kc⟩ := q
  have A_o5 := A_o5.keep Kc nin0
  have Kp := Kp.trans Kc all0
  refine Run.cast (st' := [(.long y29), (.int i1), (.ref o5)]) rfl ?_
  refine s_lastore 20 1 C X d5_19 A_o5 g_o5 ⟨by decide, by decide⟩ rfl (Nat.le_of_ble_eq_true rfl) (fun T hh X W A_o5 => ?_)
  have A_o5 : Arv Z _ o5 k_o3 .long i3 [(.long y67), (.long y29), (.long j0)] (.long j0) := A_o5
  have Kp := Kp.wr W (Or.inl (by simp))
  refine s_return C X d5_20 rfl ?_ (FG hG (by decide) (by decide))
  exact hQ _ _ ⟨y29, rfl, D30, A_o5, Kp⟩
theorem rm_a91 (l : Launch) (Z : State) (a0 : Array Value) (hw : ∀ d ∈ tables_1, d.before a0 Z = true) (x5 : Int32) (o1 : Addr) (o2 : Addr) (o3 : Addr) (o4 : Addr) (o5 : Addr) (k_o2 : ClassId) (k_o3 : ClassId) (y67 : Int64) (h0 : Heap) (n0 : Nat) (Z0 : n0 ≤ h0.size) (E_o1 : Exa Z h0 o1 "com/example/dayweave/dayweave/solve/TemporalNetwork") (F_o1_most : Fld Z h0 o1 "com/example/dayweave/dayweave/solve/TemporalNetwork" "most" "[[J" (.ref o2)) (A_o2 : Arv Z h0 o2 k_o2 (.array .long) i3 [(.ref o3), (.ref o4), (.ref o5)] .null) (A_o5 : Arv Z h0 o5 k_o3 .long i3 [(.long y67), (.long jU19), (.long j0)] (.long j0)) (g_o5 : n0 ≤ o5) (ne_o1_o5 : o1 ≠ o5) (ne_o2_o5 : o2 ≠ o5) :
    Met l Z (⟨"com/example/dayweave/dayweave/solve/TemporalNetworkMinimisePinLaw", "put", "(Lcom/example/dayweave/dayweave/solve/TemporalNetwork;III)V"⟩ : MethodName) method_5_code 4 none { frames := 2, cells := 0, slots := 0, locals := 33 } [] #[(.ref o1), (.int i2), (.int i1), (.int x5)] h0 n0 (fun v h => ∃ (y89 : Int64), v = none ∧ own_W x5 y89 ∧ Arv Z h o5 k_o3 .long i3 [(.long y67), (.long y89), (.long j0)] (.long j0) ∧ Keep h0 h [o5]) := by
  refine Met.mkQ (tabs := tables_1) (a0 := a0) (ls0 := #[rv o1, iv i2, iv i1, iv x5]) (plainFor_of_name pn_com_example_dayweave_dayweave_solve_TemporalNetworkMinimisePinLaw) hw Z0 (fun m => by first | (simp [entryFrame, mkF, argsToLocals, Value.category]; done) | rfl) ?_
  intro p e s m below meth c T Q' G' hQ hG C X
  have Kp : Keep h0 h0 [o5] := Keep.refl _ _
  refine s_iloadN 1 C X d4_0 rfl ?_
  refine s_iconst 2 C X d4_1 kc_iconst_1 ?_
  refine s_iand 3 C X d4_2 ?_
  suffices J90 : ∀ (T : State) (hh : Heap) (y89 : Int64) (D90 : ((((x5 &&& i1)).toInt = (0 : Int)) ∧ y89 = jU19) ∨ (∃ (y29 : Int64), (¬ (((x5 &&& i1)).toInt = (0 : Int))) ∧ ((((((x5 >>> (i3 &&& 31))).toInt64).toInt < (jU19).toInt) ∧ y29 = ((x5 >>> (i3 &&& 31))).toInt64) ∨ ((¬ ((((x5 >>> (i3 &&& 31))).toInt64).toInt < (jU19).toInt)) ∧ y29 = jU19)) ∧ y89 = y29)) (X : St p l e ({ frames := 2, cells := 0, slots := 0, locals := 33 } : Room) s m #[(.ref o1), (.int i2), (.int i1), (.int x5)] below meth c n0 T hh 0 0) (A_o5 : Arv Z hh o5 k_o3 .long i3 [(.long y67), (.long y89), (.long j0)] (.long j0)) (Kp : Keep h0 hh [o5]), Run p e below n0 Q' G' m T 16 #[rv o1, iv i2, iv i1, iv x5] [] by
    refine s_if_eq 16 6 C X d4_3 (fun c3_81 => ?_) (fun c3_81 => ?_)
    · have t_c3_81 : ((x5 &&& i1)).toInt = (0 : Int) := congrArg Int32.toInt c3_81
      exact J90 T _ (jU19) ((Or.inl ⟨t_c3_81, rfl⟩)) X A_o5 Kp
    have t_c3_81 : ¬ (((x5 &&& i1)).toInt = (0 : Int)) := fun q => c3_81 (Int32.toInt_inj.mp q)
    refine s_aloadN 7 C X d4_6 rfl rfl ?_
    refine s_iloadN 8 C X d4_7 rfl ?_
    refine s_iloadN 9 C X d4_8 rfl ?_
    refine s_iloadN 10 C X d4_9 rfl ?_
    refine s_iconst 11 C X d4_10 kc_iconst_3 ?_
    refine s_ishr 12 C X d4_11 ?_
    refine s_i2l 13 C X d4_12 ?_
    refine s_callV 16 [(.int i2), (.int i1), (.long ((x5 >>> (i3 &&& 31))).toInt64)] [] 0 C X d4_13 (mW 23 rfl) (mW 24 rfl) (notFace_of_selects (args := #[]) (mvT C.2.1 (C.w (mW 26 rfl)))) (mW 26 rfl) (mW 25 rfl) (mW 2 rfl) (mW 27 rfl) E_o1 (rm_a87 l Z a0 hw o1 o2 o3 o4 o5 k_o2 k_o3 y67 ((x5 >>> (i3 &&& 31))).toInt64 _ n0 X.sz F_o1_most A_o2 A_o5 g_o5 ne_o1_o5 ne_o2_o5) (lenOf pd__IIJ_V rfl) rfl rfl rfl (fun T v hh X q => ?_)
    obtain ⟨y29, rfl, D30, A_o5, Kc⟩ := q
    have Kp := Kp.trans Kc (allS (Or.inl (by simp)) all0)
    refine Run.cast (st' := []) rfl ?_
    exact J90 T _ (y29) (Or.inr ⟨y29, t_c3_81, D30, rfl⟩) X A_o5 Kp
  intro T hh y89 D90  X A_o5 Kp
  have W_y89 : own_W x5 y89 := own_put D90
  refine s_return C X d4_16 rfl ?_ (FG hG (by decide) (by decide))
  exact hQ _ _ ⟨y89, rfl, W_y89, A_o5, Kp⟩
theorem rm_a372 (l : Launch) (Z : State) (a0 : Array Value) (hw : ∀ d ∈ tables_1, d.before a0 Z = true) (o1 : Addr) (o2 : Addr) (o3 : Addr) (o4 : Addr) (o5 : Addr) (k_o2 : ClassId) (k_o3 : ClassId) (y34 : Int64) (y45 : Int64) (y56 : Int64) (y67 : Int64) (y78 : Int64) (y89 : Int64) (dz : Int64) (h0 : Heap) (n0 : Nat) (Z0 : n0 ≤ h0.size) (F_o1_most : Fld Z h0 o1 "com/example/dayweave/dayweave/solve/TemporalNetwork" "most" "[[J" (.ref o2)) (A_o2 : Arv Z h0 o2 k_o2 (.array .long) i3 [(.ref o3), (.ref o4), (.ref o5)] .null) (A_o3 : Arv Z h0 o3 k_o3 .long i3 [(.long dz), (.long y34), (.long y56)] (.long j0)) (A_o4 : Arv Z h0 o4 k_o3 .long i3 [(.long y45), (.long dz), (.long y78)] (.long j0)) (A_o5 : Arv Z h0 o5 k_o3 .long i3 [(.long y67), (.long y89), (.long dz)] (.long j0)) (g_o3 : n0 ≤ o3) (g_o4 : n0 ≤ o4) (g_o5 : n0 ≤ o5) (ne_o1_o3 : o1 ≠ o3) (ne_o1_o4 : o1 ≠ o4) (ne_o1_o5 : o1 ≠ o5) (ne_o2_o3 : o2 ≠ o3) (ne_o2_o4 : o2 ≠ o4) (ne_o2_o5 : o2 ≠ o5) (ne_o3_o4 : o3 ≠ o4) (ne_o3_o5 : o3 ≠ o5) (ne_o4_o5 : o4 ≠ o5) (hvz : dz.toInt = 0) (hvB01 : own_B 268435456 y34) (hvB02 : own_B 268435456 y56) (hvB10 : own_B 268435456 y45) (hvB12 : own_B 268435456 y78) (hvB20 : own_B 268435456 y67) (hvB21 : own_B 268435456 y89) :
    Met l Z (⟨"com/example/dayweave/dayweave/solve/TemporalNetwork", "minimise", "()Z"⟩ : MethodName) prog_67_method_4_code 9 (some .boolean) { frames := 0, cells := 0, slots := 0, locals := 0 } [] #[(.ref o1)] h0 n0 (fun v h => (∃ (y303 : Int64) (y304 : Int64) (y305 : Int64) (y331 : Int64) (y332 : Int64) (y333 : Int64) (y359 : Int64) (y360 : Int64) (y361 : Int64), v = some (.int i1) ∧ own_Y y34.toInt y45.toInt y56.toInt y67.toInt y78.toInt y89.toInt y303.toInt y304.toInt y305.toInt y331.toInt y332.toInt y359.toInt y361.toInt ∧ Arv Z h o3 k_o3 .long i3 [(.long y303), (.long y304), (.long y305)] (.long j0) ∧ Arv Z h o4 k_o3 .long i3 [(.long y331), (.long y332), (.long y333)] (.long j0) ∧ Arv Z h o5 k_o3 .long i3 [(.long y359), (.long y360), (.long y361)] (.long j0) ∧ Keep h0 h [o3, o4, o5]) ∨ (v = some (.int i0) ∧ own_N y34.toInt y45.toInt y56.toInt y67.toInt y78.toInt y89.toInt ∧ Keep h0 h [o3, o4, o5])) := by
  refine Met.mkQ (tabs := tables_1) (a0 := a0) (ls0 := #[rv o1, .unset, .unset, .unset, .unset, .unset, .unset, .unset, .unset]) (plainFor_of_name pn_com_example_dayweave_dayweave_solve_TemporalNetwork) hw Z0 (fun m => by first | (simp [entryFrame, mkF, argsToLocals, Value.category]; done) | rfl) ?_
  intro p e s m below meth c T Q' G' hQ hG C X
  have Kp : Keep h0 h0 [o3, o4, o5] := Keep.refl _ _
  refine s_aloadN 1 C X d7_0 rfl rfl ?_
  refine s_getfield 4 C X (host := "") d7_1 (Or.inl (mW 12 rfl)) Via.refl F_o1_most (fun T X => ?_)
  refine s_arraylength 5 C X d7_4 A_o2 ?_
  refine s_istoreN 6 C X (l' := #[rv o1, iv i3, .unset, .unset, .unset, .unset, .unset, .unset, .unset]) d7_5 rfl ?_
  refine s_iconst 7 C X d7_6 kc_iconst_0 ?_
  refine s_istoreN 8 C X (l' := #[rv o1, iv i3, iv i0, .unset, .unset, .unset, .unset, .unset, .unset]) d7_7 rfl ?_
  refine s_iloadN 9 C X d7_8 rfl ?_
  refine s_iloadN 10 C X d7_9 rfl ?_
  refine s_icmp_ge 159 13 C X d7_10 (fun c => absurd (by decide : i0 < i3) c) (fun _ => ?_)
  refine s_aloadN 14 C X d7_13 rfl rfl ?_
  refine s_getfield 17 C X (host := "") d7_14 (Or.inl (mW 12 rfl)) Via.refl F_o1_most (fun T X => ?_)
  refine s_iloadN 18 C X d7_17 rfl ?_
  refine s_aaload 19 C X d7_18 A_o2 rfl ⟨by decide, by decide⟩ (v := (.ref o3)) rfl ?_
  refine s_astoreN 20 C X (l' := #[rv o1, iv i3, iv i0, rv o3, .unset, .unset, .unset, .unset, .unset]) d7_19 rfl rfl ?_
  refine s_iconst 21 C X d7_20 kc_iconst_0 ?_
  refine s_istore 23 C X (l' := #[rv o1, iv i3, iv i0, rv o3, iv i0, .unset, .unset, .unset, .unset]) d7_21 rfl ?_
  refine s_iload 25 C X d7_23 rfl ?_
  refine s_iloadN 26 C X d7_25 rfl ?_
  refine s_icmp_ge 121 29 C X d7_26 (fun c => absurd (by decide : i0 < i3) c) (fun _ => ?_)
  refine s_aloadN 30 C X d7_29 rfl rfl ?_
  refine s_getfield 33 C X (host := "") d7_30 (Or.inl (mW 12 rfl)) Via.refl F_o1_most (fun T X => ?_)
  refine s_iload 35 C X d7_33 rfl ?_
  refine s_aaload 36 C X d7_35 A_o2 rfl ⟨by decide, by decide⟩ (v := (.ref o3)) rfl ?_
  refine s_iloadN 37 C X d7_36 rfl ?_
  refine s_laload 38 C X d7_37 A_o3 ⟨by decide, by decide⟩ (v := (.long dz)) rfl ?_
  refine s_lstore 40 C X (l' := #[rv o1, iv i3, iv i0, rv o3, iv i0, lv dz, .second, .unset, .unset]) d7_38 rfl ?_
  refine s_lload 42 C X d7_40 rfl ?_
  refine s_ldc2Long 45 C X d7_42 (mW 14 rfl) ?_
  refine s_lcmp 46 C X d7_45 ?_
  suffices J120 : ∀ (T : State) (hh : Heap) (y117 : Int64) (y118 : Int64) (y119 : Int64) (y115 : Slot) (y116 : Slot) (D120 : (∃ (y99 : Int64) (y105 : Int64) (y111 : Int64), (¬ ((dz).toInt = (2305843009213693951 : Int))) ∧ own_D dz dz dz y99 ∧ own_D dz y34 y34 y105 ∧ own_D dz y56 y56 y111 ∧ y117 = y99 ∧ y118 = y105 ∧ y119 = y111) ∨ (((dz).toInt = (2305843009213693951 : Int)) ∧ y117 = dz ∧ y118 = y34 ∧ y119 = y56)) (hS120 : (y115 = .unset ∧ y116 = .unset) ∨ (y115 = rv o3 ∧ y116 = iv i3)) (X : St p l e ({ frames := 0, cells := 0, slots := 0, locals := 0 } : Room) s m #[(.ref o1)] below meth c n0 T hh 0 0) (F_o1_most : Fld Z hh o1 "com/example/dayweave/dayweave/solve/TemporalNetwork" "most" "[[J" (.ref o2)) (A_o2 : Arv Z hh o2 k_o2 (.array .long) i3 [(.ref o3), (.ref o4), (.ref o5)] .null) (A_o3 : Arv Z hh o3 k_o3 .long i3 [(.long y117), (.long y118), (.long y119)] (.long j0)) (A_o4 : Arv Z hh o4 k_o3 .long i3 [(.long y45), (.long dz), (.long y78)] (.long j0)) (A_o5 : Arv Z hh o5 k_o3 .long i3 [(.long y67), (.long y89), (.long dz)] (.long j0)) (Kp : Keep h0 hh [o3, o4, o5]), Run p e below n0 Q' G' m T 115 #[rv o1, iv i3, iv i0, rv o3, iv i0, lv dz, .second, y115, y116] [] by
    refine s_if_ne 52 49 C X d7_46 (fun c46_94 => ?_) (fun c46_94 => ?_)
    · have t_c46_94 : ¬ ((dz).toInt = (2305843009213693951 : Int)) := fun q => c46_94 (cl_eq.mpr q)
      refine s_aloadN 53 C X d7_52 rfl rfl ?_
      refine s_getfield 56 C X (host := "") d7_53 (Or.inl (mW 12 rfl)) Via.refl F_o1_most (fun T X => ?_)
      refine s_iload 58 C X d7_56 rfl ?_
      refine s_aaload 59 C X d7_58 A_o2 rfl ⟨by decide, by decide⟩ (v := (.ref o3)) rfl ?_
      refine s_astore 61 C X (l' := #[rv o1, iv i3, iv i0, rv o3, iv i0, lv dz, .second, rv o3, .unset]) d7_59 rfl rfl ?_
      refine s_iconst 62 C X d7_61 kc_iconst_0 ?_
      refine s_istore 64 C X (l' := #[rv o1, iv i3, iv i0, rv o3, iv i0, lv dz, .second, rv o3, iv i0]) d7_62 rfl ?_
      refine s_iload 66 C X d7_64 rfl ?_
      refine s_iloadN 67 C X d7_66 rfl ?_
      refine s_icmp_ge 115 70 C X d7_67 (fun c => absurd (by decide : i0 < i3) c) (fun _ => ?_)
      refine s_aloadN 71 C X d7_70 rfl rfl ?_
      refine s_iload 73 C X d7_71 rfl ?_
      refine s_laload 74 C X d7_73 A_o3 ⟨by decide, by decide⟩ (v := (.long dz)) rfl ?_
      refine s_ldc2Long 77 C X d7_74 (mW 14 rfl) ?_
      refine s_lcmp 78 C X d7_77 ?_
      suffices J100 : ∀ (T : State) (hh : Heap) (y99 : Int64) (D100 : (((dz).toInt = (2305843009213693951 : Int)) ∧ y99 = dz) ∨ ((¬ ((dz).toInt = (2305843009213693951 : Int))) ∧ (¬ (((dz + dz)).toInt < (dz).toInt)) ∧ y99 = dz) ∨ ((¬ ((dz).toInt = (2305843009213693951 : Int))) ∧ (((dz + dz)).toInt < (dz).toInt) ∧ y99 = (dz + dz))) (X : St p l e ({ frames := 0, cells := 0, slots := 0, locals := 0 } : Room) s m #[(.ref o1)] below meth c n0 T hh 0 0) (F_o1_most : Fld Z hh o1 "com/example/dayweave/dayweave/solve/TemporalNetwork" "most" "[[J" (.ref o2)) (A_o2 : Arv Z hh o2 k_o2 (.array .long) i3 [(.ref o3), (.ref o4), (.ref o5)] .null) (A_o3 : Arv Z hh o3 k_o3 .long i3 [(.long y99), (.long y34), (.long y56)] (.long j0)) (A_o4 : Arv Z hh o4 k_o3 .long i3 [(.long y45), (.long dz), (.long y78)] (.long j0)) (A_o5 : Arv Z hh o5 k_o3 .long i3 [(.long y67), (.long y89), (.long dz)] (.long j0)) (Kp : Keep h0 hh [o3, o4, o5]), Run p e below n0 Q' G' m T 109 #[rv o1, iv i3, iv i0, rv o3, iv i0, lv dz, .second, rv o3, iv i0] [] by
        refine s_if_eq 109 81 C X d7_78 (fun c78_96 => ?_) (fun c78_96 => ?_)
        · have t_c78_96 : (dz).toInt = (2305843009213693951 : Int) := cl_eq.mp c78_96
          exact J100 T _ (dz) ((Or.inl ⟨t_c78_96, rfl⟩)) X F_o1_most A_o2 A_o3 A_o4 A_o5 Kp
        have t_c78_96 : ¬ ((dz).toInt = (2305843009213693951 : Int)) := fun q => c78_96 (cl_eq.mpr q)
        refine s_lload 83 C X d7_81 rfl ?_
        refine s_aloadN 84 C X d7_83 rfl rfl ?_
        refine s_iload 86 C X d7_84 rfl ?_
        refine s_laload 87 C X d7_86 A_o3 ⟨by decide, by decide⟩ (v := (.long dz)) rfl ?_
        refine s_ladd 88 C X d7_87 ?_
        refine s_aload 90 C X d7_88 rfl rfl ?_
        refine s_iload 92 C X d7_90 rfl ?_
        refine s_laload 93 C X d7_92 A_o3 ⟨by decide, by decide⟩ (v := (.long dz)) rfl ?_
        refine s_lcmp 94 C X d7_93 ?_
        refine s_if_ge 109 97 C X d7_94 (fun c94_97 => ?_) (fun c94_97 => ?_)
        · have t_c94_97 : ¬ (((dz + dz)).toInt < (dz).toInt) := fun q => c94_97 (cl_lt.mpr q)
          exact J100 T _ (dz) (Or.inr (Or.inl ⟨t_c78_96, t_c94_97, rfl⟩)) X F_o1_most A_o2 A_o3 A_o4 A_o5 Kp
        have t_c94_97 : ((dz + dz)).toInt < (dz).toInt := cl_lt.mp c94_97
        refine s_aload 99 C X d7_97 rfl rfl ?_
        refine s_iload 101 C X d7_99 rfl ?_
        refine s_lload 103 C X d7_101 rfl ?_
        refine s_aloadN 104 C X d7_103 rfl rfl ?_
        refine s_iload 106 C X d7_104 rfl ?_
        refine s_laload 107 C X d7_106 A_o3 ⟨by decide, by decide⟩ (v := (.long dz)) rfl ?_
        refine s_ladd 108 C X d7_107 ?_
        refine s_lastore 109 0 C X d7_108 A_o3 g_o3 ⟨by decide, by decide⟩ rfl (Nat.le_of_ble_eq_true rfl) (fun T hh X W A_o3 => ?_)
        have A_o3 : Arv Z _ o3 k_o3 .long i3 [(.long (dz + dz)), (.long y34), (.long y56)] (.long j0) := A_o3
        have F_o1_most := F_o1_most.other W (Or.inl ne_o1_o3)
        have A_o2 := A_o2.other W ne_o2_o3
        have A_o4 := A_o4.other W (Ne.symm ne_o3_o4)
        have A_o5 := A_o5.other W (Ne.symm ne_o3_o5)
        have Kp := Kp.wr W (Or.inl (by simp))
        exact J100 T _ ((dz + dz)) (Or.inr (Or.inr ⟨t_c78_96, t_c94_97, rfl⟩)) X F_o1_most A_o2 A_o3 A_o4 A_o5 Kp
      intro T hh y99 D100  X F_o1_most A_o2 A_o3 A_o4 A_o5 Kp
      have d_y99 : own_D dz dz dz y99 := D100
      refine s_iinc 112 C X (l' := #[rv o1, iv i3, iv i0, rv o3, iv i0, lv dz, .second, rv o3, iv i1]) d7_109 kc_iconst_1 rfl rfl ?_
      refine s_goto 64 C X d7_112 ?_
      refine s_iload 66 C X d7_64 rfl ?_
      refine s_iloadN 67 C X d7_66 rfl ?_
      refine s_icmp_ge 115 70 C X d7_67 (fun c => absurd (by decide : i1 < i3) c) (fun _ => ?_)
      refine s_aloadN 71 C X d7_70 rfl rfl ?_
      refine s_iload 73 C X d7_71 rfl ?_
      refine s_laload 74 C X d7_73 A_o3 ⟨by decide, by decide⟩ (v := (.long y34)) rfl ?_
      refine s_ldc2Long 77 C X d7_74 (mW 14 rfl) ?_
      refine s_lcmp 78 C X d7_77 ?_
      suffices J106 : ∀ (T : State) (hh : Heap) (y105 : Int64) (D106 : (((y34).toInt = (2305843009213693951 : Int)) ∧ y105 = y34) ∨ ((¬ ((y34).toInt = (2305843009213693951 : Int))) ∧ (¬ (((dz + y34)).toInt < (y34).toInt)) ∧ y105 = y34) ∨ ((¬ ((y34).toInt = (2305843009213693951 : Int))) ∧ (((dz + y34)).toInt < (y34).toInt) ∧ y105 = (dz + y34))) (X : St p l e ({ frames := 0, cells := 0, slots := 0, locals := 0 } : Room) s m #[(.ref o1)] below meth c n0 T hh 0 0) (F_o1_most : Fld Z hh o1 "com/example/dayweave/dayweave/solve/TemporalNetwork" "most" "[[J" (.ref o2)) (A_o2 : Arv Z hh o2 k_o2 (.array .long) i3 [(.ref o3), (.ref o4), (.ref o5)] .null) (A_o3 : Arv Z hh o3 k_o3 .long i3 [(.long y99), (.long y105), (.long y56)] (.long j0)) (A_o4 : Arv Z hh o4 k_o3 .long i3 [(.long y45), (.long dz), (.long y78)] (.long j0)) (A_o5 : Arv Z hh o5 k_o3 .long i3 [(.long y67), (.long y89), (.long dz)] (.long j0)) (Kp : Keep h0 hh [o3, o4, o5]), Run p e below n0 Q' G' m T 109 #[rv o1, iv i3, iv i0, rv o3, iv i0, lv dz, .second, rv o3, iv i1] [] by
        refine s_if_eq 109 81 C X d7_78 (fun c78_102 => ?_) (fun c78_102 => ?_)
        · have t_c78_102 : (y34).toInt = (2305843009213693951 : Int) := cl_eq.mp c78_102
          exact J106 T _ (y34) ((Or.inl ⟨t_c78_102, rfl⟩)) X F_o1_most A_o2 A_o3 A_o4 A_o5 Kp
        have t_c78_102 : ¬ ((y34).toInt = (2305843009213693951 : Int)) := fun q => c78_102 (cl_eq.mpr q)
        refine s_lload 83 C X d7_81 rfl ?_
        refine s_aloadN 84 C X d7_83 rfl rfl ?_
        refine s_iload 86 C X d7_84 rfl ?_
        refine s_laload 87 C X d7_86 A_o3 ⟨by decide, by decide⟩ (v := (.long y34)) rfl ?_
        refine s_ladd 88 C X d7_87 ?_
        refine s_aload 90 C X d7_88 rfl rfl ?_
        refine s_iload 92 C X d7_90 rfl ?_
        refine s_laload 93 C X d7_92 A_o3 ⟨by decide, by decide⟩ (v := (.long y34)) rfl ?_
        refine s_lcmp 94 C X d7_93 ?_
        refine s_if_ge 109 97 C X d7_94 (fun c94_103 => ?_) (fun c94_103 => ?_)
        · have t_c94_103 : ¬ (((dz + y34)).toInt < (y34).toInt) := fun q => c94_103 (cl_lt.mpr q)
          exact J106 T _ (y34) (Or.inr (Or.inl ⟨t_c78_102, t_c94_103, rfl⟩)) X F_o1_most A_o2 A_o3 A_o4 A_o5 Kp
        have t_c94_103 : ((dz + y34)).toInt < (y34).toInt := cl_lt.mp c94_103
        refine s_aload 99 C X d7_97 rfl rfl ?_
        refine s_iload 101 C X d7_99 rfl ?_
        refine s_lload 103 C X d7_101 rfl ?_
        refine s_aloadN 104 C X d7_103 rfl rfl ?_
        refine s_iload 106 C X d7_104 rfl ?_
        refine s_laload 107 C X d7_106 A_o3 ⟨by decide, by decide⟩ (v := (.long y34)) rfl ?_
        refine s_ladd 108 C X d7_107 ?_
        refine s_lastore 109 1 C X d7_108 A_o3 g_o3 ⟨by decide, by decide⟩ rfl (Nat.le_of_ble_eq_true rfl) (fun T hh X W A_o3 => ?_)
        have A_o3 : Arv Z _ o3 k_o3 .long i3 [(.long y99), (.long (dz + y34)), (.long y56)] (.long j0) := A_o3
        have F_o1_most := F_o1_most.other W (Or.inl ne_o1_o3)
        have A_o2 := A_o2.other W ne_o2_o3
        have A_o4 := A_o4.other W (Ne.symm ne_o3_o4)
        have A_o5 := A_o5.other W (Ne.symm ne_o3_o5)
        have Kp := Kp.wr W (Or.inl (by simp))
        exact J106 T _ ((dz + y34)) (Or.inr (Or.inr ⟨t_c78_102, t_c94_103, rfl⟩)) X F_o1_most A_o2 A_o3 A_o4 A_o5 Kp
      intro T hh y105 D106  X F_o1_most A_o2 A_o3 A_o4 A_o5 Kp
      have d_y105 : own_D dz y34 y34 y105 := D106
      refine s_iinc 112 C X (l' := #[rv o1, iv i3, iv i0, rv o3, iv i0, lv dz, .second, rv o3, iv i2]) d7_109 kc_iconst_1 rfl rfl ?_
      refine s_goto 64 C X d7_112 ?_
      refine s_iload 66 C X d7_64 rfl ?_
      refine s_iloadN 67 C X d7_66 rfl ?_
      refine s_icmp_ge 115 70 C X d7_67 (fun c => absurd (by decide : i2 < i3) c) (fun _ => ?_)
      refine s_aloadN 71 C X d7_70 rfl rfl ?_
      refine s_iload 73 C X d7_71 rfl ?_
      refine s_laload 74 C X d7_73 A_o3 ⟨by decide, by decide⟩ (v := (.long y56)) rfl ?_
      refine s_ldc2Long 77 C X d7_74 (mW 14 rfl) ?_
      refine s_lcmp 78 C X d7_77 ?_
      suffices J112 : ∀ (T : State) (hh : Heap) (y111 : Int64) (D112 : (((y56).toInt = (2305843009213693951 : Int)) ∧ y111 = y56) ∨ ((¬ ((y56).toInt = (2305843009213693951 : Int))) ∧ (¬ (((dz + y56)).toInt < (y56).toInt)) ∧ y111 = y56) ∨ ((¬ ((y56).toInt = (2305843009213693951 : Int))) ∧ (((dz + y56)).toInt < (y56).toInt) ∧ y111 = (dz + y56))) (X : St p l e ({ frames := 0, cells := 0, slots := 0, locals := 0 } : Room) s m #[(.ref o1)] below meth c n0 T hh 0 0) (F_o1_most : Fld Z hh o1 "com/example/dayweave/dayweave/solve/TemporalNetwork" "most" "[[J" (.ref o2)) (A_o2 : Arv Z hh o2 k_o2 (.array .long) i3 [(.ref o3), (.ref o4), (.ref o5)] .null) (A_o3 : Arv Z hh o3 k_o3 .long i3 [(.long y99), (.long y105), (.long y111)] (.long j0)) (A_o4 : Arv Z hh o4 k_o3 .long i3 [(.long y45), (.long dz), (.long y78)] (.long j0)) (A_o5 : Arv Z hh o5 k_o3 .long i3 [(.long y67), (.long y89), (.long dz)] (.long j0)) (Kp : Keep h0 hh [o3, o4, o5]), Run p e below n0 Q' G' m T 109 #[rv o1, iv i3, iv i0, rv o3, iv i0, lv dz, .second, rv o3, iv i2] [] by
        refine s_if_eq 109 81 C X d7_78 (fun c78_108 => ?_) (fun c78_108 => ?_)
        · have t_c78_108 : (y56).toInt = (2305843009213693951 : Int) := cl_eq.mp c78_108
          exact J112 T _ (y56) ((Or.inl ⟨t_c78_108, rfl⟩)) X F_o1_most A_o2 A_o3 A_o4 A_o5 Kp
        have t_c78_108 : ¬ ((y56).toInt = (2305843009213693951 : Int)) := fun q => c78_108 (cl_eq.mpr q)
        refine s_lload 83 C X d7_81 rfl ?_
        refine s_aloadN 84 C X d7_83 rfl rfl ?_
        refine s_iload 86 C X d7_84 rfl ?_
        refine s_laload 87 C X d7_86 A_o3 ⟨by decide, by decide⟩ (v := (.long y56)) rfl ?_
        refine s_ladd 88 C X d7_87 ?_
        refine s_aload 90 C X d7_88 rfl rfl ?_
        refine s_iload 92 C X d7_90 rfl ?_
        refine s_laload 93 C X d7_92 A_o3 ⟨by decide, by decide⟩ (v := (.long y56)) rfl ?_
        refine s_lcmp 94 C X d7_93 ?_
        refine s_if_ge 109 97 C X d7_94 (fun c94_109 => ?_) (fun c94_109 => ?_)
        · have t_c94_109 : ¬ (((dz + y56)).toInt < (y56).toInt) := fun q => c94_109 (cl_lt.mpr q)
          exact J112 T _ (y56) (Or.inr (Or.inl ⟨t_c78_108, t_c94_109, rfl⟩)) X F_o1_most A_o2 A_o3 A_o4 A_o5 Kp
        have t_c94_109 : ((dz + y56)).toInt < (y56).toInt := cl_lt.mp c94_109
        refine s_aload 99 C X d7_97 rfl rfl ?_
        refine s_iload 101 C X d7_99 rfl ?_
        refine s_lload 103 C X d7_101 rfl ?_
        refine s_aloadN 104 C X d7_103 rfl rfl ?_
        refine s_iload 106 C X d7_104 rfl ?_
        refine s_laload 107 C X d7_106 A_o3 ⟨by decide, by decide⟩ (v := (.long y56)) rfl ?_
        refine s_ladd 108 C X d7_107 ?_
        refine s_lastore 109 2 C X d7_108 A_o3 g_o3 ⟨by decide, by decide⟩ rfl (Nat.le_of_ble_eq_true rfl) (fun T hh X W A_o3 => ?_)
        have A_o3 : Arv Z _ o3 k_o3 .long i3 [(.long y99), (.long y105), (.long (dz + y56))] (.long j0) := A_o3
        have F_o1_most := F_o1_most.other W (Or.inl ne_o1_o3)
        have A_o2 := A_o2.other W ne_o2_o3
        have A_o4 := A_o4.other W (Ne.symm ne_o3_o4)
        have A_o5 := A_o5.other W (Ne.symm ne_o3_o5)
        have Kp := Kp.wr W (Or.inl (by simp))
        exact J112 T _ ((dz + y56)) (Or.inr (Or.inr ⟨t_c78_108, t_c94_109, rfl⟩)) X F_o1_most A_o2 A_o3 A_o4 A_o5 Kp
      intro T hh y111 D112  X F_o1_most A_o2 A_o3 A_o4 A_o5 Kp
      have d_y111 : own_D dz y56 y56 y111 := D112
      refine s_iinc 112 C X (l' := #[rv o1, iv i3, iv i0, rv o3, iv i0, lv dz, .second, rv o3, iv i3]) d7_109 kc_iconst_1 rfl rfl ?_
      refine s_goto 64 C X d7_112 ?_
      refine s_iload 66 C X d7_64 rfl ?_
      refine s_iloadN 67 C X d7_66 rfl ?_
      refine s_icmp_ge 115 70 C X d7_67 (fun _ => ?_) (fun c => absurd c (by decide))
      exact J120 T _ (y99) (y105) (y111) (rv o3) (iv i3) ((Or.inl ⟨y99, y105, y111, t_c46_94, d_y99, d_y105, d_y111, rfl, rfl, rfl⟩)) (Or.inr ⟨rfl, rfl⟩) X F_o1_most A_o2 A_o3 A_o4 A_o5 Kp
    have t_c46_94 : (dz).toInt = (2305843009213693951 : Int) := cl_eq.mp c46_94
    refine s_goto 115 C X d7_49 ?_
    exact J120 T _ (dz) (y34) (y56) (.unset) (.unset) (Or.inr ⟨t_c46_94, rfl, rfl, rfl⟩) (Or.inl ⟨rfl, rfl⟩) X F_o1_most A_o2 A_o3 A_o4 A_o5 Kp
  intro T hh y117 y118 y119 y115 y116 D120 hS120 X F_o1_most A_o2 A_o3 A_o4 A_o5 Kp
  obtain ⟨e_y117, e_y118, e_y119⟩ : own_E dz dz dz y117 ∧ own_E dz y34 y34 y118 ∧ own_E dz y56 y56 y119 := by
    rcases D120 with ⟨_, _, _, t, d0, d1, d2, q0, q1, q2⟩ | ⟨t, q0, q1, q2⟩
    · rw [q0, q1, q2]; exact ⟨Or.inr ⟨t, d0⟩, Or.inr ⟨t, d1⟩, Or.inr ⟨t, d2⟩⟩
    · exact ⟨Or.inl ⟨t, q0⟩, Or.inl ⟨t, q1⟩, Or.inl ⟨t, q2⟩⟩
  refine s_iinc 118 C X (l' := #[rv o1, iv i3, iv i0, rv o3, iv i1, lv dz, .second, y115, y116]) d7_115 kc_iconst_1 rfl rfl ?_
  refine s_goto 23 C X d7_118 ?_
  refine s_iload 25 C X d7_23 rfl ?_
  refine s_iloadN 26 C X d7_25 rfl ?_
  refine s_icmp_ge 121 29 C X d7_26 (fun c => absurd (by decide : i1 < i3) c) (fun _ => ?_)
  refine s_aloadN 30 C X d7_29 rfl rfl ?_
  refine s_getfield 33 C X (host := "") d7_30 (Or.inl (mW 12 rfl)) Via.refl F_o1_most (fun T X => ?_)
  refine s_iload 35 C X d7_33 rfl ?_
  refine s_aaload 36 C X d7_35 A_o2 rfl ⟨by decide, by decide⟩ (v := (.ref o4)) rfl ?_
  refine s_iloadN 37 C X d7_36 rfl ?_
  refine s_laload 38 C X d7_37 A_o4 ⟨by decide, by decide⟩ (v := (.long y45)) rfl ?_
  suffices JS : Run p e below n0 Q' G' m T 40 #[rv o1, iv i3, iv i0, rv o3, iv i1, lv y45, .second, y115, y116] [] by
    rcases hS120 with ⟨rfl, rfl⟩ | ⟨rfl, rfl⟩ <;> exact s_lstore 40 C X d7_38 rfl JS
  refine s_lload 42 C X d7_40 rfl ?_
  refine s_ldc2Long 45 C X d7_42 (mW 14 rfl) ?_
  refine s_lcmp 46 C X d7_45 ?_
  suffices J148 : ∀ (T : State) (hh : Heap) (y145 : Int64) (y146 : Int64) (y147 : Int64) (y143 : Slot) (y144 : Slot) (D148 : (∃ (y127 : Int64) (y133 : Int64) (y139 : Int64), (¬ ((y45).toInt = (2305843009213693951 : Int))) ∧ own_D y45 y117 y45 y127 ∧ own_D y45 y118 dz y133 ∧ own_D y45 y119 y78 y139 ∧ y145 = y127 ∧ y146 = y133 ∧ y147 = y139) ∨ (((y45).toInt = (2305843009213693951 : Int)) ∧ y145 = y45 ∧ y146 = dz ∧ y147 = y78)) (hS148 : (y143 = rv o4 ∧ y144 = iv i3) ∨ (y143 = y115 ∧ y144 = y116)) (X : St p l e ({ frames := 0, cells := 0, slots := 0, locals := 0 } : Room) s m #[(.ref o1)] below meth c n0 T hh 0 0) (F_o1_most : Fld Z hh o1 "com/example/dayweave/dayweave/solve/TemporalNetwork" "most" "[[J" (.ref o2)) (A_o2 : Arv Z hh o2 k_o2 (.array .long) i3 [(.ref o3), (.ref o4), (.ref o5)] .null) (A_o3 : Arv Z hh o3 k_o3 .long i3 [(.long y117), (.long y118), (.long y119)] (.long j0)) (A_o4 : Arv Z hh o4 k_o3 .long i3 [(.long y145), (.long y146), (.long y147)] (.long j0)) (A_o5 : Arv Z hh o5 k_o3 .long i3 [(.long y67), (.long y89), (.long dz)] (.long j0)) (Kp : Keep h0 hh [o3, o4, o5]), Run p e below n0 Q' G' m T 115 #[rv o1, iv i3, iv i0, rv o3, iv i1, lv y45, .second, y143, y144] [] by
    refine s_if_ne 52 49 C X d7_46 (fun c46_122 => ?_) (fun c46_122 => ?_)
    · have t_c46_122 : ¬ ((y45).toInt = (2305843009213693951 : Int)) := fun q => c46_122 (cl_eq.mpr q)
      refine s_aloadN 53 C X d7_52 rfl rfl ?_
      refine s_getfield 56 C X (host := "") d7_53 (Or.inl (mW 12 rfl)) Via.refl F_o1_most (fun T X => ?_)
      refine s_iload 58 C X d7_56 rfl ?_
      refine s_aaload 59 C X d7_58 A_o2 rfl ⟨by decide, by decide⟩ (v := (.ref o4)) rfl ?_
      suffices JS : Run p e below n0 Q' G' m T 61 #[rv o1, iv i3, iv i0, rv o3, iv i1, lv y45, .second, rv o4, y116] [] by
        rcases hS120 with ⟨rfl, rfl⟩ | ⟨rfl, rfl⟩ <;> exact s_astore 61 C X d7_59 rfl rfl JS
      refine s_iconst 62 C X d7_61 kc_iconst_0 ?_
      suffices JS : Run p e below n0 Q' G' m T 64 #[rv o1, iv i3, iv i0, rv o3, iv i1, lv y45, .second, rv o4, iv i0] [] by
        rcases hS120 with ⟨rfl, rfl⟩ | ⟨rfl, rfl⟩ <;> exact s_istore 64 C X d7_62 rfl JS
      refine s_iload 66 C X d7_64 rfl ?_
      refine s_iloadN 67 C X d7_66 rfl ?_
      refine s_icmp_ge 115 70 C X d7_67 (fun c => absurd (by decide : i0 < i3) c) (fun _ => ?_)
      refine s_aloadN 71 C X d7_70 rfl rfl ?_
      refine s_iload 73 C X d7_71 rfl ?_
      refine s_laload 74 C X d7_73 A_o3 ⟨by decide, by decide⟩ (v := (.long y117)) rfl ?_
      refine s_ldc2Long 77 C X d7_74 (mW 14 rfl) ?_
      refine s_lcmp 78 C X d7_77 ?_
      suffices J128 : ∀ (T : State) (hh : Heap) (y127 : Int64) (D128 : (((y117).toInt = (2305843009213693951 : Int)) ∧ y127 = y45) ∨ ((¬ ((y117).toInt = (2305843009213693951 : Int))) ∧ (¬ (((y45 + y117)).toInt < (y45).toInt)) ∧ y127 = y45) ∨ ((¬ ((y117).toInt = (2305843009213693951 : Int))) ∧ (((y45 + y117)).toInt < (y45).toInt) ∧ y127 = (y45 + y117))) (X : St p l e ({ frames := 0, cells := 0, slots := 0, locals := 0 } : Room) s m #[(.ref o1)] below meth c n0 T hh 0 0) (F_o1_most : Fld Z hh o1 "com/example/dayweave/dayweave/solve/TemporalNetwork" "most" "[[J" (.ref o2)) (A_o2 : Arv Z hh o2 k_o2 (.array .long) i3 [(.ref o3), (.ref o4), (.ref o5)] .null) (A_o3 : Arv Z hh o3 k_o3 .long i3 [(.long y117), (.long y118), (.long y119)] (.long j0)) (A_o4 : Arv Z hh o4 k_o3 .long i3 [(.long y127), (.long dz), (.long y78)] (.long j0)) (A_o5 : Arv Z hh o5 k_o3 .long i3 [(.long y67), (.long y89), (.long dz)] (.long j0)) (Kp : Keep h0 hh [o3, o4, o5]), Run p e below n0 Q' G' m T 109 #[rv o1, iv i3, iv i0, rv o3, iv i1, lv y45, .second, rv o4, iv i0] [] by
        refine s_if_eq 109 81 C X d7_78 (fun c78_124 => ?_) (fun c78_124 => ?_)
        · have t_c78_124 : (y117).toInt = (2305843009213693951 : Int) := cl_eq.mp c78_124
          exact J128 T _ (y45) ((Or.inl ⟨t_c78_124, rfl⟩)) X F_o1_most A_o2 A_o3 A_o4 A_o5 Kp
        have t_c78_124 : ¬ ((y117).toInt = (2305843009213693951 : Int)) := fun q => c78_124 (cl_eq.mpr q)
        refine s_lload 83 C X d7_81 rfl ?_
        refine s_aloadN 84 C X d7_83 rfl rfl ?_
        refine s_iload 86 C X d7_84 rfl ?_
        refine s_laload 87 C X d7_86 A_o3 ⟨by decide, by decide⟩ (v := (.long y117)) rfl ?_
        refine s_ladd 88 C X d7_87 ?_
        refine s_aload 90 C X d7_88 rfl rfl ?_
        refine s_iload 92 C X d7_90 rfl ?_
        refine s_laload 93 C X d7_92 A_o4 ⟨by decide, by decide⟩ (v := (.long y45)) rfl ?_
        refine s_lcmp 94 C X d7_93 ?_
        refine s_if_ge 109 97 C X d7_94 (fun c94_125 => ?_) (fun c94_125 => ?_)
        · have t_c94_125 : ¬ (((y45 + y117)).toInt < (y45).toInt) := fun q => c94_125 (cl_lt.mpr q)
          exact J128 T _ (y45) (Or.inr (Or.inl ⟨t_c78_124, t_c94_125, rfl⟩)) X F_o1_most A_o2 A_o3 A_o4 A_o5 Kp
        have t_c94_125 : ((y45 + y117)).toInt < (y45).toInt := cl_lt.mp c94_125
        refine s_aload 99 C X d7_97 rfl rfl ?_
        refine s_iload 101 C X d7_99 rfl ?_
        refine s_lload 103 C X d7_101 rfl ?_
        refine s_aloadN 104 C X d7_103 rfl rfl ?_
        refine s_iload 106 C X d7_104 rfl ?_
        refine s_laload 107 C X d7_106 A_o3 ⟨by decide, by decide⟩ (v := (.long y117)) rfl ?_
        refine s_ladd 108 C X d7_107 ?_
        refine s_lastore 109 0 C X d7_108 A_o4 g_o4 ⟨by decide, by decide⟩ rfl (Nat.le_of_ble_eq_true rfl) (fun T hh X W A_o4 => ?_)
        have A_o4 : Arv Z _ o4 k_o3 .long i3 [(.long (y45 + y117)), (.long dz), (.long y78)] (.long j0) := A_o4
        have F_o1_most := F_o1_most.other W (Or.inl ne_o1_o4)
        have A_o2 := A_o2.other W ne_o2_o4
        have A_o3 := A_o3.other W ne_o3_o4
        have A_o5 := A_o5.other W (Ne.symm ne_o4_o5)
        have Kp := Kp.wr W (Or.inl (by simp))
        exact J128 T _ ((y45 + y117)) (Or.inr (Or.inr ⟨t_c78_124, t_c94_125, rfl⟩)) X F_o1_most A_o2 A_o3 A_o4 A_o5 Kp
      intro T hh y127 D128  X F_o1_most A_o2 A_o3 A_o4 A_o5 Kp
      have d_y127 : own_D y45 y117 y45 y127 := D128
      refine s_iinc 112 C X (l' := #[rv o1, iv i3, iv i0, rv o3, iv i1, lv y45, .second, rv o4, iv i1]) d7_109 kc_iconst_1 rfl rfl ?_
      refine s_goto 64 C X d7_112 ?_
      refine s_iload 66 C X d7_64 rfl ?_
      refine s_iloadN 67 C X d7_66 rfl ?_
      refine s_icmp_ge 115 70 C X d7_67 (fun c => absurd (by decide : i1 < i3) c) (fun _ => ?_)
      refine s_aloadN 71 C X d7_70 rfl rfl ?_
      refine s_iload 73 C X d7_71 rfl ?_
      refine s_laload 74 C X d7_73 A_o3 ⟨by decide, by decide⟩ (v := (.long y118)) rfl ?_
      refine s_ldc2Long 77 C X d7_74 (mW 14 rfl) ?_
      refine s_lcmp 78 C X d7_77 ?_
      suffices J134 : ∀ (T : State) (hh : Heap) (y133 : Int64) (D134 : (((y118).toInt = (2305843009213693951 : Int)) ∧ y133 = dz) ∨ ((¬ ((y118).toInt = (2305843009213693951 : Int))) ∧ (¬ (((y45 + y118)).toInt < (dz).toInt)) ∧ y133 = dz) ∨ ((¬ ((y118).toInt = (2305843009213693951 : Int))) ∧ (((y45 + y118)).toInt < (dz).toInt) ∧ y133 = (y45 + y118))) (X : St p l e ({ frames := 0, cells := 0, slots := 0, locals := 0 } : Room) s m #[(.ref o1)] below meth c n0 T hh 0 0) (F_o1_most : Fld Z hh o1 "com/example/dayweave/dayweave/solve/TemporalNetwork" "most" "[[J" (.ref o2)) (A_o2 : Arv Z hh o2 k_o2 (.array .long) i3 [(.ref o3), (.ref o4), (.ref o5)] .null) (A_o3 : Arv Z hh o3 k_o3 .long i3 [(.long y117), (.long y118), (.long y119)] (.long j0)) (A_o4 : Arv Z hh o4 k_o3 .long i3 [(.long y127), (.long y133), (.long y78)] (.long j0)) (A_o5 : Arv Z hh o5 k_o3 .long i3 [(.long y67), (.long y89), (.long dz)] (.long j0)) (Kp : Keep h0 hh [o3, o4, o5]), Run p e below n0 Q' G' m T 109 #[rv o1, iv i3, iv i0, rv o3, iv i1, lv y45, .second, rv o4, iv i1] [] by
        refine s_if_eq 109 81 C X d7_78 (fun c78_130 => ?_) (fun c78_130 => ?_)
        · have t_c78_130 : (y118).toInt = (2305843009213693951 : Int) := cl_eq.mp c78_130
          exact J134 T _ (dz) ((Or.inl ⟨t_c78_130, rfl⟩)) X F_o1_most A_o2 A_o3 A_o4 A_o5 Kp
        have t_c78_130 : ¬ ((y118).toInt = (2305843009213693951 : Int)) := fun q => c78_130 (cl_eq.mpr q)
        refine s_lload 83 C X d7_81 rfl ?_
        refine s_aloadN 84 C X d7_83 rfl rfl ?_
        refine s_iload 86 C X d7_84 rfl ?_
        refine s_laload 87 C X d7_86 A_o3 ⟨by decide, by decide⟩ (v := (.long y118)) rfl ?_
        refine s_ladd 88 C X d7_87 ?_
        refine s_aload 90 C X d7_88 rfl rfl ?_
        refine s_iload 92 C X d7_90 rfl ?_
        refine s_laload 93 C X d7_92 A_o4 ⟨by decide, by decide⟩ (v := (.long dz)) rfl ?_
        refine s_lcmp 94 C X d7_93 ?_
        refine s_if_ge 109 97 C X d7_94 (fun c94_131 => ?_) (fun c94_131 => ?_)
        · have t_c94_131 : ¬ (((y45 + y118)).toInt < (dz).toInt) := fun q => c94_131 (cl_lt.mpr q)
          exact J134 T _ (dz) (Or.inr (Or.inl ⟨t_c78_130, t_c94_131, rfl⟩)) X F_o1_most A_o2 A_o3 A_o4 A_o5 Kp
        have t_c94_131 : ((y45 + y118)).toInt < (dz).toInt := cl_lt.mp c94_131
        refine s_aload 99 C X d7_97 rfl rfl ?_
        refine s_iload 101 C X d7_99 rfl ?_
        refine s_lload 103 C X d7_101 rfl ?_
        refine s_aloadN 104 C X d7_103 rfl rfl ?_
        refine s_iload 106 C X d7_104 rfl ?_
        refine s_laload 107 C X d7_106 A_o3 ⟨by decide, by decide⟩ (v := (.long y118)) rfl ?_
        refine s_ladd 108 C X d7_107 ?_
        refine s_lastore 109 1 C X d7_108 A_o4 g_o4 ⟨by decide, by decide⟩ rfl (Nat.le_of_ble_eq_true rfl) (fun T hh X W A_o4 => ?_)
        have A_o4 : Arv Z _ o4 k_o3 .long i3 [(.long y127), (.long (y45 + y118)), (.long y78)] (.long j0) := A_o4
        have F_o1_most := F_o1_most.other W (Or.inl ne_o1_o4)
        have A_o2 := A_o2.other W ne_o2_o4
        have A_o3 := A_o3.other W ne_o3_o4
        have A_o5 := A_o5.other W (Ne.symm ne_o4_o5)
        have Kp := Kp.wr W (Or.inl (by simp))
        exact J134 T _ ((y45 + y118)) (Or.inr (Or.inr ⟨t_c78_130, t_c94_131, rfl⟩)) X F_o1_most A_o2 A_o3 A_o4 A_o5 Kp
      intro T hh y133 D134  X F_o1_most A_o2 A_o3 A_o4 A_o5 Kp
      have d_y133 : own_D y45 y118 dz y133 := D134
      refine s_iinc 112 C X (l' := #[rv o1, iv i3, iv i0, rv o3, iv i1, lv y45, .second, rv o4, iv i2]) d7_109 kc_iconst_1 rfl rfl ?_
      refine s_goto 64 C X d7_112 ?_
      refine s_iload 66 C X d7_64 rfl ?_
      refine s_iloadN 67 C X d7_66 rfl ?_
      refine s_icmp_ge 115 70 C X d7_67 (fun c => absurd (by decide : i2 < i3) c) (fun _ => ?_)
      refine s_aloadN 71 C X d7_70 rfl rfl ?_
      refine s_iload 73 C X d7_71 rfl ?_
      refine s_laload 74 C X d7_73 A_o3 ⟨by decide, by decide⟩ (v := (.long y119)) rfl ?_
      refine s_ldc2Long 77 C X d7_74 (mW 14 rfl) ?_
      refine s_lcmp 78 C X d7_77 ?_
      suffices J140 : ∀ (T : State) (hh : Heap) (y139 : Int64) (D140 : (((y119).toInt = (2305843009213693951 : Int)) ∧ y139 = y78) ∨ ((¬ ((y119).toInt = (2305843009213693951 : Int))) ∧ (¬ (((y45 + y119)).toInt < (y78).toInt)) ∧ y139 = y78) ∨ ((¬ ((y119).toInt = (2305843009213693951 : Int))) ∧ (((y45 + y119)).toInt < (y78).toInt) ∧ y139 = (y45 + y119))) (X : St p l e ({ frames := 0, cells := 0, slots := 0, locals := 0 } : Room) s m #[(.ref o1)] below meth c n0 T hh 0 0) (F_o1_most : Fld Z hh o1 "com/example/dayweave/dayweave/solve/TemporalNetwork" "most" "[[J" (.ref o2)) (A_o2 : Arv Z hh o2 k_o2 (.array .long) i3 [(.ref o3), (.ref o4), (.ref o5)] .null) (A_o3 : Arv Z hh o3 k_o3 .long i3 [(.long y117), (.long y118), (.long y119)] (.long j0)) (A_o4 : Arv Z hh o4 k_o3 .long i3 [(.long y127), (.long y133), (.long y139)] (.long j0)) (A_o5 : Arv Z hh o5 k_o3 .long i3 [(.long y67), (.long y89), (.long dz)] (.long j0)) (Kp : Keep h0 hh [o3, o4, o5]), Run p e below n0 Q' G' m T 109 #[rv o1, iv i3, iv i0, rv o3, iv i1, lv y45, .second, rv o4, iv i2] [] by
        refine s_if_eq 109 81 C X d7_78 (fun c78_136 => ?_) (fun c78_136 => ?_)
        · have t_c78_136 : (y119).toInt = (2305843009213693951 : Int) := cl_eq.mp c78_136
          exact J140 T _ (y78) ((Or.inl ⟨t_c78_136, rfl⟩)) X F_o1_most A_o2 A_o3 A_o4 A_o5 Kp
        have t_c78_136 : ¬ ((y119).toInt = (2305843009213693951 : Int)) := fun q => c78_136 (cl_eq.mpr q)
        refine s_lload 83 C X d7_81 rfl ?_
        refine s_aloadN 84 C X d7_83 rfl rfl ?_
        refine s_iload 86 C X d7_84 rfl ?_
        refine s_laload 87 C X d7_86 A_o3 ⟨by decide, by decide⟩ (v := (.long y119)) rfl ?_
        refine s_ladd 88 C X d7_87 ?_
        refine s_aload 90 C X d7_88 rfl rfl ?_
        refine s_iload 92 C X d7_90 rfl ?_
        refine s_laload 93 C X d7_92 A_o4 ⟨by decide, by decide⟩ (v := (.long y78)) rfl ?_
        refine s_lcmp 94 C X d7_93 ?_
        refine s_if_ge 109 97 C X d7_94 (fun c94_137 => ?_) (fun c94_137 => ?_)
        · have t_c94_137 : ¬ (((y45 + y119)).toInt < (y78).toInt) := fun q => c94_137 (cl_lt.mpr q)
          exact J140 T _ (y78) (Or.inr (Or.inl ⟨t_c78_136, t_c94_137, rfl⟩)) X F_o1_most A_o2 A_o3 A_o4 A_o5 Kp
        have t_c94_137 : ((y45 + y119)).toInt < (y78).toInt := cl_lt.mp c94_137
        refine s_aload 99 C X d7_97 rfl rfl ?_
        refine s_iload 101 C X d7_99 rfl ?_
        refine s_lload 103 C X d7_101 rfl ?_
        refine s_aloadN 104 C X d7_103 rfl rfl ?_
        refine s_iload 106 C X d7_104 rfl ?_
        refine s_laload 107 C X d7_106 A_o3 ⟨by decide, by decide⟩ (v := (.long y119)) rfl ?_
        refine s_ladd 108 C X d7_107 ?_
        refine s_lastore 109 2 C X d7_108 A_o4 g_o4 ⟨by decide, by decide⟩ rfl (Nat.le_of_ble_eq_true rfl) (fun T hh X W A_o4 => ?_)
        have A_o4 : Arv Z _ o4 k_o3 .long i3 [(.long y127), (.long y133), (.long (y45 + y119))] (.long j0) := A_o4
        have F_o1_most := F_o1_most.other W (Or.inl ne_o1_o4)
        have A_o2 := A_o2.other W ne_o2_o4
        have A_o3 := A_o3.other W ne_o3_o4
        have A_o5 := A_o5.other W (Ne.symm ne_o4_o5)
        have Kp := Kp.wr W (Or.inl (by simp))
        exact J140 T _ ((y45 + y119)) (Or.inr (Or.inr ⟨t_c78_136, t_c94_137, rfl⟩)) X F_o1_most A_o2 A_o3 A_o4 A_o5 Kp
      intro T hh y139 D140  X F_o1_most A_o2 A_o3 A_o4 A_o5 Kp
      have d_y139 : own_D y45 y119 y78 y139 := D140
      refine s_iinc 112 C X (l' := #[rv o1, iv i3, iv i0, rv o3, iv i1, lv y45, .second, rv o4, iv i3]) d7_109 kc_iconst_1 rfl rfl ?_
      refine s_goto 64 C X d7_112 ?_
      refine s_iload 66 C X d7_64 rfl ?_
      refine s_iloadN 67 C X d7_66 rfl ?_
      refine s_icmp_ge 115 70 C X d7_67 (fun _ => ?_) (fun c => absurd c (by decide))
      exact J148 T _ (y127) (y133) (y139) (rv o4) (iv i3) ((Or.inl ⟨y127, y133, y139, t_c46_122, d_y127, d_y133, d_y139, rfl, rfl, rfl⟩)) (Or.inl ⟨rfl, rfl⟩) X F_o1_most A_o2 A_o3 A_o4 A_o5 Kp
    have t_c46_122 : (y45).toInt = (2305843009213693951 : Int) := cl_eq.mp c46_122
    refine s_goto 115 C X d7_49 ?_
    exact J148 T _ (y45) (dz) (y78) (y115) (y116) (Or.inr ⟨t_c46_122, rfl, rfl, rfl⟩) (Or.inr ⟨rfl, rfl⟩) X F_o1_most A_o2 A_o3 A_o4 A_o5 Kp
  intro T hh y145 y146 y147 y143 y144 D148 hS148 X F_o1_most A_o2 A_o3 A_o4 A_o5 Kp
  obtain ⟨e_y145, e_y146, e_y147⟩ : own_E y45 y117 y45 y145 ∧ own_E y45 y118 dz y146 ∧ own_E y45 y119 y78 y147 := by
    rcases D148 with ⟨_, _, _, t, d0, d1, d2, q0, q1, q2⟩ | ⟨t, q0, q1, q2⟩
    · rw [q0, q1, q2]; exact ⟨Or.inr ⟨t, d0⟩, Or.inr ⟨t, d1⟩, Or.inr ⟨t, d2⟩⟩
    · exact ⟨Or.inl ⟨t, q0⟩, Or.inl ⟨t, q1⟩, Or.inl ⟨t, q2⟩⟩
  refine s_iinc 118 C X (l' := #[rv o1, iv i3, iv i0, rv o3, iv i2, lv y45, .second, y143, y144]) d7_115 kc_iconst_1 rfl rfl ?_
  refine s_goto 23 C X d7_118 ?_
  refine s_iload 25 C X d7_23 rfl ?_
  refine s_iloadN 26 C X d7_25 rfl ?_
  refine s_icmp_ge 121 29 C X d7_26 (fun c => absurd (by decide : i2 < i3) c) (fun _ => ?_)
  refine s_aloadN 30 C X d7_29 rfl rfl ?_
  refine s_getfield 33 C X (host := "") d7_30 (Or.inl (mW 12 rfl)) Via.refl F_o1_most (fun T X => ?_)
  refine s_iload 35 C X d7_33 rfl ?_
  refine s_aaload 36 C X d7_35 A_o2 rfl ⟨by decide, by decide⟩ (v := (.ref o5)) rfl ?_
  refine s_iloadN 37 C X d7_36 rfl ?_
  refine s_laload 38 C X d7_37 A_o5 ⟨by decide, by decide⟩ (v := (.long y67)) rfl ?_
  suffices JS : Run p e below n0 Q' G' m T 40 #[rv o1, iv i3, iv i0, rv o3, iv i2, lv y67, .second, y143, y144] [] by
    rcases hS148 with ⟨rfl, rfl⟩ | ⟨rfl, rfl⟩ <;> rcases hS120 with ⟨rfl, rfl⟩ | ⟨rfl, rfl⟩ <;> exact s_lstore 40 C X d7_38 rfl JS
  refine s_lload 42 C X d7_40 rfl ?_
  refine s_ldc2Long 45 C X d7_42 (mW 14 rfl) ?_
  refine s_lcmp 46 C X d7_45 ?_
  suffices J176 : ∀ (T : State) (hh : Heap) (y173 : Int64) (y174 : Int64) (y175 : Int64) (y171 : Slot) (y172 : Slot) (D176 : (∃ (y155 : Int64) (y161 : Int64) (y167 : Int64), (¬ ((y67).toInt = (2305843009213693951 : Int))) ∧ own_D y67 y117 y67 y155 ∧ own_D y67 y118 y89 y161 ∧ own_D y67 y119 dz y167 ∧ y173 = y155 ∧ y174 = y161 ∧ y175 = y167) ∨ (((y67).toInt = (2305843009213693951 : Int)) ∧ y173 = y67 ∧ y174 = y89 ∧ y175 = dz)) (hS176 : (y171 = rv o5 ∧ y172 = iv i3) ∨ (y171 = y143 ∧ y172 = y144)) (X : St p l e ({ frames := 0, cells := 0, slots := 0, locals := 0 } : Room) s m #[(.ref o1)] below meth c n0 T hh 0 0) (F_o1_most : Fld Z hh o1 "com/example/dayweave/dayweave/solve/TemporalNetwork" "most" "[[J" (.ref o2)) (A_o2 : Arv Z hh o2 k_o2 (.array .long) i3 [(.ref o3), (.ref o4), (.ref o5)] .null) (A_o3 : Arv Z hh o3 k_o3 .long i3 [(.long y117), (.long y118), (.long y119)] (.long j0)) (A_o4 : Arv Z hh o4 k_o3 .long i3 [(.long y145), (.long y146), (.long y147)] (.long j0)) (A_o5 : Arv Z hh o5 k_o3 .long i3 [(.long y173), (.long y174), (.long y175)] (.long j0)) (Kp : Keep h0 hh [o3, o4, o5]), Run p e below n0 Q' G' m T 115 #[rv o1, iv i3, iv i0, rv o3, iv i2, lv y67, .second, y171, y172] [] by
    refine s_if_ne 52 49 C X d7_46 (fun c46_150 => ?_) (fun c46_150 => ?_)
    · have t_c46_150 : ¬ ((y67).toInt = (2305843009213693951 : Int)) := fun q => c46_150 (cl_eq.mpr q)
      refine s_aloadN 53 C X d7_52 rfl rfl ?_
      refine s_getfield 56 C X (host := "") d7_53 (Or.inl (mW 12 rfl)) Via.refl F_o1_most (fun T X => ?_)
      refine s_iload 58 C X d7_56 rfl ?_
      refine s_aaload 59 C X d7_58 A_o2 rfl ⟨by decide, by decide⟩ (v := (.ref o5)) rfl ?_
      suffices JS : Run p e below n0 Q' G' m T 61 #[rv o1, iv i3, iv i0, rv o3, iv i2, lv y67, .second, rv o5, y144] [] by
        rcases hS148 with ⟨rfl, rfl⟩ | ⟨rfl, rfl⟩ <;> rcases hS120 with ⟨rfl, rfl⟩ | ⟨rfl, rfl⟩ <;> exact s_astore 61 C X d7_59 rfl rfl JS
      refine s_iconst 62 C X d7_61 kc_iconst_0 ?_
      suffices JS : Run p e below n0 Q' G' m T 64 #[rv o1, iv i3, iv i0, rv o3, iv i2, lv y67, .second, rv o5, iv i0] [] by
        rcases hS148 with ⟨rfl, rfl⟩ | ⟨rfl, rfl⟩ <;> rcases hS120 with ⟨rfl, rfl⟩ | ⟨rfl, rfl⟩ <;> exact s_istore 64 C X d7_62 rfl JS
      refine s_iload 66 C X d7_64 rfl ?_
      refine s_iloadN 67 C X d7_66 rfl ?_
      refine s_icmp_ge 115 70 C X d7_67 (fun c => absurd (by decide : i0 < i3) c) (fun _ => ?_)
      refine s_aloadN 71 C X d7_70 rfl rfl ?_
      refine s_iload 73 C X d7_71 rfl ?_
      refine s_laload 74 C X d7_73 A_o3 ⟨by decide, by decide⟩ (v := (.long y117)) rfl ?_
      refine s_ldc2Long 77 C X d7_74 (mW 14 rfl) ?_
      refine s_lcmp 78 C X d7_77 ?_
      suffices J156 : ∀ (T : State) (hh : Heap) (y155 : Int64) (D156 : (((y117).toInt = (2305843009213693951 : Int)) ∧ y155 = y67) ∨ ((¬ ((y117).toInt = (2305843009213693951 : Int))) ∧ (¬ (((y67 + y117)).toInt < (y67).toInt)) ∧ y155 = y67) ∨ ((¬ ((y117).toInt = (2305843009213693951 : Int))) ∧ (((y67 + y117)).toInt < (y67).toInt) ∧ y155 = (y67 + y117))) (X : St p l e ({ frames := 0, cells := 0, slots := 0, locals := 0 } : Room) s m #[(.ref o1)] below meth c n0 T hh 0 0) (F_o1_most : Fld Z hh o1 "com/example/dayweave/dayweave/solve/TemporalNetwork" "most" "[[J" (.ref o2)) (A_o2 : Arv Z hh o2 k_o2 (.array .long) i3 [(.ref o3), (.ref o4), (.ref o5)] .null) (A_o3 : Arv Z hh o3 k_o3 .long i3 [(.long y117), (.long y118), (.long y119)] (.long j0)) (A_o4 : Arv Z hh o4 k_o3 .long i3 [(.long y145), (.long y146), (.long y147)] (.long j0)) (A_o5 : Arv Z hh o5 k_o3 .long i3 [(.long y155), (.long y89), (.long dz)] (.long j0)) (Kp : Keep h0 hh [o3, o4, o5]), Run p e below n0 Q' G' m T 109 #[rv o1, iv i3, iv i0, rv o3, iv i2, lv y67, .second, rv o5, iv i0] [] by
        refine s_if_eq 109 81 C X d7_78 (fun c78_152 => ?_) (fun c78_152 => ?_)
        · have t_c78_152 : (y117).toInt = (2305843009213693951 : Int) := cl_eq.mp c78_152
          exact J156 T _ (y67) ((Or.inl ⟨t_c78_152, rfl⟩)) X F_o1_most A_o2 A_o3 A_o4 A_o5 Kp
        have t_c78_152 : ¬ ((y117).toInt = (2305843009213693951 : Int)) := fun q => c78_152 (cl_eq.mpr q)
        refine s_lload 83 C X d7_81 rfl ?_
        refine s_aloadN 84 C X d7_83 rfl rfl ?_
        refine s_iload 86 C X d7_84 rfl ?_
        refine s_laload 87 C X d7_86 A_o3 ⟨by decide, by decide⟩ (v := (.long y117)) rfl ?_
        refine s_ladd 88 C X d7_87 ?_
        refine s_aload 90 C X d7_88 rfl rfl ?_
        refine s_iload 92 C X d7_90 rfl ?_
        refine s_laload 93 C X d7_92 A_o5 ⟨by decide, by decide⟩ (v := (.long y67)) rfl ?_
        refine s_lcmp 94 C X d7_93 ?_
        refine s_if_ge 109 97 C X d7_94 (fun c94_153 => ?_) (fun c94_153 => ?_)
        · have t_c94_153 : ¬ (((y67 + y117)).toInt < (y67).toInt) := fun q => c94_153 (cl_lt.mpr q)
          exact J156 T _ (y67) (Or.inr (Or.inl ⟨t_c78_152, t_c94_153, rfl⟩)) X F_o1_most A_o2 A_o3 A_o4 A_o5 Kp
        have t_c94_153 : ((y67 + y117)).toInt < (y67).toInt := cl_lt.mp c94_153
        refine s_aload 99 C X d7_97 rfl rfl ?_
        refine s_iload 101 C X d7_99 rfl ?_
        refine s_lload 103 C X d7_101 rfl ?_
        refine s_aloadN 104 C X d7_103 rfl rfl ?_
        refine s_iload 106 C X d7_104 rfl ?_
        refine s_laload 107 C X d7_106 A_o3 ⟨by decide, by decide⟩ (v := (.long y117)) rfl ?_
        refine s_ladd 108 C X d7_107 ?_
        refine s_lastore 109 0 C X d7_108 A_o5 g_o5 ⟨by decide, by decide⟩ rfl (Nat.le_of_ble_eq_true rfl) (fun T hh X W A_o5 => ?_)
        have A_o5 : Arv Z _ o5 k_o3 .long i3 [(.long (y67 + y117)), (.long y89), (.long dz)] (.long j0) := A_o5
        have F_o1_most := F_o1_most.other W (Or.inl ne_o1_o5)
        have A_o2 := A_o2.other W ne_o2_o5
        have A_o3 := A_o3.other W ne_o3_o5
        have A_o4 := A_o4.other W ne_o4_o5
        have Kp := Kp.wr W (Or.inl (by simp))
        exact J156 T _ ((y67 + y117)) (Or.inr (Or.inr ⟨t_c78_152, t_c94_153, rfl⟩)) X F_o1_most A_o2 A_o3 A_o4 A_o5 Kp
      intro T hh y155 D156  X F_o1_most A_o2 A_o3 A_o4 A_o5 Kp
      have d_y155 : own_D y67 y117 y67 y155 := D156
      refine s_iinc 112 C X (l' := #[rv o1, iv i3, iv i0, rv o3, iv i2, lv y67, .second, rv o5, iv i1]) d7_109 kc_iconst_1 rfl rfl ?_
      refine s_goto 64 C X d7_112 ?_
      refine s_iload 66 C X d7_64 rfl ?_
      refine s_iloadN 67 C X d7_66 rfl ?_
      refine s_icmp_ge 115 70 C X d7_67 (fun c => absurd (by decide : i1 < i3) c) (fun _ => ?_)
      refine s_aloadN 71 C X d7_70 rfl rfl ?_
      refine s_iload 73 C X d7_71 rfl ?_
      refine s_laload 74 C X d7_73 A_o3 ⟨by decide, by decide⟩ (v := (.long y118)) rfl ?_
      refine s_ldc2Long 77 C X d7_74 (mW 14 rfl) ?_
      refine s_lcmp 78 C X d7_77 ?_
      suffices J162 : ∀ (T : State) (hh : Heap) (y161 : Int64) (D162 : (((y118).toInt = (2305843009213693951 : Int)) ∧ y161 = y89) ∨ ((¬ ((y118).toInt = (2305843009213693951 : Int))) ∧ (¬ (((y67 + y118)).toInt < (y89).toInt)) ∧ y161 = y89) ∨ ((¬ ((y118).toInt = (2305843009213693951 : Int))) ∧ (((y67 + y118)).toInt < (y89).toInt) ∧ y161 = (y67 + y118))) (X : St p l e ({ frames := 0, cells := 0, slots := 0, locals := 0 } : Room) s m #[(.ref o1)] below meth c n0 T hh 0 0) (F_o1_most : Fld Z hh o1 "com/example/dayweave/dayweave/solve/TemporalNetwork" "most" "[[J" (.ref o2)) (A_o2 : Arv Z hh o2 k_o2 (.array .long) i3 [(.ref o3), (.ref o4), (.ref o5)] .null) (A_o3 : Arv Z hh o3 k_o3 .long i3 [(.long y117), (.long y118), (.long y119)] (.long j0)) (A_o4 : Arv Z hh o4 k_o3 .long i3 [(.long y145), (.long y146), (.long y147)] (.long j0)) (A_o5 : Arv Z hh o5 k_o3 .long i3 [(.long y155), (.long y161), (.long dz)] (.long j0)) (Kp : Keep h0 hh [o3, o4, o5]), Run p e below n0 Q' G' m T 109 #[rv o1, iv i3, iv i0, rv o3, iv i2, lv y67, .second, rv o5, iv i1] [] by
        refine s_if_eq 109 81 C X d7_78 (fun c78_158 => ?_) (fun c78_158 => ?_)
        · have t_c78_158 : (y118).toInt = (2305843009213693951 : Int) := cl_eq.mp c78_158
          exact J162 T _ (y89) ((Or.inl ⟨t_c78_158, rfl⟩)) X F_o1_most A_o2 A_o3 A_o4 A_o5 Kp
        have t_c78_158 : ¬ ((y118).toInt = (2305843009213693951 : Int)) := fun q => c78_158 (cl_eq.mpr q)
        refine s_lload 83 C X d7_81 rfl ?_
        refine s_aloadN 84 C X d7_83 rfl rfl ?_
        refine s_iload 86 C X d7_84 rfl ?_
        refine s_laload 87 C X d7_86 A_o3 ⟨by decide, by decide⟩ (v := (.long y118)) rfl ?_
        refine s_ladd 88 C X d7_87 ?_
        refine s_aload 90 C X d7_88 rfl rfl ?_
        refine s_iload 92 C X d7_90 rfl ?_
        refine s_laload 93 C X d7_92 A_o5 ⟨by decide, by decide⟩ (v := (.long y89)) rfl ?_
        refine s_lcmp 94 C X d7_93 ?_
        refine s_if_ge 109 97 C X d7_94 (fun c94_159 => ?_) (fun c94_159 => ?_)
        · have t_c94_159 : ¬ (((y67 + y118)).toInt < (y89).toInt) := fun q => c94_159 (cl_lt.mpr q)
          exact J162 T _ (y89) (Or.inr (Or.inl ⟨t_c78_158, t_c94_159, rfl⟩)) X F_o1_most A_o2 A_o3 A_o4 A_o5 Kp
        have t_c94_159 : ((y67 + y118)).toInt < (y89).toInt := cl_lt.mp c94_159
        refine s_aload 99 C X d7_97 rfl rfl ?_
        refine s_iload 101 C X d7_99 rfl ?_
        refine s_lload 103 C X d7_101 rfl ?_
        refine s_aloadN 104 C X d7_103 rfl rfl ?_
        refine s_iload 106 C X d7_104 rfl ?_
        refine s_laload 107 C X d7_106 A_o3 ⟨by decide, by decide⟩ (v := (.long y118)) rfl ?_
        refine s_ladd 108 C X d7_107 ?_
        refine s_lastore 109 1 C X d7_108 A_o5 g_o5 ⟨by decide, by decide⟩ rfl (Nat.le_of_ble_eq_true rfl) (fun T hh X W A_o5 => ?_)
        have A_o5 : Arv Z _ o5 k_o3 .long i3 [(.long y155), (.long (y67 + y118)), (.long dz)] (.long j0) := A_o5
        have F_o1_most := F_o1_most.other W (Or.inl ne_o1_o5)
        have A_o2 := A_o2.other W ne_o2_o5
        have A_o3 := A_o3.other W ne_o3_o5
        have A_o4 := A_o4.other W ne_o4_o5
        have Kp := Kp.wr W (Or.inl (by simp))
        exact J162 T _ ((y67 + y118)) (Or.inr (Or.inr ⟨t_c78_158, t_c94_159, rfl⟩)) X F_o1_most A_o2 A_o3 A_o4 A_o5 Kp
      intro T hh y161 D162  X F_o1_most A_o2 A_o3 A_o4 A_o5 Kp
      have d_y161 : own_D y67 y118 y89 y161 := D162
      refine s_iinc 112 C X (l' := #[rv o1, iv i3, iv i0, rv o3, iv i2, lv y67, .second, rv o5, iv i2]) d7_109 kc_iconst_1 rfl rfl ?_
      refine s_goto 64 C X d7_112 ?_
      refine s_iload 66 C X d7_64 rfl ?_
      refine s_iloadN 67 C X d7_66 rfl ?_
      refine s_icmp_ge 115 70 C X d7_67 (fun c => absurd (by decide : i2 < i3) c) (fun _ => ?_)
      refine s_aloadN 71 C X d7_70 rfl rfl ?_
      refine s_iload 73 C X d7_71 rfl ?_
      refine s_laload 74 C X d7_73 A_o3 ⟨by decide, by decide⟩ (v := (.long y119)) rfl ?_
      refine s_ldc2Long 77 C X d7_74 (mW 14 rfl) ?_
      refine s_lcmp 78 C X d7_77 ?_
      suffices J168 : ∀ (T : State) (hh : Heap) (y167 : Int64) (D168 : (((y119).toInt = (2305843009213693951 : Int)) ∧ y167 = dz) ∨ ((¬ ((y119).toInt = (2305843009213693951 : Int))) ∧ (¬ (((y67 + y119)).toInt < (dz).toInt)) ∧ y167 = dz) ∨ ((¬ ((y119).toInt = (2305843009213693951 : Int))) ∧ (((y67 + y119)).toInt < (dz).toInt) ∧ y167 = (y67 + y119))) (X : St p l e ({ frames := 0, cells := 0, slots := 0, locals := 0 } : Room) s m #[(.ref o1)] below meth c n0 T hh 0 0) (F_o1_most : Fld Z hh o1 "com/example/dayweave/dayweave/solve/TemporalNetwork" "most" "[[J" (.ref o2)) (A_o2 : Arv Z hh o2 k_o2 (.array .long) i3 [(.ref o3), (.ref o4), (.ref o5)] .null) (A_o3 : Arv Z hh o3 k_o3 .long i3 [(.long y117), (.long y118), (.long y119)] (.long j0)) (A_o4 : Arv Z hh o4 k_o3 .long i3 [(.long y145), (.long y146), (.long y147)] (.long j0)) (A_o5 : Arv Z hh o5 k_o3 .long i3 [(.long y155), (.long y161), (.long y167)] (.long j0)) (Kp : Keep h0 hh [o3, o4, o5]), Run p e below n0 Q' G' m T 109 #[rv o1, iv i3, iv i0, rv o3, iv i2, lv y67, .second, rv o5, iv i2] [] by
        refine s_if_eq 109 81 C X d7_78 (fun c78_164 => ?_) (fun c78_164 => ?_)
        · have t_c78_164 : (y119).toInt = (2305843009213693951 : Int) := cl_eq.mp c78_164
          exact J168 T _ (dz) ((Or.inl ⟨t_c78_164, rfl⟩)) X F_o1_most A_o2 A_o3 A_o4 A_o5 Kp
        have t_c78_164 : ¬ ((y119).toInt = (2305843009213693951 : Int)) := fun q => c78_164 (cl_eq.mpr q)
        refine s_lload 83 C X d7_81 rfl ?_
        refine s_aloadN 84 C X d7_83 rfl rfl ?_
        refine s_iload 86 C X d7_84 rfl ?_
        refine s_laload 87 C X d7_86 A_o3 ⟨by decide, by decide⟩ (v := (.long y119)) rfl ?_
        refine s_ladd 88 C X d7_87 ?_
        refine s_aload 90 C X d7_88 rfl rfl ?_
        refine s_iload 92 C X d7_90 rfl ?_
        refine s_laload 93 C X d7_92 A_o5 ⟨by decide, by decide⟩ (v := (.long dz)) rfl ?_
        refine s_lcmp 94 C X d7_93 ?_
        refine s_if_ge 109 97 C X d7_94 (fun c94_165 => ?_) (fun c94_165 => ?_)
        · have t_c94_165 : ¬ (((y67 + y119)).toInt < (dz).toInt) := fun q => c94_165 (cl_lt.mpr q)
          exact J168 T _ (dz) (Or.inr (Or.inl ⟨t_c78_164, t_c94_165, rfl⟩)) X F_o1_most A_o2 A_o3 A_o4 A_o5 Kp
        have t_c94_165 : ((y67 + y119)).toInt < (dz).toInt := cl_lt.mp c94_165
        refine s_aload 99 C X d7_97 rfl rfl ?_
        refine s_iload 101 C X d7_99 rfl ?_
        refine s_lload 103 C X d7_101 rfl ?_
        refine s_aloadN 104 C X d7_103 rfl rfl ?_
        refine s_iload 106 C X d7_104 rfl ?_
        refine s_laload 107 C X d7_106 A_o3 ⟨by decide, by decide⟩ (v := (.long y119)) rfl ?_
        refine s_ladd 108 C X d7_107 ?_
        refine s_lastore 109 2 C X d7_108 A_o5 g_o5 ⟨by decide, by decide⟩ rfl (Nat.le_of_ble_eq_true rfl) (fun T hh X W A_o5 => ?_)
        have A_o5 : Arv Z _ o5 k_o3 .long i3 [(.long y155), (.long y161), (.long (y67 + y119))] (.long j0) := A_o5
        have F_o1_most := F_o1_most.other W (Or.inl ne_o1_o5)
        have A_o2 := A_o2.other W ne_o2_o5
        have A_o3 := A_o3.other W ne_o3_o5
        have A_o4 := A_o4.other W ne_o4_o5
        have Kp := Kp.wr W (Or.inl (by simp))
        exact J168 T _ ((y67 + y119)) (Or.inr (Or.inr ⟨t_c78_164, t_c94_165, rfl⟩)) X F_o1_most A_o2 A_o3 A_o4 A_o5 Kp
      intro T hh y167 D168  X F_o1_most A_o2 A_o3 A_o4 A_o5 Kp
      have d_y167 : own_D y67 y119 dz y167 := D168
      refine s_iinc 112 C X (l' := #[rv o1, iv i3, iv i0, rv o3, iv i2, lv y67, .second, rv o5, iv i3]) d7_109 kc_iconst_1 rfl rfl ?_
      refine s_goto 64 C X d7_112 ?_
      refine s_iload 66 C X d7_64 rfl ?_
      refine s_iloadN 67 C X d7_66 rfl ?_
      refine s_icmp_ge 115 70 C X d7_67 (fun _ => ?_) (fun c => absurd c (by decide))
      exact J176 T _ (y155) (y161) (y167) (rv o5) (iv i3) ((Or.inl ⟨y155, y161, y167, t_c46_150, d_y155, d_y161, d_y167, rfl, rfl, rfl⟩)) (Or.inl ⟨rfl, rfl⟩) X F_o1_most A_o2 A_o3 A_o4 A_o5 Kp
    have t_c46_150 : (y67).toInt = (2305843009213693951 : Int) := cl_eq.mp c46_150
    refine s_goto 115 C X d7_49 ?_
    exact J176 T _ (y67) (y89) (dz) (y143) (y144) (Or.inr ⟨t_c46_150, rfl, rfl, rfl⟩) (Or.inr ⟨rfl, rfl⟩) X F_o1_most A_o2 A_o3 A_o4 A_o5 Kp
  intro T hh y173 y174 y175 y171 y172 D176 hS176 X F_o1_most A_o2 A_o3 A_o4 A_o5 Kp
  obtain ⟨e_y173, e_y174, e_y175⟩ : own_E y67 y117 y67 y173 ∧ own_E y67 y118 y89 y174 ∧ own_E y67 y119 dz y175 := by
    rcases D176 with ⟨_, _, _, t, d0, d1, d2, q0, q1, q2⟩ | ⟨t, q0, q1, q2⟩
    · rw [q0, q1, q2]; exact ⟨Or.inr ⟨t, d0⟩, Or.inr ⟨t, d1⟩, Or.inr ⟨t, d2⟩⟩
    · exact ⟨Or.inl ⟨t, q0⟩, Or.inl ⟨t, q1⟩, Or.inl ⟨t, q2⟩⟩
  refine s_iinc 118 C X (l' := #[rv o1, iv i3, iv i0, rv o3, iv i3, lv y67, .second, y171, y172]) d7_115 kc_iconst_1 rfl rfl ?_
  refine s_goto 23 C X d7_118 ?_
  refine s_iload 25 C X d7_23 rfl ?_
  refine s_iloadN 26 C X d7_25 rfl ?_
  refine s_icmp_ge 121 29 C X d7_26 (fun _ => ?_) (fun c => absurd c (by decide))
  refine s_iconst 122 C X d7_121 kc_iconst_0 ?_
  refine s_istore 124 C X (l' := #[rv o1, iv i3, iv i0, rv o3, iv i0, lv y67, .second, y171, y172]) d7_122 rfl ?_
  refine s_iload 126 C X d7_124 rfl ?_
  refine s_iloadN 127 C X d7_126 rfl ?_
  refine s_icmp_ge 153 130 C X d7_127 (fun c => absurd (by decide : i0 < i3) c) (fun _ => ?_)
  refine s_aloadN 131 C X d7_130 rfl rfl ?_
  refine s_getfield 134 C X (host := "") d7_131 (Or.inl (mW 12 rfl)) Via.refl F_o1_most (fun T X => ?_)
  refine s_iload 136 C X d7_134 rfl ?_
  refine s_aaload 137 C X d7_136 A_o2 rfl ⟨by decide, by decide⟩ (v := (.ref o3)) rfl ?_
  refine s_iload 139 C X d7_137 rfl ?_
  refine s_laload 140 C X d7_139 A_o3 ⟨by decide, by decide⟩ (v := (.long y117)) rfl ?_
  refine s_lconst 141 C X (z := j0) d7_140 rfl ?_
  refine s_lcmp 142 C X d7_141 ?_
  refine s_if_ge 147 145 C X d7_142 (fun c142_179 => ?_) (fun c142_179 => ?_)
  · have t_c142_179 : ¬ ((y117).toInt < (0 : Int)) := fun q => c142_179 (cl_lt.mpr q)
    refine s_iinc 150 C X (l' := #[rv o1, iv i3, iv i0, rv o3, iv i1, lv y67, .second, y171, y172]) d7_147 kc_iconst_1 rfl rfl ?_
    refine s_goto 124 C X d7_150 ?_
    refine s_iload 126 C X d7_124 rfl ?_
    refine s_iloadN 127 C X d7_126 rfl ?_
    refine s_icmp_ge 153 130 C X d7_127 (fun c => absurd (by decide : i1 < i3) c) (fun _ => ?_)
    refine s_aloadN 131 C X d7_130 rfl rfl ?_
    refine s_getfield 134 C X (host := "") d7_131 (Or.inl (mW 12 rfl)) Via.refl F_o1_most (fun T X => ?_)
    refine s_iload 136 C X d7_134 rfl ?_
    refine s_aaload 137 C X d7_136 A_o2 rfl ⟨by decide, by decide⟩ (v := (.ref o4)) rfl ?_
    refine s_iload 139 C X d7_137 rfl ?_
    refine s_laload 140 C X d7_139 A_o4 ⟨by decide, by decide⟩ (v := (.long y146)) rfl ?_
    refine s_lconst 141 C X (z := j0) d7_140 rfl ?_
    refine s_lcmp 142 C X d7_141 ?_
    refine s_if_ge 147 145 C X d7_142 (fun c142_181 => ?_) (fun c142_181 => ?_)
    · have t_c142_181 : ¬ ((y146).toInt < (0 : Int)) := fun q => c142_181 (cl_lt.mpr q)
      refine s_iinc 150 C X (l' := #[rv o1, iv i3, iv i0, rv o3, iv i2, lv y67, .second, y171, y172]) d7_147 kc_iconst_1 rfl rfl ?_
      refine s_goto 124 C X d7_150 ?_
      refine s_iload 126 C X d7_124 rfl ?_
      refine s_iloadN 127 C X d7_126 rfl ?_
      refine s_icmp_ge 153 130 C X d7_127 (fun c => absurd (by decide : i2 < i3) c) (fun _ => ?_)
      refine s_aloadN 131 C X d7_130 rfl rfl ?_
      refine s_getfield 134 C X (host := "") d7_131 (Or.inl (mW 12 rfl)) Via.refl F_o1_most (fun T X => ?_)
      refine s_iload 136 C X d7_134 rfl ?_
      refine s_aaload 137 C X d7_136 A_o2 rfl ⟨by decide, by decide⟩ (v := (.ref o5)) rfl ?_
      refine s_iload 139 C X d7_137 rfl ?_
      refine s_laload 140 C X d7_139 A_o5 ⟨by decide, by decide⟩ (v := (.long y175)) rfl ?_
      refine s_lconst 141 C X (z := j0) d7_140 rfl ?_
      refine s_lcmp 142 C X d7_141 ?_
      refine s_if_ge 147 145 C X d7_142 (fun c142_183 => ?_) (fun c142_183 => ?_)
      · have t_c142_183 : ¬ ((y175).toInt < (0 : Int)) := fun q => c142_183 (cl_lt.mpr q)
        refine s_iinc 150 C X (l' := #[rv o1, iv i3, iv i0, rv o3, iv i3, lv y67, .second, y171, y172]) d7_147 kc_iconst_1 rfl rfl ?_
        refine s_goto 124 C X d7_150 ?_
        refine s_iload 126 C X d7_124 rfl ?_
        refine s_iloadN 127 C X d7_126 rfl ?_
        refine s_icmp_ge 153 130 C X d7_127 (fun _ => ?_) (fun c => absurd c (by decide))
        refine s_iinc 156 C X (l' := #[rv o1, iv i3, iv i1, rv o3, iv i3, lv y67, .second, y171, y172]) d7_153 kc_iconst_1 rfl rfl ?_
        refine s_goto 8 C X d7_156 ?_
        refine s_iloadN 9 C X d7_8 rfl ?_
        refine s_iloadN 10 C X d7_9 rfl ?_
        refine s_icmp_ge 159 13 C X d7_10 (fun c => absurd (by decide : i1 < i3) c) (fun _ => ?_)
        refine s_aloadN 14 C X d7_13 rfl rfl ?_
        refine s_getfield 17 C X (host := "") d7_14 (Or.inl (mW 12 rfl)) Via.refl F_o1_most (fun T X => ?_)
        refine s_iloadN 18 C X d7_17 rfl ?_
        refine s_aaload 19 C X d7_18 A_o2 rfl ⟨by decide, by decide⟩ (v := (.ref o4)) rfl ?_
        refine s_astoreN 20 C X (l' := #[rv o1, iv i3, iv i1, rv o4, iv i3, lv y67, .second, y171, y172]) d7_19 rfl rfl ?_
        refine s_iconst 21 C X d7_20 kc_iconst_0 ?_
        refine s_istore 23 C X (l' := #[rv o1, iv i3, iv i1, rv o4, iv i0, lv y67, .second, y171, y172]) d7_21 rfl ?_
        refine s_iload 25 C X d7_23 rfl ?_
        refine s_iloadN 26 C X d7_25 rfl ?_
        refine s_icmp_ge 121 29 C X d7_26 (fun c => absurd (by decide : i0 < i3) c) (fun _ => ?_)
        refine s_aloadN 30 C X d7_29 rfl rfl ?_
        refine s_getfield 33 C X (host := "") d7_30 (Or.inl (mW 12 rfl)) Via.refl F_o1_most (fun T X => ?_)
        refine s_iload 35 C X d7_33 rfl ?_
        refine s_aaload 36 C X d7_35 A_o2 rfl ⟨by decide, by decide⟩ (v := (.ref o3)) rfl ?_
        refine s_iloadN 37 C X d7_36 rfl ?_
        refine s_laload 38 C X d7_37 A_o3 ⟨by decide, by decide⟩ (v := (.long y118)) rfl ?_
        suffices JS : Run p e below n0 Q' G' m T 40 #[rv o1, iv i3, iv i1, rv o4, iv i0, lv y118, .second, y171, y172] [] by
          rcases hS176 with ⟨rfl, rfl⟩ | ⟨rfl, rfl⟩ <;> rcases hS148 with ⟨rfl, rfl⟩ | ⟨rfl, rfl⟩ <;> rcases hS120 with ⟨rfl, rfl⟩ | ⟨rfl, rfl⟩ <;> exact s_lstore 40 C X d7_38 rfl JS
        refine s_lload 42 C X d7_40 rfl ?_
        refine s_ldc2Long 45 C X d7_42 (mW 14 rfl) ?_
        refine s_lcmp 46 C X d7_45 ?_
        suffices J213 : ∀ (T : State) (hh : Heap) (y210 : Int64) (y211 : Int64) (y212 : Int64) (y208 : Slot) (y209 : Slot) (D213 : (∃ (y192 : Int64) (y198 : Int64) (y204 : Int64), (¬ ((y118).toInt = (2305843009213693951 : Int))) ∧ own_D y118 y145 y117 y192 ∧ own_D y118 y146 y118 y198 ∧ own_D y118 y147 y119 y204 ∧ y210 = y192 ∧ y211 = y198 ∧ y212 = y204) ∨ (((y118).toInt = (2305843009213693951 : Int)) ∧ y210 = y117 ∧ y211 = y118 ∧ y212 = y119)) (hS213 : (y208 = rv o3 ∧ y209 = iv i3) ∨ (y208 = y171 ∧ y209 = y172)) (X : St p l e ({ frames := 0, cells := 0, slots := 0, locals := 0 } : Room) s m #[(.ref o1)] below meth c n0 T hh 0 0) (F_o1_most : Fld Z hh o1 "com/example/dayweave/dayweave/solve/TemporalNetwork" "most" "[[J" (.ref o2)) (A_o2 : Arv Z hh o2 k_o2 (.array .long) i3 [(.ref o3), (.ref o4), (.ref o5)] .null) (A_o3 : Arv Z hh o3 k_o3 .long i3 [(.long y210), (.long y211), (.long y212)] (.long j0)) (A_o4 : Arv Z hh o4 k_o3 .long i3 [(.long y145), (.long y146), (.long y147)] (.long j0)) (A_o5 : Arv Z hh o5 k_o3 .long i3 [(.long y173), (.long y174), (.long y175)] (.long j0)) (Kp : Keep h0 hh [o3, o4, o5]), Run p e below n0 Q' G' m T 115 #[rv o1, iv i3, iv i1, rv o4, iv i0, lv y118, .second, y208, y209] [] by
          refine s_if_ne 52 49 C X d7_46 (fun c46_187 => ?_) (fun c46_187 => ?_)
          · have t_c46_187 : ¬ ((y118).toInt = (2305843009213693951 : Int)) := fun q => c46_187 (cl_eq.mpr q)
            refine s_aloadN 53 C X d7_52 rfl rfl ?_
            refine s_getfield 56 C X (host := "") d7_53 (Or.inl (mW 12 rfl)) Via.refl F_o1_most (fun T X => ?_)
            refine s_iload 58 C X d7_56 rfl ?_
            refine s_aaload 59 C X d7_58 A_o2 rfl ⟨by decide, by decide⟩ (v := (.ref o3)) rfl ?_
            suffices JS : Run p e below n0 Q' G' m T 61 #[rv o1, iv i3, iv i1, rv o4, iv i0, lv y118, .second, rv o3, y172] [] by
              rcases hS176 with ⟨rfl, rfl⟩ | ⟨rfl, rfl⟩ <;> rcases hS148 with ⟨rfl, rfl⟩ | ⟨rfl, rfl⟩ <;> rcases hS120 with ⟨rfl, rfl⟩ | ⟨rfl, rfl⟩ <;> exact s_astore 61 C X d7_59 rfl rfl JS
            refine s_iconst 62 C X d7_61 kc_iconst_0 ?_
            suffices JS : Run p e below n0 Q' G' m T 64 #[rv o1, iv i3, iv i1, rv o4, iv i0, lv y118, .second, rv o3, iv i0] [] by
              rcases hS176 with ⟨rfl, rfl⟩ | ⟨rfl, rfl⟩ <;> rcases hS148 with ⟨rfl, rfl⟩ | ⟨rfl, rfl⟩ <;> rcases hS120 with ⟨rfl, rfl⟩ | ⟨rfl, rfl⟩ <;> exact s_istore 64 C X d7_62 rfl JS
            refine s_iload 66 C X d7_64 rfl ?_
            refine s_iloadN 67 C X d7_66 rfl ?_
            refine s_icmp_ge 115 70 C X d7_67 (fun c => absurd (by decide : i0 < i3) c) (fun _ => ?_)
            refine s_aloadN 71 C X d7_70 rfl rfl ?_
            refine s_iload 73 C X d7_71 rfl ?_
            refine s_laload 74 C X d7_73 A_o4 ⟨by decide, by decide⟩ (v := (.long y145)) rfl ?_
            refine s_ldc2Long 77 C X d7_74 (mW 14 rfl) ?_
            refine s_lcmp 78 C X d7_77 ?_
            suffices J193 : ∀ (T : State) (hh : Heap) (y192 : Int64) (D193 : (((y145).toInt = (2305843009213693951 : Int)) ∧ y192 = y117) ∨ ((¬ ((y145).toInt = (2305843009213693951 : Int))) ∧ (¬ (((y118 + y145)).toInt < (y117).toInt)) ∧ y192 = y117) ∨ ((¬ ((y145).toInt = (2305843009213693951 : Int))) ∧ (((y118 + y145)).toInt < (y117).toInt) ∧ y192 = (y118 + y145))) (X : St p l e ({ frames := 0, cells := 0, slots := 0, locals := 0 } : Room) s m #[(.ref o1)] below meth c n0 T hh 0 0) (F_o1_most : Fld Z hh o1 "com/example/dayweave/dayweave/solve/TemporalNetwork" "most" "[[J" (.ref o2)) (A_o2 : Arv Z hh o2 k_o2 (.array .long) i3 [(.ref o3), (.ref o4), (.ref o5)] .null) (A_o3 : Arv Z hh o3 k_o3 .long i3 [(.long y192), (.long y118), (.long y119)] (.long j0)) (A_o4 : Arv Z hh o4 k_o3 .long i3 [(.long y145), (.long y146), (.long y147)] (.long j0)) (A_o5 : Arv Z hh o5 k_o3 .long i3 [(.long y173), (.long y174), (.long y175)] (.long j0)) (Kp : Keep h0 hh [o3, o4, o5]), Run p e below n0 Q' G' m T 109 #[rv o1, iv i3, iv i1, rv o4, iv i0, lv y118, .second, rv o3, iv i0] [] by
              refine s_if_eq 109 81 C X d7_78 (fun c78_189 => ?_) (fun c78_189 => ?_)
              · have t_c78_189 : (y145).toInt = (2305843009213693951 : Int) := cl_eq.mp c78_189
                exact J193 T _ (y117) ((Or.inl ⟨t_c78_189, rfl⟩)) X F_o1_most A_o2 A_o3 A_o4 A_o5 Kp
              have t_c78_189 : ¬ ((y145).toInt = (2305843009213693951 : Int)) := fun q => c78_189 (cl_eq.mpr q)
              refine s_lload 83 C X d7_81 rfl ?_
              refine s_aloadN 84 C X d7_83 rfl rfl ?_
              refine s_iload 86 C X d7_84 rfl ?_
              refine s_laload 87 C X d7_86 A_o4 ⟨by decide, by decide⟩ (v := (.long y145)) rfl ?_
              refine s_ladd 88 C X d7_87 ?_
              refine s_aload 90 C X d7_88 rfl rfl ?_
              refine s_iload 92 C X d7_90 rfl ?_
              refine s_laload 93 C X d7_92 A_o3 ⟨by decide, by decide⟩ (v := (.long y117)) rfl ?_
              refine s_lcmp 94 C X d7_93 ?_
              refine s_if_ge 109 97 C X d7_94 (fun c94_190 => ?_) (fun c94_190 => ?_)
              · have t_c94_190 : ¬ (((y118 + y145)).toInt < (y117).toInt) := fun q => c94_190 (cl_lt.mpr q)
                exact J193 T _ (y117) (Or.inr (Or.inl ⟨t_c78_189, t_c94_190, rfl⟩)) X F_o1_most A_o2 A_o3 A_o4 A_o5 Kp
              have t_c94_190 : ((y118 + y145)).toInt < (y117).toInt := cl_lt.mp c94_190
              refine s_aload 99 C X d7_97 rfl rfl ?_
              refine s_iload 101 C X d7_99 rfl ?_
              refine s_lload 103 C X d7_101 rfl ?_
              refine s_aloadN 104 C X d7_103 rfl rfl ?_
              refine s_iload 106 C X d7_104 rfl ?_
              refine s_laload 107 C X d7_106 A_o4 ⟨by decide, by decide⟩ (v := (.long y145)) rfl ?_
              refine s_ladd 108 C X d7_107 ?_
              refine s_lastore 109 0 C X d7_108 A_o3 g_o3 ⟨by decide, by decide⟩ rfl (Nat.le_of_ble_eq_true rfl) (fun T hh X W A_o3 => ?_)
              have A_o3 : Arv Z _ o3 k_o3 .long i3 [(.long (y118 + y145)), (.long y118), (.long y119)] (.long j0) := A_o3
              have F_o1_most := F_o1_most.other W (Or.inl ne_o1_o3)
              have A_o2 := A_o2.other W ne_o2_o3
              have A_o4 := A_o4.other W (Ne.symm ne_o3_o4)
              have A_o5 := A_o5.other W (Ne.symm ne_o3_o5)
              have Kp := Kp.wr W (Or.inl (by simp))
              exact J193 T _ ((y118 + y145)) (Or.inr (Or.inr ⟨t_c78_189, t_c94_190, rfl⟩)) X F_o1_most A_o2 A_o3 A_o4 A_o5 Kp
            intro T hh y192 D193  X F_o1_most A_o2 A_o3 A_o4 A_o5 Kp
            have d_y192 : own_D y118 y145 y117 y192 := D193
            refine s_iinc 112 C X (l' := #[rv o1, iv i3, iv i1, rv o4, iv i0, lv y118, .second, rv o3, iv i1]) d7_109 kc_iconst_1 rfl rfl ?_
            refine s_goto 64 C X d7_112 ?_
            refine s_iload 66 C X d7_64 rfl ?_
            refine s_iloadN 67 C X d7_66 rfl ?_
            refine s_icmp_ge 115 70 C X d7_67 (fun c => absurd (by decide : i1 < i3) c) (fun _ => ?_)
            refine s_aloadN 71 C X d7_70 rfl rfl ?_
            refine s_iload 73 C X d7_71 rfl ?_
            refine s_laload 74 C X d7_73 A_o4 ⟨by decide, by decide⟩ (v := (.long y146)) rfl ?_
            refine s_ldc2Long 77 C X d7_74 (mW 14 rfl) ?_
            refine s_lcmp 78 C X d7_77 ?_
            suffices J199 : ∀ (T : State) (hh : Heap) (y198 : Int64) (D199 : (((y146).toInt = (2305843009213693951 : Int)) ∧ y198 = y118) ∨ ((¬ ((y146).toInt = (2305843009213693951 : Int))) ∧ (¬ (((y118 + y146)).toInt < (y118).toInt)) ∧ y198 = y118) ∨ ((¬ ((y146).toInt = (2305843009213693951 : Int))) ∧ (((y118 + y146)).toInt < (y118).toInt) ∧ y198 = (y118 + y146))) (X : St p l e ({ frames := 0, cells := 0, slots := 0, locals := 0 } : Room) s m #[(.ref o1)] below meth c n0 T hh 0 0) (F_o1_most : Fld Z hh o1 "com/example/dayweave/dayweave/solve/TemporalNetwork" "most" "[[J" (.ref o2)) (A_o2 : Arv Z hh o2 k_o2 (.array .long) i3 [(.ref o3), (.ref o4), (.ref o5)] .null) (A_o3 : Arv Z hh o3 k_o3 .long i3 [(.long y192), (.long y198), (.long y119)] (.long j0)) (A_o4 : Arv Z hh o4 k_o3 .long i3 [(.long y145), (.long y146), (.long y147)] (.long j0)) (A_o5 : Arv Z hh o5 k_o3 .long i3 [(.long y173), (.long y174), (.long y175)] (.long j0)) (Kp : Keep h0 hh [o3, o4, o5]), Run p e below n0 Q' G' m T 109 #[rv o1, iv i3, iv i1, rv o4, iv i0, lv y118, .second, rv o3, iv i1] [] by
              refine s_if_eq 109 81 C X d7_78 (fun c78_195 => ?_) (fun c78_195 => ?_)
              · have t_c78_195 : (y146).toInt = (2305843009213693951 : Int) := cl_eq.mp c78_195
                exact J199 T _ (y118) ((Or.inl ⟨t_c78_195, rfl⟩)) X F_o1_most A_o2 A_o3 A_o4 A_o5 Kp
              have t_c78_195 : ¬ ((y146).toInt = (2305843009213693951 : Int)) := fun q => c78_195 (cl_eq.mpr q)
              refine s_lload 83 C X d7_81 rfl ?_
              refine s_aloadN 84 C X d7_83 rfl rfl ?_
              refine s_iload 86 C X d7_84 rfl ?_
              refine s_laload 87 C X d7_86 A_o4 ⟨by decide, by decide⟩ (v := (.long y146)) rfl ?_
              refine s_ladd 88 C X d7_87 ?_
              refine s_aload 90 C X d7_88 rfl rfl ?_
              refine s_iload 92 C X d7_90 rfl ?_
              refine s_laload 93 C X d7_92 A_o3 ⟨by decide, by decide⟩ (v := (.long y118)) rfl ?_
              refine s_lcmp 94 C X d7_93 ?_
              refine s_if_ge 109 97 C X d7_94 (fun c94_196 => ?_) (fun c94_196 => ?_)
              · have t_c94_196 : ¬ (((y118 + y146)).toInt < (y118).toInt) := fun q => c94_196 (cl_lt.mpr q)
                exact J199 T _ (y118) (Or.inr (Or.inl ⟨t_c78_195, t_c94_196, rfl⟩)) X F_o1_most A_o2 A_o3 A_o4 A_o5 Kp
              have t_c94_196 : ((y118 + y146)).toInt < (y118).toInt := cl_lt.mp c94_196
              refine s_aload 99 C X d7_97 rfl rfl ?_
              refine s_iload 101 C X d7_99 rfl ?_
              refine s_lload 103 C X d7_101 rfl ?_
              refine s_aloadN 104 C X d7_103 rfl rfl ?_
              refine s_iload 106 C X d7_104 rfl ?_
              refine s_laload 107 C X d7_106 A_o4 ⟨by decide, by decide⟩ (v := (.long y146)) rfl ?_
              refine s_ladd 108 C X d7_107 ?_
              refine s_lastore 109 1 C X d7_108 A_o3 g_o3 ⟨by decide, by decide⟩ rfl (Nat.le_of_ble_eq_true rfl) (fun T hh X W A_o3 => ?_)
              have A_o3 : Arv Z _ o3 k_o3 .long i3 [(.long y192), (.long (y118 + y146)), (.long y119)] (.long j0) := A_o3
              have F_o1_most := F_o1_most.other W (Or.inl ne_o1_o3)
              have A_o2 := A_o2.other W ne_o2_o3
              have A_o4 := A_o4.other W (Ne.symm ne_o3_o4)
              have A_o5 := A_o5.other W (Ne.symm ne_o3_o5)
              have Kp := Kp.wr W (Or.inl (by simp))
              exact J199 T _ ((y118 + y146)) (Or.inr (Or.inr ⟨t_c78_195, t_c94_196, rfl⟩)) X F_o1_most A_o2 A_o3 A_o4 A_o5 Kp
            intro T hh y198 D199  X F_o1_most A_o2 A_o3 A_o4 A_o5 Kp
            have d_y198 : own_D y118 y146 y118 y198 := D199
            refine s_iinc 112 C X (l' := #[rv o1, iv i3, iv i1, rv o4, iv i0, lv y118, .second, rv o3, iv i2]) d7_109 kc_iconst_1 rfl rfl ?_
            refine s_goto 64 C X d7_112 ?_
            refine s_iload 66 C X d7_64 rfl ?_
            refine s_iloadN 67 C X d7_66 rfl ?_
            refine s_icmp_ge 115 70 C X d7_67 (fun c => absurd (by decide : i2 < i3) c) (fun _ => ?_)
            refine s_aloadN 71 C X d7_70 rfl rfl ?_
            refine s_iload 73 C X d7_71 rfl ?_
            refine s_laload 74 C X d7_73 A_o4 ⟨by decide, by decide⟩ (v := (.long y147)) rfl ?_
            refine s_ldc2Long 77 C X d7_74 (mW 14 rfl) ?_
            refine s_lcmp 78 C X d7_77 ?_
            suffices J205 : ∀ (T : State) (hh : Heap) (y204 : Int64) (D205 : (((y147).toInt = (2305843009213693951 : Int)) ∧ y204 = y119) ∨ ((¬ ((y147).toInt = (2305843009213693951 : Int))) ∧ (¬ (((y118 + y147)).toInt < (y119).toInt)) ∧ y204 = y119) ∨ ((¬ ((y147).toInt = (2305843009213693951 : Int))) ∧ (((y118 + y147)).toInt < (y119).toInt) ∧ y204 = (y118 + y147))) (X : St p l e ({ frames := 0, cells := 0, slots := 0, locals := 0 } : Room) s m #[(.ref o1)] below meth c n0 T hh 0 0) (F_o1_most : Fld Z hh o1 "com/example/dayweave/dayweave/solve/TemporalNetwork" "most" "[[J" (.ref o2)) (A_o2 : Arv Z hh o2 k_o2 (.array .long) i3 [(.ref o3), (.ref o4), (.ref o5)] .null) (A_o3 : Arv Z hh o3 k_o3 .long i3 [(.long y192), (.long y198), (.long y204)] (.long j0)) (A_o4 : Arv Z hh o4 k_o3 .long i3 [(.long y145), (.long y146), (.long y147)] (.long j0)) (A_o5 : Arv Z hh o5 k_o3 .long i3 [(.long y173), (.long y174), (.long y175)] (.long j0)) (Kp : Keep h0 hh [o3, o4, o5]), Run p e below n0 Q' G' m T 109 #[rv o1, iv i3, iv i1, rv o4, iv i0, lv y118, .second, rv o3, iv i2] [] by
              refine s_if_eq 109 81 C X d7_78 (fun c78_201 => ?_) (fun c78_201 => ?_)
              · have t_c78_201 : (y147).toInt = (2305843009213693951 : Int) := cl_eq.mp c78_201
                exact J205 T _ (y119) ((Or.inl ⟨t_c78_201, rfl⟩)) X F_o1_most A_o2 A_o3 A_o4 A_o5 Kp
              have t_c78_201 : ¬ ((y147).toInt = (2305843009213693951 : Int)) := fun q => c78_201 (cl_eq.mpr q)
              refine s_lload 83 C X d7_81 rfl ?_
              refine s_aloadN 84 C X d7_83 rfl rfl ?_
              refine s_iload 86 C X d7_84 rfl ?_
              refine s_laload 87 C X d7_86 A_o4 ⟨by decide, by decide⟩ (v := (.long y147)) rfl ?_
              refine s_ladd 88 C X d7_87 ?_
              refine s_aload 90 C X d7_88 rfl rfl ?_
              refine s_iload 92 C X d7_90 rfl ?_
              refine s_laload 93 C X d7_92 A_o3 ⟨by decide, by decide⟩ (v := (.long y119)) rfl ?_
              refine s_lcmp 94 C X d7_93 ?_
              refine s_if_ge 109 97 C X d7_94 (fun c94_202 => ?_) (fun c94_202 => ?_)
              · have t_c94_202 : ¬ (((y118 + y147)).toInt < (y119).toInt) := fun q => c94_202 (cl_lt.mpr q)
                exact J205 T _ (y119) (Or.inr (Or.inl ⟨t_c78_201, t_c94_202, rfl⟩)) X F_o1_most A_o2 A_o3 A_o4 A_o5 Kp
              have t_c94_202 : ((y118 + y147)).toInt < (y119).toInt := cl_lt.mp c94_202
              refine s_aload 99 C X d7_97 rfl rfl ?_
              refine s_iload 101 C X d7_99 rfl ?_
              refine s_lload 103 C X d7_101 rfl ?_
              refine s_aloadN 104 C X d7_103 rfl rfl ?_
              refine s_iload 106 C X d7_104 rfl ?_
              refine s_laload 107 C X d7_106 A_o4 ⟨by decide, by decide⟩ (v := (.long y147)) rfl ?_
              refine s_ladd 108 C X d7_107 ?_
              refine s_lastore 109 2 C X d7_108 A_o3 g_o3 ⟨by decide, by decide⟩ rfl (Nat.le_of_ble_eq_true rfl) (fun T hh X W A_o3 => ?_)
              have A_o3 : Arv Z _ o3 k_o3 .long i3 [(.long y192), (.long y198), (.long (y118 + y147))] (.long j0) := A_o3
              have F_o1_most := F_o1_most.other W (Or.inl ne_o1_o3)
              have A_o2 := A_o2.other W ne_o2_o3
              have A_o4 := A_o4.other W (Ne.symm ne_o3_o4)
              have A_o5 := A_o5.other W (Ne.symm ne_o3_o5)
              have Kp := Kp.wr W (Or.inl (by simp))
              exact J205 T _ ((y118 + y147)) (Or.inr (Or.inr ⟨t_c78_201, t_c94_202, rfl⟩)) X F_o1_most A_o2 A_o3 A_o4 A_o5 Kp
            intro T hh y204 D205  X F_o1_most A_o2 A_o3 A_o4 A_o5 Kp
            have d_y204 : own_D y118 y147 y119 y204 := D205
            refine s_iinc 112 C X (l' := #[rv o1, iv i3, iv i1, rv o4, iv i0, lv y118, .second, rv o3, iv i3]) d7_109 kc_iconst_1 rfl rfl ?_
            refine s_goto 64 C X d7_112 ?_
            refine s_iload 66 C X d7_64 rfl ?_
            refine s_iloadN 67 C X d7_66 rfl ?_
            refine s_icmp_ge 115 70 C X d7_67 (fun _ => ?_) (fun c => absurd c (by decide))
            exact J213 T _ (y192) (y198) (y204) (rv o3) (iv i3) ((Or.inl ⟨y192, y198, y204, t_c46_187, d_y192, d_y198, d_y204, rfl, rfl, rfl⟩)) (Or.inl ⟨rfl, rfl⟩) X F_o1_most A_o2 A_o3 A_o4 A_o5 Kp
          have t_c46_187 : (y118).toInt = (2305843009213693951 : Int) := cl_eq.mp c46_187
          refine s_goto 115 C X d7_49 ?_
          exact J213 T _ (y117) (y118) (y119) (y171) (y172) (Or.inr ⟨t_c46_187, rfl, rfl, rfl⟩) (Or.inr ⟨rfl, rfl⟩) X F_o1_most A_o2 A_o3 A_o4 A_o5 Kp
        intro T hh y210 y211 y212 y208 y209 D213 hS213 X F_o1_most A_o2 A_o3 A_o4 A_o5 Kp
        obtain ⟨e_y210, e_y211, e_y212⟩ : own_E y118 y145 y117 y210 ∧ own_E y118 y146 y118 y211 ∧ own_E y118 y147 y119 y212 := by
          rcases D213 with ⟨_, _, _, t, d0, d1, d2, q0, q1, q2⟩ | ⟨t, q0, q1, q2⟩
          · rw [q0, q1, q2]; exact ⟨Or.inr ⟨t, d0⟩, Or.inr ⟨t, d1⟩, Or.inr ⟨t, d2⟩⟩
          · exact ⟨Or.inl ⟨t, q0⟩, Or.inl ⟨t, q1⟩, Or.inl ⟨t, q2⟩⟩
        refine s_iinc 118 C X (l' := #[rv o1, iv i3, iv i1, rv o4, iv i1, lv y118, .second, y208, y209]) d7_115 kc_iconst_1 rfl rfl ?_
        refine s_goto 23 C X d7_118 ?_
        refine s_iload 25 C X d7_23 rfl ?_
        refine s_iloadN 26 C X d7_25 rfl ?_
        refine s_icmp_ge 121 29 C X d7_26 (fun c => absurd (by decide : i1 < i3) c) (fun _ => ?_)
        refine s_aloadN 30 C X d7_29 rfl rfl ?_
        refine s_getfield 33 C X (host := "") d7_30 (Or.inl (mW 12 rfl)) Via.refl F_o1_most (fun T X => ?_)
        refine s_iload 35 C X d7_33 rfl ?_
        refine s_aaload 36 C X d7_35 A_o2 rfl ⟨by decide, by decide⟩ (v := (.ref o4)) rfl ?_
        refine s_iloadN 37 C X d7_36 rfl ?_
        refine s_laload 38 C X d7_37 A_o4 ⟨by decide, by decide⟩ (v := (.long y146)) rfl ?_
        suffices JS : Run p e below n0 Q' G' m T 40 #[rv o1, iv i3, iv i1, rv o4, iv i1, lv y146, .second, y208, y209] [] by
          rcases hS213 with ⟨rfl, rfl⟩ | ⟨rfl, rfl⟩ <;> rcases hS176 with ⟨rfl, rfl⟩ | ⟨rfl, rfl⟩ <;> rcases hS148 with ⟨rfl, rfl⟩ | ⟨rfl, rfl⟩ <;> rcases hS120 with ⟨rfl, rfl⟩ | ⟨rfl, rfl⟩ <;> exact s_lstore 40 C X d7_38 rfl JS
        refine s_lload 42 C X d7_40 rfl ?_
        refine s_ldc2Long 45 C X d7_42 (mW 14 rfl) ?_
        refine s_lcmp 46 C X d7_45 ?_
        suffices J241 : ∀ (T : State) (hh : Heap) (y238 : Int64) (y239 : Int64) (y240 : Int64) (y236 : Slot) (y237 : Slot) (D241 : (∃ (y220 : Int64) (y226 : Int64) (y232 : Int64), (¬ ((y146).toInt = (2305843009213693951 : Int))) ∧ own_D y146 y145 y145 y220 ∧ own_D y146 y146 y146 y226 ∧ own_D y146 y147 y147 y232 ∧ y238 = y220 ∧ y239 = y226 ∧ y240 = y232) ∨ (((y146).toInt = (2305843009213693951 : Int)) ∧ y238 = y145 ∧ y239 = y146 ∧ y240 = y147)) (hS241 : (y236 = rv o4 ∧ y237 = iv i3) ∨ (y236 = y208 ∧ y237 = y209)) (X : St p l e ({ frames := 0, cells := 0, slots := 0, locals := 0 } : Room) s m #[(.ref o1)] below meth c n0 T hh 0 0) (F_o1_most : Fld Z hh o1 "com/example/dayweave/dayweave/solve/TemporalNetwork" "most" "[[J" (.ref o2)) (A_o2 : Arv Z hh o2 k_o2 (.array .long) i3 [(.ref o3), (.ref o4), (.ref o5)] .null) (A_o3 : Arv Z hh o3 k_o3 .long i3 [(.long y210), (.long y211), (.long y212)] (.long j0)) (A_o4 : Arv Z hh o4 k_o3 .long i3 [(.long y238), (.long y239), (.long y240)] (.long j0)) (A_o5 : Arv Z hh o5 k_o3 .long i3 [(.long y173), (.long y174), (.long y175)] (.long j0)) (Kp : Keep h0 hh [o3, o4, o5]), Run p e below n0 Q' G' m T 115 #[rv o1, iv i3, iv i1, rv o4, iv i1, lv y146, .second, y236, y237] [] by
          refine s_if_ne 52 49 C X d7_46 (fun c46_215 => ?_) (fun c46_215 => ?_)
          · have t_c46_215 : ¬ ((y146).toInt = (2305843009213693951 : Int)) := fun q => c46_215 (cl_eq.mpr q)
            refine s_aloadN 53 C X d7_52 rfl rfl ?_
            refine s_getfield 56 C X (host := "") d7_53 (Or.inl (mW 12 rfl)) Via.refl F_o1_most (fun T X => ?_)
            refine s_iload 58 C X d7_56 rfl ?_
            refine s_aaload 59 C X d7_58 A_o2 rfl ⟨by decide, by decide⟩ (v := (.ref o4)) rfl ?_
            suffices JS : Run p e below n0 Q' G' m T 61 #[rv o1, iv i3, iv i1, rv o4, iv i1, lv y146, .second, rv o4, y209] [] by
              rcases hS213 with ⟨rfl, rfl⟩ | ⟨rfl, rfl⟩ <;> rcases hS176 with ⟨rfl, rfl⟩ | ⟨rfl, rfl⟩ <;> rcases hS148 with ⟨rfl, rfl⟩ | ⟨rfl, rfl⟩ <;> rcases hS120 with ⟨rfl, rfl⟩ | ⟨rfl, rfl⟩ <;> exact s_astore 61 C X d7_59 rfl rfl JS
            refine s_iconst 62 C X d7_61 kc_iconst_0 ?_
            suffices JS : Run p e below n0 Q' G' m T 64 #[rv o1, iv i3, iv i1, rv o4, iv i1, lv y146, .second, rv o4, iv i0] [] by
              rcases hS213 with ⟨rfl, rfl⟩ | ⟨rfl, rfl⟩ <;> rcases hS176 with ⟨rfl, rfl⟩ | ⟨rfl, rfl⟩ <;> rcases hS148 with ⟨rfl, rfl⟩ | ⟨rfl, rfl⟩ <;> rcases hS120 with ⟨rfl, rfl⟩ | ⟨rfl, rfl⟩ <;> exact s_istore 64 C X d7_62 rfl JS
            refine s_iload 66 C X d7_64 rfl ?_
            refine s_iloadN 67 C X d7_66 rfl ?_
            refine s_icmp_ge 115 70 C X d7_67 (fun c => absurd (by decide : i0 < i3) c) (fun _ => ?_)
            refine s_aloadN 71 C X d7_70 rfl rfl ?_
            refine s_iload 73 C X d7_71 rfl ?_
            refine s_laload 74 C X d7_73 A_o4 ⟨by decide, by decide⟩ (v := (.long y145)) rfl ?_
            refine s_ldc2Long 77 C X d7_74 (mW 14 rfl) ?_
            refine s_lcmp 78 C X d7_77 ?_
            suffices J221 : ∀ (T : State) (hh : Heap) (y220 : Int64) (D221 : (((y145).toInt = (2305843009213693951 : Int)) ∧ y220 = y145) ∨ ((¬ ((y145).toInt = (2305843009213693951 : Int))) ∧ (¬ (((y146 + y145)).toInt < (y145).toInt)) ∧ y220 = y145) ∨ ((¬ ((y145).toInt = (2305843009213693951 : Int))) ∧ (((y146 + y145)).toInt < (y145).toInt) ∧ y220 = (y146 + y145))) (X : St p l e ({ frames := 0, cells := 0, slots := 0, locals := 0 } : Room) s m #[(.ref o1)] below meth c n0 T hh 0 0) (F_o1_most : Fld Z hh o1 "com/example/dayweave/dayweave/solve/TemporalNetwork" "most" "[[J" (.ref o2)) (A_o2 : Arv Z hh o2 k_o2 (.array .long) i3 [(.ref o3), (.ref o4), (.ref o5)] .null) (A_o3 : Arv Z hh o3 k_o3 .long i3 [(.long y210), (.long y211), (.long y212)] (.long j0)) (A_o4 : Arv Z hh o4 k_o3 .long i3 [(.long y220), (.long y146), (.long y147)] (.long j0)) (A_o5 : Arv Z hh o5 k_o3 .long i3 [(.long y173), (.long y174), (.long y175)] (.long j0)) (Kp : Keep h0 hh [o3, o4, o5]), Run p e below n0 Q' G' m T 109 #[rv o1, iv i3, iv i1, rv o4, iv i1, lv y146, .second, rv o4, iv i0] [] by
              refine s_if_eq 109 81 C X d7_78 (fun c78_217 => ?_) (fun c78_217 => ?_)
              · have t_c78_217 : (y145).toInt = (2305843009213693951 : Int) := cl_eq.mp c78_217
                exact J221 T _ (y145) ((Or.inl ⟨t_c78_217, rfl⟩)) X F_o1_most A_o2 A_o3 A_o4 A_o5 Kp
              have t_c78_217 : ¬ ((y145).toInt = (2305843009213693951 : Int)) := fun q => c78_217 (cl_eq.mpr q)
              refine s_lload 83 C X d7_81 rfl ?_
              refine s_aloadN 84 C X d7_83 rfl rfl ?_
              refine s_iload 86 C X d7_84 rfl ?_
              refine s_laload 87 C X d7_86 A_o4 ⟨by decide, by decide⟩ (v := (.long y145)) rfl ?_
              refine s_ladd 88 C X d7_87 ?_
              refine s_aload 90 C X d7_88 rfl rfl ?_
              refine s_iload 92 C X d7_90 rfl ?_
              refine s_laload 93 C X d7_92 A_o4 ⟨by decide, by decide⟩ (v := (.long y145)) rfl ?_
              refine s_lcmp 94 C X d7_93 ?_
              refine s_if_ge 109 97 C X d7_94 (fun c94_218 => ?_) (fun c94_218 => ?_)
              · have t_c94_218 : ¬ (((y146 + y145)).toInt < (y145).toInt) := fun q => c94_218 (cl_lt.mpr q)
                exact J221 T _ (y145) (Or.inr (Or.inl ⟨t_c78_217, t_c94_218, rfl⟩)) X F_o1_most A_o2 A_o3 A_o4 A_o5 Kp
              have t_c94_218 : ((y146 + y145)).toInt < (y145).toInt := cl_lt.mp c94_218
              refine s_aload 99 C X d7_97 rfl rfl ?_
              refine s_iload 101 C X d7_99 rfl ?_
              refine s_lload 103 C X d7_101 rfl ?_
              refine s_aloadN 104 C X d7_103 rfl rfl ?_
              refine s_iload 106 C X d7_104 rfl ?_
              refine s_laload 107 C X d7_106 A_o4 ⟨by decide, by decide⟩ (v := (.long y145)) rfl ?_
              refine s_ladd 108 C X d7_107 ?_
              refine s_lastore 109 0 C X d7_108 A_o4 g_o4 ⟨by decide, by decide⟩ rfl (Nat.le_of_ble_eq_true rfl) (fun T hh X W A_o4 => ?_)
              have A_o4 : Arv Z _ o4 k_o3 .long i3 [(.long (y146 + y145)), (.long y146), (.long y147)] (.long j0) := A_o4
              have F_o1_most := F_o1_most.other W (Or.inl ne_o1_o4)
              have A_o2 := A_o2.other W ne_o2_o4
              have A_o3 := A_o3.other W ne_o3_o4
              have A_o5 := A_o5.other W (Ne.symm ne_o4_o5)
              have Kp := Kp.wr W (Or.inl (by simp))
              exact J221 T _ ((y146 + y145)) (Or.inr (Or.inr ⟨t_c78_217, t_c94_218, rfl⟩)) X F_o1_most A_o2 A_o3 A_o4 A_o5 Kp
            intro T hh y220 D221  X F_o1_most A_o2 A_o3 A_o4 A_o5 Kp
            have d_y220 : own_D y146 y145 y145 y220 := D221
            refine s_iinc 112 C X (l' := #[rv o1, iv i3, iv i1, rv o4, iv i1, lv y146, .second, rv o4, iv i1]) d7_109 kc_iconst_1 rfl rfl ?_
            refine s_goto 64 C X d7_112 ?_
            refine s_iload 66 C X d7_64 rfl ?_
            refine s_iloadN 67 C X d7_66 rfl ?_
            refine s_icmp_ge 115 70 C X d7_67 (fun c => absurd (by decide : i1 < i3) c) (fun _ => ?_)
            refine s_aloadN 71 C X d7_70 rfl rfl ?_
            refine s_iload 73 C X d7_71 rfl ?_
            refine s_laload 74 C X d7_73 A_o4 ⟨by decide, by decide⟩ (v := (.long y146)) rfl ?_
            refine s_ldc2Long 77 C X d7_74 (mW 14 rfl) ?_
            refine s_lcmp 78 C X d7_77 ?_
            suffices J227 : ∀ (T : State) (hh : Heap) (y226 : Int64) (D227 : (((y146).toInt = (2305843009213693951 : Int)) ∧ y226 = y146) ∨ ((¬ ((y146).toInt = (2305843009213693951 : Int))) ∧ (¬ (((y146 + y146)).toInt < (y146).toInt)) ∧ y226 = y146) ∨ ((¬ ((y146).toInt = (2305843009213693951 : Int))) ∧ (((y146 + y146)).toInt < (y146).toInt) ∧ y226 = (y146 + y146))) (X : St p l e ({ frames := 0, cells := 0, slots := 0, locals := 0 } : Room) s m #[(.ref o1)] below meth c n0 T hh 0 0) (F_o1_most : Fld Z hh o1 "com/example/dayweave/dayweave/solve/TemporalNetwork" "most" "[[J" (.ref o2)) (A_o2 : Arv Z hh o2 k_o2 (.array .long) i3 [(.ref o3), (.ref o4), (.ref o5)] .null) (A_o3 : Arv Z hh o3 k_o3 .long i3 [(.long y210), (.long y211), (.long y212)] (.long j0)) (A_o4 : Arv Z hh o4 k_o3 .long i3 [(.long y220), (.long y226), (.long y147)] (.long j0)) (A_o5 : Arv Z hh o5 k_o3 .long i3 [(.long y173), (.long y174), (.long y175)] (.long j0)) (Kp : Keep h0 hh [o3, o4, o5]), Run p e below n0 Q' G' m T 109 #[rv o1, iv i3, iv i1, rv o4, iv i1, lv y146, .second, rv o4, iv i1] [] by
              refine s_if_eq 109 81 C X d7_78 (fun c78_223 => ?_) (fun c78_223 => ?_)
              · have t_c78_223 : (y146).toInt = (2305843009213693951 : Int) := cl_eq.mp c78_223
                exact J227 T _ (y146) ((Or.inl ⟨t_c78_223, rfl⟩)) X F_o1_most A_o2 A_o3 A_o4 A_o5 Kp
              have t_c78_223 : ¬ ((y146).toInt = (2305843009213693951 : Int)) := fun q => c78_223 (cl_eq.mpr q)
              refine s_lload 83 C X d7_81 rfl ?_
              refine s_aloadN 84 C X d7_83 rfl rfl ?_
              refine s_iload 86 C X d7_84 rfl ?_
              refine s_laload 87 C X d7_86 A_o4 ⟨by decide, by decide⟩ (v := (.long y146)) rfl ?_
              refine s_ladd 88 C X d7_87 ?_
              refine s_aload 90 C X d7_88 rfl rfl ?_
              refine s_iload 92 C X d7_90 rfl ?_
              refine s_laload 93 C X d7_92 A_o4 ⟨by decide, by decide⟩ (v := (.long y146)) rfl ?_
              refine s_lcmp 94 C X d7_93 ?_
              refine s_if_ge 109 97 C X d7_94 (fun c94_224 => ?_) (fun c94_224 => ?_)
              · have t_c94_224 : ¬ (((y146 + y146)).toInt < (y146).toInt) := fun q => c94_224 (cl_lt.mpr q)
                exact J227 T _ (y146) (Or.inr (Or.inl ⟨t_c78_223, t_c94_224, rfl⟩)) X F_o1_most A_o2 A_o3 A_o4 A_o5 Kp
              have t_c94_224 : ((y146 + y146)).toInt < (y146).toInt := cl_lt.mp c94_224
              refine s_aload 99 C X d7_97 rfl rfl ?_
              refine s_iload 101 C X d7_99 rfl ?_
              refine s_lload 103 C X d7_101 rfl ?_
              refine s_aloadN 104 C X d7_103 rfl rfl ?_
              refine s_iload 106 C X d7_104 rfl ?_
              refine s_laload 107 C X d7_106 A_o4 ⟨by decide, by decide⟩ (v := (.long y146)) rfl ?_
              refine s_ladd 108 C X d7_107 ?_
              refine s_lastore 109 1 C X d7_108 A_o4 g_o4 ⟨by decide, by decide⟩ rfl (Nat.le_of_ble_eq_true rfl) (fun T hh X W A_o4 => ?_)
              have A_o4 : Arv Z _ o4 k_o3 .long i3 [(.long y220), (.long (y146 + y146)), (.long y147)] (.long j0) := A_o4
              have F_o1_most := F_o1_most.other W (Or.inl ne_o1_o4)
              have A_o2 := A_o2.other W ne_o2_o4
              have A_o3 := A_o3.other W ne_o3_o4
              have A_o5 := A_o5.other W (Ne.symm ne_o4_o5)
              have Kp := Kp.wr W (Or.inl (by simp))
              exact J227 T _ ((y146 + y146)) (Or.inr (Or.inr ⟨t_c78_223, t_c94_224, rfl⟩)) X F_o1_most A_o2 A_o3 A_o4 A_o5 Kp
            intro T hh y226 D227  X F_o1_most A_o2 A_o3 A_o4 A_o5 Kp
            have d_y226 : own_D y146 y146 y146 y226 := D227
            refine s_iinc 112 C X (l' := #[rv o1, iv i3, iv i1, rv o4, iv i1, lv y146, .second, rv o4, iv i2]) d7_109 kc_iconst_1 rfl rfl ?_
            refine s_goto 64 C X d7_112 ?_
            refine s_iload 66 C X d7_64 rfl ?_
            refine s_iloadN 67 C X d7_66 rfl ?_
            refine s_icmp_ge 115 70 C X d7_67 (fun c => absurd (by decide : i2 < i3) c) (fun _ => ?_)
            refine s_aloadN 71 C X d7_70 rfl rfl ?_
            refine s_iload 73 C X d7_71 rfl ?_
            refine s_laload 74 C X d7_73 A_o4 ⟨by decide, by decide⟩ (v := (.long y147)) rfl ?_
            refine s_ldc2Long 77 C X d7_74 (mW 14 rfl) ?_
            refine s_lcmp 78 C X d7_77 ?_
            suffices J233 : ∀ (T : State) (hh : Heap) (y232 : Int64) (D233 : (((y147).toInt = (2305843009213693951 : Int)) ∧ y232 = y147) ∨ ((¬ ((y147).toInt = (2305843009213693951 : Int))) ∧ (¬ (((y146 + y147)).toInt < (y147).toInt)) ∧ y232 = y147) ∨ ((¬ ((y147).toInt = (2305843009213693951 : Int))) ∧ (((y146 + y147)).toInt < (y147).toInt) ∧ y232 = (y146 + y147))) (X : St p l e ({ frames := 0, cells := 0, slots := 0, locals := 0 } : Room) s m #[(.ref o1)] below meth c n0 T hh 0 0) (F_o1_most : Fld Z hh o1 "com/example/dayweave/dayweave/solve/TemporalNetwork" "most" "[[J" (.ref o2)) (A_o2 : Arv Z hh o2 k_o2 (.array .long) i3 [(.ref o3), (.ref o4), (.ref o5)] .null) (A_o3 : Arv Z hh o3 k_o3 .long i3 [(.long y210), (.long y211), (.long y212)] (.long j0)) (A_o4 : Arv Z hh o4 k_o3 .long i3 [(.long y220), (.long y226), (.long y232)] (.long j0)) (A_o5 : Arv Z hh o5 k_o3 .long i3 [(.long y173), (.long y174), (.long y175)] (.long j0)) (Kp : Keep h0 hh [o3, o4, o5]), Run p e below n0 Q' G' m T 109 #[rv o1, iv i3, iv i1, rv o4, iv i1, lv y146, .second, rv o4, iv i2] [] by
              refine s_if_eq 109 81 C X d7_78 (fun c78_229 => ?_) (fun c78_229 => ?_)
              · have t_c78_229 : (y147).toInt = (2305843009213693951 : Int) := cl_eq.mp c78_229
                exact J233 T _ (y147) ((Or.inl ⟨t_c78_229, rfl⟩)) X F_o1_most A_o2 A_o3 A_o4 A_o5 Kp
              have t_c78_229 : ¬ ((y147).toInt = (2305843009213693951 : Int)) := fun q => c78_229 (cl_eq.mpr q)
              refine s_lload 83 C X d7_81 rfl ?_
              refine s_aloadN 84 C X d7_83 rfl rfl ?_
              refine s_iload 86 C X d7_84 rfl ?_
              refine s_laload 87 C X d7_86 A_o4 ⟨by decide, by decide⟩ (v := (.long y147)) rfl ?_
              refine s_ladd 88 C X d7_87 ?_
              refine s_aload 90 C X d7_88 rfl rfl ?_
              refine s_iload 92 C X d7_90 rfl ?_
              refine s_laload 93 C X d7_92 A_o4 ⟨by decide, by decide⟩ (v := (.long y147)) rfl ?_
              refine s_lcmp 94 C X d7_93 ?_
              refine s_if_ge 109 97 C X d7_94 (fun c94_230 => ?_) (fun c94_230 => ?_)
              · have t_c94_230 : ¬ (((y146 + y147)).toInt < (y147).toInt) := fun q => c94_230 (cl_lt.mpr q)
                exact J233 T _ (y147) (Or.inr (Or.inl ⟨t_c78_229, t_c94_230, rfl⟩)) X F_o1_most A_o2 A_o3 A_o4 A_o5 Kp
              have t_c94_230 : ((y146 + y147)).toInt < (y147).toInt := cl_lt.mp c94_230
              refine s_aload 99 C X d7_97 rfl rfl ?_
              refine s_iload 101 C X d7_99 rfl ?_
              refine s_lload 103 C X d7_101 rfl ?_
              refine s_aloadN 104 C X d7_103 rfl rfl ?_
              refine s_iload 106 C X d7_104 rfl ?_
              refine s_laload 107 C X d7_106 A_o4 ⟨by decide, by decide⟩ (v := (.long y147)) rfl ?_
              refine s_ladd 108 C X d7_107 ?_
              refine s_lastore 109 2 C X d7_108 A_o4 g_o4 ⟨by decide, by decide⟩ rfl (Nat.le_of_ble_eq_true rfl) (fun T hh X W A_o4 => ?_)
              have A_o4 : Arv Z _ o4 k_o3 .long i3 [(.long y220), (.long y226), (.long (y146 + y147))] (.long j0) := A_o4
              have F_o1_most := F_o1_most.other W (Or.inl ne_o1_o4)
              have A_o2 := A_o2.other W ne_o2_o4
              have A_o3 := A_o3.other W ne_o3_o4
              have A_o5 := A_o5.other W (Ne.symm ne_o4_o5)
              have Kp := Kp.wr W (Or.inl (by simp))
              exact J233 T _ ((y146 + y147)) (Or.inr (Or.inr ⟨t_c78_229, t_c94_230, rfl⟩)) X F_o1_most A_o2 A_o3 A_o4 A_o5 Kp
            intro T hh y232 D233  X F_o1_most A_o2 A_o3 A_o4 A_o5 Kp
            have d_y232 : own_D y146 y147 y147 y232 := D233
            refine s_iinc 112 C X (l' := #[rv o1, iv i3, iv i1, rv o4, iv i1, lv y146, .second, rv o4, iv i3]) d7_109 kc_iconst_1 rfl rfl ?_
            refine s_goto 64 C X d7_112 ?_
            refine s_iload 66 C X d7_64 rfl ?_
            refine s_iloadN 67 C X d7_66 rfl ?_
            refine s_icmp_ge 115 70 C X d7_67 (fun _ => ?_) (fun c => absurd c (by decide))
            exact J241 T _ (y220) (y226) (y232) (rv o4) (iv i3) ((Or.inl ⟨y220, y226, y232, t_c46_215, d_y220, d_y226, d_y232, rfl, rfl, rfl⟩)) (Or.inl ⟨rfl, rfl⟩) X F_o1_most A_o2 A_o3 A_o4 A_o5 Kp
          have t_c46_215 : (y146).toInt = (2305843009213693951 : Int) := cl_eq.mp c46_215
          refine s_goto 115 C X d7_49 ?_
          exact J241 T _ (y145) (y146) (y147) (y208) (y209) (Or.inr ⟨t_c46_215, rfl, rfl, rfl⟩) (Or.inr ⟨rfl, rfl⟩) X F_o1_most A_o2 A_o3 A_o4 A_o5 Kp
        intro T hh y238 y239 y240 y236 y237 D241 hS241 X F_o1_most A_o2 A_o3 A_o4 A_o5 Kp
        obtain ⟨e_y238, e_y239, e_y240⟩ : own_E y146 y145 y145 y238 ∧ own_E y146 y146 y146 y239 ∧ own_E y146 y147 y147 y240 := by
          rcases D241 with ⟨_, _, _, t, d0, d1, d2, q0, q1, q2⟩ | ⟨t, q0, q1, q2⟩
          · rw [q0, q1, q2]; exact ⟨Or.inr ⟨t, d0⟩, Or.inr ⟨t, d1⟩, Or.inr ⟨t, d2⟩⟩
          · exact ⟨Or.inl ⟨t, q0⟩, Or.inl ⟨t, q1⟩, Or.inl ⟨t, q2⟩⟩
        refine s_iinc 118 C X (l' := #[rv o1, iv i3, iv i1, rv o4, iv i2, lv y146, .second, y236, y237]) d7_115 kc_iconst_1 rfl rfl ?_
        refine s_goto 23 C X d7_118 ?_
        refine s_iload 25 C X d7_23 rfl ?_
        refine s_iloadN 26 C X d7_25 rfl ?_
        refine s_icmp_ge 121 29 C X d7_26 (fun c => absurd (by decide : i2 < i3) c) (fun _ => ?_)
        refine s_aloadN 30 C X d7_29 rfl rfl ?_
        refine s_getfield 33 C X (host := "") d7_30 (Or.inl (mW 12 rfl)) Via.refl F_o1_most (fun T X => ?_)
        refine s_iload 35 C X d7_33 rfl ?_
        refine s_aaload 36 C X d7_35 A_o2 rfl ⟨by decide, by decide⟩ (v := (.ref o5)) rfl ?_
        refine s_iloadN 37 C X d7_36 rfl ?_
        refine s_laload 38 C X d7_37 A_o5 ⟨by decide, by decide⟩ (v := (.long y174)) rfl ?_
        suffices JS : Run p e below n0 Q' G' m T 40 #[rv o1, iv i3, iv i1, rv o4, iv i2, lv y174, .second, y236, y237] [] by
          rcases hS241 with ⟨rfl, rfl⟩ | ⟨rfl, rfl⟩ <;> rcases hS213 with ⟨rfl, rfl⟩ | ⟨rfl, rfl⟩ <;> rcases hS176 with ⟨rfl, rfl⟩ | ⟨rfl, rfl⟩ <;> rcases hS148 with ⟨rfl, rfl⟩ | ⟨rfl, rfl⟩ <;> rcases hS120 with ⟨rfl, rfl⟩ | ⟨rfl, rfl⟩ <;> exact s_lstore 40 C X d7_38 rfl JS
        refine s_lload 42 C X d7_40 rfl ?_
        refine s_ldc2Long 45 C X d7_42 (mW 14 rfl) ?_
        refine s_lcmp 46 C X d7_45 ?_
        suffices J269 : ∀ (T : State) (hh : Heap) (y266 : Int64) (y267 : Int64) (y268 : Int64) (y264 : Slot) (y265 : Slot) (D269 : (∃ (y248 : Int64) (y254 : Int64) (y260 : Int64), (¬ ((y174).toInt = (2305843009213693951 : Int))) ∧ own_D y174 y238 y173 y248 ∧ own_D y174 y239 y174 y254 ∧ own_D y174 y240 y175 y260 ∧ y266 = y248 ∧ y267 = y254 ∧ y268 = y260) ∨ (((y174).toInt = (2305843009213693951 : Int)) ∧ y266 = y173 ∧ y267 = y174 ∧ y268 = y175)) (hS269 : (y264 = rv o5 ∧ y265 = iv i3) ∨ (y264 = y236 ∧ y265 = y237)) (X : St p l e ({ frames := 0, cells := 0, slots := 0, locals := 0 } : Room) s m #[(.ref o1)] below meth c n0 T hh 0 0) (F_o1_most : Fld Z hh o1 "com/example/dayweave/dayweave/solve/TemporalNetwork" "most" "[[J" (.ref o2)) (A_o2 : Arv Z hh o2 k_o2 (.array .long) i3 [(.ref o3), (.ref o4), (.ref o5)] .null) (A_o3 : Arv Z hh o3 k_o3 .long i3 [(.long y210), (.long y211), (.long y212)] (.long j0)) (A_o4 : Arv Z hh o4 k_o3 .long i3 [(.long y238), (.long y239), (.long y240)] (.long j0)) (A_o5 : Arv Z hh o5 k_o3 .long i3 [(.long y266), (.long y267), (.long y268)] (.long j0)) (Kp : Keep h0 hh [o3, o4, o5]), Run p e below n0 Q' G' m T 115 #[rv o1, iv i3, iv i1, rv o4, iv i2, lv y174, .second, y264, y265] [] by
          refine s_if_ne 52 49 C X d7_46 (fun c46_243 => ?_) (fun c46_243 => ?_)
          · have t_c46_243 : ¬ ((y174).toInt = (2305843009213693951 : Int)) := fun q => c46_243 (cl_eq.mpr q)
            refine s_aloadN 53 C X d7_52 rfl rfl ?_
            refine s_getfield 56 C X (host := "") d7_53 (Or.inl (mW 12 rfl)) Via.refl F_o1_most (fun T X => ?_)
            refine s_iload 58 C X d7_56 rfl ?_
            refine s_aaload 59 C X d7_58 A_o2 rfl ⟨by decide, by decide⟩ (v := (.ref o5)) rfl ?_
            suffices JS : Run p e below n0 Q' G' m T 61 #[rv o1, iv i3, iv i1, rv o4, iv i2, lv y174, .second, rv o5, y237] [] by
              rcases hS241 with ⟨rfl, rfl⟩ | ⟨rfl, rfl⟩ <;> rcases hS213 with ⟨rfl, rfl⟩ | ⟨rfl, rfl⟩ <;> rcases hS176 with ⟨rfl, rfl⟩ | ⟨rfl, rfl⟩ <;> rcases hS148 with ⟨rfl, rfl⟩ | ⟨rfl, rfl⟩ <;> rcases hS120 with ⟨rfl, rfl⟩ | ⟨rfl, rfl⟩ <;> exact s_astore 61 C X d7_59 rfl rfl JS
            refine s_iconst 62 C X d7_61 kc_iconst_0 ?_
            suffices JS : Run p e below n0 Q' G' m T 64 #[rv o1, iv i3, iv i1, rv o4, iv i2, lv y174, .second, rv o5, iv i0] [] by
              rcases hS241 with ⟨rfl, rfl⟩ | ⟨rfl, rfl⟩ <;> rcases hS213 with ⟨rfl, rfl⟩ | ⟨rfl, rfl⟩ <;> rcases hS176 with ⟨rfl, rfl⟩ | ⟨rfl, rfl⟩ <;> rcases hS148 with ⟨rfl, rfl⟩ | ⟨rfl, rfl⟩ <;> rcases hS120 with ⟨rfl, rfl⟩ | ⟨rfl, rfl⟩ <;> exact s_istore 64 C X d7_62 rfl JS
            refine s_iload 66 C X d7_64 rfl ?_
            refine s_iloadN 67 C X d7_66 rfl ?_
            refine s_icmp_ge 115 70 C X d7_67 (fun c => absurd (by decide : i0 < i3) c) (fun _ => ?_)
            refine s_aloadN 71 C X d7_70 rfl rfl ?_
            refine s_iload 73 C X d7_71 rfl ?_
            refine s_laload 74 C X d7_73 A_o4 ⟨by decide, by decide⟩ (v := (.long y238)) rfl ?_
            refine s_ldc2Long 77 C X d7_74 (mW 14 rfl) ?_
            refine s_lcmp 78 C X d7_77 ?_
            suffices J249 : ∀ (T : State) (hh : Heap) (y248 : Int64) (D249 : (((y238).toInt = (2305843009213693951 : Int)) ∧ y248 = y173) ∨ ((¬ ((y238).toInt = (2305843009213693951 : Int))) ∧ (¬ (((y174 + y238)).toInt < (y173).toInt)) ∧ y248 = y173) ∨ ((¬ ((y238).toInt = (2305843009213693951 : Int))) ∧ (((y174 + y238)).toInt < (y173).toInt) ∧ y248 = (y174 + y238))) (X : St p l e ({ frames := 0, cells := 0, slots := 0, locals := 0 } : Room) s m #[(.ref o1)] below meth c n0 T hh 0 0) (F_o1_most : Fld Z hh o1 "com/example/dayweave/dayweave/solve/TemporalNetwork" "most" "[[J" (.ref o2)) (A_o2 : Arv Z hh o2 k_o2 (.array .long) i3 [(.ref o3), (.ref o4), (.ref o5)] .null) (A_o3 : Arv Z hh o3 k_o3 .long i3 [(.long y210), (.long y211), (.long y212)] (.long j0)) (A_o4 : Arv Z hh o4 k_o3 .long i3 [(.long y238), (.long y239), (.long y240)] (.long j0)) (A_o5 : Arv Z hh o5 k_o3 .long i3 [(.long y248), (.long y174), (.long y175)] (.long j0)) (Kp : Keep h0 hh [o3, o4, o5]), Run p e below n0 Q' G' m T 109 #[rv o1, iv i3, iv i1, rv o4, iv i2, lv y174, .second, rv o5, iv i0] [] by
              refine s_if_eq 109 81 C X d7_78 (fun c78_245 => ?_) (fun c78_245 => ?_)
              · have t_c78_245 : (y238).toInt = (2305843009213693951 : Int) := cl_eq.mp c78_245
                exact J249 T _ (y173) ((Or.inl ⟨t_c78_245, rfl⟩)) X F_o1_most A_o2 A_o3 A_o4 A_o5 Kp
              have t_c78_245 : ¬ ((y238).toInt = (2305843009213693951 : Int)) := fun q => c78_245 (cl_eq.mpr q)
              refine s_lload 83 C X d7_81 rfl ?_
              refine s_aloadN 84 C X d7_83 rfl rfl ?_
              refine s_iload 86 C X d7_84 rfl ?_
              refine s_laload 87 C X d7_86 A_o4 ⟨by decide, by decide⟩ (v := (.long y238)) rfl ?_
              refine s_ladd 88 C X d7_87 ?_
              refine s_aload 90 C X d7_88 rfl rfl ?_
              refine s_iload 92 C X d7_90 rfl ?_
              refine s_laload 93 C X d7_92 A_o5 ⟨by decide, by decide⟩ (v := (.long y173)) rfl ?_
              refine s_lcmp 94 C X d7_93 ?_
              refine s_if_ge 109 97 C X d7_94 (fun c94_246 => ?_) (fun c94_246 => ?_)
              · have t_c94_246 : ¬ (((y174 + y238)).toInt < (y173).toInt) := fun q => c94_246 (cl_lt.mpr q)
                exact J249 T _ (y173) (Or.inr (Or.inl ⟨t_c78_245, t_c94_246, rfl⟩)) X F_o1_most A_o2 A_o3 A_o4 A_o5 Kp
              have t_c94_246 : ((y174 + y238)).toInt < (y173).toInt := cl_lt.mp c94_246
              refine s_aload 99 C X d7_97 rfl rfl ?_
              refine s_iload 101 C X d7_99 rfl ?_
              refine s_lload 103 C X d7_101 rfl ?_
              refine s_aloadN 104 C X d7_103 rfl rfl ?_
              refine s_iload 106 C X d7_104 rfl ?_
              refine s_laload 107 C X d7_106 A_o4 ⟨by decide, by decide⟩ (v := (.long y238)) rfl ?_
              refine s_ladd 108 C X d7_107 ?_
              refine s_lastore 109 0 C X d7_108 A_o5 g_o5 ⟨by decide, by decide⟩ rfl (Nat.le_of_ble_eq_true rfl) (fun T hh X W A_o5 => ?_)
              have A_o5 : Arv Z _ o5 k_o3 .long i3 [(.long (y174 + y238)), (.long y174), (.long y175)] (.long j0) := A_o5
              have F_o1_most := F_o1_most.other W (Or.inl ne_o1_o5)
              have A_o2 := A_o2.other W ne_o2_o5
              have A_o3 := A_o3.other W ne_o3_o5
              have A_o4 := A_o4.other W ne_o4_o5
              have Kp := Kp.wr W (Or.inl (by simp))
              exact J249 T _ ((y174 + y238)) (Or.inr (Or.inr ⟨t_c78_245, t_c94_246, rfl⟩)) X F_o1_most A_o2 A_o3 A_o4 A_o5 Kp
            intro T hh y248 D249  X F_o1_most A_o2 A_o3 A_o4 A_o5 Kp
            have d_y248 : own_D y174 y238 y173 y248 := D249
            refine s_iinc 112 C X (l' := #[rv o1, iv i3, iv i1, rv o4, iv i2, lv y174, .second, rv o5, iv i1]) d7_109 kc_iconst_1 rfl rfl ?_
            refine s_goto 64 C X d7_112 ?_
            refine s_iload 66 C X d7_64 rfl ?_
            refine s_iloadN 67 C X d7_66 rfl ?_
            refine s_icmp_ge 115 70 C X d7_67 (fun c => absurd (by decide : i1 < i3) c) (fun _ => ?_)
            refine s_aloadN 71 C X d7_70 rfl rfl ?_
            refine s_iload 73 C X d7_71 rfl ?_
            refine s_laload 74 C X d7_73 A_o4 ⟨by decide, by decide⟩ (v := (.long y239)) rfl ?_
            refine s_ldc2Long 77 C X d7_74 (mW 14 rfl) ?_
            refine s_lcmp 78 C X d7_77 ?_
            suffices J255 : ∀ (T : State) (hh : Heap) (y254 : Int64) (D255 : (((y239).toInt = (2305843009213693951 : Int)) ∧ y254 = y174) ∨ ((¬ ((y239).toInt = (2305843009213693951 : Int))) ∧ (¬ (((y174 + y239)).toInt < (y174).toInt)) ∧ y254 = y174) ∨ ((¬ ((y239).toInt = (2305843009213693951 : Int))) ∧ (((y174 + y239)).toInt < (y174).toInt) ∧ y254 = (y174 + y239))) (X : St p l e ({ frames := 0, cells := 0, slots := 0, locals := 0 } : Room) s m #[(.ref o1)] below meth c n0 T hh 0 0) (F_o1_most : Fld Z hh o1 "com/example/dayweave/dayweave/solve/TemporalNetwork" "most" "[[J" (.ref o2)) (A_o2 : Arv Z hh o2 k_o2 (.array .long) i3 [(.ref o3), (.ref o4), (.ref o5)] .null) (A_o3 : Arv Z hh o3 k_o3 .long i3 [(.long y210), (.long y211), (.long y212)] (.long j0)) (A_o4 : Arv Z hh o4 k_o3 .long i3 [(.long y238), (.long y239), (.long y240)] (.long j0)) (A_o5 : Arv Z hh o5 k_o3 .long i3 [(.long y248), (.long y254), (.long y175)] (.long j0)) (Kp : Keep h0 hh [o3, o4, o5]), Run p e below n0 Q' G' m T 109 #[rv o1, iv i3, iv i1, rv o4, iv i2, lv y174, .second, rv o5, iv i1] [] by
              refine s_if_eq 109 81 C X d7_78 (fun c78_251 => ?_) (fun c78_251 => ?_)
              · have t_c78_251 : (y239).toInt = (2305843009213693951 : Int) := cl_eq.mp c78_251
                exact J255 T _ (y174) ((Or.inl ⟨t_c78_251, rfl⟩)) X F_o1_most A_o2 A_o3 A_o4 A_o5 Kp
              have t_c78_251 : ¬ ((y239).toInt = (2305843009213693951 : Int)) := fun q => c78_251 (cl_eq.mpr q)
              refine s_lload 83 C X d7_81 rfl ?_
              refine s_aloadN 84 C X d7_83 rfl rfl ?_
              refine s_iload 86 C X d7_84 rfl ?_
              refine s_laload 87 C X d7_86 A_o4 ⟨by decide, by decide⟩ (v := (.long y239)) rfl ?_
              refine s_ladd 88 C X d7_87 ?_
              refine s_aload 90 C X d7_88 rfl rfl ?_
              refine s_iload 92 C X d7_90 rfl ?_
              refine s_laload 93 C X d7_92 A_o5 ⟨by decide, by decide⟩ (v := (.long y174)) rfl ?_
              refine s_lcmp 94 C X d7_93 ?_
              refine s_if_ge 109 97 C X d7_94 (fun c94_252 => ?_) (fun c94_252 => ?_)
              · have t_c94_252 : ¬ (((y174 + y239)).toInt < (y174).toInt) := fun q => c94_252 (cl_lt.mpr q)
                exact J255 T _ (y174) (Or.inr (Or.inl ⟨t_c78_251, t_c94_252, rfl⟩)) X F_o1_most A_o2 A_o3 A_o4 A_o5 Kp
              have t_c94_252 : ((y174 + y239)).toInt < (y174).toInt := cl_lt.mp c94_252
              refine s_aload 99 C X d7_97 rfl rfl ?_
              refine s_iload 101 C X d7_99 rfl ?_
              refine s_lload 103 C X d7_101 rfl ?_
              refine s_aloadN 104 C X d7_103 rfl rfl ?_
              refine s_iload 106 C X d7_104 rfl ?_
              refine s_laload 107 C X d7_106 A_o4 ⟨by decide, by decide⟩ (v := (.long y239)) rfl ?_
              refine s_ladd 108 C X d7_107 ?_
              refine s_lastore 109 1 C X d7_108 A_o5 g_o5 ⟨by decide, by decide⟩ rfl (Nat.le_of_ble_eq_true rfl) (fun T hh X W A_o5 => ?_)
              have A_o5 : Arv Z _ o5 k_o3 .long i3 [(.long y248), (.long (y174 + y239)), (.long y175)] (.long j0) := A_o5
              have F_o1_most := F_o1_most.other W (Or.inl ne_o1_o5)
              have A_o2 := A_o2.other W ne_o2_o5
              have A_o3 := A_o3.other W ne_o3_o5
              have A_o4 := A_o4.other W ne_o4_o5
              have Kp := Kp.wr W (Or.inl (by simp))
              exact J255 T _ ((y174 + y239)) (Or.inr (Or.inr ⟨t_c78_251, t_c94_252, rfl⟩)) X F_o1_most A_o2 A_o3 A_o4 A_o5 Kp
            intro T hh y254 D255  X F_o1_most A_o2 A_o3 A_o4 A_o5 Kp
            have d_y254 : own_D y174 y239 y174 y254 := D255
            refine s_iinc 112 C X (l' := #[rv o1, iv i3, iv i1, rv o4, iv i2, lv y174, .second, rv o5, iv i2]) d7_109 kc_iconst_1 rfl rfl ?_
            refine s_goto 64 C X d7_112 ?_
            refine s_iload 66 C X d7_64 rfl ?_
            refine s_iloadN 67 C X d7_66 rfl ?_
            refine s_icmp_ge 115 70 C X d7_67 (fun c => absurd (by decide : i2 < i3) c) (fun _ => ?_)
            refine s_aloadN 71 C X d7_70 rfl rfl ?_
            refine s_iload 73 C X d7_71 rfl ?_
            refine s_laload 74 C X d7_73 A_o4 ⟨by decide, by decide⟩ (v := (.long y240)) rfl ?_
            refine s_ldc2Long 77 C X d7_74 (mW 14 rfl) ?_
            refine s_lcmp 78 C X d7_77 ?_
            suffices J261 : ∀ (T : State) (hh : Heap) (y260 : Int64) (D261 : (((y240).toInt = (2305843009213693951 : Int)) ∧ y260 = y175) ∨ ((¬ ((y240).toInt = (2305843009213693951 : Int))) ∧ (¬ (((y174 + y240)).toInt < (y175).toInt)) ∧ y260 = y175) ∨ ((¬ ((y240).toInt = (2305843009213693951 : Int))) ∧ (((y174 + y240)).toInt < (y175).toInt) ∧ y260 = (y174 + y240))) (X : St p l e ({ frames := 0, cells := 0, slots := 0, locals := 0 } : Room) s m #[(.ref o1)] below meth c n0 T hh 0 0) (F_o1_most : Fld Z hh o1 "com/example/dayweave/dayweave/solve/TemporalNetwork" "most" "[[J" (.ref o2)) (A_o2 : Arv Z hh o2 k_o2 (.array .long) i3 [(.ref o3), (.ref o4), (.ref o5)] .null) (A_o3 : Arv Z hh o3 k_o3 .long i3 [(.long y210), (.long y211), (.long y212)] (.long j0)) (A_o4 : Arv Z hh o4 k_o3 .long i3 [(.long y238), (.long y239), (.long y240)] (.long j0)) (A_o5 : Arv Z hh o5 k_o3 .long i3 [(.long y248), (.long y254), (.long y260)] (.long j0)) (Kp : Keep h0 hh [o3, o4, o5]), Run p e below n0 Q' G' m T 109 #[rv o1, iv i3, iv i1, rv o4, iv i2, lv y174, .second, rv o5, iv i2] [] by
              refine s_if_eq 109 81 C X d7_78 (fun c78_257 => ?_) (fun c78_257 => ?_)
              · have t_c78_257 : (y240).toInt = (2305843009213693951 : Int) := cl_eq.mp c78_257
                exact J261 T _ (y175) ((Or.inl ⟨t_c78_257, rfl⟩)) X F_o1_most A_o2 A_o3 A_o4 A_o5 Kp
              have t_c78_257 : ¬ ((y240).toInt = (2305843009213693951 : Int)) := fun q => c78_257 (cl_eq.mpr q)
              refine s_lload 83 C X d7_81 rfl ?_
              refine s_aloadN 84 C X d7_83 rfl rfl ?_
              refine s_iload 86 C X d7_84 rfl ?_
              refine s_laload 87 C X d7_86 A_o4 ⟨by decide, by decide⟩ (v := (.long y240)) rfl ?_
              refine s_ladd 88 C X d7_87 ?_
              refine s_aload 90 C X d7_88 rfl rfl ?_
              refine s_iload 92 C X d7_90 rfl ?_
              refine s_laload 93 C X d7_92 A_o5 ⟨by decide, by decide⟩ (v := (.long y175)) rfl ?_
              refine s_lcmp 94 C X d7_93 ?_
              refine s_if_ge 109 97 C X d7_94 (fun c94_258 => ?_) (fun c94_258 => ?_)
              · have t_c94_258 : ¬ (((y174 + y240)).toInt < (y175).toInt) := fun q => c94_258 (cl_lt.mpr q)
                exact J261 T _ (y175) (Or.inr (Or.inl ⟨t_c78_257, t_c94_258, rfl⟩)) X F_o1_most A_o2 A_o3 A_o4 A_o5 Kp
              have t_c94_258 : ((y174 + y240)).toInt < (y175).toInt := cl_lt.mp c94_258
              refine s_aload 99 C X d7_97 rfl rfl ?_
              refine s_iload 101 C X d7_99 rfl ?_
              refine s_lload 103 C X d7_101 rfl ?_
              refine s_aloadN 104 C X d7_103 rfl rfl ?_
              refine s_iload 106 C X d7_104 rfl ?_
              refine s_laload 107 C X d7_106 A_o4 ⟨by decide, by decide⟩ (v := (.long y240)) rfl ?_
              refine s_ladd 108 C X d7_107 ?_
              refine s_lastore 109 2 C X d7_108 A_o5 g_o5 ⟨by decide, by decide⟩ rfl (Nat.le_of_ble_eq_true rfl) (fun T hh X W A_o5 => ?_)
              have A_o5 : Arv Z _ o5 k_o3 .long i3 [(.long y248), (.long y254), (.long (y174 + y240))] (.long j0) := A_o5
              have F_o1_most := F_o1_most.other W (Or.inl ne_o1_o5)
              have A_o2 := A_o2.other W ne_o2_o5
              have A_o3 := A_o3.other W ne_o3_o5
              have A_o4 := A_o4.other W ne_o4_o5
              have Kp := Kp.wr W (Or.inl (by simp))
              exact J261 T _ ((y174 + y240)) (Or.inr (Or.inr ⟨t_c78_257, t_c94_258, rfl⟩)) X F_o1_most A_o2 A_o3 A_o4 A_o5 Kp
            intro T hh y260 D261  X F_o1_most A_o2 A_o3 A_o4 A_o5 Kp
            have d_y260 : own_D y174 y240 y175 y260 := D261
            refine s_iinc 112 C X (l' := #[rv o1, iv i3, iv i1, rv o4, iv i2, lv y174, .second, rv o5, iv i3]) d7_109 kc_iconst_1 rfl rfl ?_
            refine s_goto 64 C X d7_112 ?_
            refine s_iload 66 C X d7_64 rfl ?_
            refine s_iloadN 67 C X d7_66 rfl ?_
            refine s_icmp_ge 115 70 C X d7_67 (fun _ => ?_) (fun c => absurd c (by decide))
            exact J269 T _ (y248) (y254) (y260) (rv o5) (iv i3) ((Or.inl ⟨y248, y254, y260, t_c46_243, d_y248, d_y254, d_y260, rfl, rfl, rfl⟩)) (Or.inl ⟨rfl, rfl⟩) X F_o1_most A_o2 A_o3 A_o4 A_o5 Kp
          have t_c46_243 : (y174).toInt = (2305843009213693951 : Int) := cl_eq.mp c46_243
          refine s_goto 115 C X d7_49 ?_
          exact J269 T _ (y173) (y174) (y175) (y236) (y237) (Or.inr ⟨t_c46_243, rfl, rfl, rfl⟩) (Or.inr ⟨rfl, rfl⟩) X F_o1_most A_o2 A_o3 A_o4 A_o5 Kp
        intro T hh y266 y267 y268 y264 y265 D269 hS269 X F_o1_most A_o2 A_o3 A_o4 A_o5 Kp
        obtain ⟨e_y266, e_y267, e_y268⟩ : own_E y174 y238 y173 y266 ∧ own_E y174 y239 y174 y267 ∧ own_E y174 y240 y175 y268 := by
          rcases D269 with ⟨_, _, _, t, d0, d1, d2, q0, q1, q2⟩ | ⟨t, q0, q1, q2⟩
          · rw [q0, q1, q2]; exact ⟨Or.inr ⟨t, d0⟩, Or.inr ⟨t, d1⟩, Or.inr ⟨t, d2⟩⟩
          · exact ⟨Or.inl ⟨t, q0⟩, Or.inl ⟨t, q1⟩, Or.inl ⟨t, q2⟩⟩
        refine s_iinc 118 C X (l' := #[rv o1, iv i3, iv i1, rv o4, iv i3, lv y174, .second, y264, y265]) d7_115 kc_iconst_1 rfl rfl ?_
        refine s_goto 23 C X d7_118 ?_
        refine s_iload 25 C X d7_23 rfl ?_
        refine s_iloadN 26 C X d7_25 rfl ?_
        refine s_icmp_ge 121 29 C X d7_26 (fun _ => ?_) (fun c => absurd c (by decide))
        refine s_iconst 122 C X d7_121 kc_iconst_0 ?_
        refine s_istore 124 C X (l' := #[rv o1, iv i3, iv i1, rv o4, iv i0, lv y174, .second, y264, y265]) d7_122 rfl ?_
        refine s_iload 126 C X d7_124 rfl ?_
        refine s_iloadN 127 C X d7_126 rfl ?_
        refine s_icmp_ge 153 130 C X d7_127 (fun c => absurd (by decide : i0 < i3) c) (fun _ => ?_)
        refine s_aloadN 131 C X d7_130 rfl rfl ?_
        refine s_getfield 134 C X (host := "") d7_131 (Or.inl (mW 12 rfl)) Via.refl F_o1_most (fun T X => ?_)
        refine s_iload 136 C X d7_134 rfl ?_
        refine s_aaload 137 C X d7_136 A_o2 rfl ⟨by decide, by decide⟩ (v := (.ref o3)) rfl ?_
        refine s_iload 139 C X d7_137 rfl ?_
        refine s_laload 140 C X d7_139 A_o3 ⟨by decide, by decide⟩ (v := (.long y210)) rfl ?_
        refine s_lconst 141 C X (z := j0) d7_140 rfl ?_
        refine s_lcmp 142 C X d7_141 ?_
        refine s_if_ge 147 145 C X d7_142 (fun c142_272 => ?_) (fun c142_272 => ?_)
        · have t_c142_272 : ¬ ((y210).toInt < (0 : Int)) := fun q => c142_272 (cl_lt.mpr q)
          refine s_iinc 150 C X (l' := #[rv o1, iv i3, iv i1, rv o4, iv i1, lv y174, .second, y264, y265]) d7_147 kc_iconst_1 rfl rfl ?_
          refine s_goto 124 C X d7_150 ?_
          refine s_iload 126 C X d7_124 rfl ?_
          refine s_iloadN 127 C X d7_126 rfl ?_
          refine s_icmp_ge 153 130 C X d7_127 (fun c => absurd (by decide : i1 < i3) c) (fun _ => ?_)
          refine s_aloadN 131 C X d7_130 rfl rfl ?_
          refine s_getfield 134 C X (host := "") d7_131 (Or.inl (mW 12 rfl)) Via.refl F_o1_most (fun T X => ?_)
          refine s_iload 136 C X d7_134 rfl ?_
          refine s_aaload 137 C X d7_136 A_o2 rfl ⟨by decide, by decide⟩ (v := (.ref o4)) rfl ?_
          refine s_iload 139 C X d7_137 rfl ?_
          refine s_laload 140 C X d7_139 A_o4 ⟨by decide, by decide⟩ (v := (.long y239)) rfl ?_
          refine s_lconst 141 C X (z := j0) d7_140 rfl ?_
          refine s_lcmp 142 C X d7_141 ?_
          refine s_if_ge 147 145 C X d7_142 (fun c142_274 => ?_) (fun c142_274 => ?_)
          · have t_c142_274 : ¬ ((y239).toInt < (0 : Int)) := fun q => c142_274 (cl_lt.mpr q)
            refine s_iinc 150 C X (l' := #[rv o1, iv i3, iv i1, rv o4, iv i2, lv y174, .second, y264, y265]) d7_147 kc_iconst_1 rfl rfl ?_
            refine s_goto 124 C X d7_150 ?_
            refine s_iload 126 C X d7_124 rfl ?_
            refine s_iloadN 127 C X d7_126 rfl ?_
            refine s_icmp_ge 153 130 C X d7_127 (fun c => absurd (by decide : i2 < i3) c) (fun _ => ?_)
            refine s_aloadN 131 C X d7_130 rfl rfl ?_
            refine s_getfield 134 C X (host := "") d7_131 (Or.inl (mW 12 rfl)) Via.refl F_o1_most (fun T X => ?_)
            refine s_iload 136 C X d7_134 rfl ?_
            refine s_aaload 137 C X d7_136 A_o2 rfl ⟨by decide, by decide⟩ (v := (.ref o5)) rfl ?_
            refine s_iload 139 C X d7_137 rfl ?_
            refine s_laload 140 C X d7_139 A_o5 ⟨by decide, by decide⟩ (v := (.long y268)) rfl ?_
            refine s_lconst 141 C X (z := j0) d7_140 rfl ?_
            refine s_lcmp 142 C X d7_141 ?_
            refine s_if_ge 147 145 C X d7_142 (fun c142_276 => ?_) (fun c142_276 => ?_)
            · have t_c142_276 : ¬ ((y268).toInt < (0 : Int)) := fun q => c142_276 (cl_lt.mpr q)
              refine s_iinc 150 C X (l' := #[rv o1, iv i3, iv i1, rv o4, iv i3, lv y174, .second, y264, y265]) d7_147 kc_iconst_1 rfl rfl ?_
              refine s_goto 124 C X d7_150 ?_
              refine s_iload 126 C X d7_124 rfl ?_
              refine s_iloadN 127 C X d7_126 rfl ?_
              refine s_icmp_ge 153 130 C X d7_127 (fun _ => ?_) (fun c => absurd c (by decide))
              refine s_iinc 156 C X (l' := #[rv o1, iv i3, iv i2, rv o4, iv i3, lv y174, .second, y264, y265]) d7_153 kc_iconst_1 rfl rfl ?_
              refine s_goto 8 C X d7_156 ?_
              refine s_iloadN 9 C X d7_8 rfl ?_
              refine s_iloadN 10 C X d7_9 rfl ?_
              refine s_icmp_ge 159 13 C X d7_10 (fun c => absurd (by decide : i2 < i3) c) (fun _ => ?_)
              refine s_aloadN 14 C X d7_13 rfl rfl ?_
              refine s_getfield 17 C X (host := "") d7_14 (Or.inl (mW 12 rfl)) Via.refl F_o1_most (fun T X => ?_)
              refine s_iloadN 18 C X d7_17 rfl ?_
              refine s_aaload 19 C X d7_18 A_o2 rfl ⟨by decide, by decide⟩ (v := (.ref o5)) rfl ?_
              refine s_astoreN 20 C X (l' := #[rv o1, iv i3, iv i2, rv o5, iv i3, lv y174, .second, y264, y265]) d7_19 rfl rfl ?_
              refine s_iconst 21 C X d7_20 kc_iconst_0 ?_
              refine s_istore 23 C X (l' := #[rv o1, iv i3, iv i2, rv o5, iv i0, lv y174, .second, y264, y265]) d7_21 rfl ?_
              refine s_iload 25 C X d7_23 rfl ?_
              refine s_iloadN 26 C X d7_25 rfl ?_
              refine s_icmp_ge 121 29 C X d7_26 (fun c => absurd (by decide : i0 < i3) c) (fun _ => ?_)
              refine s_aloadN 30 C X d7_29 rfl rfl ?_
              refine s_getfield 33 C X (host := "") d7_30 (Or.inl (mW 12 rfl)) Via.refl F_o1_most (fun T X => ?_)
              refine s_iload 35 C X d7_33 rfl ?_
              refine s_aaload 36 C X d7_35 A_o2 rfl ⟨by decide, by decide⟩ (v := (.ref o3)) rfl ?_
              refine s_iloadN 37 C X d7_36 rfl ?_
              refine s_laload 38 C X d7_37 A_o3 ⟨by decide, by decide⟩ (v := (.long y212)) rfl ?_
              suffices JS : Run p e below n0 Q' G' m T 40 #[rv o1, iv i3, iv i2, rv o5, iv i0, lv y212, .second, y264, y265] [] by
                rcases hS269 with ⟨rfl, rfl⟩ | ⟨rfl, rfl⟩ <;> rcases hS241 with ⟨rfl, rfl⟩ | ⟨rfl, rfl⟩ <;> rcases hS213 with ⟨rfl, rfl⟩ | ⟨rfl, rfl⟩ <;> rcases hS176 with ⟨rfl, rfl⟩ | ⟨rfl, rfl⟩ <;> rcases hS148 with ⟨rfl, rfl⟩ | ⟨rfl, rfl⟩ <;> rcases hS120 with ⟨rfl, rfl⟩ | ⟨rfl, rfl⟩ <;> exact s_lstore 40 C X d7_38 rfl JS
              refine s_lload 42 C X d7_40 rfl ?_
              refine s_ldc2Long 45 C X d7_42 (mW 14 rfl) ?_
              refine s_lcmp 46 C X d7_45 ?_
              suffices J306 : ∀ (T : State) (hh : Heap) (y303 : Int64) (y304 : Int64) (y305 : Int64) (y301 : Slot) (y302 : Slot) (D306 : (∃ (y285 : Int64) (y291 : Int64) (y297 : Int64), (¬ ((y212).toInt = (2305843009213693951 : Int))) ∧ own_D y212 y266 y210 y285 ∧ own_D y212 y267 y211 y291 ∧ own_D y212 y268 y212 y297 ∧ y303 = y285 ∧ y304 = y291 ∧ y305 = y297) ∨ (((y212).toInt = (2305843009213693951 : Int)) ∧ y303 = y210 ∧ y304 = y211 ∧ y305 = y212)) (hS306 : (y301 = rv o3 ∧ y302 = iv i3) ∨ (y301 = y264 ∧ y302 = y265)) (X : St p l e ({ frames := 0, cells := 0, slots := 0, locals := 0 } : Room) s m #[(.ref o1)] below meth c n0 T hh 0 0) (F_o1_most : Fld Z hh o1 "com/example/dayweave/dayweave/solve/TemporalNetwork" "most" "[[J" (.ref o2)) (A_o2 : Arv Z hh o2 k_o2 (.array .long) i3 [(.ref o3), (.ref o4), (.ref o5)] .null) (A_o3 : Arv Z hh o3 k_o3 .long i3 [(.long y303), (.long y304), (.long y305)] (.long j0)) (A_o4 : Arv Z hh o4 k_o3 .long i3 [(.long y238), (.long y239), (.long y240)] (.long j0)) (A_o5 : Arv Z hh o5 k_o3 .long i3 [(.long y266), (.long y267), (.long y268)] (.long j0)) (Kp : Keep h0 hh [o3, o4, o5]), Run p e below n0 Q' G' m T 115 #[rv o1, iv i3, iv i2, rv o5, iv i0, lv y212, .second, y301, y302] [] by
                refine s_if_ne 52 49 C X d7_46 (fun c46_280 => ?_) (fun c46_280 => ?_)
                · have t_c46_280 : ¬ ((y212).toInt = (2305843009213693951 : Int)) := fun q => c46_280 (cl_eq.mpr q)
                  refine s_aloadN 53 C X d7_52 rfl rfl ?_
                  refine s_getfield 56 C X (host := "") d7_53 (Or.inl (mW 12 rfl)) Via.refl F_o1_most (fun T X => ?_)
                  refine s_iload 58 C X d7_56 rfl ?_
                  refine s_aaload 59 C X d7_58 A_o2 rfl ⟨by decide, by decide⟩ (v := (.ref o3)) rfl ?_
                  suffices JS : Run p e below n0 Q' G' m T 61 #[rv o1, iv i3, iv i2, rv o5, iv i0, lv y212, .second, rv o3, y265] [] by
                    rcases hS269 with ⟨rfl, rfl⟩ | ⟨rfl, rfl⟩ <;> rcases hS241 with ⟨rfl, rfl⟩ | ⟨rfl, rfl⟩ <;> rcases hS213 with ⟨rfl, rfl⟩ | ⟨rfl, rfl⟩ <;> rcases hS176 with ⟨rfl, rfl⟩ | ⟨rfl, rfl⟩ <;> rcases hS148 with ⟨rfl, rfl⟩ | ⟨rfl, rfl⟩ <;> rcases hS120 with ⟨rfl, rfl⟩ | ⟨rfl, rfl⟩ <;> exact s_astore 61 C X d7_59 rfl rfl JS
                  refine s_iconst 62 C X d7_61 kc_iconst_0 ?_
                  suffices JS : Run p e below n0 Q' G' m T 64 #[rv o1, iv i3, iv i2, rv o5, iv i0, lv y212, .second, rv o3, iv i0] [] by
                    rcases hS269 with ⟨rfl, rfl⟩ | ⟨rfl, rfl⟩ <;> rcases hS241 with ⟨rfl, rfl⟩ | ⟨rfl, rfl⟩ <;> rcases hS213 with ⟨rfl, rfl⟩ | ⟨rfl, rfl⟩ <;> rcases hS176 with ⟨rfl, rfl⟩ | ⟨rfl, rfl⟩ <;> rcases hS148 with ⟨rfl, rfl⟩ | ⟨rfl, rfl⟩ <;> rcases hS120 with ⟨rfl, rfl⟩ | ⟨rfl, rfl⟩ <;> exact s_istore 64 C X d7_62 rfl JS
                  refine s_iload 66 C X d7_64 rfl ?_
                  refine s_iloadN 67 C X d7_66 rfl ?_
                  refine s_icmp_ge 115 70 C X d7_67 (fun c => absurd (by decide : i0 < i3) c) (fun _ => ?_)
                  refine s_aloadN 71 C X d7_70 rfl rfl ?_
                  refine s_iload 73 C X d7_71 rfl ?_
                  refine s_laload 74 C X d7_73 A_o5 ⟨by decide, by decide⟩ (v := (.long y266)) rfl ?_
                  refine s_ldc2Long 77 C X d7_74 (mW 14 rfl) ?_
                  refine s_lcmp 78 C X d7_77 ?_
                  suffices J286 : ∀ (T : State) (hh : Heap) (y285 : Int64) (D286 : (((y266).toInt = (2305843009213693951 : Int)) ∧ y285 = y210) ∨ ((¬ ((y266).toInt = (2305843009213693951 : Int))) ∧ (¬ (((y212 + y266)).toInt < (y210).toInt)) ∧ y285 = y210) ∨ ((¬ ((y266).toInt = (2305843009213693951 : Int))) ∧ (((y212 + y266)).toInt < (y210).toInt) ∧ y285 = (y212 + y266))) (X : St p l e ({ frames := 0, cells := 0, slots := 0, locals := 0 } : Room) s m #[(.ref o1)] below meth c n0 T hh 0 0) (F_o1_most : Fld Z hh o1 "com/example/dayweave/dayweave/solve/TemporalNetwork" "most" "[[J" (.ref o2)) (A_o2 : Arv Z hh o2 k_o2 (.array .long) i3 [(.ref o3), (.ref o4), (.ref o5)] .null) (A_o3 : Arv Z hh o3 k_o3 .long i3 [(.long y285), (.long y211), (.long y212)] (.long j0)) (A_o4 : Arv Z hh o4 k_o3 .long i3 [(.long y238), (.long y239), (.long y240)] (.long j0)) (A_o5 : Arv Z hh o5 k_o3 .long i3 [(.long y266), (.long y267), (.long y268)] (.long j0)) (Kp : Keep h0 hh [o3, o4, o5]), Run p e below n0 Q' G' m T 109 #[rv o1, iv i3, iv i2, rv o5, iv i0, lv y212, .second, rv o3, iv i0] [] by
                    refine s_if_eq 109 81 C X d7_78 (fun c78_282 => ?_) (fun c78_282 => ?_)
                    · have t_c78_282 : (y266).toInt = (2305843009213693951 : Int) := cl_eq.mp c78_282
                      exact J286 T _ (y210) ((Or.inl ⟨t_c78_282, rfl⟩)) X F_o1_most A_o2 A_o3 A_o4 A_o5 Kp
                    have t_c78_282 : ¬ ((y266).toInt = (2305843009213693951 : Int)) := fun q => c78_282 (cl_eq.mpr q)
                    refine s_lload 83 C X d7_81 rfl ?_
                    refine s_aloadN 84 C X d7_83 rfl rfl ?_
                    refine s_iload 86 C X d7_84 rfl ?_
                    refine s_laload 87 C X d7_86 A_o5 ⟨by decide, by decide⟩ (v := (.long y266)) rfl ?_
                    refine s_ladd 88 C X d7_87 ?_
                    refine s_aload 90 C X d7_88 rfl rfl ?_
                    refine s_iload 92 C X d7_90 rfl ?_
                    refine s_laload 93 C X d7_92 A_o3 ⟨by decide, by decide⟩ (v := (.long y210)) rfl ?_
                    refine s_lcmp 94 C X d7_93 ?_
                    refine s_if_ge 109 97 C X d7_94 (fun c94_283 => ?_) (fun c94_283 => ?_)
                    · have t_c94_283 : ¬ (((y212 + y266)).toInt < (y210).toInt) := fun q => c94_283 (cl_lt.mpr q)
                      exact J286 T _ (y210) (Or.inr (Or.inl ⟨t_c78_282, t_c94_283, rfl⟩)) X F_o1_most A_o2 A_o3 A_o4 A_o5 Kp
                    have t_c94_283 : ((y212 + y266)).toInt < (y210).toInt := cl_lt.mp c94_283
                    refine s_aload 99 C X d7_97 rfl rfl ?_
                    refine s_iload 101 C X d7_99 rfl ?_
                    refine s_lload 103 C X d7_101 rfl ?_
                    refine s_aloadN 104 C X d7_103 rfl rfl ?_
                    refine s_iload 106 C X d7_104 rfl ?_
                    refine s_laload 107 C X d7_106 A_o5 ⟨by decide, by decide⟩ (v := (.long y266)) rfl ?_
                    refine s_ladd 108 C X d7_107 ?_
                    refine s_lastore 109 0 C X d7_108 A_o3 g_o3 ⟨by decide, by decide⟩ rfl (Nat.le_of_ble_eq_true rfl) (fun T hh X W A_o3 => ?_)
                    have A_o3 : Arv Z _ o3 k_o3 .long i3 [(.long (y212 + y266)), (.long y211), (.long y212)] (.long j0) := A_o3
                    have F_o1_most := F_o1_most.other W (Or.inl ne_o1_o3)
                    have A_o2 := A_o2.other W ne_o2_o3
                    have A_o4 := A_o4.other W (Ne.symm ne_o3_o4)
                    have A_o5 := A_o5.other W (Ne.symm ne_o3_o5)
                    have Kp := Kp.wr W (Or.inl (by simp))
                    exact J286 T _ ((y212 + y266)) (Or.inr (Or.inr ⟨t_c78_282, t_c94_283, rfl⟩)) X F_o1_most A_o2 A_o3 A_o4 A_o5 Kp
                  intro T hh y285 D286  X F_o1_most A_o2 A_o3 A_o4 A_o5 Kp
                  have d_y285 : own_D y212 y266 y210 y285 := D286
                  refine s_iinc 112 C X (l' := #[rv o1, iv i3, iv i2, rv o5, iv i0, lv y212, .second, rv o3, iv i1]) d7_109 kc_iconst_1 rfl rfl ?_
                  refine s_goto 64 C X d7_112 ?_
                  refine s_iload 66 C X d7_64 rfl ?_
                  refine s_iloadN 67 C X d7_66 rfl ?_
                  refine s_icmp_ge 115 70 C X d7_67 (fun c => absurd (by decide : i1 < i3) c) (fun _ => ?_)
                  refine s_aloadN 71 C X d7_70 rfl rfl ?_
                  refine s_iload 73 C X d7_71 rfl ?_
                  refine s_laload 74 C X d7_73 A_o5 ⟨by decide, by decide⟩ (v := (.long y267)) rfl ?_
                  refine s_ldc2Long 77 C X d7_74 (mW 14 rfl) ?_
                  refine s_lcmp 78 C X d7_77 ?_
                  suffices J292 : ∀ (T : State) (hh : Heap) (y291 : Int64) (D292 : (((y267).toInt = (2305843009213693951 : Int)) ∧ y291 = y211) ∨ ((¬ ((y267).toInt = (2305843009213693951 : Int))) ∧ (¬ (((y212 + y267)).toInt < (y211).toInt)) ∧ y291 = y211) ∨ ((¬ ((y267).toInt = (2305843009213693951 : Int))) ∧ (((y212 + y267)).toInt < (y211).toInt) ∧ y291 = (y212 + y267))) (X : St p l e ({ frames := 0, cells := 0, slots := 0, locals := 0 } : Room) s m #[(.ref o1)] below meth c n0 T hh 0 0) (F_o1_most : Fld Z hh o1 "com/example/dayweave/dayweave/solve/TemporalNetwork" "most" "[[J" (.ref o2)) (A_o2 : Arv Z hh o2 k_o2 (.array .long) i3 [(.ref o3), (.ref o4), (.ref o5)] .null) (A_o3 : Arv Z hh o3 k_o3 .long i3 [(.long y285), (.long y291), (.long y212)] (.long j0)) (A_o4 : Arv Z hh o4 k_o3 .long i3 [(.long y238), (.long y239), (.long y240)] (.long j0)) (A_o5 : Arv Z hh o5 k_o3 .long i3 [(.long y266), (.long y267), (.long y268)] (.long j0)) (Kp : Keep h0 hh [o3, o4, o5]), Run p e below n0 Q' G' m T 109 #[rv o1, iv i3, iv i2, rv o5, iv i0, lv y212, .second, rv o3, iv i1] [] by
                    refine s_if_eq 109 81 C X d7_78 (fun c78_288 => ?_) (fun c78_288 => ?_)
                    · have t_c78_288 : (y267).toInt = (2305843009213693951 : Int) := cl_eq.mp c78_288
                      exact J292 T _ (y211) ((Or.inl ⟨t_c78_288, rfl⟩)) X F_o1_most A_o2 A_o3 A_o4 A_o5 Kp
                    have t_c78_288 : ¬ ((y267).toInt = (2305843009213693951 : Int)) := fun q => c78_288 (cl_eq.mpr q)
                    refine s_lload 83 C X d7_81 rfl ?_
                    refine s_aloadN 84 C X d7_83 rfl rfl ?_
                    refine s_iload 86 C X d7_84 rfl ?_
                    refine s_laload 87 C X d7_86 A_o5 ⟨by decide, by decide⟩ (v := (.long y267)) rfl ?_
                    refine s_ladd 88 C X d7_87 ?_
                    refine s_aload 90 C X d7_88 rfl rfl ?_
                    refine s_iload 92 C X d7_90 rfl ?_
                    refine s_laload 93 C X d7_92 A_o3 ⟨by decide, by decide⟩ (v := (.long y211)) rfl ?_
                    refine s_lcmp 94 C X d7_93 ?_
                    refine s_if_ge 109 97 C X d7_94 (fun c94_289 => ?_) (fun c94_289 => ?_)
                    · have t_c94_289 : ¬ (((y212 + y267)).toInt < (y211).toInt) := fun q => c94_289 (cl_lt.mpr q)
                      exact J292 T _ (y211) (Or.inr (Or.inl ⟨t_c78_288, t_c94_289, rfl⟩)) X F_o1_most A_o2 A_o3 A_o4 A_o5 Kp
                    have t_c94_289 : ((y212 + y267)).toInt < (y211).toInt := cl_lt.mp c94_289
                    refine s_aload 99 C X d7_97 rfl rfl ?_
                    refine s_iload 101 C X d7_99 rfl ?_
                    refine s_lload 103 C X d7_101 rfl ?_
                    refine s_aloadN 104 C X d7_103 rfl rfl ?_
                    refine s_iload 106 C X d7_104 rfl ?_
                    refine s_laload 107 C X d7_106 A_o5 ⟨by decide, by decide⟩ (v := (.long y267)) rfl ?_
                    refine s_ladd 108 C X d7_107 ?_
                    refine s_lastore 109 1 C X d7_108 A_o3 g_o3 ⟨by decide, by decide⟩ rfl (Nat.le_of_ble_eq_true rfl) (fun T hh X W A_o3 => ?_)
                    have A_o3 : Arv Z _ o3 k_o3 .long i3 [(.long y285), (.long (y212 + y267)), (.long y212)] (.long j0) := A_o3
                    have F_o1_most := F_o1_most.other W (Or.inl ne_o1_o3)
                    have A_o2 := A_o2.other W ne_o2_o3
                    have A_o4 := A_o4.other W (Ne.symm ne_o3_o4)
                    have A_o5 := A_o5.other W (Ne.symm ne_o3_o5)
                    have Kp := Kp.wr W (Or.inl (by simp))
                    exact J292 T _ ((y212 + y267)) (Or.inr (Or.inr ⟨t_c78_288, t_c94_289, rfl⟩)) X F_o1_most A_o2 A_o3 A_o4 A_o5 Kp
                  intro T hh y291 D292  X F_o1_most A_o2 A_o3 A_o4 A_o5 Kp
                  have d_y291 : own_D y212 y267 y211 y291 := D292
                  refine s_iinc 112 C X (l' := #[rv o1, iv i3, iv i2, rv o5, iv i0, lv y212, .second, rv o3, iv i2]) d7_109 kc_iconst_1 rfl rfl ?_
                  refine s_goto 64 C X d7_112 ?_
                  refine s_iload 66 C X d7_64 rfl ?_
                  refine s_iloadN 67 C X d7_66 rfl ?_
                  refine s_icmp_ge 115 70 C X d7_67 (fun c => absurd (by decide : i2 < i3) c) (fun _ => ?_)
                  refine s_aloadN 71 C X d7_70 rfl rfl ?_
                  refine s_iload 73 C X d7_71 rfl ?_
                  refine s_laload 74 C X d7_73 A_o5 ⟨by decide, by decide⟩ (v := (.long y268)) rfl ?_
                  refine s_ldc2Long 77 C X d7_74 (mW 14 rfl) ?_
                  refine s_lcmp 78 C X d7_77 ?_
                  suffices J298 : ∀ (T : State) (hh : Heap) (y297 : Int64) (D298 : (((y268).toInt = (2305843009213693951 : Int)) ∧ y297 = y212) ∨ ((¬ ((y268).toInt = (2305843009213693951 : Int))) ∧ (¬ (((y212 + y268)).toInt < (y212).toInt)) ∧ y297 = y212) ∨ ((¬ ((y268).toInt = (2305843009213693951 : Int))) ∧ (((y212 + y268)).toInt < (y212).toInt) ∧ y297 = (y212 + y268))) (X : St p l e ({ frames := 0, cells := 0, slots := 0, locals := 0 } : Room) s m #[(.ref o1)] below meth c n0 T hh 0 0) (F_o1_most : Fld Z hh o1 "com/example/dayweave/dayweave/solve/TemporalNetwork" "most" "[[J" (.ref o2)) (A_o2 : Arv Z hh o2 k_o2 (.array .long) i3 [(.ref o3), (.ref o4), (.ref o5)] .null) (A_o3 : Arv Z hh o3 k_o3 .long i3 [(.long y285), (.long y291), (.long y297)] (.long j0)) (A_o4 : Arv Z hh o4 k_o3 .long i3 [(.long y238), (.long y239), (.long y240)] (.long j0)) (A_o5 : Arv Z hh o5 k_o3 .long i3 [(.long y266), (.long y267), (.long y268)] (.long j0)) (Kp : Keep h0 hh [o3, o4, o5]), Run p e below n0 Q' G' m T 109 #[rv o1, iv i3, iv i2, rv o5, iv i0, lv y212, .second, rv o3, iv i2] [] by
                    refine s_if_eq 109 81 C X d7_78 (fun c78_294 => ?_) (fun c78_294 => ?_)
                    · have t_c78_294 : (y268).toInt = (2305843009213693951 : Int) := cl_eq.mp c78_294
                      exact J298 T _ (y212) ((Or.inl ⟨t_c78_294, rfl⟩)) X F_o1_most A_o2 A_o3 A_o4 A_o5 Kp
                    have t_c78_294 : ¬ ((y268).toInt = (2305843009213693951 : Int)) := fun q => c78_294 (cl_eq.mpr q)
                    refine s_lload 83 C X d7_81 rfl ?_
                    refine s_aloadN 84 C X d7_83 rfl rfl ?_
                    refine s_iload 86 C X d7_84 rfl ?_
                    refine s_laload 87 C X d7_86 A_o5 ⟨by decide, by decide⟩ (v := (.long y268)) rfl ?_
                    refine s_ladd 88 C X d7_87 ?_
                    refine s_aload 90 C X d7_88 rfl rfl ?_
                    refine s_iload 92 C X d7_90 rfl ?_
                    refine s_laload 93 C X d7_92 A_o3 ⟨by decide, by decide⟩ (v := (.long y212)) rfl ?_
                    refine s_lcmp 94 C X d7_93 ?_
                    refine s_if_ge 109 97 C X d7_94 (fun c94_295 => ?_) (fun c94_295 => ?_)
                    · have t_c94_295 : ¬ (((y212 + y268)).toInt < (y212).toInt) := fun q => c94_295 (cl_lt.mpr q)
                      exact J298 T _ (y212) (Or.inr (Or.inl ⟨t_c78_294, t_c94_295, rfl⟩)) X F_o1_most A_o2 A_o3 A_o4 A_o5 Kp
                    have t_c94_295 : ((y212 + y268)).toInt < (y212).toInt := cl_lt.mp c94_295
                    refine s_aload 99 C X d7_97 rfl rfl ?_
                    refine s_iload 101 C X d7_99 rfl ?_
                    refine s_lload 103 C X d7_101 rfl ?_
                    refine s_aloadN 104 C X d7_103 rfl rfl ?_
                    refine s_iload 106 C X d7_104 rfl ?_
                    refine s_laload 107 C X d7_106 A_o5 ⟨by decide, by decide⟩ (v := (.long y268)) rfl ?_
                    refine s_ladd 108 C X d7_107 ?_
                    refine s_lastore 109 2 C X d7_108 A_o3 g_o3 ⟨by decide, by decide⟩ rfl (Nat.le_of_ble_eq_true rfl) (fun T hh X W A_o3 => ?_)
                    have A_o3 : Arv Z _ o3 k_o3 .long i3 [(.long y285), (.long y291), (.long (y212 + y268))] (.long j0) := A_o3
                    have F_o1_most := F_o1_most.other W (Or.inl ne_o1_o3)
                    have A_o2 := A_o2.other W ne_o2_o3
                    have A_o4 := A_o4.other W (Ne.symm ne_o3_o4)
                    have A_o5 := A_o5.other W (Ne.symm ne_o3_o5)
                    have Kp := Kp.wr W (Or.inl (by simp))
                    exact J298 T _ ((y212 + y268)) (Or.inr (Or.inr ⟨t_c78_294, t_c94_295, rfl⟩)) X F_o1_most A_o2 A_o3 A_o4 A_o5 Kp
                  intro T hh y297 D298  X F_o1_most A_o2 A_o3 A_o4 A_o5 Kp
                  have d_y297 : own_D y212 y268 y212 y297 := D298
                  refine s_iinc 112 C X (l' := #[rv o1, iv i3, iv i2, rv o5, iv i0, lv y212, .second, rv o3, iv i3]) d7_109 kc_iconst_1 rfl rfl ?_
                  refine s_goto 64 C X d7_112 ?_
                  refine s_iload 66 C X d7_64 rfl ?_
                  refine s_iloadN 67 C X d7_66 rfl ?_
                  refine s_icmp_ge 115 70 C X d7_67 (fun _ => ?_) (fun c => absurd c (by decide))
                  exact J306 T _ (y285) (y291) (y297) (rv o3) (iv i3) ((Or.inl ⟨y285, y291, y297, t_c46_280, d_y285, d_y291, d_y297, rfl, rfl, rfl⟩)) (Or.inl ⟨rfl, rfl⟩) X F_o1_most A_o2 A_o3 A_o4 A_o5 Kp
                have t_c46_280 : (y212).toInt = (2305843009213693951 : Int) := cl_eq.mp c46_280
                refine s_goto 115 C X d7_49 ?_
                exact J306 T _ (y210) (y211) (y212) (y264) (y265) (Or.inr ⟨t_c46_280, rfl, rfl, rfl⟩) (Or.inr ⟨rfl, rfl⟩) X F_o1_most A_o2 A_o3 A_o4 A_o5 Kp
              intro T hh y303 y304 y305 y301 y302 D306 hS306 X F_o1_most A_o2 A_o3 A_o4 A_o5 Kp
              obtain ⟨e_y303, e_y304, e_y305⟩ : own_E y212 y266 y210 y303 ∧ own_E y212 y267 y211 y304 ∧ own_E y212 y268 y212 y305 := by
                rcases D306 with ⟨_, _, _, t, d0, d1, d2, q0, q1, q2⟩ | ⟨t, q0, q1, q2⟩
                · rw [q0, q1, q2]; exact ⟨Or.inr ⟨t, d0⟩, Or.inr ⟨t, d1⟩, Or.inr ⟨t, d2⟩⟩
                · exact ⟨Or.inl ⟨t, q0⟩, Or.inl ⟨t, q1⟩, Or.inl ⟨t, q2⟩⟩
              refine s_iinc 118 C X (l' := #[rv o1, iv i3, iv i2, rv o5, iv i1, lv y212, .second, y301, y302]) d7_115 kc_iconst_1 rfl rfl ?_
              refine s_goto 23 C X d7_118 ?_
              refine s_iload 25 C X d7_23 rfl ?_
              refine s_iloadN 26 C X d7_25 rfl ?_
              refine s_icmp_ge 121 29 C X d7_26 (fun c => absurd (by decide : i1 < i3) c) (fun _ => ?_)
              refine s_aloadN 30 C X d7_29 rfl rfl ?_
              refine s_getfield 33 C X (host := "") d7_30 (Or.inl (mW 12 rfl)) Via.refl F_o1_most (fun T X => ?_)
              refine s_iload 35 C X d7_33 rfl ?_
              refine s_aaload 36 C X d7_35 A_o2 rfl ⟨by decide, by decide⟩ (v := (.ref o4)) rfl ?_
              refine s_iloadN 37 C X d7_36 rfl ?_
              refine s_laload 38 C X d7_37 A_o4 ⟨by decide, by decide⟩ (v := (.long y240)) rfl ?_
              suffices JS : Run p e below n0 Q' G' m T 40 #[rv o1, iv i3, iv i2, rv o5, iv i1, lv y240, .second, y301, y302] [] by
                rcases hS306 with ⟨rfl, rfl⟩ | ⟨rfl, rfl⟩ <;> rcases hS269 with ⟨rfl, rfl⟩ | ⟨rfl, rfl⟩ <;> rcases hS241 with ⟨rfl, rfl⟩ | ⟨rfl, rfl⟩ <;> rcases hS213 with ⟨rfl, rfl⟩ | ⟨rfl, rfl⟩ <;> rcases hS176 with ⟨rfl, rfl⟩ | ⟨rfl, rfl⟩ <;> rcases hS148 with ⟨rfl, rfl⟩ | ⟨rfl, rfl⟩ <;> rcases hS120 with ⟨rfl, rfl⟩ | ⟨rfl, rfl⟩ <;> exact s_lstore 40 C X d7_38 rfl JS
              refine s_lload 42 C X d7_40 rfl ?_
              refine s_ldc2Long 45 C X d7_42 (mW 14 rfl) ?_
              refine s_lcmp 46 C X d7_45 ?_
              suffices J334 : ∀ (T : State) (hh : Heap) (y331 : Int64) (y332 : Int64) (y333 : Int64) (y329 : Slot) (y330 : Slot) (D334 : (∃ (y313 : Int64) (y319 : Int64) (y325 : Int64), (¬ ((y240).toInt = (2305843009213693951 : Int))) ∧ own_D y240 y266 y238 y313 ∧ own_D y240 y267 y239 y319 ∧ own_D y240 y268 y240 y325 ∧ y331 = y313 ∧ y332 = y319 ∧ y333 = y325) ∨ (((y240).toInt = (2305843009213693951 : Int)) ∧ y331 = y238 ∧ y332 = y239 ∧ y333 = y240)) (hS334 : (y329 = rv o4 ∧ y330 = iv i3) ∨ (y329 = y301 ∧ y330 = y302)) (X : St p l e ({ frames := 0, cells := 0, slots := 0, locals := 0 } : Room) s m #[(.ref o1)] below meth c n0 T hh 0 0) (F_o1_most : Fld Z hh o1 "com/example/dayweave/dayweave/solve/TemporalNetwork" "most" "[[J" (.ref o2)) (A_o2 : Arv Z hh o2 k_o2 (.array .long) i3 [(.ref o3), (.ref o4), (.ref o5)] .null) (A_o3 : Arv Z hh o3 k_o3 .long i3 [(.long y303), (.long y304), (.long y305)] (.long j0)) (A_o4 : Arv Z hh o4 k_o3 .long i3 [(.long y331), (.long y332), (.long y333)] (.long j0)) (A_o5 : Arv Z hh o5 k_o3 .long i3 [(.long y266), (.long y267), (.long y268)] (.long j0)) (Kp : Keep h0 hh [o3, o4, o5]), Run p e below n0 Q' G' m T 115 #[rv o1, iv i3, iv i2, rv o5, iv i1, lv y240, .second, y329, y330] [] by
                refine s_if_ne 52 49 C X d7_46 (fun c46_308 => ?_) (fun c46_308 => ?_)
                · have t_c46_308 : ¬ ((y240).toInt = (2305843009213693951 : Int)) := fun q => c46_308 (cl_eq.mpr q)
                  refine s_aloadN 53 C X d7_52 rfl rfl ?_
                  refine s_getfield 56 C X (host := "") d7_53 (Or.inl (mW 12 rfl)) Via.refl F_o1_most (fun T X => ?_)
                  refine s_iload 58 C X d7_56 rfl ?_
                  refine s_aaload 59 C X d7_58 A_o2 rfl ⟨by decide, by decide⟩ (v := (.ref o4)) rfl ?_
                  suffices JS : Run p e below n0 Q' G' m T 61 #[rv o1, iv i3, iv i2, rv o5, iv i1, lv y240, .second, rv o4, y302] [] by
                    rcases hS306 with ⟨rfl, rfl⟩ | ⟨rfl, rfl⟩ <;> rcases hS269 with ⟨rfl, rfl⟩ | ⟨rfl, rfl⟩ <;> rcases hS241 with ⟨rfl, rfl⟩ | ⟨rfl, rfl⟩ <;> rcases hS213 with ⟨rfl, rfl⟩ | ⟨rfl, rfl⟩ <;> rcases hS176 with ⟨rfl, rfl⟩ | ⟨rfl, rfl⟩ <;> rcases hS148 with ⟨rfl, rfl⟩ | ⟨rfl, rfl⟩ <;> rcases hS120 with ⟨rfl, rfl⟩ | ⟨rfl, rfl⟩ <;> exact s_astore 61 C X d7_59 rfl rfl JS
                  refine s_iconst 62 C X d7_61 kc_iconst_0 ?_
                  suffices JS : Run p e below n0 Q' G' m T 64 #[rv o1, iv i3, iv i2, rv o5, iv i1, lv y240, .second, rv o4, iv i0] [] by
                    rcases hS306 with ⟨rfl, rfl⟩ | ⟨rfl, rfl⟩ <;> rcases hS269 with ⟨rfl, rfl⟩ | ⟨rfl, rfl⟩ <;> rcases hS241 with ⟨rfl, rfl⟩ | ⟨rfl, rfl⟩ <;> rcases hS213 with ⟨rfl, rfl⟩ | ⟨rfl, rfl⟩ <;> rcases hS176 with ⟨rfl, rfl⟩ | ⟨rfl, rfl⟩ <;> rcases hS148 with ⟨rfl, rfl⟩ | ⟨rfl, rfl⟩ <;> rcases hS120 with ⟨rfl, rfl⟩ | ⟨rfl, rfl⟩ <;> exact s_istore 64 C X d7_62 rfl JS
                  refine s_iload 66 C X d7_64 rfl ?_
                  refine s_iloadN 67 C X d7_66 rfl ?_
                  refine s_icmp_ge 115 70 C X d7_67 (fun c => absurd (by decide : i0 < i3) c) (fun _ => ?_)
                  refine s_aloadN 71 C X d7_70 rfl rfl ?_
                  refine s_iload 73 C X d7_71 rfl ?_
                  refine s_laload 74 C X d7_73 A_o5 ⟨by decide, by decide⟩ (v := (.long y266)) rfl ?_
                  refine s_ldc2Long 77 C X d7_74 (mW 14 rfl) ?_
                  refine s_lcmp 78 C X d7_77 ?_
                  suffices J314 : ∀ (T : State) (hh : Heap) (y313 : Int64) (D314 : (((y266).toInt = (2305843009213693951 : Int)) ∧ y313 = y238) ∨ ((¬ ((y266).toInt = (2305843009213693951 : Int))) ∧ (¬ (((y240 + y266)).toInt < (y238).toInt)) ∧ y313 = y238) ∨ ((¬ ((y266).toInt = (2305843009213693951 : Int))) ∧ (((y240 + y266)).toInt < (y238).toInt) ∧ y313 = (y240 + y266))) (X : St p l e ({ frames := 0, cells := 0, slots := 0, locals := 0 } : Room) s m #[(.ref o1)] below meth c n0 T hh 0 0) (F_o1_most : Fld Z hh o1 "com/example/dayweave/dayweave/solve/TemporalNetwork" "most" "[[J" (.ref o2)) (A_o2 : Arv Z hh o2 k_o2 (.array .long) i3 [(.ref o3), (.ref o4), (.ref o5)] .null) (A_o3 : Arv Z hh o3 k_o3 .long i3 [(.long y303), (.long y304), (.long y305)] (.long j0)) (A_o4 : Arv Z hh o4 k_o3 .long i3 [(.long y313), (.long y239), (.long y240)] (.long j0)) (A_o5 : Arv Z hh o5 k_o3 .long i3 [(.long y266), (.long y267), (.long y268)] (.long j0)) (Kp : Keep h0 hh [o3, o4, o5]), Run p e below n0 Q' G' m T 109 #[rv o1, iv i3, iv i2, rv o5, iv i1, lv y240, .second, rv o4, iv i0] [] by
                    refine s_if_eq 109 81 C X d7_78 (fun c78_310 => ?_) (fun c78_310 => ?_)
                    · have t_c78_310 : (y266).toInt = (2305843009213693951 : Int) := cl_eq.mp c78_310
                      exact J314 T _ (y238) ((Or.inl ⟨t_c78_310, rfl⟩)) X F_o1_most A_o2 A_o3 A_o4 A_o5 Kp
                    have t_c78_310 : ¬ ((y266).toInt = (2305843009213693951 : Int)) := fun q => c78_310 (cl_eq.mpr q)
                    refine s_lload 83 C X d7_81 rfl ?_
                    refine s_aloadN 84 C X d7_83 rfl rfl ?_
                    refine s_iload 86 C X d7_84 rfl ?_
                    refine s_laload 87 C X d7_86 A_o5 ⟨by decide, by decide⟩ (v := (.long y266)) rfl ?_
                    refine s_ladd 88 C X d7_87 ?_
                    refine s_aload 90 C X d7_88 rfl rfl ?_
                    refine s_iload 92 C X d7_90 rfl ?_
                    refine s_laload 93 C X d7_92 A_o4 ⟨by decide, by decide⟩ (v := (.long y238)) rfl ?_
                    refine s_lcmp 94 C X d7_93 ?_
                    refine s_if_ge 109 97 C X d7_94 (fun c94_311 => ?_) (fun c94_311 => ?_)
                    · have t_c94_311 : ¬ (((y240 + y266)).toInt < (y238).toInt) := fun q => c94_311 (cl_lt.mpr q)
                      exact J314 T _ (y238) (Or.inr (Or.inl ⟨t_c78_310, t_c94_311, rfl⟩)) X F_o1_most A_o2 A_o3 A_o4 A_o5 Kp
                    have t_c94_311 : ((y240 + y266)).toInt < (y238).toInt := cl_lt.mp c94_311
                    refine s_aload 99 C X d7_97 rfl rfl ?_
                    refine s_iload 101 C X d7_99 rfl ?_
                    refine s_lload 103 C X d7_101 rfl ?_
                    refine s_aloadN 104 C X d7_103 rfl rfl ?_
                    refine s_iload 106 C X d7_104 rfl ?_
                    refine s_laload 107 C X d7_106 A_o5 ⟨by decide, by decide⟩ (v := (.long y266)) rfl ?_
                    refine s_ladd 108 C X d7_107 ?_
                    refine s_lastore 109 0 C X d7_108 A_o4 g_o4 ⟨by decide, by decide⟩ rfl (Nat.le_of_ble_eq_true rfl) (fun T hh X W A_o4 => ?_)
                    have A_o4 : Arv Z _ o4 k_o3 .long i3 [(.long (y240 + y266)), (.long y239), (.long y240)] (.long j0) := A_o4
                    have F_o1_most := F_o1_most.other W (Or.inl ne_o1_o4)
                    have A_o2 := A_o2.other W ne_o2_o4
                    have A_o3 := A_o3.other W ne_o3_o4
                    have A_o5 := A_o5.other W (Ne.symm ne_o4_o5)
                    have Kp := Kp.wr W (Or.inl (by simp))
                    exact J314 T _ ((y240 + y266)) (Or.inr (Or.inr ⟨t_c78_310, t_c94_311, rfl⟩)) X F_o1_most A_o2 A_o3 A_o4 A_o5 Kp
                  intro T hh y313 D314  X F_o1_most A_o2 A_o3 A_o4 A_o5 Kp
                  have d_y313 : own_D y240 y266 y238 y313 := D314
                  refine s_iinc 112 C X (l' := #[rv o1, iv i3, iv i2, rv o5, iv i1, lv y240, .second, rv o4, iv i1]) d7_109 kc_iconst_1 rfl rfl ?_
                  refine s_goto 64 C X d7_112 ?_
                  refine s_iload 66 C X d7_64 rfl ?_
                  refine s_iloadN 67 C X d7_66 rfl ?_
                  refine s_icmp_ge 115 70 C X d7_67 (fun c => absurd (by decide : i1 < i3) c) (fun _ => ?_)
                  refine s_aloadN 71 C X d7_70 rfl rfl ?_
                  refine s_iload 73 C X d7_71 rfl ?_
                  refine s_laload 74 C X d7_73 A_o5 ⟨by decide, by decide⟩ (v := (.long y267)) rfl ?_
                  refine s_ldc2Long 77 C X d7_74 (mW 14 rfl) ?_
                  refine s_lcmp 78 C X d7_77 ?_
                  suffices J320 : ∀ (T : State) (hh : Heap) (y319 : Int64) (D320 : (((y267).toInt = (2305843009213693951 : Int)) ∧ y319 = y239) ∨ ((¬ ((y267).toInt = (2305843009213693951 : Int))) ∧ (¬ (((y240 + y267)).toInt < (y239).toInt)) ∧ y319 = y239) ∨ ((¬ ((y267).toInt = (2305843009213693951 : Int))) ∧ (((y240 + y267)).toInt < (y239).toInt) ∧ y319 = (y240 + y267))) (X : St p l e ({ frames := 0, cells := 0, slots := 0, locals := 0 } : Room) s m #[(.ref o1)] below meth c n0 T hh 0 0) (F_o1_most : Fld Z hh o1 "com/example/dayweave/dayweave/solve/TemporalNetwork" "most" "[[J" (.ref o2)) (A_o2 : Arv Z hh o2 k_o2 (.array .long) i3 [(.ref o3), (.ref o4), (.ref o5)] .null) (A_o3 : Arv Z hh o3 k_o3 .long i3 [(.long y303), (.long y304), (.long y305)] (.long j0)) (A_o4 : Arv Z hh o4 k_o3 .long i3 [(.long y313), (.long y319), (.long y240)] (.long j0)) (A_o5 : Arv Z hh o5 k_o3 .long i3 [(.long y266), (.long y267), (.long y268)] (.long j0)) (Kp : Keep h0 hh [o3, o4, o5]), Run p e below n0 Q' G' m T 109 #[rv o1, iv i3, iv i2, rv o5, iv i1, lv y240, .second, rv o4, iv i1] [] by
                    refine s_if_eq 109 81 C X d7_78 (fun c78_316 => ?_) (fun c78_316 => ?_)
                    · have t_c78_316 : (y267).toInt = (2305843009213693951 : Int) := cl_eq.mp c78_316
                      exact J320 T _ (y239) ((Or.inl ⟨t_c78_316, rfl⟩)) X F_o1_most A_o2 A_o3 A_o4 A_o5 Kp
                    have t_c78_316 : ¬ ((y267).toInt = (2305843009213693951 : Int)) := fun q => c78_316 (cl_eq.mpr q)
                    refine s_lload 83 C X d7_81 rfl ?_
                    refine s_aloadN 84 C X d7_83 rfl rfl ?_
                    refine s_iload 86 C X d7_84 rfl ?_
                    refine s_laload 87 C X d7_86 A_o5 ⟨by decide, by decide⟩ (v := (.long y267)) rfl ?_
                    refine s_ladd 88 C X d7_87 ?_
                    refine s_aload 90 C X d7_88 rfl rfl ?_
                    refine s_iload 92 C X d7_90 rfl ?_
                    refine s_laload 93 C X d7_92 A_o4 ⟨by decide, by decide⟩ (v := (.long y239)) rfl ?_
                    refine s_lcmp 94 C X d7_93 ?_
                    refine s_if_ge 109 97 C X d7_94 (fun c94_317 => ?_) (fun c94_317 => ?_)
                    · have t_c94_317 : ¬ (((y240 + y267)).toInt < (y239).toInt) := fun q => c94_317 (cl_lt.mpr q)
                      exact J320 T _ (y239) (Or.inr (Or.inl ⟨t_c78_316, t_c94_317, rfl⟩)) X F_o1_most A_o2 A_o3 A_o4 A_o5 Kp
                    have t_c94_317 : ((y240 + y267)).toInt < (y239).toInt := cl_lt.mp c94_317
                    refine s_aload 99 C X d7_97 rfl rfl ?_
                    refine s_iload 101 C X d7_99 rfl ?_
                    refine s_lload 103 C X d7_101 rfl ?_
                    refine s_aloadN 104 C X d7_103 rfl rfl ?_
                    refine s_iload 106 C X d7_104 rfl ?_
                    refine s_laload 107 C X d7_106 A_o5 ⟨by decide, by decide⟩ (v := (.long y267)) rfl ?_
                    refine s_ladd 108 C X d7_107 ?_
                    refine s_lastore 109 1 C X d7_108 A_o4 g_o4 ⟨by decide, by decide⟩ rfl (Nat.le_of_ble_eq_true rfl) (fun T hh X W A_o4 => ?_)
                    have A_o4 : Arv Z _ o4 k_o3 .long i3 [(.long y313), (.long (y240 + y267)), (.long y240)] (.long j0) := A_o4
                    have F_o1_most := F_o1_most.other W (Or.inl ne_o1_o4)
                    have A_o2 := A_o2.other W ne_o2_o4
                    have A_o3 := A_o3.other W ne_o3_o4
                    have A_o5 := A_o5.other W (Ne.symm ne_o4_o5)
                    have Kp := Kp.wr W (Or.inl (by simp))
                    exact J320 T _ ((y240 + y267)) (Or.inr (Or.inr ⟨t_c78_316, t_c94_317, rfl⟩)) X F_o1_most A_o2 A_o3 A_o4 A_o5 Kp
                  intro T hh y319 D320  X F_o1_most A_o2 A_o3 A_o4 A_o5 Kp
                  have d_y319 : own_D y240 y267 y239 y319 := D320
                  refine s_iinc 112 C X (l' := #[rv o1, iv i3, iv i2, rv o5, iv i1, lv y240, .second, rv o4, iv i2]) d7_109 kc_iconst_1 rfl rfl ?_
                  refine s_goto 64 C X d7_112 ?_
                  refine s_iload 66 C X d7_64 rfl ?_
                  refine s_iloadN 67 C X d7_66 rfl ?_
                  refine s_icmp_ge 115 70 C X d7_67 (fun c => absurd (by decide : i2 < i3) c) (fun _ => ?_)
                  refine s_aloadN 71 C X d7_70 rfl rfl ?_
                  refine s_iload 73 C X d7_71 rfl ?_
                  refine s_laload 74 C X d7_73 A_o5 ⟨by decide, by decide⟩ (v := (.long y268)) rfl ?_
                  refine s_ldc2Long 77 C X d7_74 (mW 14 rfl) ?_
                  refine s_lcmp 78 C X d7_77 ?_
                  suffices J326 : ∀ (T : State) (hh : Heap) (y325 : Int64) (D326 : (((y268).toInt = (2305843009213693951 : Int)) ∧ y325 = y240) ∨ ((¬ ((y268).toInt = (2305843009213693951 : Int))) ∧ (¬ (((y240 + y268)).toInt < (y240).toInt)) ∧ y325 = y240) ∨ ((¬ ((y268).toInt = (2305843009213693951 : Int))) ∧ (((y240 + y268)).toInt < (y240).toInt) ∧ y325 = (y240 + y268))) (X : St p l e ({ frames := 0, cells := 0, slots := 0, locals := 0 } : Room) s m #[(.ref o1)] below meth c n0 T hh 0 0) (F_o1_most : Fld Z hh o1 "com/example/dayweave/dayweave/solve/TemporalNetwork" "most" "[[J" (.ref o2)) (A_o2 : Arv Z hh o2 k_o2 (.array .long) i3 [(.ref o3), (.ref o4), (.ref o5)] .null) (A_o3 : Arv Z hh o3 k_o3 .long i3 [(.long y303), (.long y304), (.long y305)] (.long j0)) (A_o4 : Arv Z hh o4 k_o3 .long i3 [(.long y313), (.long y319), (.long y325)] (.long j0)) (A_o5 : Arv Z hh o5 k_o3 .long i3 [(.long y266), (.long y267), (.long y268)] (.long j0)) (Kp : Keep h0 hh [o3, o4, o5]), Run p e below n0 Q' G' m T 109 #[rv o1, iv i3, iv i2, rv o5, iv i1, lv y240, .second, rv o4, iv i2] [] by
                    refine s_if_eq 109 81 C X d7_78 (fun c78_322 => ?_) (fun c78_322 => ?_)
                    · have t_c78_322 : (y268).toInt = (2305843009213693951 : Int) := cl_eq.mp c78_322
                      exact J326 T _ (y240) ((Or.inl ⟨t_c78_322, rfl⟩)) X F_o1_most A_o2 A_o3 A_o4 A_o5 Kp
                    have t_c78_322 : ¬ ((y268).toInt = (2305843009213693951 : Int)) := fun q => c78_322 (cl_eq.mpr q)
                    refine s_lload 83 C X d7_81 rfl ?_
                    refine s_aloadN 84 C X d7_83 rfl rfl ?_
                    refine s_iload 86 C X d7_84 rfl ?_
                    refine s_laload 87 C X d7_86 A_o5 ⟨by decide, by decide⟩ (v := (.long y268)) rfl ?_
                    refine s_ladd 88 C X d7_87 ?_
                    refine s_aload 90 C X d7_88 rfl rfl ?_
                    refine s_iload 92 C X d7_90 rfl ?_
                    refine s_laload 93 C X d7_92 A_o4 ⟨by decide, by decide⟩ (v := (.long y240)) rfl ?_
                    refine s_lcmp 94 C X d7_93 ?_
                    refine s_if_ge 109 97 C X d7_94 (fun c94_323 => ?_) (fun c94_323 => ?_)
                    · have t_c94_323 : ¬ (((y240 + y268)).toInt < (y240).toInt) := fun q => c94_323 (cl_lt.mpr q)
                      exact J326 T _ (y240) (Or.inr (Or.inl ⟨t_c78_322, t_c94_323, rfl⟩)) X F_o1_most A_o2 A_o3 A_o4 A_o5 Kp
                    have t_c94_323 : ((y240 + y268)).toInt < (y240).toInt := cl_lt.mp c94_323
                    refine s_aload 99 C X d7_97 rfl rfl ?_
                    refine s_iload 101 C X d7_99 rfl ?_
                    refine s_lload 103 C X d7_101 rfl ?_
                    refine s_aloadN 104 C X d7_103 rfl rfl ?_
                    refine s_iload 106 C X d7_104 rfl ?_
                    refine s_laload 107 C X d7_106 A_o5 ⟨by decide, by decide⟩ (v := (.long y268)) rfl ?_
                    refine s_ladd 108 C X d7_107 ?_
                    refine s_lastore 109 2 C X d7_108 A_o4 g_o4 ⟨by decide, by decide⟩ rfl (Nat.le_of_ble_eq_true rfl) (fun T hh X W A_o4 => ?_)
                    have A_o4 : Arv Z _ o4 k_o3 .long i3 [(.long y313), (.long y319), (.long (y240 + y268))] (.long j0) := A_o4
                    have F_o1_most := F_o1_most.other W (Or.inl ne_o1_o4)
                    have A_o2 := A_o2.other W ne_o2_o4
                    have A_o3 := A_o3.other W ne_o3_o4
                    have A_o5 := A_o5.other W (Ne.symm ne_o4_o5)
                    have Kp := Kp.wr W (Or.inl (by simp))
                    exact J326 T _ ((y240 + y268)) (Or.inr (Or.inr ⟨t_c78_322, t_c94_323, rfl⟩)) X F_o1_most A_o2 A_o3 A_o4 A_o5 Kp
                  intro T hh y325 D326  X F_o1_most A_o2 A_o3 A_o4 A_o5 Kp
                  have d_y325 : own_D y240 y268 y240 y325 := D326
                  refine s_iinc 112 C X (l' := #[rv o1, iv i3, iv i2, rv o5, iv i1, lv y240, .second, rv o4, iv i3]) d7_109 kc_iconst_1 rfl rfl ?_
                  refine s_goto 64 C X d7_112 ?_
                  refine s_iload 66 C X d7_64 rfl ?_
                  refine s_iloadN 67 C X d7_66 rfl ?_
                  refine s_icmp_ge 115 70 C X d7_67 (fun _ => ?_) (fun c => absurd c (by decide))
                  exact J334 T _ (y313) (y319) (y325) (rv o4) (iv i3) ((Or.inl ⟨y313, y319, y325, t_c46_308, d_y313, d_y319, d_y325, rfl, rfl, rfl⟩)) (Or.inl ⟨rfl, rfl⟩) X F_o1_most A_o2 A_o3 A_o4 A_o5 Kp
                have t_c46_308 : (y240).toInt = (2305843009213693951 : Int) := cl_eq.mp c46_308
                refine s_goto 115 C X d7_49 ?_
                exact J334 T _ (y238) (y239) (y240) (y301) (y302) (Or.inr ⟨t_c46_308, rfl, rfl, rfl⟩) (Or.inr ⟨rfl, rfl⟩) X F_o1_most A_o2 A_o3 A_o4 A_o5 Kp
              intro T hh y331 y332 y333 y329 y330 D334 hS334 X F_o1_most A_o2 A_o3 A_o4 A_o5 Kp
              obtain ⟨e_y331, e_y332, e_y333⟩ : own_E y240 y266 y238 y331 ∧ own_E y240 y267 y239 y332 ∧ own_E y240 y268 y240 y333 := by
                rcases D334 with ⟨_, _, _, t, d0, d1, d2, q0, q1, q2⟩ | ⟨t, q0, q1, q2⟩
                · rw [q0, q1, q2]; exact ⟨Or.inr ⟨t, d0⟩, Or.inr ⟨t, d1⟩, Or.inr ⟨t, d2⟩⟩
                · exact ⟨Or.inl ⟨t, q0⟩, Or.inl ⟨t, q1⟩, Or.inl ⟨t, q2⟩⟩
              refine s_iinc 118 C X (l' := #[rv o1, iv i3, iv i2, rv o5, iv i2, lv y240, .second, y329, y330]) d7_115 kc_iconst_1 rfl rfl ?_
              refine s_goto 23 C X d7_118 ?_
              refine s_iload 25 C X d7_23 rfl ?_
              refine s_iloadN 26 C X d7_25 rfl ?_
              refine s_icmp_ge 121 29 C X d7_26 (fun c => absurd (by decide : i2 < i3) c) (fun _ => ?_)
              refine s_aloadN 30 C X d7_29 rfl rfl ?_
              refine s_getfield 33 C X (host := "") d7_30 (Or.inl (mW 12 rfl)) Via.refl F_o1_most (fun T X => ?_)
              refine s_iload 35 C X d7_33 rfl ?_
              refine s_aaload 36 C X d7_35 A_o2 rfl ⟨by decide, by decide⟩ (v := (.ref o5)) rfl ?_
              refine s_iloadN 37 C X d7_36 rfl ?_
              refine s_laload 38 C X d7_37 A_o5 ⟨by decide, by decide⟩ (v := (.long y268)) rfl ?_
              suffices JS : Run p e below n0 Q' G' m T 40 #[rv o1, iv i3, iv i2, rv o5, iv i2, lv y268, .second, y329, y330] [] by
                rcases hS334 with ⟨rfl, rfl⟩ | ⟨rfl, rfl⟩ <;> rcases hS306 with ⟨rfl, rfl⟩ | ⟨rfl, rfl⟩ <;> rcases hS269 with ⟨rfl, rfl⟩ | ⟨rfl, rfl⟩ <;> rcases hS241 with ⟨rfl, rfl⟩ | ⟨rfl, rfl⟩ <;> rcases hS213 with ⟨rfl, rfl⟩ | ⟨rfl, rfl⟩ <;> rcases hS176 with ⟨rfl, rfl⟩ | ⟨rfl, rfl⟩ <;> rcases hS148 with ⟨rfl, rfl⟩ | ⟨rfl, rfl⟩ <;> rcases hS120 with ⟨rfl, rfl⟩ | ⟨rfl, rfl⟩ <;> exact s_lstore 40 C X d7_38 rfl JS
              refine s_lload 42 C X d7_40 rfl ?_
              refine s_ldc2Long 45 C X d7_42 (mW 14 rfl) ?_
              refine s_lcmp 46 C X d7_45 ?_
              suffices J362 : ∀ (T : State) (hh : Heap) (y359 : Int64) (y360 : Int64) (y361 : Int64) (y357 : Slot) (y358 : Slot) (D362 : (∃ (y341 : Int64) (y347 : Int64) (y353 : Int64), (¬ ((y268).toInt = (2305843009213693951 : Int))) ∧ own_D y268 y266 y266 y341 ∧ own_D y268 y267 y267 y347 ∧ own_D y268 y268 y268 y353 ∧ y359 = y341 ∧ y360 = y347 ∧ y361 = y353) ∨ (((y268).toInt = (2305843009213693951 : Int)) ∧ y359 = y266 ∧ y360 = y267 ∧ y361 = y268)) (hS362 : (y357 = rv o5 ∧ y358 = iv i3) ∨ (y357 = y329 ∧ y358 = y330)) (X : St p l e ({ frames := 0, cells := 0, slots := 0, locals := 0 } : Room) s m #[(.ref o1)] below meth c n0 T hh 0 0) (F_o1_most : Fld Z hh o1 "com/example/dayweave/dayweave/solve/TemporalNetwork" "most" "[[J" (.ref o2)) (A_o2 : Arv Z hh o2 k_o2 (.array .long) i3 [(.ref o3), (.ref o4), (.ref o5)] .null) (A_o3 : Arv Z hh o3 k_o3 .long i3 [(.long y303), (.long y304), (.long y305)] (.long j0)) (A_o4 : Arv Z hh o4 k_o3 .long i3 [(.long y331), (.long y332), (.long y333)] (.long j0)) (A_o5 : Arv Z hh o5 k_o3 .long i3 [(.long y359), (.long y360), (.long y361)] (.long j0)) (Kp : Keep h0 hh [o3, o4, o5]), Run p e below n0 Q' G' m T 115 #[rv o1, iv i3, iv i2, rv o5, iv i2, lv y268, .second, y357, y358] [] by
                refine s_if_ne 52 49 C X d7_46 (fun c46_336 => ?_) (fun c46_336 => ?_)
                · have t_c46_336 : ¬ ((y268).toInt = (2305843009213693951 : Int)) := fun q => c46_336 (cl_eq.mpr q)
                  refine s_aloadN 53 C X d7_52 rfl rfl ?_
                  refine s_getfield 56 C X (host := "") d7_53 (Or.inl (mW 12 rfl)) Via.refl F_o1_most (fun T X => ?_)
                  refine s_iload 58 C X d7_56 rfl ?_
                  refine s_aaload 59 C X d7_58 A_o2 rfl ⟨by decide, by decide⟩ (v := (.ref o5)) rfl ?_
                  suffices JS : Run p e below n0 Q' G' m T 61 #[rv o1, iv i3, iv i2, rv o5, iv i2, lv y268, .second, rv o5, y330] [] by
                    rcases hS334 with ⟨rfl, rfl⟩ | ⟨rfl, rfl⟩ <;> rcases hS306 with ⟨rfl, rfl⟩ | ⟨rfl, rfl⟩ <;> rcases hS269 with ⟨rfl, rfl⟩ | ⟨rfl, rfl⟩ <;> rcases hS241 with ⟨rfl, rfl⟩ | ⟨rfl, rfl⟩ <;> rcases hS213 with ⟨rfl, rfl⟩ | ⟨rfl, rfl⟩ <;> rcases hS176 with ⟨rfl, rfl⟩ | ⟨rfl, rfl⟩ <;> rcases hS148 with ⟨rfl, rfl⟩ | ⟨rfl, rfl⟩ <;> rcases hS120 with ⟨rfl, rfl⟩ | ⟨rfl, rfl⟩ <;> exact s_astore 61 C X d7_59 rfl rfl JS
                  refine s_iconst 62 C X d7_61 kc_iconst_0 ?_
                  suffices JS : Run p e below n0 Q' G' m T 64 #[rv o1, iv i3, iv i2, rv o5, iv i2, lv y268, .second, rv o5, iv i0] [] by
                    rcases hS334 with ⟨rfl, rfl⟩ | ⟨rfl, rfl⟩ <;> rcases hS306 with ⟨rfl, rfl⟩ | ⟨rfl, rfl⟩ <;> rcases hS269 with ⟨rfl, rfl⟩ | ⟨rfl, rfl⟩ <;> rcases hS241 with ⟨rfl, rfl⟩ | ⟨rfl, rfl⟩ <;> rcases hS213 with ⟨rfl, rfl⟩ | ⟨rfl, rfl⟩ <;> rcases hS176 with ⟨rfl, rfl⟩ | ⟨rfl, rfl⟩ <;> rcases hS148 with ⟨rfl, rfl⟩ | ⟨rfl, rfl⟩ <;> rcases hS120 with ⟨rfl, rfl⟩ | ⟨rfl, rfl⟩ <;> exact s_istore 64 C X d7_62 rfl JS
                  refine s_iload 66 C X d7_64 rfl ?_
                  refine s_iloadN 67 C X d7_66 rfl ?_
                  refine s_icmp_ge 115 70 C X d7_67 (fun c => absurd (by decide : i0 < i3) c) (fun _ => ?_)
                  refine s_aloadN 71 C X d7_70 rfl rfl ?_
                  refine s_iload 73 C X d7_71 rfl ?_
                  refine s_laload 74 C X d7_73 A_o5 ⟨by decide, by decide⟩ (v := (.long y266)) rfl ?_
                  refine s_ldc2Long 77 C X d7_74 (mW 14 rfl) ?_
                  refine s_lcmp 78 C X d7_77 ?_
                  suffices J342 : ∀ (T : State) (hh : Heap) (y341 : Int64) (D342 : (((y266).toInt = (2305843009213693951 : Int)) ∧ y341 = y266) ∨ ((¬ ((y266).toInt = (2305843009213693951 : Int))) ∧ (¬ (((y268 + y266)).toInt < (y266).toInt)) ∧ y341 = y266) ∨ ((¬ ((y266).toInt = (2305843009213693951 : Int))) ∧ (((y268 + y266)).toInt < (y266).toInt) ∧ y341 = (y268 + y266))) (X : St p l e ({ frames := 0, cells := 0, slots := 0, locals := 0 } : Room) s m #[(.ref o1)] below meth c n0 T hh 0 0) (F_o1_most : Fld Z hh o1 "com/example/dayweave/dayweave/solve/TemporalNetwork" "most" "[[J" (.ref o2)) (A_o2 : Arv Z hh o2 k_o2 (.array .long) i3 [(.ref o3), (.ref o4), (.ref o5)] .null) (A_o3 : Arv Z hh o3 k_o3 .long i3 [(.long y303), (.long y304), (.long y305)] (.long j0)) (A_o4 : Arv Z hh o4 k_o3 .long i3 [(.long y331), (.long y332), (.long y333)] (.long j0)) (A_o5 : Arv Z hh o5 k_o3 .long i3 [(.long y341), (.long y267), (.long y268)] (.long j0)) (Kp : Keep h0 hh [o3, o4, o5]), Run p e below n0 Q' G' m T 109 #[rv o1, iv i3, iv i2, rv o5, iv i2, lv y268, .second, rv o5, iv i0] [] by
                    refine s_if_eq 109 81 C X d7_78 (fun c78_338 => ?_) (fun c78_338 => ?_)
                    · have t_c78_338 : (y266).toInt = (2305843009213693951 : Int) := cl_eq.mp c78_338
                      exact J342 T _ (y266) ((Or.inl ⟨t_c78_338, rfl⟩)) X F_o1_most A_o2 A_o3 A_o4 A_o5 Kp
                    have t_c78_338 : ¬ ((y266).toInt = (2305843009213693951 : Int)) := fun q => c78_338 (cl_eq.mpr q)
                    refine s_lload 83 C X d7_81 rfl ?_
                    refine s_aloadN 84 C X d7_83 rfl rfl ?_
                    refine s_iload 86 C X d7_84 rfl ?_
                    refine s_laload 87 C X d7_86 A_o5 ⟨by decide, by decide⟩ (v := (.long y266)) rfl ?_
                    refine s_ladd 88 C X d7_87 ?_
                    refine s_aload 90 C X d7_88 rfl rfl ?_
                    refine s_iload 92 C X d7_90 rfl ?_
                    refine s_laload 93 C X d7_92 A_o5 ⟨by decide, by decide⟩ (v := (.long y266)) rfl ?_
                    refine s_lcmp 94 C X d7_93 ?_
                    refine s_if_ge 109 97 C X d7_94 (fun c94_339 => ?_) (fun c94_339 => ?_)
                    · have t_c94_339 : ¬ (((y268 + y266)).toInt < (y266).toInt) := fun q => c94_339 (cl_lt.mpr q)
                      exact J342 T _ (y266) (Or.inr (Or.inl ⟨t_c78_338, t_c94_339, rfl⟩)) X F_o1_most A_o2 A_o3 A_o4 A_o5 Kp
                    have t_c94_339 : ((y268 + y266)).toInt < (y266).toInt := cl_lt.mp c94_339
                    refine s_aload 99 C X d7_97 rfl rfl ?_
                    refine s_iload 101 C X d7_99 rfl ?_
                    refine s_lload 103 C X d7_101 rfl ?_
                    refine s_aloadN 104 C X d7_103 rfl rfl ?_
                    refine s_iload 106 C X d7_104 rfl ?_
                    refine s_laload 107 C X d7_106 A_o5 ⟨by decide, by decide⟩ (v := (.long y266)) rfl ?_
                    refine s_ladd 108 C X d7_107 ?_
                    refine s_lastore 109 0 C X d7_108 A_o5 g_o5 ⟨by decide, by decide⟩ rfl (Nat.le_of_ble_eq_true rfl) (fun T hh X W A_o5 => ?_)
                    have A_o5 : Arv Z _ o5 k_o3 .long i3 [(.long (y268 + y266)), (.long y267), (.long y268)] (.long j0) := A_o5
                    have F_o1_most := F_o1_most.other W (Or.inl ne_o1_o5)
                    have A_o2 := A_o2.other W ne_o2_o5
                    have A_o3 := A_o3.other W ne_o3_o5
                    have A_o4 := A_o4.other W ne_o4_o5
                    have Kp := Kp.wr W (Or.inl (by simp))
                    exact J342 T _ ((y268 + y266)) (Or.inr (Or.inr ⟨t_c78_338, t_c94_339, rfl⟩)) X F_o1_most A_o2 A_o3 A_o4 A_o5 Kp
                  intro T hh y341 D342  X F_o1_most A_o2 A_o3 A_o4 A_o5 Kp
                  have d_y341 : own_D y268 y266 y266 y341 := D342
                  refine s_iinc 112 C X (l' := #[rv o1, iv i3, iv i2, rv o5, iv i2, lv y268, .second, rv o5, iv i1]) d7_109 kc_iconst_1 rfl rfl ?_
                  refine s_goto 64 C X d7_112 ?_
                  refine s_iload 66 C X d7_64 rfl ?_
                  refine s_iloadN 67 C X d7_66 rfl ?_
                  refine s_icmp_ge 115 70 C X d7_67 (fun c => absurd (by decide : i1 < i3) c) (fun _ => ?_)
                  refine s_aloadN 71 C X d7_70 rfl rfl ?_
                  refine s_iload 73 C X d7_71 rfl ?_
                  refine s_laload 74 C X d7_73 A_o5 ⟨by decide, by decide⟩ (v := (.long y267)) rfl ?_
                  refine s_ldc2Long 77 C X d7_74 (mW 14 rfl) ?_
                  refine s_lcmp 78 C X d7_77 ?_
                  suffices J348 : ∀ (T : State) (hh : Heap) (y347 : Int64) (D348 : (((y267).toInt = (2305843009213693951 : Int)) ∧ y347 = y267) ∨ ((¬ ((y267).toInt = (2305843009213693951 : Int))) ∧ (¬ (((y268 + y267)).toInt < (y267).toInt)) ∧ y347 = y267) ∨ ((¬ ((y267).toInt = (2305843009213693951 : Int))) ∧ (((y268 + y267)).toInt < (y267).toInt) ∧ y347 = (y268 + y267))) (X : St p l e ({ frames := 0, cells := 0, slots := 0, locals := 0 } : Room) s m #[(.ref o1)] below meth c n0 T hh 0 0) (F_o1_most : Fld Z hh o1 "com/example/dayweave/dayweave/solve/TemporalNetwork" "most" "[[J" (.ref o2)) (A_o2 : Arv Z hh o2 k_o2 (.array .long) i3 [(.ref o3), (.ref o4), (.ref o5)] .null) (A_o3 : Arv Z hh o3 k_o3 .long i3 [(.long y303), (.long y304), (.long y305)] (.long j0)) (A_o4 : Arv Z hh o4 k_o3 .long i3 [(.long y331), (.long y332), (.long y333)] (.long j0)) (A_o5 : Arv Z hh o5 k_o3 .long i3 [(.long y341), (.long y347), (.long y268)] (.long j0)) (Kp : Keep h0 hh [o3, o4, o5]), Run p e below n0 Q' G' m T 109 #[rv o1, iv i3, iv i2, rv o5, iv i2, lv y268, .second, rv o5, iv i1] [] by
                    refine s_if_eq 109 81 C X d7_78 (fun c78_344 => ?_) (fun c78_344 => ?_)
                    · have t_c78_344 : (y267).toInt = (2305843009213693951 : Int) := cl_eq.mp c78_344
                      exact J348 T _ (y267) ((Or.inl ⟨t_c78_344, rfl⟩)) X F_o1_most A_o2 A_o3 A_o4 A_o5 Kp
                    have t_c78_344 : ¬ ((y267).toInt = (2305843009213693951 : Int)) := fun q => c78_344 (cl_eq.mpr q)
                    refine s_lload 83 C X d7_81 rfl ?_
                    refine s_aloadN 84 C X d7_83 rfl rfl ?_
                    refine s_iload 86 C X d7_84 rfl ?_
                    refine s_laload 87 C X d7_86 A_o5 ⟨by decide, by decide⟩ (v := (.long y267)) rfl ?_
                    refine s_ladd 88 C X d7_87 ?_
                    refine s_aload 90 C X d7_88 rfl rfl ?_
                    refine s_iload 92 C X d7_90 rfl ?_
                    refine s_laload 93 C X d7_92 A_o5 ⟨by decide, by decide⟩ (v := (.long y267)) rfl ?_
                    refine s_lcmp 94 C X d7_93 ?_
                    refine s_if_ge 109 97 C X d7_94 (fun c94_345 => ?_) (fun c94_345 => ?_)
                    · have t_c94_345 : ¬ (((y268 + y267)).toInt < (y267).toInt) := fun q => c94_345 (cl_lt.mpr q)
                      exact J348 T _ (y267) (Or.inr (Or.inl ⟨t_c78_344, t_c94_345, rfl⟩)) X F_o1_most A_o2 A_o3 A_o4 A_o5 Kp
                    have t_c94_345 : ((y268 + y267)).toInt < (y267).toInt := cl_lt.mp c94_345
                    refine s_aload 99 C X d7_97 rfl rfl ?_
                    refine s_iload 101 C X d7_99 rfl ?_
                    refine s_lload 103 C X d7_101 rfl ?_
                    refine s_aloadN 104 C X d7_103 rfl rfl ?_
                    refine s_iload 106 C X d7_104 rfl ?_
                    refine s_laload 107 C X d7_106 A_o5 ⟨by decide, by decide⟩ (v := (.long y267)) rfl ?_
                    refine s_ladd 108 C X d7_107 ?_
                    refine s_lastore 109 1 C X d7_108 A_o5 g_o5 ⟨by decide, by decide⟩ rfl (Nat.le_of_ble_eq_true rfl) (fun T hh X W A_o5 => ?_)
                    have A_o5 : Arv Z _ o5 k_o3 .long i3 [(.long y341), (.long (y268 + y267)), (.long y268)] (.long j0) := A_o5
                    have F_o1_most := F_o1_most.other W (Or.inl ne_o1_o5)
                    have A_o2 := A_o2.other W ne_o2_o5
                    have A_o3 := A_o3.other W ne_o3_o5
                    have A_o4 := A_o4.other W ne_o4_o5
                    have Kp := Kp.wr W (Or.inl (by simp))
                    exact J348 T _ ((y268 + y267)) (Or.inr (Or.inr ⟨t_c78_344, t_c94_345, rfl⟩)) X F_o1_most A_o2 A_o3 A_o4 A_o5 Kp
                  intro T hh y347 D348  X F_o1_most A_o2 A_o3 A_o4 A_o5 Kp
                  have d_y347 : own_D y268 y267 y267 y347 := D348
                  refine s_iinc 112 C X (l' := #[rv o1, iv i3, iv i2, rv o5, iv i2, lv y268, .second, rv o5, iv i2]) d7_109 kc_iconst_1 rfl rfl ?_
                  refine s_goto 64 C X d7_112 ?_
                  refine s_iload 66 C X d7_64 rfl ?_
                  refine s_iloadN 67 C X d7_66 rfl ?_
                  refine s_icmp_ge 115 70 C X d7_67 (fun c => absurd (by decide : i2 < i3) c) (fun _ => ?_)
                  refine s_aloadN 71 C X d7_70 rfl rfl ?_
                  refine s_iload 73 C X d7_71 rfl ?_
                  refine s_laload 74 C X d7_73 A_o5 ⟨by decide, by decide⟩ (v := (.long y268)) rfl ?_
                  refine s_ldc2Long 77 C X d7_74 (mW 14 rfl) ?_
                  refine s_lcmp 78 C X d7_77 ?_
                  suffices J354 : ∀ (T : State) (hh : Heap) (y353 : Int64) (D354 : (((y268).toInt = (2305843009213693951 : Int)) ∧ y353 = y268) ∨ ((¬ ((y268).toInt = (2305843009213693951 : Int))) ∧ (¬ (((y268 + y268)).toInt < (y268).toInt)) ∧ y353 = y268) ∨ ((¬ ((y268).toInt = (2305843009213693951 : Int))) ∧ (((y268 + y268)).toInt < (y268).toInt) ∧ y353 = (y268 + y268))) (X : St p l e ({ frames := 0, cells := 0, slots := 0, locals := 0 } : Room) s m #[(.ref o1)] below meth c n0 T hh 0 0) (F_o1_most : Fld Z hh o1 "com/example/dayweave/dayweave/solve/TemporalNetwork" "most" "[[J" (.ref o2)) (A_o2 : Arv Z hh o2 k_o2 (.array .long) i3 [(.ref o3), (.ref o4), (.ref o5)] .null) (A_o3 : Arv Z hh o3 k_o3 .long i3 [(.long y303), (.long y304), (.long y305)] (.long j0)) (A_o4 : Arv Z hh o4 k_o3 .long i3 [(.long y331), (.long y332), (.long y333)] (.long j0)) (A_o5 : Arv Z hh o5 k_o3 .long i3 [(.long y341), (.long y347), (.long y353)] (.long j0)) (Kp : Keep h0 hh [o3, o4, o5]), Run p e below n0 Q' G' m T 109 #[rv o1, iv i3, iv i2, rv o5, iv i2, lv y268, .second, rv o5, iv i2] [] by
                    refine s_if_eq 109 81 C X d7_78 (fun c78_350 => ?_) (fun c78_350 => ?_)
                    · have t_c78_350 : (y268).toInt = (2305843009213693951 : Int) := cl_eq.mp c78_350
                      exact J354 T _ (y268) ((Or.inl ⟨t_c78_350, rfl⟩)) X F_o1_most A_o2 A_o3 A_o4 A_o5 Kp
                    have t_c78_350 : ¬ ((y268).toInt = (2305843009213693951 : Int)) := fun q => c78_350 (cl_eq.mpr q)
                    refine s_lload 83 C X d7_81 rfl ?_
                    refine s_aloadN 84 C X d7_83 rfl rfl ?_
                    refine s_iload 86 C X d7_84 rfl ?_
                    refine s_laload 87 C X d7_86 A_o5 ⟨by decide, by decide⟩ (v := (.long y268)) rfl ?_
                    refine s_ladd 88 C X d7_87 ?_
                    refine s_aload 90 C X d7_88 rfl rfl ?_
                    refine s_iload 92 C X d7_90 rfl ?_
                    refine s_laload 93 C X d7_92 A_o5 ⟨by decide, by decide⟩ (v := (.long y268)) rfl ?_
                    refine s_lcmp 94 C X d7_93 ?_
                    refine s_if_ge 109 97 C X d7_94 (fun c94_351 => ?_) (fun c94_351 => ?_)
                    · have t_c94_351 : ¬ (((y268 + y268)).toInt < (y268).toInt) := fun q => c94_351 (cl_lt.mpr q)
                      exact J354 T _ (y268) (Or.inr (Or.inl ⟨t_c78_350, t_c94_351, rfl⟩)) X F_o1_most A_o2 A_o3 A_o4 A_o5 Kp
                    have t_c94_351 : ((y268 + y268)).toInt < (y268).toInt := cl_lt.mp c94_351
                    refine s_aload 99 C X d7_97 rfl rfl ?_
                    refine s_iload 101 C X d7_99 rfl ?_
                    refine s_lload 103 C X d7_101 rfl ?_
                    refine s_aloadN 104 C X d7_103 rfl rfl ?_
                    refine s_iload 106 C X d7_104 rfl ?_
                    refine s_laload 107 C X d7_106 A_o5 ⟨by decide, by decide⟩ (v := (.long y268)) rfl ?_
                    refine s_ladd 108 C X d7_107 ?_
                    refine s_lastore 109 2 C X d7_108 A_o5 g_o5 ⟨by decide, by decide⟩ rfl (Nat.le_of_ble_eq_true rfl) (fun T hh X W A_o5 => ?_)
                    have A_o5 : Arv Z _ o5 k_o3 .long i3 [(.long y341), (.long y347), (.long (y268 + y268))] (.long j0) := A_o5
                    have F_o1_most := F_o1_most.other W (Or.inl ne_o1_o5)
                    have A_o2 := A_o2.other W ne_o2_o5
                    have A_o3 := A_o3.other W ne_o3_o5
                    have A_o4 := A_o4.other W ne_o4_o5
                    have Kp := Kp.wr W (Or.inl (by simp))
                    exact J354 T _ ((y268 + y268)) (Or.inr (Or.inr ⟨t_c78_350, t_c94_351, rfl⟩)) X F_o1_most A_o2 A_o3 A_o4 A_o5 Kp
                  intro T hh y353 D354  X F_o1_most A_o2 A_o3 A_o4 A_o5 Kp
                  have d_y353 : own_D y268 y268 y268 y353 := D354
                  refine s_iinc 112 C X (l' := #[rv o1, iv i3, iv i2, rv o5, iv i2, lv y268, .second, rv o5, iv i3]) d7_109 kc_iconst_1 rfl rfl ?_
                  refine s_goto 64 C X d7_112 ?_
                  refine s_iload 66 C X d7_64 rfl ?_
                  refine s_iloadN 67 C X d7_66 rfl ?_
                  refine s_icmp_ge 115 70 C X d7_67 (fun _ => ?_) (fun c => absurd c (by decide))
                  exact J362 T _ (y341) (y347) (y353) (rv o5) (iv i3) ((Or.inl ⟨y341, y347, y353, t_c46_336, d_y341, d_y347, d_y353, rfl, rfl, rfl⟩)) (Or.inl ⟨rfl, rfl⟩) X F_o1_most A_o2 A_o3 A_o4 A_o5 Kp
                have t_c46_336 : (y268).toInt = (2305843009213693951 : Int) := cl_eq.mp c46_336
                refine s_goto 115 C X d7_49 ?_
                exact J362 T _ (y266) (y267) (y268) (y329) (y330) (Or.inr ⟨t_c46_336, rfl, rfl, rfl⟩) (Or.inr ⟨rfl, rfl⟩) X F_o1_most A_o2 A_o3 A_o4 A_o5 Kp
              intro T hh y359 y360 y361 y357 y358 D362 hS362 X F_o1_most A_o2 A_o3 A_o4 A_o5 Kp
              obtain ⟨e_y359, e_y360, e_y361⟩ : own_E y268 y266 y266 y359 ∧ own_E y268 y267 y267 y360 ∧ own_E y268 y268 y268 y361 := by
                rcases D362 with ⟨_, _, _, t, d0, d1, d2, q0, q1, q2⟩ | ⟨t, q0, q1, q2⟩
                · rw [q0, q1, q2]; exact ⟨Or.inr ⟨t, d0⟩, Or.inr ⟨t, d1⟩, Or.inr ⟨t, d2⟩⟩
                · exact ⟨Or.inl ⟨t, q0⟩, Or.inl ⟨t, q1⟩, Or.inl ⟨t, q2⟩⟩
              refine s_iinc 118 C X (l' := #[rv o1, iv i3, iv i2, rv o5, iv i3, lv y268, .second, y357, y358]) d7_115 kc_iconst_1 rfl rfl ?_
              refine s_goto 23 C X d7_118 ?_
              refine s_iload 25 C X d7_23 rfl ?_
              refine s_iloadN 26 C X d7_25 rfl ?_
              refine s_icmp_ge 121 29 C X d7_26 (fun _ => ?_) (fun c => absurd c (by decide))
              refine s_iconst 122 C X d7_121 kc_iconst_0 ?_
              refine s_istore 124 C X (l' := #[rv o1, iv i3, iv i2, rv o5, iv i0, lv y268, .second, y357, y358]) d7_122 rfl ?_
              refine s_iload 126 C X d7_124 rfl ?_
              refine s_iloadN 127 C X d7_126 rfl ?_
              refine s_icmp_ge 153 130 C X d7_127 (fun c => absurd (by decide : i0 < i3) c) (fun _ => ?_)
              refine s_aloadN 131 C X d7_130 rfl rfl ?_
              refine s_getfield 134 C X (host := "") d7_131 (Or.inl (mW 12 rfl)) Via.refl F_o1_most (fun T X => ?_)
              refine s_iload 136 C X d7_134 rfl ?_
              refine s_aaload 137 C X d7_136 A_o2 rfl ⟨by decide, by decide⟩ (v := (.ref o3)) rfl ?_
              refine s_iload 139 C X d7_137 rfl ?_
              refine s_laload 140 C X d7_139 A_o3 ⟨by decide, by decide⟩ (v := (.long y303)) rfl ?_
              refine s_lconst 141 C X (z := j0) d7_140 rfl ?_
              refine s_lcmp 142 C X d7_141 ?_
              refine s_if_ge 147 145 C X d7_142 (fun c142_365 => ?_) (fun c142_365 => ?_)
              · have t_c142_365 : ¬ ((y303).toInt < (0 : Int)) := fun q => c142_365 (cl_lt.mpr q)
                refine s_iinc 150 C X (l' := #[rv o1, iv i3, iv i2, rv o5, iv i1, lv y268, .second, y357, y358]) d7_147 kc_iconst_1 rfl rfl ?_
                refine s_goto 124 C X d7_150 ?_
                refine s_iload 126 C X d7_124 rfl ?_
                refine s_iloadN 127 C X d7_126 rfl ?_
                refine s_icmp_ge 153 130 C X d7_127 (fun c => absurd (by decide : i1 < i3) c) (fun _ => ?_)
                refine s_aloadN 131 C X d7_130 rfl rfl ?_
                refine s_getfield 134 C X (host := "") d7_131 (Or.inl (mW 12 rfl)) Via.refl F_o1_most (fun T X => ?_)
                refine s_iload 136 C X d7_134 rfl ?_
                refine s_aaload 137 C X d7_136 A_o2 rfl ⟨by decide, by decide⟩ (v := (.ref o4)) rfl ?_
                refine s_iload 139 C X d7_137 rfl ?_
                refine s_laload 140 C X d7_139 A_o4 ⟨by decide, by decide⟩ (v := (.long y332)) rfl ?_
                refine s_lconst 141 C X (z := j0) d7_140 rfl ?_
                refine s_lcmp 142 C X d7_141 ?_
                refine s_if_ge 147 145 C X d7_142 (fun c142_367 => ?_) (fun c142_367 => ?_)
                · have t_c142_367 : ¬ ((y332).toInt < (0 : Int)) := fun q => c142_367 (cl_lt.mpr q)
                  refine s_iinc 150 C X (l' := #[rv o1, iv i3, iv i2, rv o5, iv i2, lv y268, .second, y357, y358]) d7_147 kc_iconst_1 rfl rfl ?_
                  refine s_goto 124 C X d7_150 ?_
                  refine s_iload 126 C X d7_124 rfl ?_
                  refine s_iloadN 127 C X d7_126 rfl ?_
                  refine s_icmp_ge 153 130 C X d7_127 (fun c => absurd (by decide : i2 < i3) c) (fun _ => ?_)
                  refine s_aloadN 131 C X d7_130 rfl rfl ?_
                  refine s_getfield 134 C X (host := "") d7_131 (Or.inl (mW 12 rfl)) Via.refl F_o1_most (fun T X => ?_)
                  refine s_iload 136 C X d7_134 rfl ?_
                  refine s_aaload 137 C X d7_136 A_o2 rfl ⟨by decide, by decide⟩ (v := (.ref o5)) rfl ?_
                  refine s_iload 139 C X d7_137 rfl ?_
                  refine s_laload 140 C X d7_139 A_o5 ⟨by decide, by decide⟩ (v := (.long y361)) rfl ?_
                  refine s_lconst 141 C X (z := j0) d7_140 rfl ?_
                  refine s_lcmp 142 C X d7_141 ?_
                  refine s_if_ge 147 145 C X d7_142 (fun c142_369 => ?_) (fun c142_369 => ?_)
                  · have t_c142_369 : ¬ ((y361).toInt < (0 : Int)) := fun q => c142_369 (cl_lt.mpr q)
                    refine s_iinc 150 C X (l' := #[rv o1, iv i3, iv i2, rv o5, iv i3, lv y268, .second, y357, y358]) d7_147 kc_iconst_1 rfl rfl ?_
                    refine s_goto 124 C X d7_150 ?_
                    refine s_iload 126 C X d7_124 rfl ?_
                    refine s_iloadN 127 C X d7_126 rfl ?_
                    refine s_icmp_ge 153 130 C X d7_127 (fun _ => ?_) (fun c => absurd c (by decide))
                    refine s_iinc 156 C X (l' := #[rv o1, iv i3, iv i3, rv o5, iv i3, lv y268, .second, y357, y358]) d7_153 kc_iconst_1 rfl rfl ?_
                    refine s_goto 8 C X d7_156 ?_
                    refine s_iloadN 9 C X d7_8 rfl ?_
                    refine s_iloadN 10 C X d7_9 rfl ?_
                    refine s_icmp_ge 159 13 C X d7_10 (fun _ => ?_) (fun c => absurd c (by decide))
                    refine s_iconst 160 C X d7_159 kc_iconst_1 ?_
                    refine s_nreturn C X d7_160 rfl (by simp) rfl ?_ (FG hG (by decide) (by decide))
                    have hY : own_Y y34.toInt y45.toInt y56.toInt y67.toInt y78.toInt y89.toInt y303.toInt y304.toInt y305.toInt y331.toInt y332.toInt y359.toInt y361.toInt := own_pos hvz hvB01 hvB02 hvB10 hvB12 hvB20 hvB21 e_y117 e_y118 e_y119 e_y145 e_y146 e_y147 e_y173 e_y174 e_y175 t_c142_179 t_c142_181 t_c142_183 e_y210 e_y211 e_y212 e_y238 e_y239 e_y240 e_y266 e_y267 e_y268 t_c142_272 t_c142_274 t_c142_276 e_y303 e_y304 e_y305 e_y331 e_y332 e_y333 e_y359 e_y360 e_y361 t_c142_365 t_c142_367 t_c142_369
                    exact hQ _ _ (Or.inl ⟨y303, y304, y305, y331, y332, y333, y359, y360, y361, rfl, hY, A_o3, A_o4, A_o5, Kp⟩)
                  have t_c142_369 : (y361).toInt < (0 : Int) := cl_lt.mp c142_369
                  refine s_iconst 146 C X d7_145 kc_iconst_0 ?_
                  refine s_nreturn C X d7_146 rfl (by simp) rfl ?_ (FG hG (by decide) (by decide))
                  have hN : own_N y34.toInt y45.toInt y56.toInt y67.toInt y78.toInt y89.toInt := own_neg22 hvz hvB01 hvB02 hvB10 hvB12 hvB20 hvB21 e_y117 e_y118 e_y119 e_y145 e_y146 e_y147 e_y173 e_y174 e_y175 t_c142_179 t_c142_181 t_c142_183 e_y210 e_y211 e_y212 e_y238 e_y239 e_y240 e_y266 e_y267 e_y268 t_c142_272 t_c142_274 t_c142_276 e_y303 e_y304 e_y305 e_y331 e_y332 e_y333 e_y359 e_y360 e_y361 t_c142_365 t_c142_367 t_c142_369
                  exact hQ _ _ (Or.inr ⟨rfl, hN, Kp⟩)
                have t_c142_367 : (y332).toInt < (0 : Int) := cl_lt.mp c142_367
                refine s_iconst 146 C X d7_145 kc_iconst_0 ?_
                refine s_nreturn C X d7_146 rfl (by simp) rfl ?_ (FG hG (by decide) (by decide))
                have hN : own_N y34.toInt y45.toInt y56.toInt y67.toInt y78.toInt y89.toInt := own_neg21 hvz hvB01 hvB02 hvB10 hvB12 hvB20 hvB21 e_y117 e_y118 e_y119 e_y145 e_y146 e_y147 e_y173 e_y174 e_y175 t_c142_179 t_c142_181 t_c142_183 e_y210 e_y211 e_y212 e_y238 e_y239 e_y240 e_y266 e_y267 e_y268 t_c142_272 t_c142_274 t_c142_276 e_y303 e_y304 e_y305 e_y331 e_y332 e_y333 e_y359 e_y360 e_y361 t_c142_365 t_c142_367
                exact hQ _ _ (Or.inr ⟨rfl, hN, Kp⟩)
              have t_c142_365 : (y303).toInt < (0 : Int) := cl_lt.mp c142_365
              refine s_iconst 146 C X d7_145 kc_iconst_0 ?_
              refine s_nreturn C X d7_146 rfl (by simp) rfl ?_ (FG hG (by decide) (by decide))
              have hN : own_N y34.toInt y45.toInt y56.toInt y67.toInt y78.toInt y89.toInt := own_neg20 hvz hvB01 hvB02 hvB10 hvB12 hvB20 hvB21 e_y117 e_y118 e_y119 e_y145 e_y146 e_y147 e_y173 e_y174 e_y175 t_c142_179 t_c142_181 t_c142_183 e_y210 e_y211 e_y212 e_y238 e_y239 e_y240 e_y266 e_y267 e_y268 t_c142_272 t_c142_274 t_c142_276 e_y303 e_y304 e_y305 e_y331 e_y332 e_y333 e_y359 e_y360 e_y361 t_c142_365
              exact hQ _ _ (Or.inr ⟨rfl, hN, Kp⟩)
            have t_c142_276 : (y268).toInt < (0 : Int) := cl_lt.mp c142_276
            refine s_iconst 146 C X d7_145 kc_iconst_0 ?_
            refine s_nreturn C X d7_146 rfl (by simp) rfl ?_ (FG hG (by decide) (by decide))
            have hN : own_N y34.toInt y45.toInt y56.toInt y67.toInt y78.toInt y89.toInt := own_neg12 hvz hvB01 hvB02 hvB10 hvB12 hvB20 hvB21 e_y117 e_y118 e_y119 e_y145 e_y146 e_y147 e_y173 e_y174 e_y175 t_c142_179 t_c142_181 t_c142_183 e_y210 e_y211 e_y212 e_y238 e_y239 e_y240 e_y266 e_y267 e_y268 t_c142_272 t_c142_274 t_c142_276
            exact hQ _ _ (Or.inr ⟨rfl, hN, Kp⟩)
          have t_c142_274 : (y239).toInt < (0 : Int) := cl_lt.mp c142_274
          refine s_iconst 146 C X d7_145 kc_iconst_0 ?_
          refine s_nreturn C X d7_146 rfl (by simp) rfl ?_ (FG hG (by decide) (by decide))
          have hN : own_N y34.toInt y45.toInt y56.toInt y67.toInt y78.toInt y89.toInt := own_neg11 hvz hvB01 hvB02 hvB10 hvB12 hvB20 hvB21 e_y117 e_y118 e_y119 e_y145 e_y146 e_y147 e_y173 e_y174 e_y175 t_c142_179 t_c142_181 t_c142_183 e_y210 e_y211 e_y212 e_y238 e_y239 e_y240 e_y266 e_y267 e_y268 t_c142_272 t_c142_274
          exact hQ _ _ (Or.inr ⟨rfl, hN, Kp⟩)
        have t_c142_272 : (y210).toInt < (0 : Int) := cl_lt.mp c142_272
        refine s_iconst 146 C X d7_145 kc_iconst_0 ?_
        refine s_nreturn C X d7_146 rfl (by simp) rfl ?_ (FG hG (by decide) (by decide))
        have hN : own_N y34.toInt y45.toInt y56.toInt y67.toInt y78.toInt y89.toInt := own_neg10 hvz hvB01 hvB02 hvB10 hvB12 hvB20 hvB21 e_y117 e_y118 e_y119 e_y145 e_y146 e_y147 e_y173 e_y174 e_y175 t_c142_179 t_c142_181 t_c142_183 e_y210 e_y211 e_y212 e_y238 e_y239 e_y240 e_y266 e_y267 e_y268 t_c142_272
        exact hQ _ _ (Or.inr ⟨rfl, hN, Kp⟩)
      have t_c142_183 : (y175).toInt < (0 : Int) := cl_lt.mp c142_183
      refine s_iconst 146 C X d7_145 kc_iconst_0 ?_
      refine s_nreturn C X d7_146 rfl (by simp) rfl ?_ (FG hG (by decide) (by decide))
      have hN : own_N y34.toInt y45.toInt y56.toInt y67.toInt y78.toInt y89.toInt := own_neg02 hvz hvB01 hvB02 hvB10 hvB12 hvB20 hvB21 e_y117 e_y118 e_y119 e_y145 e_y146 e_y147 e_y173 e_y174 e_y175 t_c142_179 t_c142_181 t_c142_183
      exact hQ _ _ (Or.inr ⟨rfl, hN, Kp⟩)
    have t_c142_181 : (y146).toInt < (0 : Int) := cl_lt.mp c142_181
    refine s_iconst 146 C X d7_145 kc_iconst_0 ?_
    refine s_nreturn C X d7_146 rfl (by simp) rfl ?_ (FG hG (by decide) (by decide))
    have hN : own_N y34.toInt y45.toInt y56.toInt y67.toInt y78.toInt y89.toInt := own_neg01 hvz hvB01 hvB02 hvB10 hvB12 hvB20 hvB21 e_y117 e_y118 e_y119 e_y145 e_y146 e_y147 e_y173 e_y174 e_y175 t_c142_179 t_c142_181
    exact hQ _ _ (Or.inr ⟨rfl, hN, Kp⟩)
  have t_c142_179 : (y117).toInt < (0 : Int) := cl_lt.mp c142_179
  refine s_iconst 146 C X d7_145 kc_iconst_0 ?_
  refine s_nreturn C X d7_146 rfl (by simp) rfl ?_ (FG hG (by decide) (by decide))
  have hN : own_N y34.toInt y45.toInt y56.toInt y67.toInt y78.toInt y89.toInt := own_neg00 hvz hvB01 hvB02 hvB10 hvB12 hvB20 hvB21 e_y117 e_y118 e_y119 e_y145 e_y146 e_y147 e_y173 e_y174 e_y175 t_c142_179
  exact hQ _ _ (Or.inr ⟨rfl, hN, Kp⟩)
theorem rm_a374 (l : Launch) (Z : State) (a0 : Array Value) (hw : ∀ d ∈ tables_1, d.before a0 Z = true)  (h0 : Heap) (n0 : Nat) (Z0 : n0 ≤ h0.size)  :
    Met l Z (⟨"com/example/dayweave/dayweave/solve/TemporalNetworkMinimisePinLaw", "absent", "()J"⟩ : MethodName) method_2_code 0 (some .long) { frames := 0, cells := 0, slots := 0, locals := 0 } [] #[] h0 n0 (fun v h => v = some (.long jU13) ∧ Keep h0 h []) := by
  refine Met.mkQ (tabs := tables_1) (a0 := a0) (ls0 := #[]) (plainFor_of_name pn_com_example_dayweave_dayweave_solve_TemporalNetworkMinimisePinLaw) hw Z0 (fun m => by first | (simp [entryFrame, mkF, argsToLocals, Value.category]; done) | rfl) ?_
  intro p e s m below meth c T Q' G' hQ hG C X
  have Kp : Keep h0 h0 [] := Keep.refl _ _
  refine s_ldc2Long 3 C X d9_0 (mW 43 rfl) ?_
  refine s_lreturn C X d9_3 rfl ?_ (FG hG (by decide) (by decide))
  exact hQ _ _ ⟨rfl, Kp⟩
theorem rm_a378 (l : Launch) (Z : State) (a0 : Array Value) (hw : ∀ d ∈ tables_1, d.before a0 Z = true) (ga0 : Int32) (h0 : Heap) (n0 : Nat) (Z0 : n0 ≤ h0.size)  :
    Met l Z (⟨"com/example/dayweave/dayweave/solve/TemporalNetworkMinimisePinLaw", "w", "(I)J"⟩ : MethodName) method_3_code 1 (some .long) { frames := 1, cells := 0, slots := 0, locals := 11 } [] #[(.int ga0)] h0 n0 (fun v h => ∃ (y376 : Int64), v = some (.long y376) ∧ own_V ga0 y376 ∧ Keep h0 h []) := by
  refine Met.mkQ (tabs := tables_1) (a0 := a0) (ls0 := #[iv ga0]) (plainFor_of_name pn_com_example_dayweave_dayweave_solve_TemporalNetworkMinimisePinLaw) hw Z0 (fun m => by first | (simp [entryFrame, mkF, argsToLocals, Value.category]; done) | rfl) ?_
  intro p e s m below meth c T Q' G' hQ hG C X
  have Kp : Keep h0 h0 [] := Keep.refl _ _
  refine s_iloadN 1 C X d8_0 rfl ?_
  refine s_iconst 2 C X d8_1 kc_iconst_1 ?_
  refine s_iand 3 C X d8_2 ?_
  suffices J377 : ∀ (T : State) (hh : Heap) (y376 : Int64) (D377 : ((((ga0 &&& i1)).toInt = (0 : Int)) ∧ y376 = jU13) ∨ ((¬ (((ga0 &&& i1)).toInt = (0 : Int))) ∧ y376 = ((ga0 >>> (i3 &&& 31))).toInt64)) (X : St p l e ({ frames := 1, cells := 0, slots := 0, locals := 11 } : Room) s m #[(.int ga0)] below meth c n0 T hh 0 0) (Kp : Keep h0 hh []), Run p e below n0 Q' G' m T 16 #[iv ga0] [(.long y376)] by
    refine s_if_eq 13 6 C X d8_3 (fun c3_373 => ?_) (fun c3_373 => ?_)
    · have t_c3_373 : ((ga0 &&& i1)).toInt = (0 : Int) := congrArg Int32.toInt c3_373
      refine s_callS 16 [] [] 0 C X d8_13 (mW 40 rfl) (mW 41 rfl) (mW 21 rfl) (mW 42 rfl) (rm_a374 l Z a0 hw  _ n0 X.sz ) (lenOf pd___J rfl) rfl rfl rfl (fun T v hh X q => ?_)
      obtain ⟨rfl, Kc⟩ := q
      have Kp := Kp.trans Kc all0
      refine Run.cast (st' := [(.long jU13)]) rfl ?_
      exact J377 T _ (jU13) ((Or.inl ⟨t_c3_373, rfl⟩)) X Kp
    have t_c3_373 : ¬ (((ga0 &&& i1)).toInt = (0 : Int)) := fun q => c3_373 (Int32.toInt_inj.mp q)
    refine s_iloadN 7 C X d8_6 rfl ?_
    refine s_iconst 8 C X d8_7 kc_iconst_3 ?_
    refine s_ishr 9 C X d8_8 ?_
    refine s_i2l 10 C X d8_9 ?_
    refine s_goto 16 C X d8_10 ?_
    exact J377 T _ (((ga0 >>> (i3 &&& 31))).toInt64) (Or.inr ⟨t_c3_373, rfl⟩) X Kp
  intro T hh y376 D377  X Kp
  have V_y376 : own_V ga0 y376 := D377
  refine s_lreturn C X d8_16 rfl ?_ (FG hG (by decide) (by decide))
  exact hQ _ _ ⟨y376, rfl, V_y376, Kp⟩
theorem rm_a420 (l : Launch) (Z : State) (a0 : Array Value) (hw : ∀ d ∈ tables_1, d.before a0 Z = true) (ga0 : Int64) (ga1 : Int64) (h0 : Heap) (n0 : Nat) (Z0 : n0 ≤ h0.size)  :
    Met l Z (⟨"com/example/dayweave/dayweave/solve/TemporalNetworkMinimisePinLaw", "add", "(JJ)J"⟩ : MethodName) method_4_code 6 (some .long) { frames := 1, cells := 0, slots := 0, locals := 11 } [] #[(.long ga0), (.long ga1)] h0 n0 (fun v h => ∃ (y418 : Int64), v = some (.long y418) ∧ own_A ga0 ga1 y418 ∧ Keep h0 h []) := by
  refine Met.mkQ (tabs := tables_1) (a0 := a0) (ls0 := #[lv ga0, .second, lv ga1, .second, .unset, .unset]) (plainFor_of_name pn_com_example_dayweave_dayweave_solve_TemporalNetworkMinimisePinLaw) hw Z0 (fun m => by first | (simp [entryFrame, mkF, argsToLocals, Value.category]; done) | rfl) ?_
  intro p e s m below meth c T Q' G' hQ hG C X
  have Kp : Keep h0 h0 [] := Keep.refl _ _
  refine s_callS 3 [] [] 0 C X d10_0 (mW 40 rfl) (mW 41 rfl) (mW 21 rfl) (mW 42 rfl) (rm_a374 l Z a0 hw  _ n0 X.sz ) (lenOf pd___J rfl) rfl rfl rfl (fun T v hh X q => ?_)
  obtain ⟨rfl, Kc⟩ := q
  have Kp := Kp.trans Kc all0
  refine Run.cast (st' := [(.long jU13)]) rfl ?_
  refine s_lstore 5 C X (l' := #[lv ga0, .second, lv ga1, .second, lv jU13, .second]) d10_3 rfl ?_
  refine s_lloadN 6 C X d10_5 rfl ?_
  refine s_lload 8 C X d10_6 rfl ?_
  refine s_lcmp 9 C X d10_8 ?_
  suffices J419 : ∀ (T : State) (hh : Heap) (y418 : Int64) (D419 : (((ga0).toInt = (1099511627776 : Int)) ∧ y418 = jU13) ∨ ((¬ ((ga0).toInt = (1099511627776 : Int))) ∧ (¬ ((ga1).toInt = (1099511627776 : Int))) ∧ y418 = (ga0 + ga1)) ∨ ((¬ ((ga0).toInt = (1099511627776 : Int))) ∧ ((ga1).toInt = (1099511627776 : Int)) ∧ y418 = jU13)) (X : St p l e ({ frames := 1, cells := 0, slots := 0, locals := 11 } : Room) s m #[(.long ga0), (.long ga1)] below meth c n0 T hh 0 0) (Kp : Keep h0 hh []), Run p e below n0 Q' G' m T 27 #[lv ga0, .second, lv ga1, .second, lv jU13, .second] [(.long y418)] by
    refine s_if_eq 19 12 C X d10_9 (fun c9_415 => ?_) (fun c9_415 => ?_)
    · have t_c9_415 : (ga0).toInt = (1099511627776 : Int) := cl_eq.mp c9_415
      refine s_lload 21 C X d10_19 rfl ?_
      refine s_goto 27 C X d10_21 ?_
      exact J419 T _ (jU13) ((Or.inl ⟨t_c9_415, rfl⟩)) X Kp
    have t_c9_415 : ¬ ((ga0).toInt = (1099511627776 : Int)) := fun q => c9_415 (cl_eq.mpr q)
    refine s_lloadN 13 C X d10_12 rfl ?_
    refine s_lload 15 C X d10_13 rfl ?_
    refine s_lcmp 16 C X d10_15 ?_
    refine s_if_ne 24 19 C X d10_16 (fun c16_416 => ?_) (fun c16_416 => ?_)
    · have t_c16_416 : ¬ ((ga1).toInt = (1099511627776 : Int)) := fun q => c16_416 (cl_eq.mpr q)
      refine s_lloadN 25 C X d10_24 rfl ?_
      refine s_lloadN 26 C X d10_25 rfl ?_
      refine s_ladd 27 C X d10_26 ?_
      exact J419 T _ ((ga0 + ga1)) (Or.inr (Or.inl ⟨t_c9_415, t_c16_416, rfl⟩)) X Kp
    have t_c16_416 : (ga1).toInt = (1099511627776 : Int) := cl_eq.mp c16_416
    refine s_lload 21 C X d10_19 rfl ?_
    refine s_goto 27 C X d10_21 ?_
    exact J419 T _ (jU13) (Or.inr (Or.inr ⟨t_c9_415, t_c16_416, rfl⟩)) X Kp
  intro T hh y418 D419  X Kp
  have A_y418 : own_A ga0 ga1 y418 := D419
  refine s_lreturn C X d10_27 rfl ?_ (FG hG (by decide) (by decide))
  exact hQ _ _ ⟨y418, rfl, A_y418, Kp⟩
theorem rm_a518 (l : Launch) (Z : State) (a0 : Array Value) (hw : ∀ d ∈ tables_1, d.before a0 Z = true) (o517 : Addr) (h0 : Heap) (n0 : Nat) (Z0 : n0 ≤ h0.size)  :
    Met l Z (⟨"java/util/AbstractCollection", "<init>", "()V"⟩ : MethodName) jdk_22_method_1_code 1 none { frames := 1, cells := 0, slots := 0, locals := 12 } [] #[(.ref o517)] h0 n0 (fun v h => v = none ∧ Keep h0 h []) := by
  refine Met.mkQ (tabs := tables_1) (a0 := a0) (ls0 := #[rv o517]) (plainFor_of_name pn_java_util_AbstractCollection) hw Z0 (fun m => by first | (simp [entryFrame, mkF, argsToLocals, Value.category]; done) | rfl) ?_
  intro p e s m below meth c T Q' G' hQ hG C X
  have Kp : Keep h0 h0 [] := Keep.refl _ _
  refine s_aloadN 1 C X d15_0 rfl rfl ?_
  refine s_objInit 4 C X d15_1 (mW 85 rfl) (mW 7 rfl) (mW 8 rfl) rfl (W := 0) rfl (by decide) (fun T X => ?_)
  refine s_return C X d15_4 rfl ?_ (FG hG (by decide) (by decide))
  exact hQ _ _ ⟨rfl, Kp⟩
theorem rm_a519 (l : Launch) (Z : State) (a0 : Array Value) (hw : ∀ d ∈ tables_1, d.before a0 Z = true) (o517 : Addr) (h0 : Heap) (n0 : Nat) (Z0 : n0 ≤ h0.size) (E_o517 : Exa Z h0 o517 "java/util/ArrayList") (F_o517_modCount : Fld Z h0 o517 "java/util/AbstractList" "modCount" "I" (.int i0)) (F_o517_elementData : Fld Z h0 o517 "java/util/ArrayList" "elementData" "[Ljava/lang/Object;" .null) (F_o517_size : Fld Z h0 o517 "java/util/ArrayList" "size" "I" (.int i0)) (g_o517 : n0 ≤ o517) :
    Met l Z (⟨"java/util/AbstractList", "<init>", "()V"⟩ : MethodName) jdk_39_method_1_code 1 none { frames := 2, cells := 0, slots := 0, locals := 24 } [] #[(.ref o517)] h0 n0 (fun v h => v = none ∧ Exa Z h o517 "java/util/ArrayList" ∧ Fld Z h o517 "java/util/AbstractList" "modCount" "I" (.int i0) ∧ Fld Z h o517 "java/util/ArrayList" "elementData" "[Ljava/lang/Object;" .null ∧ Fld Z h o517 "java/util/ArrayList" "size" "I" (.int i0) ∧ Keep h0 h [o517]) := by
  refine Met.mkQ (tabs := tables_1) (a0 := a0) (ls0 := #[rv o517]) (plainFor_of_name pn_java_util_AbstractList) hw Z0 (fun m => by first | (simp [entryFrame, mkF, argsToLocals, Value.category]; done) | rfl) ?_
  intro p e s m below meth c T Q' G' hQ hG C X
  have Kp : Keep h0 h0 [o517] := Keep.refl _ _
  refine s_aloadN 1 C X d14_0 rfl rfl ?_
  refine s_callC 4 [] [] 0 C X d14_1 rfl (mW 79 rfl) (mW 80 rfl) (mW 83 rfl) (mW 84 rfl) (rm_a518 l Z a0 hw o517 _ n0 X.sz ) (lenOf pd___V rfl) rfl rfl rfl (fun T v hh X q => ?_)
  obtain ⟨rfl, Kc⟩ := q
  have E_o517 := E_o517.keep Kc
  have F_o517_modCount := F_o517_modCount.keep Kc nin0
  have F_o517_elementData := F_o517_elementData.keep Kc nin0
  have F_o517_size := F_o517_size.keep Kc nin0
  have Kp := Kp.trans Kc all0
  refine Run.cast (st' := []) rfl ?_
  refine s_aloadN 5 C X d14_4 rfl rfl ?_
  refine s_iconst 6 C X d14_5 kc_iconst_0 ?_
  refine s_putfield 9 C X (host := "") d14_6 (Or.inl (mW 86 rfl)) Via.refl F_o517_modCount E_o517 (Or.inl (mW 87 rfl)) (mW 68 rfl) (ty := .int) (by decide) rfl rfl g_o517 (fun T hh X W => ?_)
  have E_o517 := E_o517.wr W
  have F_o517_modCount := F_o517_modCount.same W
  have F_o517_elementData := oth F_o517_elementData W (Or.inl (hw _ (mW 90 rfl))) (Or.inl (hw _ (mW 87 rfl))) (by decide)
  have F_o517_size := oth F_o517_size W (Or.inl (hw _ (mW 123 rfl))) (Or.inl (hw _ (mW 87 rfl))) (by decide)
  have Kp := Kp.wr W (Or.inl (by simp))
  refine s_return C X d14_9 rfl ?_ (FG hG (by decide) (by decide))
  exact hQ _ _ ⟨rfl, E_o517, F_o517_modCount, F_o517_elementData, F_o517_size, Kp⟩
theorem rm_a520 (l : Launch) (Z : State) (a0 : Array Value) (hw : ∀ d ∈ tables_1, d.before a0 Z = true) (de : Addr) (o517 : Addr) (h0 : Heap) (n0 : Nat) (Z0 : n0 ≤ h0.size) (Od : Old Z n0 h0) (S_de : Sta Z Z.heap "java/util/ArrayList" "DEFAULTCAPACITY_EMPTY_ELEMENTDATA" "[Ljava/lang/Object;" (.ref de)) (E_o517 : Exa Z h0 o517 "java/util/ArrayList") (F_o517_modCount : Fld Z h0 o517 "java/util/AbstractList" "modCount" "I" (.int i0)) (F_o517_elementData : Fld Z h0 o517 "java/util/ArrayList" "elementData" "[Ljava/lang/Object;" .null) (F_o517_size : Fld Z h0 o517 "java/util/ArrayList" "size" "I" (.int i0)) (g_o517 : n0 ≤ o517) :
    Met l Z (⟨"java/util/ArrayList", "<init>", "()V"⟩ : MethodName) jdk_38_method_2_code 1 none { frames := 3, cells := 0, slots := 0, locals := 36 } [] #[(.ref o517)] h0 n0 (fun v h => v = none ∧ Old Z n0 h ∧ Keep h0 h [o517] ∧ Exa Z h o517 "java/util/ArrayList" ∧ Fld Z h o517 "java/util/AbstractList" "modCount" "I" (.int i0) ∧ Fld Z h o517 "java/util/ArrayList" "elementData" "[Ljava/lang/Object;" (.ref de) ∧ Fld Z h o517 "java/util/ArrayList" "size" "I" (.int i0)) := by
  refine Met.mkQ (tabs := tables_1) (a0 := a0) (ls0 := #[rv o517]) (plainFor_of_name pn_java_util_ArrayList) hw Z0 (fun m => by first | (simp [entryFrame, mkF, argsToLocals, Value.category]; done) | rfl) ?_
  intro p e s m below meth c T Q' G' hQ hG C X
  have Kp : Keep h0 h0 [o517] := Keep.refl _ _
  refine s_aloadN 1 C X d13_0 rfl rfl ?_
  refine s_callC 4 [] [] 0 C X d13_1 rfl (mW 73 rfl) (mW 74 rfl) (mW 77 rfl) (mW 78 rfl) (rm_a519 l Z a0 hw o517 _ n0 X.sz E_o517 F_o517_modCount F_o517_elementData F_o517_size g_o517) (lenOf pd___V rfl) rfl rfl rfl (fun T v hh X q => ?_)
  obtain ⟨rfl, E_o517, F_o517_modCount, F_o517_elementData, F_o517_size, Kc⟩ := q
  have Od := Od.keep Kc (allS g_o517 all0)
  have Kp := Kp.trans Kc (allS (Or.inl (by simp)) all0)
  refine Run.cast (st' := []) rfl ?_
  refine s_aloadN 5 C X d13_4 rfl rfl ?_
  refine s_getstatic 8 C X (host := "") d13_5 (Or.inl (mW 88 rfl)) Via.refl (S_de.ext Od.2) (fun T X => ?_)
  refine s_putfield 11 C X (host := "") d13_8 (Or.inl (mW 89 rfl)) Via.refl F_o517_elementData E_o517 (Or.inl (mW 90 rfl)) (mW 68 rfl) (ty := (.array (.object "java/lang/Object"))) (by decide) rfl rfl g_o517 (fun T hh X W => ?_)
  have Od := Od.wr W g_o517
  have Kp := Kp.wr W (Or.inl (by simp))
  have E_o517 := E_o517.wr W
  have F_o517_modCount := oth F_o517_modCount W (Or.inl (hw _ (mW 87 rfl))) (Or.inl (hw _ (mW 90 rfl))) (by decide)
  have F_o517_elementData := F_o517_elementData.same W
  have F_o517_size := oth F_o517_size W (Or.inl (hw _ (mW 123 rfl))) (Or.inl (hw _ (mW 90 rfl))) (by decide)
  refine s_return C X d13_11 rfl ?_ (FG hG (by decide) (by decide))
  exact hQ _ _ ⟨rfl, Od, Kp, E_o517, F_o517_modCount, F_o517_elementData, F_o517_size⟩
theorem rm_a525 (l : Launch) (Z : State) (a0 : Array Value) (hw : ∀ d ∈ tables_1, d.before a0 Z = true) (o515 : Addr) (k_o515 : ClassId) (h0 : Heap) (n0 : Nat) (Z0 : n0 ≤ h0.size) (A_o515 : Arv Z h0 o515 k_o515 .long i3 [(.long j0), (.long j0), (.long j0)] (.long j0)) (g_o515 : n0 ≤ o515) :
    Met l Z (⟨"java/util/Arrays", "fill", "([JJ)V"⟩ : MethodName) jdk_65_method_101_code 5 none { frames := 0, cells := 0, slots := 0, locals := 0 } [] #[(.ref o515), (.long jU19)] h0 n0 (fun v h => v = none ∧ Arv Z h o515 k_o515 .long i3 [(.long jU19), (.long jU19), (.long jU19)] (.long j0) ∧ Keep h0 h [o515]) := by
  refine Met.mkQ (tabs := tables_1) (a0 := a0) (ls0 := #[rv o515, lv jU19, .second, .unset, .unset]) (plainFor_of_name pn_java_util_Arrays) hw Z0 (fun m => by first | (simp [entryFrame, mkF, argsToLocals, Value.category]; done) | rfl) ?_
  intro p e s m below meth c T Q' G' hQ hG C X
  have Kp : Keep h0 h0 [o515] := Keep.refl _ _
  refine s_iconst 1 C X d3_0 kc_iconst_0 ?_
  refine s_istoreN 2 C X (l' := #[rv o515, lv jU19, .second, iv i0, .unset]) d3_1 rfl ?_
  refine s_aloadN 3 C X d3_2 rfl rfl ?_
  refine s_arraylength 4 C X d3_3 A_o515 ?_
  refine s_istore 6 C X (l' := #[rv o515, lv jU19, .second, iv i0, iv i3]) d3_4 rfl ?_
  refine s_iloadN 7 C X d3_6 rfl ?_
  refine s_iload 9 C X d3_7 rfl ?_
  refine s_icmp_ge 22 12 C X d3_9 (fun c => absurd (by decide : i0 < i3) c) (fun _ => ?_)
  refine s_aloadN 13 C X d3_12 rfl rfl ?_
  refine s_iloadN 14 C X d3_13 rfl ?_
  refine s_lloadN 15 C X d3_14 rfl ?_
  refine s_lastore 16 0 C X d3_15 A_o515 g_o515 ⟨by decide, by decide⟩ rfl (Nat.le_of_ble_eq_true rfl) (fun T hh X W A_o515 => ?_)
  have A_o515 : Arv Z _ o515 k_o515 .long i3 [(.long jU19), (.long j0), (.long j0)] (.long j0) := A_o515
  have Kp := Kp.wr W (Or.inl (by simp))
  refine s_iinc 19 C X (l' := #[rv o515, lv jU19, .second, iv i1, iv i3]) d3_16 kc_iconst_1 rfl rfl ?_
  refine s_goto 6 C X d3_19 ?_
  refine s_iloadN 7 C X d3_6 rfl ?_
  refine s_iload 9 C X d3_7 rfl ?_
  refine s_icmp_ge 22 12 C X d3_9 (fun c => absurd (by decide : i1 < i3) c) (fun _ => ?_)
  refine s_aloadN 13 C X d3_12 rfl rfl ?_
  refine s_iloadN 14 C X d3_13 rfl ?_
  refine s_lloadN 15 C X d3_14 rfl ?_
  refine s_lastore 16 1 C X d3_15 A_o515 g_o515 ⟨by decide, by decide⟩ rfl (Nat.le_of_ble_eq_true rfl) (fun T hh X W A_o515 => ?_)
  have A_o515 : Arv Z _ o515 k_o515 .long i3 [(.long jU19), (.long jU19), (.long j0)] (.long j0) := A_o515
  have Kp := Kp.wr W (Or.inl (by simp))
  refine s_iinc 19 C X (l' := #[rv o515, lv jU19, .second, iv i2, iv i3]) d3_16 kc_iconst_1 rfl rfl ?_
  refine s_goto 6 C X d3_19 ?_
  refine s_iloadN 7 C X d3_6 rfl ?_
  refine s_iload 9 C X d3_7 rfl ?_
  refine s_icmp_ge 22 12 C X d3_9 (fun c => absurd (by decide : i2 < i3) c) (fun _ => ?_)
  refine s_aloadN 13 C X d3_12 rfl rfl ?_
  refine s_iloadN 14 C X d3_13 rfl ?_
  refine s_lloadN 15 C X d3_14 rfl ?_
  refine s_lastore 16 2 C X d3_15 A_o515 g_o515 ⟨by decide, by decide⟩ rfl (Nat.le_of_ble_eq_true rfl) (fun T hh X W A_o515 => ?_)
  have A_o515 : Arv Z _ o515 k_o515 .long i3 [(.long jU19), (.long jU19), (.long jU19)] (.long j0) := A_o515
  have Kp := Kp.wr W (Or.inl (by simp))
  refine s_iinc 19 C X (l' := #[rv o515, lv jU19, .second, iv i3, iv i3]) d3_16 kc_iconst_1 rfl rfl ?_
  refine s_goto 6 C X d3_19 ?_
  refine s_iloadN 7 C X d3_6 rfl ?_
  refine s_iload 9 C X d3_7 rfl ?_
  refine s_icmp_ge 22 12 C X d3_9 (fun _ => ?_) (fun c => absurd c (by decide))
  refine s_return C X d3_22 rfl ?_ (FG hG (by decide) (by decide))
  exact hQ _ _ ⟨rfl, A_o515, Kp⟩
theorem rm_a530 (l : Launch) (Z : State) (a0 : Array Value) (hw : ∀ d ∈ tables_1, d.before a0 Z = true) (o516 : Addr) (k_o516 : ClassId) (h0 : Heap) (n0 : Nat) (Z0 : n0 ≤ h0.size) (A_o516 : Arv Z h0 o516 k_o516 .long i3 [(.long j0), (.long j0), (.long j0)] (.long j0)) (g_o516 : n0 ≤ o516) :
    Met l Z (⟨"java/util/Arrays", "fill", "([JJ)V"⟩ : MethodName) jdk_65_method_101_code 5 none { frames := 0, cells := 0, slots := 0, locals := 0 } [] #[(.ref o516), (.long jU19)] h0 n0 (fun v h => v = none ∧ Arv Z h o516 k_o516 .long i3 [(.long jU19), (.long jU19), (.long jU19)] (.long j0) ∧ Keep h0 h [o516]) := by
  refine Met.mkQ (tabs := tables_1) (a0 := a0) (ls0 := #[rv o516, lv jU19, .second, .unset, .unset]) (plainFor_of_name pn_java_util_Arrays) hw Z0 (fun m => by first | (simp [entryFrame, mkF, argsToLocals, Value.category]; done) | rfl) ?_
  intro p e s m below meth c T Q' G' hQ hG C X
  have Kp : Keep h0 h0 [o516] := Keep.refl _ _
  refine s_iconst 1 C X d3_0 kc_iconst_0 ?_
  refine s_istoreN 2 C X (l' := #[rv o516, lv jU19, .second, iv i0, .unset]) d3_1 rfl ?_
  refine s_aloadN 3 C X d3_2 rfl rfl ?_
  refine s_arraylength 4 C X d3_3 A_o516 ?_
  refine s_istore 6 C X (l' := #[rv o516, lv jU19, .second, iv i0, iv i3]) d3_4 rfl ?_
  refine s_iloadN 7 C X d3_6 rfl ?_
  refine s_iload 9 C X d3_7 rfl ?_
  refine s_icmp_ge 22 12 C X d3_9 (fun c => absurd (by decide : i0 < i3) c) (fun _ => ?_)
  refine s_aloadN 13 C X d3_12 rfl rfl ?_
  refine s_iloadN 14 C X d3_13 rfl ?_
  refine s_lloadN 15 C X d3_14 rfl ?_
  refine s_lastore 16 0 C X d3_15 A_o516 g_o516 ⟨by decide, by decide⟩ rfl (Nat.le_of_ble_eq_true rfl) (fun T hh X W A_o516 => ?_)
  have A_o516 : Arv Z _ o516 k_o516 .long i3 [(.long jU19), (.long j0), (.long j0)] (.long j0) := A_o516
  have Kp := Kp.wr W (Or.inl (by simp))
  refine s_iinc 19 C X (l' := #[rv o516, lv jU19, .second, iv i1, iv i3]) d3_16 kc_iconst_1 rfl rfl ?_
  refine s_goto 6 C X d3_19 ?_
  refine s_iloadN 7 C X d3_6 rfl ?_
  refine s_iload 9 C X d3_7 rfl ?_
  refine s_icmp_ge 22 12 C X d3_9 (fun c => absurd (by decide : i1 < i3) c) (fun _ => ?_)
  refine s_aloadN 13 C X d3_12 rfl rfl ?_
  refine s_iloadN 14 C X d3_13 rfl ?_
  refine s_lloadN 15 C X d3_14 rfl ?_
  refine s_lastore 16 1 C X d3_15 A_o516 g_o516 ⟨by decide, by decide⟩ rfl (Nat.le_of_ble_eq_true rfl) (fun T hh X W A_o516 => ?_)
  have A_o516 : Arv Z _ o516 k_o516 .long i3 [(.long jU19), (.long jU19), (.long j0)] (.long j0) := A_o516
  have Kp := Kp.wr W (Or.inl (by simp))
  refine s_iinc 19 C X (l' := #[rv o516, lv jU19, .second, iv i2, iv i3]) d3_16 kc_iconst_1 rfl rfl ?_
  refine s_goto 6 C X d3_19 ?_
  refine s_iloadN 7 C X d3_6 rfl ?_
  refine s_iload 9 C X d3_7 rfl ?_
  refine s_icmp_ge 22 12 C X d3_9 (fun c => absurd (by decide : i2 < i3) c) (fun _ => ?_)
  refine s_aloadN 13 C X d3_12 rfl rfl ?_
  refine s_iloadN 14 C X d3_13 rfl ?_
  refine s_lloadN 15 C X d3_14 rfl ?_
  refine s_lastore 16 2 C X d3_15 A_o516 g_o516 ⟨by decide, by decide⟩ rfl (Nat.le_of_ble_eq_true rfl) (fun T hh X W A_o516 => ?_)
  have A_o516 : Arv Z _ o516 k_o516 .long i3 [(.long jU19), (.long jU19), (.long jU19)] (.long j0) := A_o516
  have Kp := Kp.wr W (Or.inl (by simp))
  refine s_iinc 19 C X (l' := #[rv o516, lv jU19, .second, iv i3, iv i3]) d3_16 kc_iconst_1 rfl rfl ?_
  refine s_goto 6 C X d3_19 ?_
  refine s_iloadN 7 C X d3_6 rfl ?_
  refine s_iload 9 C X d3_7 rfl ?_
  refine s_icmp_ge 22 12 C X d3_9 (fun _ => ?_) (fun c => absurd c (by decide))
  refine s_return C X d3_22 rfl ?_ (FG hG (by decide) (by decide))
  exact hQ _ _ ⟨rfl, A_o516, Kp⟩
theorem rm_a531 (l : Launch) (Z : State) (a0 : Array Value) (hw : ∀ d ∈ tables_1, d.before a0 Z = true) (de : Addr) (o1 : Addr) (o2 : Addr) (o3 : Addr) (o4 : Addr) (o5 : Addr) (k_o2 : ClassId) (o514 : Addr) (h0 : Heap) (n0 : Nat) (Z0 : n0 ≤ h0.size) (Od : Old Z n0 h0) (S_de : Sta Z Z.heap "java/util/ArrayList" "DEFAULTCAPACITY_EMPTY_ELEMENTDATA" "[Ljava/lang/Object;" (.ref de)) (F_o1_most : Fld Z h0 o1 "com/example/dayweave/dayweave/solve/TemporalNetwork" "most" "[[J" (.ref o2)) (A_o2 : Arv Z h0 o2 k_o2 (.array .long) i3 [(.ref o3), (.ref o4), (.ref o5)] .null) (E_o514 : Exa Z h0 o514 "com/example/dayweave/dayweave/solve/TemporalNetwork$Newcomer") (F_o514_this_0 : Fld Z h0 o514 "com/example/dayweave/dayweave/solve/TemporalNetwork$Newcomer" "this$0" "Lcom/example/dayweave/dayweave/solve/TemporalNetwork;" .null) (F_o514_after : Fld Z h0 o514 "com/example/dayweave/dayweave/solve/TemporalNetwork$Newcomer" "after" "[J" .null) (F_o514_before : Fld Z h0 o514 "com/example/dayweave/dayweave/solve/TemporalNetwork$Newcomer" "before" "[J" .null) (F_o514_bounding : Fld Z h0 o514 "com/example/dayweave/dayweave/solve/TemporalNetwork$Newcomer" "bounding" "Ljava/util/List;" .null) (ne_o1_o514 : o1 ≠ o514) (ne_o2_o514 : o2 ≠ o514) (g_o514 : n0 ≤ o514) :
    Met l Z (⟨"com/example/dayweave/dayweave/solve/TemporalNetwork$Newcomer", "<init>", "(Lcom/example/dayweave/dayweave/solve/TemporalNetwork;)V"⟩ : MethodName) prog_68_method_1_code 2 none { frames := 4, cells := 3, slots := 9, locals := 50 } [] #[(.ref o514), (.ref o1)] h0 n0 (fun v h => ∃ (o515 : Addr) (o516 : Addr) (o517 : Addr) (k_o515 : ClassId) (k_o516 : ClassId), v = none ∧ Exa Z h o514 "com/example/dayweave/dayweave/solve/TemporalNetwork$Newcomer" ∧ Fld Z h o514 "com/example/dayweave/dayweave/solve/TemporalNetwork$Newcomer" "this$0" "Lcom/example/dayweave/dayweave/solve/TemporalNetwork;" (.ref o1) ∧ Fld Z h o514 "com/example/dayweave/dayweave/solve/TemporalNetwork$Newcomer" "after" "[J" (.ref o515) ∧ Fld Z h o514 "com/example/dayweave/dayweave/solve/TemporalNetwork$Newcomer" "before" "[J" (.ref o516) ∧ Fld Z h o514 "com/example/dayweave/dayweave/solve/TemporalNetwork$Newcomer" "bounding" "Ljava/util/List;" (.ref o517) ∧ Keep h0 h [o514] ∧ Old Z n0 h ∧ Exa Z h o517 "java/util/ArrayList" ∧ Fld Z h o517 "java/util/AbstractList" "modCount" "I" (.int i0) ∧ Fld Z h o517 "java/util/ArrayList" "elementData" "[Ljava/lang/Object;" (.ref de) ∧ Fld Z h o517 "java/util/ArrayList" "size" "I" (.int i0) ∧ Arv Z h o515 k_o515 .long i3 [(.long jU19), (.long jU19), (.long jU19)] (.long j0) ∧ Arv Z h o516 k_o516 .long i3 [(.long jU19), (.long jU19), (.long jU19)] (.long j0) ∧ o514 ≠ o515 ∧ h0.size ≤ o515 ∧ n0 ≤ o515 ∧ o514 ≠ o516 ∧ h0.size ≤ o516 ∧ o515 ≠ o516 ∧ n0 ≤ o516 ∧ o514 ≠ o517 ∧ h0.size ≤ o517 ∧ o515 ≠ o517 ∧ o516 ≠ o517 ∧ n0 ≤ o517) := by
  refine Met.mkQ (tabs := tables_1) (a0 := a0) (ls0 := #[rv o514, rv o1]) (plainFor_of_name pn_com_example_dayweave_dayweave_solve_TemporalNetwork_Newcomer) hw Z0 (fun m => by first | (simp [entryFrame, mkF, argsToLocals, Value.category]; done) | rfl) ?_
  intro p e s m below meth c T Q' G' hQ hG C X
  have Kp : Keep h0 h0 [o514] := Keep.refl _ _
  refine s_aloadN 1 C X d12_0 rfl rfl ?_
  refine s_aloadN 2 C X d12_1 rfl rfl ?_
  refine s_putfield 5 C X (host := "") d12_2 (Or.inl (mW 59 rfl)) Via.refl F_o514_this_0 E_o514 (Or.inr ⟨(mW 60 rfl), rfl, rfl⟩) (mW 54 rfl) (ty := (.object "com/example/dayweave/dayweave/solve/TemporalNetwork")) (by decide) rfl rfl g_o514 (fun T hh X W => ?_)
  have Od := Od.wr W g_o514
  have F_o1_most := F_o1_most.other W (Or.inl ne_o1_o514)
  have A_o2 := A_o2.other W ne_o2_o514
  have E_o514 := E_o514.wr W
  have F_o514_this_0 := F_o514_this_0.same W
  have F_o514_after := oth F_o514_after W (Or.inr (hw _ (mW 64 rfl))) (Or.inr (hw _ (mW 60 rfl))) (by decide)
  have F_o514_before := oth F_o514_before W (Or.inr (hw _ (mW 66 rfl))) (Or.inr (hw _ (mW 60 rfl))) (by decide)
  have F_o514_bounding := oth F_o514_bounding W (Or.inr (hw _ (mW 92 rfl))) (Or.inr (hw _ (mW 60 rfl))) (by decide)
  have Kp := Kp.wr W (Or.inl (by simp))
  refine s_aloadN 6 C X d12_5 rfl rfl ?_
  refine s_objInit 9 C X d12_6 (mW 61 rfl) (mW 7 rfl) (mW 8 rfl) rfl (W := 0) rfl (by decide) (fun T X => ?_)
  refine s_aloadN 10 C X d12_9 rfl rfl ?_
  refine s_aloadN 11 C X d12_10 rfl rfl ?_
  refine s_getfield 14 C X (host := "") d12_11 (Or.inl (mW 59 rfl)) Via.refl F_o514_this_0 (fun T X => ?_)
  refine s_getfield 17 C X d12_14 (Or.inr (mW 62 rfl)) Via.refl F_o1_most (fun T X => ?_)
  refine s_arraylength 18 C X d12_17 A_o2 ?_
  refine s_newarray 20 3 C X d12_18 (mW 11 rfl) (by decide) (by decide) (fun T hh o515 k_o515 hb_o515 X E A_o515 g_o515 => ?_)
  have ne_o514_o515 : o514 ≠ o515 := Nat.ne_of_lt (Nat.lt_of_lt_of_le E_o514.lt (Nat.le_of_eq hb_o515))
  have sz_o515 : h0.size ≤ o515 := Nat.le_trans Kp.1 (Nat.le_of_eq hb_o515)
  have Od := Od.ext E
  have F_o1_most := F_o1_most.ext E
  have A_o2 := A_o2.ext E
  have E_o514 := E_o514.ext E
  have F_o514_this_0 := F_o514_this_0.ext E
  have F_o514_after := F_o514_after.ext E
  have F_o514_before := F_o514_before.ext E
  have F_o514_bounding := F_o514_bounding.ext E
  have Kp := Kp.ext E
  have A_o515 : Arv Z _ o515 k_o515 .long i3 [(.long j0), (.long j0), (.long j0)] (.long j0) := A_o515.pad (pad_rep [] _ 3)
  refine s_putfield 23 C X (host := "") d12_20 (Or.inl (mW 63 rfl)) Via.refl F_o514_after E_o514 (Or.inr ⟨(mW 64 rfl), rfl, rfl⟩) (mW 54 rfl) (ty := (.array .long)) (by decide) rfl rfl g_o514 (fun T hh X W => ?_)
  have Od := Od.wr W g_o514
  have F_o1_most := F_o1_most.other W (Or.inl ne_o1_o514)
  have A_o2 := A_o2.other W ne_o2_o514
  have E_o514 := E_o514.wr W
  have F_o514_this_0 := oth F_o514_this_0 W (Or.inr (hw _ (mW 60 rfl))) (Or.inr (hw _ (mW 64 rfl))) (by decide)
  have F_o514_after := F_o514_after.same W
  have F_o514_before := oth F_o514_before W (Or.inr (hw _ (mW 66 rfl))) (Or.inr (hw _ (mW 64 rfl))) (by decide)
  have F_o514_bounding := oth F_o514_bounding W (Or.inr (hw _ (mW 92 rfl))) (Or.inr (hw _ (mW 64 rfl))) (by decide)
  have Kp := Kp.wr W (Or.inl (by simp))
  have A_o515 := A_o515.other W (Ne.symm ne_o514_o515)
  refine s_aloadN 24 C X d12_23 rfl rfl ?_
  refine s_aloadN 25 C X d12_24 rfl rfl ?_
  refine s_getfield 28 C X (host := "") d12_25 (Or.inl (mW 59 rfl)) Via.refl F_o514_this_0 (fun T X => ?_)
  refine s_getfield 31 C X d12_28 (Or.inr (mW 62 rfl)) Via.refl F_o1_most (fun T X => ?_)
  refine s_arraylength 32 C X d12_31 A_o2 ?_
  refine s_newarray 34 3 C X d12_32 (mW 11 rfl) (by decide) (by decide) (fun T hh o516 k_o516 hb_o516 X E A_o516 g_o516 => ?_)
  have ne_o514_o516 : o514 ≠ o516 := Nat.ne_of_lt (Nat.lt_of_lt_of_le E_o514.lt (Nat.le_of_eq hb_o516))
  have sz_o516 : h0.size ≤ o516 := Nat.le_trans Kp.1 (Nat.le_of_eq hb_o516)
  have ne_o515_o516 : o515 ≠ o516 := Nat.ne_of_lt (Nat.lt_of_lt_of_le A_o515.lt (Nat.le_of_eq hb_o516))
  have Od := Od.ext E
  have E_o514 := E_o514.ext E
  have F_o514_this_0 := F_o514_this_0.ext E
  have F_o514_after := F_o514_after.ext E
  have F_o514_before := F_o514_before.ext E
  have F_o514_bounding := F_o514_bounding.ext E
  have Kp := Kp.ext E
  have A_o515 := A_o515.ext E
  have A_o516 : Arv Z _ o516 k_o516 .long i3 [(.long j0), (.long j0), (.long j0)] (.long j0) := A_o516.pad (pad_rep [] _ 3)
  refine s_putfield 37 C X (host := "") d12_34 (Or.inl (mW 65 rfl)) Via.refl F_o514_before E_o514 (Or.inr ⟨(mW 66 rfl), rfl, rfl⟩) (mW 54 rfl) (ty := (.array .long)) (by decide) rfl rfl g_o514 (fun T hh X W => ?_)
  have Od := Od.wr W g_o514
  have E_o514 := E_o514.wr W
  have F_o514_this_0 := oth F_o514_this_0 W (Or.inr (hw _ (mW 60 rfl))) (Or.inr (hw _ (mW 66 rfl))) (by decide)
  have F_o514_after := oth F_o514_after W (Or.inr (hw _ (mW 64 rfl))) (Or.inr (hw _ (mW 66 rfl))) (by decide)
  have F_o514_before := F_o514_before.same W
  have F_o514_bounding := oth F_o514_bounding W (Or.inr (hw _ (mW 92 rfl))) (Or.inr (hw _ (mW 66 rfl))) (by decide)
  have Kp := Kp.wr W (Or.inl (by simp))
  have A_o515 := A_o515.other W (Ne.symm ne_o514_o515)
  have A_o516 := A_o516.other W (Ne.symm ne_o514_o516)
  refine s_aloadN 38 C X d12_37 rfl rfl ?_
  refine s_new 41 C X d12_38 (mW 67 rfl) (mW 68 rfl) (mW 69 rfl) (fun T hh o517 hb_o517 X E E_o517 D g_o517 => ?_)
  have ne_o514_o517 : o514 ≠ o517 := Nat.ne_of_lt (Nat.lt_of_lt_of_le E_o514.lt (Nat.le_of_eq hb_o517))
  have sz_o517 : h0.size ≤ o517 := Nat.le_trans Kp.1 (Nat.le_of_eq hb_o517)
  have ne_o515_o517 : o515 ≠ o517 := Nat.ne_of_lt (Nat.lt_of_lt_of_le A_o515.lt (Nat.le_of_eq hb_o517))
  have ne_o516_o517 : o516 ≠ o517 := Nat.ne_of_lt (Nat.lt_of_lt_of_le A_o516.lt (Nat.le_of_eq hb_o517))
  have Od := Od.ext E
  have E_o514 := E_o514.ext E
  have F_o514_this_0 := F_o514_this_0.ext E
  have F_o514_after := F_o514_after.ext E
  have F_o514_before := F_o514_before.ext E
  have F_o514_bounding := F_o514_bounding.ext E
  have Kp := Kp.ext E
  have A_o515 := A_o515.ext E
  have A_o516 := A_o516.ext E
  have F_o517_modCount : Fld Z _ o517 "java/util/AbstractList" "modCount" "I" (.int i0) := D (Or.inl (hw _ (mW 87 rfl))) (ty := .int) (by decide)
  have F_o517_elementData : Fld Z _ o517 "java/util/ArrayList" "elementData" "[Ljava/lang/Object;" .null := D (Or.inl (hw _ (mW 90 rfl))) (ty := (.array (.object "java/lang/Object"))) (by decide)
  have F_o517_size : Fld Z _ o517 "java/util/ArrayList" "size" "I" (.int i0) := D (Or.inl (hw _ (mW 123 rfl))) (ty := .int) (by decide)
  refine s_dup 42 C X d12_41 rfl ?_
  refine s_callC 45 [] [(.ref o517), (.ref o514)] 2 C X d12_42 rfl (mW 70 rfl) (mW 71 rfl) (mW 69 rfl) (mW 72 rfl) (rm_a520 l Z a0 hw de o517 _ n0 X.sz Od S_de E_o517 F_o517_modCount F_o517_elementData F_o517_size g_o517) (lenOf pd___V rfl) rfl rfl rfl (fun T v hh X q => ?_)
  obtain ⟨rfl, Od, Kc, E_o517, F_o517_modCount, F_o517_elementData, F_o517_size⟩ := q
  have E_o514 := E_o514.keep Kc
  have F_o514_this_0 := F_o514_this_0.keep Kc (ninS ne_o514_o517 nin0)
  have F_o514_after := F_o514_after.keep Kc (ninS ne_o514_o517 nin0)
  have F_o514_before := F_o514_before.keep Kc (ninS ne_o514_o517 nin0)
  have F_o514_bounding := F_o514_bounding.keep Kc (ninS ne_o514_o517 nin0)
  have Kp := Kp.trans Kc (allS (Or.inr sz_o517) all0)
  have A_o515 := A_o515.keep Kc (ninS ne_o515_o517 nin0)
  have A_o516 := A_o516.keep Kc (ninS ne_o516_o517 nin0)
  refine Run.cast (st' := [(.ref o517), (.ref o514)]) rfl ?_
  refine s_putfield 48 C X (host := "") d12_45 (Or.inl (mW 91 rfl)) Via.refl F_o514_bounding E_o514 (Or.inr ⟨(mW 92 rfl), rfl, rfl⟩) (mW 54 rfl) (ty := (.object "java/util/List")) (by decide) rfl rfl g_o514 (fun T hh X W => ?_)
  have E_o514 := E_o514.wr W
  have F_o514_this_0 := oth F_o514_this_0 W (Or.inr (hw _ (mW 60 rfl))) (Or.inr (hw _ (mW 92 rfl))) (by decide)
  have F_o514_after := oth F_o514_after W (Or.inr (hw _ (mW 64 rfl))) (Or.inr (hw _ (mW 92 rfl))) (by decide)
  have F_o514_before := oth F_o514_before W (Or.inr (hw _ (mW 66 rfl))) (Or.inr (hw _ (mW 92 rfl))) (by decide)
  have F_o514_bounding := F_o514_bounding.same W
  have Kp := Kp.wr W (Or.inl (by simp))
  have A_o515 := A_o515.other W (Ne.symm ne_o514_o515)
  have A_o516 := A_o516.other W (Ne.symm ne_o514_o516)
  have Od := Od.wr W g_o514
  have E_o517 := E_o517.wr W
  have F_o517_modCount := F_o517_modCount.other W (Or.inl (Ne.symm ne_o514_o517))
  have F_o517_elementData := F_o517_elementData.other W (Or.inl (Ne.symm ne_o514_o517))
  have F_o517_size := F_o517_size.other W (Or.inl (Ne.symm ne_o514_o517))
  refine s_aloadN 49 C X d12_48 rfl rfl ?_
  refine s_getfield 52 C X (host := "") d12_49 (Or.inl (mW 63 rfl)) Via.refl F_o514_after (fun T X => ?_)
  refine s_ldc2Long 55 C X d12_52 (mW 93 rfl) ?_
  refine s_callS 58 [(.ref o515), (.long jU19)] [] 0 C X d12_55 (mW 94 rfl) (mW 16 rfl) (mW 17 rfl) (mW 18 rfl) (rm_a525 l Z a0 hw o515 k_o515 _ n0 X.sz A_o515 g_o515) (lenOf pd___JJ_V rfl) rfl rfl rfl (fun T v hh X q => ?_)
  obtain ⟨rfl, A_o515, Kc⟩ := q
  have E_o514 := E_o514.keep Kc
  have F_o514_this_0 := F_o514_this_0.keep Kc (ninS ne_o514_o515 nin0)
  have F_o514_after := F_o514_after.keep Kc (ninS ne_o514_o515 nin0)
  have F_o514_before := F_o514_before.keep Kc (ninS ne_o514_o515 nin0)
  have F_o514_bounding := F_o514_bounding.keep Kc (ninS ne_o514_o515 nin0)
  have Kp := Kp.trans Kc (allS (Or.inr sz_o515) all0)
  have A_o516 := A_o516.keep Kc (ninS (Ne.symm ne_o515_o516) nin0)
  have Od := Od.keep Kc (allS g_o515 all0)
  have E_o517 := E_o517.keep Kc
  have F_o517_modCount := F_o517_modCount.keep Kc (ninS (Ne.symm ne_o515_o517) nin0)
  have F_o517_elementData := F_o517_elementData.keep Kc (ninS (Ne.symm ne_o515_o517) nin0)
  have F_o517_size := F_o517_size.keep Kc (ninS (Ne.symm ne_o515_o517) nin0)
  refine Run.cast (st' := []) rfl ?_
  refine s_aloadN 59 C X d12_58 rfl rfl ?_
  refine s_getfield 62 C X (host := "") d12_59 (Or.inl (mW 65 rfl)) Via.refl F_o514_before (fun T X => ?_)
  refine s_ldc2Long 65 C X d12_62 (mW 93 rfl) ?_
  refine s_callS 68 [(.ref o516), (.long jU19)] [] 0 C X d12_65 (mW 94 rfl) (mW 16 rfl) (mW 17 rfl) (mW 18 rfl) (rm_a530 l Z a0 hw o516 k_o516 _ n0 X.sz A_o516 g_o516) (lenOf pd___JJ_V rfl) rfl rfl rfl (fun T v hh X q => ?_)
  obtain ⟨rfl, A_o516, Kc⟩ := q
  have E_o514 := E_o514.keep Kc
  have F_o514_this_0 := F_o514_this_0.keep Kc (ninS ne_o514_o516 nin0)
  have F_o514_after := F_o514_after.keep Kc (ninS ne_o514_o516 nin0)
  have F_o514_before := F_o514_before.keep Kc (ninS ne_o514_o516 nin0)
  have F_o514_bounding := F_o514_bounding.keep Kc (ninS ne_o514_o516 nin0)
  have Kp := Kp.trans Kc (allS (Or.inr sz_o516) all0)
  have Od := Od.keep Kc (allS g_o516 all0)
  have E_o517 := E_o517.keep Kc
  have F_o517_modCount := F_o517_modCount.keep Kc (ninS (Ne.symm ne_o516_o517) nin0)
  have F_o517_elementData := F_o517_elementData.keep Kc (ninS (Ne.symm ne_o516_o517) nin0)
  have F_o517_size := F_o517_size.keep Kc (ninS (Ne.symm ne_o516_o517) nin0)
  have A_o515 := A_o515.keep Kc (ninS ne_o515_o516 nin0)
  refine Run.cast (st' := []) rfl ?_
  refine s_return C X d12_68 rfl ?_ (FG hG (by decide) (by decide))
  exact hQ _ _ ⟨o515, o516, o517, k_o515, k_o516, rfl, E_o514, F_o514_this_0, F_o514_after, F_o514_before, F_o514_bounding, Kp, Od, E_o517, F_o517_modCount, F_o517_elementData, F_o517_size, A_o515, A_o516, ne_o514_o515, sz_o515, g_o515, ne_o514_o516, sz_o516, ne_o515_o516, g_o516, ne_o514_o517, sz_o517, ne_o515_o517, ne_o516_o517, g_o517⟩
theorem rm_a532 (l : Launch) (Z : State) (a0 : Array Value) (hw : ∀ d ∈ tables_1, d.before a0 Z = true) (de : Addr) (o1 : Addr) (o2 : Addr) (o3 : Addr) (o4 : Addr) (o5 : Addr) (k_o2 : ClassId) (h0 : Heap) (n0 : Nat) (Z0 : n0 ≤ h0.size) (Od : Old Z n0 h0) (S_de : Sta Z Z.heap "java/util/ArrayList" "DEFAULTCAPACITY_EMPTY_ELEMENTDATA" "[Ljava/lang/Object;" (.ref de)) (F_o1_most : Fld Z h0 o1 "com/example/dayweave/dayweave/solve/TemporalNetwork" "most" "[[J" (.ref o2)) (A_o2 : Arv Z h0 o2 k_o2 (.array .long) i3 [(.ref o3), (.ref o4), (.ref o5)] .null) :
    Met l Z (⟨"com/example/dayweave/dayweave/solve/TemporalNetwork", "newcomer", "()Lcom/example/dayweave/dayweave/solve/TemporalNetwork$Newcomer;"⟩ : MethodName) prog_67_method_6_code 1 (some (.object "com/example/dayweave/dayweave/solve/TemporalNetwork$Newcomer")) { frames := 5, cells := 4, slots := 13, locals := 64 } [] #[(.ref o1)] h0 n0 (fun v h => ∃ (o514 : Addr) (o515 : Addr) (o516 : Addr) (o517 : Addr) (k_o515 : ClassId) (k_o516 : ClassId), v = some (.ref o514) ∧ Keep h0 h [] ∧ Exa Z h o514 "com/example/dayweave/dayweave/solve/TemporalNetwork$Newcomer" ∧ Fld Z h o514 "com/example/dayweave/dayweave/solve/TemporalNetwork$Newcomer" "this$0" "Lcom/example/dayweave/dayweave/solve/TemporalNetwork;" (.ref o1) ∧ Fld Z h o514 "com/example/dayweave/dayweave/solve/TemporalNetwork$Newcomer" "after" "[J" (.ref o515) ∧ Fld Z h o514 "com/example/dayweave/dayweave/solve/TemporalNetwork$Newcomer" "before" "[J" (.ref o516) ∧ Fld Z h o514 "com/example/dayweave/dayweave/solve/TemporalNetwork$Newcomer" "bounding" "Ljava/util/List;" (.ref o517) ∧ Old Z n0 h ∧ Exa Z h o517 "java/util/ArrayList" ∧ Fld Z h o517 "java/util/AbstractList" "modCount" "I" (.int i0) ∧ Fld Z h o517 "java/util/ArrayList" "elementData" "[Ljava/lang/Object;" (.ref de) ∧ Fld Z h o517 "java/util/ArrayList" "size" "I" (.int i0) ∧ Arv Z h o515 k_o515 .long i3 [(.long jU19), (.long jU19), (.long jU19)] (.long j0) ∧ Arv Z h o516 k_o516 .long i3 [(.long jU19), (.long jU19), (.long jU19)] (.long j0) ∧ h0.size ≤ o514 ∧ n0 ≤ o514 ∧ h0.size ≤ o515 ∧ n0 ≤ o515 ∧ h0.size ≤ o516 ∧ n0 ≤ o516 ∧ h0.size ≤ o517 ∧ n0 ≤ o517 ∧ o514 ≠ o515 ∧ o514 ≠ o516 ∧ o515 ≠ o516 ∧ o514 ≠ o517 ∧ o515 ≠ o517 ∧ o516 ≠ o517) := by
  refine Met.mkQ (tabs := tables_1) (a0 := a0) (ls0 := #[rv o1]) (plainFor_of_name pn_com_example_dayweave_dayweave_solve_TemporalNetwork) hw Z0 (fun m => by first | (simp [entryFrame, mkF, argsToLocals, Value.category]; done) | rfl) ?_
  intro p e s m below meth c T Q' G' hQ hG C X
  have Kp : Keep h0 h0 [] := Keep.refl _ _
  refine s_new 3 C X d11_0 (mW 53 rfl) (mW 54 rfl) (mW 55 rfl) (fun T hh o514 hb_o514 X E E_o514 D g_o514 => ?_)
  have ne_o1_o514 : o1 ≠ o514 := Nat.ne_of_lt (Nat.lt_of_lt_of_le F_o1_most.lt (Nat.le_of_eq hb_o514))
  have ne_o2_o514 : o2 ≠ o514 := Nat.ne_of_lt (Nat.lt_of_lt_of_le A_o2.lt (Nat.le_of_eq hb_o514))
  have sz_o514 : h0.size ≤ o514 := Nat.le_trans Kp.1 (Nat.le_of_eq hb_o514)
  have Od := Od.ext E
  have F_o1_most := F_o1_most.ext E
  have A_o2 := A_o2.ext E
  have Kp := Kp.ext E
  have F_o514_this_0 : Fld Z _ o514 "com/example/dayweave/dayweave/solve/TemporalNetwork$Newcomer" "this$0" "Lcom/example/dayweave/dayweave/solve/TemporalNetwork;" .null := D (Or.inr (hw _ (mW 60 rfl))) (ty := (.object "com/example/dayweave/dayweave/solve/TemporalNetwork")) (by decide)
  have F_o514_after : Fld Z _ o514 "com/example/dayweave/dayweave/solve/TemporalNetwork$Newcomer" "after" "[J" .null := D (Or.inr (hw _ (mW 64 rfl))) (ty := (.array .long)) (by decide)
  have F_o514_before : Fld Z _ o514 "com/example/dayweave/dayweave/solve/TemporalNetwork$Newcomer" "before" "[J" .null := D (Or.inr (hw _ (mW 66 rfl))) (ty := (.array .long)) (by decide)
  have F_o514_bounding : Fld Z _ o514 "com/example/dayweave/dayweave/solve/TemporalNetwork$Newcomer" "bounding" "Ljava/util/List;" .null := D (Or.inr (hw _ (mW 92 rfl))) (ty := (.object "java/util/List")) (by decide)
  refine s_dup 4 C X d11_3 rfl ?_
  refine s_aloadN 5 C X d11_4 rfl rfl ?_
  refine s_callCR 8 [(.ref o1)] [(.ref o514)] 1 C X d11_5 rfl (mW 56 rfl) (mW 57 rfl) (mW 55 rfl) (mW 58 rfl) (rm_a531 l Z a0 hw de o1 o2 o3 o4 o5 k_o2 o514 _ n0 X.sz Od S_de F_o1_most A_o2 E_o514 F_o514_this_0 F_o514_after F_o514_before F_o514_bounding ne_o1_o514 ne_o2_o514 g_o514) (lenOf pd__Lcom_example_dayweave_dayweave_solve_TemporalNetwork__V rfl) rfl rfl rfl (fun T v hh X q => ?_)
  obtain ⟨o515, o516, o517, k_o515, k_o516, rfl, E_o514, F_o514_this_0, F_o514_after, F_o514_before, F_o514_bounding, Kc, Od, E_o517, F_o517_modCount, F_o517_elementData, F_o517_size, A_o515, A_o516, ne_o514_o515, sz_o515', g_o515, ne_o514_o516, sz_o516', ne_o515_o516, g_o516, ne_o514_o517, sz_o517', ne_o515_o517, ne_o516_o517, g_o517⟩ := q
  have sz_o515 : h0.size ≤ o515 := Nat.le_trans Kp.1 sz_o515'
  have sz_o516 : h0.size ≤ o516 := Nat.le_trans Kp.1 sz_o516'
  have sz_o517 : h0.size ≤ o517 := Nat.le_trans Kp.1 sz_o517'
  have Kp := Kp.trans Kc (allS (Or.inr sz_o514) all0)
  refine Run.cast (st' := [(.ref o514)]) rfl ?_
  refine s_areturn C X d11_8 rfl rfl rfl ?_ (FG hG (by decide) (by decide))
  exact hQ _ _ ⟨o514, o515, o516, o517, k_o515, k_o516, rfl, Kp, E_o514, F_o514_this_0, F_o514_after, F_o514_before, F_o514_bounding, Od, E_o517, F_o517_modCount, F_o517_elementData, F_o517_size, A_o515, A_o516, sz_o514, g_o514, sz_o515, g_o515, sz_o516, g_o516, sz_o517, g_o517, ne_o514_o515, ne_o514_o516, ne_o515_o516, ne_o514_o517, ne_o515_o517, ne_o516_o517⟩
theorem rm_a537 (l : Launch) (Z : State) (a0 : Array Value) (hw : ∀ d ∈ tables_1, d.before a0 Z = true) (ac : Addr) (k_ac : ClassId) (vsC : List Value) (b2 : Addr) (h0 : Heap) (n0 : Nat) (Z0 : n0 ≤ h0.size) (S_high : Sta Z Z.heap "java/lang/Integer$IntegerCache" "high" "I" (.int i127)) (S_cache : Sta Z Z.heap "java/lang/Integer$IntegerCache" "cache" "[Ljava/lang/Integer;" (.ref ac)) (A_ac : Arv Z h0 ac k_ac (.object "java/lang/Integer") i256 vsC .null) (Od : Old Z n0 h0) (hv130 : vsC.getD i130.toNatClampNeg .null = .ref b2) :
    Met l Z (⟨"java/lang/Integer", "valueOf", "(I)Ljava/lang/Integer;"⟩ : MethodName) jdk_33_method_22_code 1 (some (.object "java/lang/Integer")) { frames := 0, cells := 0, slots := 0, locals := 0 } [] #[(.int i2)] h0 n0 (fun v h => v = some (.ref b2) ∧ Old Z n0 h ∧ Keep h0 h []) := by
  refine Met.mkQ (tabs := tables_1) (a0 := a0) (ls0 := #[iv i2]) (plainFor_of_name pn_java_lang_Integer) hw Z0 (fun m => by first | (simp [entryFrame, mkF, argsToLocals, Value.category]; done) | rfl) ?_
  intro p e s m below meth c T Q' G' hQ hG C X
  have Kp : Keep h0 h0 [] := Keep.refl _ _
  refine s_iloadN 1 C X d18_0 rfl ?_
  refine s_bipush 3 C X d18_1 kc_bipush_m128 ?_
  refine s_icmp_lt 23 6 C X d18_3 (fun c => absurd c (by decide)) (fun _ => ?_)
  refine s_iloadN 7 C X d18_6 rfl ?_
  refine s_getstatic 10 C X (host := "") d18_7 (Or.inl (mW 108 rfl)) Via.refl (S_high.ext Od.2) (fun T X => ?_)
  refine s_icmp_gt 23 13 C X d18_10 (fun c => absurd c (by decide)) (fun _ => ?_)
  refine s_getstatic 16 C X (host := "") d18_13 (Or.inl (mW 110 rfl)) Via.refl (S_cache.ext Od.2) (fun T X => ?_)
  refine s_iloadN 17 C X d18_16 rfl ?_
  refine s_sipush 20 C X d18_17 kc_sipush_128 ?_
  refine s_iadd 21 C X d18_20 ?_
  refine Run.cast (st' := [(.int i130), (.ref ac)]) (by rw [kf_1]) ?_
  refine s_aaload 22 C X d18_21 A_ac rfl ⟨by decide, by decide⟩ (v := (.ref b2)) hv130 ?_
  refine s_areturn C X d18_22 rfl rfl rfl ?_ (FG hG (by decide) (by decide))
  exact hQ _ _ ⟨rfl, Od, Kp⟩
theorem rm_a542 (l : Launch) (Z : State) (a0 : Array Value) (hw : ∀ d ∈ tables_1, d.before a0 Z = true)  (h0 : Heap) (n0 : Nat) (Z0 : n0 ≤ h0.size)  :
    Met l Z (⟨"java/lang/Math", "max", "(II)I"⟩ : MethodName) jdk_29_method_65_code 2 (some .int) { frames := 0, cells := 0, slots := 0, locals := 0 } [] #[(.int i10), (.int i1)] h0 n0 (fun v h => v = some (.int i10) ∧ Keep h0 h []) := by
  refine Met.mkQ (tabs := tables_1) (a0 := a0) (ls0 := #[iv i10, iv i1]) (Jvm.Free.JP.mathPlain rfl (by decide +kernel)) hw Z0 (fun m => by first | (simp [entryFrame, mkF, argsToLocals, Value.category]; done) | rfl) ?_
  intro p e s m below meth c T Q' G' hQ hG C X
  have Kp : Keep h0 h0 [] := Keep.refl _ _
  refine s_iloadN 1 C X d23_0 rfl ?_
  refine s_iloadN 2 C X d23_1 rfl ?_
  refine s_icmp_lt 9 5 C X d23_2 (fun c => absurd c (by decide)) (fun _ => ?_)
  refine s_iloadN 6 C X d23_5 rfl ?_
  refine s_goto 10 C X d23_6 ?_
  refine s_ireturn C X d23_10 rfl ?_ (FG hG (by decide) (by decide))
  exact hQ _ _ ⟨rfl, Kp⟩
theorem rm_a544 (l : Launch) (Z : State) (a0 : Array Value) (hw : ∀ d ∈ tables_1, d.before a0 Z = true) (de : Addr) (k_de : ClassId) (o517 : Addr) (h0 : Heap) (n0 : Nat) (Z0 : n0 ≤ h0.size) (S_de : Sta Z Z.heap "java/util/ArrayList" "DEFAULTCAPACITY_EMPTY_ELEMENTDATA" "[Ljava/lang/Object;" (.ref de)) (A_de : Arv Z h0 de k_de (.object "java/lang/Object") i0 [] .null) (E_o517 : Exa Z h0 o517 "java/util/ArrayList") (F_o517_modCount : Fld Z h0 o517 "java/util/AbstractList" "modCount" "I" (.int i1)) (F_o517_elementData : Fld Z h0 o517 "java/util/ArrayList" "elementData" "[Ljava/lang/Object;" (.ref de)) (F_o517_size : Fld Z h0 o517 "java/util/ArrayList" "size" "I" (.int i0)) (Od : Old Z n0 h0) (ne_de_o517 : de ≠ o517) (g_o517 : n0 ≤ o517) :
    Met l Z (⟨"java/util/ArrayList", "grow", "(I)[Ljava/lang/Object;"⟩ : MethodName) jdk_38_method_6_code 4 (some (.array (.object "java/lang/Object"))) { frames := 1, cells := 1, slots := 10, locals := 14 } [] #[(.ref o517), (.int i1)] h0 n0 (fun v h => ∃ (o543 : Addr) (k_o543 : ClassId), v = some (.ref o543) ∧ Exa Z h o517 "java/util/ArrayList" ∧ Fld Z h o517 "java/util/AbstractList" "modCount" "I" (.int i1) ∧ Fld Z h o517 "java/util/ArrayList" "elementData" "[Ljava/lang/Object;" (.ref o543) ∧ Fld Z h o517 "java/util/ArrayList" "size" "I" (.int i0) ∧ Old Z n0 h ∧ Keep h0 h [o517] ∧ Exa Z h o543 "[Ljava/lang/Object;" ∧ Arv Z h o543 k_o543 (.object "java/lang/Object") i10 [.null, .null, .null, .null, .null, .null, .null, .null, .null, .null] .null ∧ o517 ≠ o543 ∧ h0.size ≤ o543 ∧ n0 ≤ o543 ∧ Ovr Z k_o543 "java/lang/Object") := by
  refine Met.mkQ (tabs := tables_1) (a0 := a0) (ls0 := #[rv o517, iv i1, .unset, .unset]) (plainFor_of_name pn_java_util_ArrayList) hw Z0 (fun m => by first | (simp [entryFrame, mkF, argsToLocals, Value.category]; done) | rfl) ?_
  intro p e s m below meth c T Q' G' hQ hG C X
  have Kp : Keep h0 h0 [o517] := Keep.refl _ _
  refine s_aloadN 1 C X d22_0 rfl rfl ?_
  refine s_getfield 4 C X (host := "") d22_1 (Or.inl (mW 89 rfl)) Via.refl F_o517_elementData (fun T X => ?_)
  refine s_arraylength 5 C X d22_4 A_de ?_
  refine s_istoreN 6 C X (l' := #[rv o517, iv i1, iv i0, .unset]) d22_5 rfl ?_
  refine s_iloadN 7 C X d22_6 rfl ?_
  refine s_if_gt 20 10 C X d22_7 (fun c => absurd c (by decide)) (fun _ => ?_)
  refine s_aloadN 11 C X d22_10 rfl rfl ?_
  refine s_getfield 14 C X (host := "") d22_11 (Or.inl (mW 89 rfl)) Via.refl F_o517_elementData (fun T X => ?_)
  refine s_getstatic 17 C X (host := "") d22_14 (Or.inl (mW 88 rfl)) Via.refl (S_de.ext Od.2) (fun T X => ?_)
  refine s_acmp_eq 45 20 C X d22_17 rfl rfl (fun _ => ?_) (fun c => absurd rfl c)
  refine s_aloadN 46 C X d22_45 rfl rfl ?_
  refine s_bipush 48 C X d22_46 kc_bipush_10 ?_
  refine s_iloadN 49 C X d22_48 rfl ?_
  refine s_callS 52 [(.int i10), (.int i1)] [(.ref o517)] 1 C X d22_49 (mW 139 rfl) (mW 140 rfl) (mW 30 rfl) (mW 141 rfl) (rm_a542 l Z a0 hw  _ n0 X.sz ) (lenOf pd__II_I rfl) rfl rfl rfl (fun T v hh X q => ?_)
  obtain ⟨rfl, Kc⟩ := q
  have E_o517 := E_o517.keep Kc
  have F_o517_modCount := F_o517_modCount.keep Kc nin0
  have F_o517_elementData := F_o517_elementData.keep Kc nin0
  have F_o517_size := F_o517_size.keep Kc nin0
  have Od := Od.keep Kc all0
  have Kp := Kp.trans Kc all0
  refine Run.cast (st' := [(.int i10), (.ref o517)]) rfl ?_
  refine s_anewarray 55 10 "[Ljava/lang/Object;" C X d22_52 (mW 142 rfl) (mW 143 rfl) (by decide) (by decide) rfl (fun T hh o543 k_o543 hb_o543 X E A_o543 E_o543 O_o543 g_o543 => ?_)
  have ne_o517_o543 : o517 ≠ o543 := Nat.ne_of_lt (Nat.lt_of_lt_of_le E_o517.lt (Nat.le_of_eq hb_o543))
  have sz_o543 : h0.size ≤ o543 := Nat.le_trans Kp.1 (Nat.le_of_eq hb_o543)
  have E_o517 := E_o517.ext E
  have F_o517_modCount := F_o517_modCount.ext E
  have F_o517_elementData := F_o517_elementData.ext E
  have F_o517_size := F_o517_size.ext E
  have Od := Od.ext E
  have Kp := Kp.ext E
  have A_o543 : Arv Z _ o543 k_o543 (.object "java/lang/Object") i10 [.null, .null, .null, .null, .null, .null, .null, .null, .null, .null] .null := A_o543.pad (pad_rep [] _ 10)
  refine s_dupX1 56 C X d22_55 rfl rfl ?_
  refine s_putfield 59 C X (host := "") d22_56 (Or.inl (mW 89 rfl)) Via.refl F_o517_elementData E_o517 (Or.inl (mW 90 rfl)) (mW 68 rfl) (ty := (.array (.object "java/lang/Object"))) (by decide) rfl rfl g_o517 (fun T hh X W => ?_)
  have E_o517 := E_o517.wr W
  have F_o517_modCount := oth F_o517_modCount W (Or.inl (hw _ (mW 87 rfl))) (Or.inl (hw _ (mW 90 rfl))) (by decide)
  have F_o517_elementData := F_o517_elementData.same W
  have F_o517_size := oth F_o517_size W (Or.inl (hw _ (mW 123 rfl))) (Or.inl (hw _ (mW 90 rfl))) (by decide)
  have Od := Od.wr W g_o517
  have Kp := Kp.wr W (Or.inl (by simp))
  have E_o543 := E_o543.wr W
  have A_o543 := A_o543.other W (Ne.symm ne_o517_o543)
  refine s_areturn C X d22_59 rfl rfl rfl ?_ (FG hG (by decide) (by decide))
  exact hQ _ _ ⟨o543, k_o543, rfl, E_o517, F_o517_modCount, F_o517_elementData, F_o517_size, Od, Kp, E_o543, A_o543, ne_o517_o543, sz_o543, g_o543, O_o543⟩
theorem rm_a545 (l : Launch) (Z : State) (a0 : Array Value) (hw : ∀ d ∈ tables_1, d.before a0 Z = true) (de : Addr) (k_de : ClassId) (o517 : Addr) (h0 : Heap) (n0 : Nat) (Z0 : n0 ≤ h0.size) (S_de : Sta Z Z.heap "java/util/ArrayList" "DEFAULTCAPACITY_EMPTY_ELEMENTDATA" "[Ljava/lang/Object;" (.ref de)) (A_de : Arv Z h0 de k_de (.object "java/lang/Object") i0 [] .null) (E_o517 : Exa Z h0 o517 "java/util/ArrayList") (F_o517_modCount : Fld Z h0 o517 "java/util/AbstractList" "modCount" "I" (.int i1)) (F_o517_elementData : Fld Z h0 o517 "java/util/ArrayList" "elementData" "[Ljava/lang/Object;" (.ref de)) (F_o517_size : Fld Z h0 o517 "java/util/ArrayList" "size" "I" (.int i0)) (Od : Old Z n0 h0) (ne_de_o517 : de ≠ o517) (g_o517 : n0 ≤ o517) :
    Met l Z (⟨"java/util/ArrayList", "grow", "()[Ljava/lang/Object;"⟩ : MethodName) jdk_38_method_7_code 1 (some (.array (.object "java/lang/Object"))) { frames := 2, cells := 1, slots := 10, locals := 29 } [] #[(.ref o517)] h0 n0 (fun v h => ∃ (o543 : Addr) (k_o543 : ClassId), v = some (.ref o543) ∧ Keep h0 h [o517] ∧ Exa Z h o517 "java/util/ArrayList" ∧ Fld Z h o517 "java/util/AbstractList" "modCount" "I" (.int i1) ∧ Fld Z h o517 "java/util/ArrayList" "elementData" "[Ljava/lang/Object;" (.ref o543) ∧ Fld Z h o517 "java/util/ArrayList" "size" "I" (.int i0) ∧ Old Z n0 h ∧ Exa Z h o543 "[Ljava/lang/Object;" ∧ Arv Z h o543 k_o543 (.object "java/lang/Object") i10 [.null, .null, .null, .null, .null, .null, .null, .null, .null, .null] .null ∧ h0.size ≤ o543 ∧ n0 ≤ o543 ∧ o517 ≠ o543 ∧ Ovr Z k_o543 "java/lang/Object") := by
  refine Met.mkQ (tabs := tables_1) (a0 := a0) (ls0 := #[rv o517]) (plainFor_of_name pn_java_util_ArrayList) hw Z0 (fun m => by first | (simp [entryFrame, mkF, argsToLocals, Value.category]; done) | rfl) ?_
  intro p e s m below meth c T Q' G' hQ hG C X
  have Kp : Keep h0 h0 [o517] := Keep.refl _ _
  refine s_aloadN 1 C X d21_0 rfl rfl ?_
  refine s_aloadN 2 C X d21_1 rfl rfl ?_
  refine s_getfield 5 C X (host := "") d21_2 (Or.inl (mW 122 rfl)) Via.refl F_o517_size (fun T X => ?_)
  refine s_iconst 6 C X d21_5 kc_iconst_1 ?_
  refine s_iadd 7 C X d21_6 ?_
  refine Run.cast (st' := [(.int i1), (.ref o517)]) (by rw [kf_2]) ?_
  refine s_callP 10 [(.int i1)] [] 0 C X d21_7 (mW 134 rfl) (mW 135 rfl) (mW 137 rfl) (mW 136 rfl) (mW 69 rfl) (mW 138 rfl) E_o517 (rm_a544 l Z a0 hw de k_de o517 _ n0 X.sz S_de A_de E_o517 F_o517_modCount F_o517_elementData F_o517_size Od ne_de_o517 g_o517) (lenOf pd__I__Ljava_lang_Object_ rfl) rfl rfl rfl (fun T v hh X q => ?_)
  obtain ⟨o543, k_o543, rfl, E_o517, F_o517_modCount, F_o517_elementData, F_o517_size, Od, Kc, E_o543, A_o543, ne_o517_o543, sz_o543', g_o543, O_o543⟩ := q
  have sz_o543 : h0.size ≤ o543 := Nat.le_trans Kp.1 sz_o543'
  have Kp := Kp.trans Kc (allS (Or.inl (by simp)) all0)
  refine Run.cast (st' := [(.ref o543)]) rfl ?_
  refine s_areturn C X d21_10 rfl rfl rfl ?_ (FG hG (by decide) (by decide))
  exact hQ _ _ ⟨o543, k_o543, rfl, Kp, E_o517, F_o517_modCount, F_o517_elementData, F_o517_size, Od, E_o543, A_o543, sz_o543, g_o543, ne_o517_o543, O_o543⟩
theorem rm_a546 (l : Launch) (Z : State) (a0 : Array Value) (hw : ∀ d ∈ tables_1, d.before a0 Z = true) (de : Addr) (k_de : ClassId) (b2 : Addr) (o517 : Addr) (h0 : Heap) (n0 : Nat) (Z0 : n0 ≤ h0.size) (S_de : Sta Z Z.heap "java/util/ArrayList" "DEFAULTCAPACITY_EMPTY_ELEMENTDATA" "[Ljava/lang/Object;" (.ref de)) (A_de : Arv Z h0 de k_de (.object "java/lang/Object") i0 [] .null) (E_b2 : Exa Z h0 b2 "java/lang/Integer") (E_o517 : Exa Z h0 o517 "java/util/ArrayList") (F_o517_modCount : Fld Z h0 o517 "java/util/AbstractList" "modCount" "I" (.int i1)) (F_o517_elementData : Fld Z h0 o517 "java/util/ArrayList" "elementData" "[Ljava/lang/Object;" (.ref de)) (F_o517_size : Fld Z h0 o517 "java/util/ArrayList" "size" "I" (.int i0)) (Od : Old Z n0 h0) (ne_de_o517 : de ≠ o517) (g_o517 : n0 ≤ o517) :
    Met l Z (⟨"java/util/ArrayList", "add", "(Ljava/lang/Object;[Ljava/lang/Object;I)V"⟩ : MethodName) jdk_38_method_24_code 4 none { frames := 3, cells := 1, slots := 10, locals := 41 } [] #[(.ref o517), (.ref b2), (.ref de), (.int i0)] h0 n0 (fun v h => ∃ (o543 : Addr) (k_o543 : ClassId), v = none ∧ Keep h0 h [o517] ∧ Exa Z h o517 "java/util/ArrayList" ∧ Fld Z h o517 "java/util/AbstractList" "modCount" "I" (.int i1) ∧ Fld Z h o517 "java/util/ArrayList" "elementData" "[Ljava/lang/Object;" (.ref o543) ∧ Fld Z h o517 "java/util/ArrayList" "size" "I" (.int i1) ∧ Old Z n0 h ∧ Exa Z h o543 "[Ljava/lang/Object;" ∧ Arv Z h o543 k_o543 (.object "java/lang/Object") i10 [(.ref b2), .null, .null, .null, .null, .null, .null, .null, .null, .null] .null ∧ h0.size ≤ o543 ∧ n0 ≤ o543 ∧ o517 ≠ o543 ∧ Ovr Z k_o543 "java/lang/Object") := by
  refine Met.mkQ (tabs := tables_1) (a0 := a0) (ls0 := #[rv o517, rv b2, rv de, iv i0]) (plainFor_of_name pn_java_util_ArrayList) hw Z0 (fun m => by first | (simp [entryFrame, mkF, argsToLocals, Value.category]; done) | rfl) ?_
  intro p e s m below meth c T Q' G' hQ hG C X
  have Kp : Keep h0 h0 [o517] := Keep.refl _ _
  refine s_iloadN 1 C X d20_0 rfl ?_
  refine s_aloadN 2 C X d20_1 rfl rfl ?_
  refine s_arraylength 3 C X d20_2 A_de ?_
  refine s_icmp_ne 11 6 C X d20_3 (fun c => absurd (by decide : i0 = i0) c) (fun _ => ?_)
  refine s_aloadN 7 C X d20_6 rfl rfl ?_
  refine s_callP 10 [] [] 0 C X d20_7 (mW 129 rfl) (mW 130 rfl) (mW 132 rfl) (mW 131 rfl) (mW 69 rfl) (mW 133 rfl) E_o517 (rm_a545 l Z a0 hw de k_de o517 _ n0 X.sz S_de A_de E_o517 F_o517_modCount F_o517_elementData F_o517_size Od ne_de_o517 g_o517) (lenOf pd____Ljava_lang_Object_ rfl) rfl rfl rfl (fun T v hh X q => ?_)
  obtain ⟨o543, k_o543, rfl, Kc, E_o517, F_o517_modCount, F_o517_elementData, F_o517_size, Od, E_o543, A_o543, sz_o543', g_o543, ne_o517_o543, O_o543⟩ := q
  have sz_o543 : h0.size ≤ o543 := Nat.le_trans Kp.1 sz_o543'
  have E_b2 := E_b2.keep Kc
  have Kp := Kp.trans Kc (allS (Or.inl (by simp)) all0)
  refine Run.cast (st' := [(.ref o543)]) rfl ?_
  refine s_astoreN 11 C X (l' := #[rv o517, rv b2, rv o543, iv i0]) d20_10 rfl rfl ?_
  refine s_aloadN 12 C X d20_11 rfl rfl ?_
  refine s_iloadN 13 C X d20_12 rfl ?_
  refine s_aloadN 14 C X d20_13 rfl rfl ?_
  refine s_aastore 15 0 C X d20_14 A_o543 rfl rfl (fun _ A q => Sto.ofV A q O_o543 (Ins.of_exa E_b2 (C.w (mW 144 rfl)))) g_o543 ⟨by decide, by decide⟩ rfl (Nat.le_of_ble_eq_true rfl) (fun T hh X W A_o543 => ?_)
  have A_o543 : Arv Z _ o543 k_o543 (.object "java/lang/Object") i10 [(.ref b2), .null, .null, .null, .null, .null, .null, .null, .null, .null] .null := A_o543
  have Kp := Kp.wr W (Or.inr sz_o543)
  have E_o517 := E_o517.wr W
  have F_o517_modCount := F_o517_modCount.other W (Or.inl ne_o517_o543)
  have F_o517_elementData := F_o517_elementData.other W (Or.inl ne_o517_o543)
  have F_o517_size := F_o517_size.other W (Or.inl ne_o517_o543)
  have Od := Od.wr W g_o543
  have E_o543 := E_o543.wr W
  refine s_aloadN 16 C X d20_15 rfl rfl ?_
  refine s_iloadN 17 C X d20_16 rfl ?_
  refine s_iconst 18 C X d20_17 kc_iconst_1 ?_
  refine s_iadd 19 C X d20_18 ?_
  refine Run.cast (st' := [(.int i1), (.ref o517)]) (by rw [kf_2]) ?_
  refine s_putfield 22 C X (host := "") d20_19 (Or.inl (mW 122 rfl)) Via.refl F_o517_size E_o517 (Or.inl (mW 123 rfl)) (mW 68 rfl) (ty := .int) (by decide) rfl rfl g_o517 (fun T hh X W => ?_)
  have Kp := Kp.wr W (Or.inl (by simp))
  have E_o517 := E_o517.wr W
  have F_o517_modCount := oth F_o517_modCount W (Or.inl (hw _ (mW 87 rfl))) (Or.inl (hw _ (mW 123 rfl))) (by decide)
  have F_o517_elementData := oth F_o517_elementData W (Or.inl (hw _ (mW 90 rfl))) (Or.inl (hw _ (mW 123 rfl))) (by decide)
  have F_o517_size := F_o517_size.same W
  have Od := Od.wr W g_o517
  have E_o543 := E_o543.wr W
  have A_o543 := A_o543.other W (Ne.symm ne_o517_o543)
  refine s_return C X d20_22 rfl ?_ (FG hG (by decide) (by decide))
  exact hQ _ _ ⟨o543, k_o543, rfl, Kp, E_o517, F_o517_modCount, F_o517_elementData, F_o517_size, Od, E_o543, A_o543, sz_o543, g_o543, ne_o517_o543, O_o543⟩
theorem rm_a547 (l : Launch) (Z : State) (a0 : Array Value) (hw : ∀ d ∈ tables_1, d.before a0 Z = true) (de : Addr) (k_de : ClassId) (b2 : Addr) (o517 : Addr) (h0 : Heap) (n0 : Nat) (Z0 : n0 ≤ h0.size) (S_de : Sta Z Z.heap "java/util/ArrayList" "DEFAULTCAPACITY_EMPTY_ELEMENTDATA" "[Ljava/lang/Object;" (.ref de)) (A_de : Arv Z h0 de k_de (.object "java/lang/Object") i0 [] .null) (E_b2 : Exa Z h0 b2 "java/lang/Integer") (E_o517 : Exa Z h0 o517 "java/util/ArrayList") (F_o517_modCount : Fld Z h0 o517 "java/util/AbstractList" "modCount" "I" (.int i0)) (F_o517_elementData : Fld Z h0 o517 "java/util/ArrayList" "elementData" "[Ljava/lang/Object;" (.ref de)) (F_o517_size : Fld Z h0 o517 "java/util/ArrayList" "size" "I" (.int i0)) (Od : Old Z n0 h0) (ne_de_o517 : de ≠ o517) (g_o517 : n0 ≤ o517) :
    Met l Z (⟨"java/util/ArrayList", "add", "(Ljava/lang/Object;)Z"⟩ : MethodName) jdk_38_method_25_code 2 (some .boolean) { frames := 4, cells := 1, slots := 10, locals := 56 } [] #[(.ref o517), (.ref b2)] h0 n0 (fun v h => ∃ (o543 : Addr) (k_o543 : ClassId), v = some (.int i1) ∧ Keep h0 h [o517] ∧ Exa Z h o517 "java/util/ArrayList" ∧ Fld Z h o517 "java/util/AbstractList" "modCount" "I" (.int i1) ∧ Fld Z h o517 "java/util/ArrayList" "elementData" "[Ljava/lang/Object;" (.ref o543) ∧ Fld Z h o517 "java/util/ArrayList" "size" "I" (.int i1) ∧ Old Z n0 h ∧ Exa Z h o543 "[Ljava/lang/Object;" ∧ Arv Z h o543 k_o543 (.object "java/lang/Object") i10 [(.ref b2), .null, .null, .null, .null, .null, .null, .null, .null, .null] .null ∧ h0.size ≤ o543 ∧ n0 ≤ o543 ∧ o517 ≠ o543 ∧ Ovr Z k_o543 "java/lang/Object") := by
  refine Met.mkQ (tabs := tables_1) (a0 := a0) (ls0 := #[rv o517, rv b2]) (plainFor_of_name pn_java_util_ArrayList) hw Z0 (fun m => by first | (simp [entryFrame, mkF, argsToLocals, Value.category]; done) | rfl) ?_
  intro p e s m below meth c T Q' G' hQ hG C X
  have Kp : Keep h0 h0 [o517] := Keep.refl _ _
  refine s_aloadN 1 C X d19_0 rfl rfl ?_
  refine s_dup 2 C X d19_1 rfl ?_
  refine s_getfield 5 C X (host := "") d19_2 (Or.inl (mW 120 rfl)) (Via.of (C.w (mW 121 rfl))) F_o517_modCount (fun T X => ?_)
  refine s_iconst 6 C X d19_5 kc_iconst_1 ?_
  refine s_iadd 7 C X d19_6 ?_
  refine Run.cast (st' := [(.int i1), (.ref o517)]) (by rw [kf_2]) ?_
  refine s_putfield 10 C X (host := "") d19_7 (Or.inl (mW 120 rfl)) (Via.of (C.w (mW 121 rfl))) F_o517_modCount E_o517 (Or.inl (mW 87 rfl)) (mW 68 rfl) (ty := .int) (by decide) rfl rfl g_o517 (fun T hh X W => ?_)
  have A_de := A_de.other W ne_de_o517
  have E_b2 := E_b2.wr W
  have E_o517 := E_o517.wr W
  have F_o517_modCount := F_o517_modCount.same W
  have F_o517_elementData := oth F_o517_elementData W (Or.inl (hw _ (mW 90 rfl))) (Or.inl (hw _ (mW 87 rfl))) (by decide)
  have F_o517_size := oth F_o517_size W (Or.inl (hw _ (mW 123 rfl))) (Or.inl (hw _ (mW 87 rfl))) (by decide)
  have Od := Od.wr W g_o517
  have Kp := Kp.wr W (Or.inl (by simp))
  refine s_aloadN 11 C X d19_10 rfl rfl ?_
  refine s_aloadN 12 C X d19_11 rfl rfl ?_
  refine s_aloadN 13 C X d19_12 rfl rfl ?_
  refine s_getfield 16 C X (host := "") d19_13 (Or.inl (mW 89 rfl)) Via.refl F_o517_elementData (fun T X => ?_)
  refine s_aloadN 17 C X d19_16 rfl rfl ?_
  refine s_getfield 20 C X (host := "") d19_17 (Or.inl (mW 122 rfl)) Via.refl F_o517_size (fun T X => ?_)
  refine s_callP 23 [(.ref b2), (.ref de), (.int i0)] [] 0 C X d19_20 (mW 124 rfl) (mW 125 rfl) (mW 127 rfl) (mW 126 rfl) (mW 69 rfl) (mW 128 rfl) E_o517 (rm_a546 l Z a0 hw de k_de b2 o517 _ n0 X.sz S_de A_de E_b2 E_o517 F_o517_modCount F_o517_elementData F_o517_size Od ne_de_o517 g_o517) (lenOf pd__Ljava_lang_Object__Ljava_lang_Object_I_V rfl) rfl rfl rfl (fun T v hh X q => ?_)
  obtain ⟨o543, k_o543, rfl, Kc, E_o517, F_o517_modCount, F_o517_elementData, F_o517_size, Od, E_o543, A_o543, sz_o543', g_o543, ne_o517_o543, O_o543⟩ := q
  have sz_o543 : h0.size ≤ o543 := Nat.le_trans Kp.1 sz_o543'
  have Kp := Kp.trans Kc (allS (Or.inl (by simp)) all0)
  refine Run.cast (st' := []) rfl ?_
  refine s_iconst 24 C X d19_23 kc_iconst_1 ?_
  refine s_nreturn C X d19_24 rfl (by simp) rfl ?_ (FG hG (by decide) (by decide))
  exact hQ _ _ ⟨o543, k_o543, rfl, Kp, E_o517, F_o517_modCount, F_o517_elementData, F_o517_size, Od, E_o543, A_o543, sz_o543, g_o543, ne_o517_o543, O_o543⟩
theorem rm_a548 (l : Launch) (Z : State) (a0 : Array Value) (hw : ∀ d ∈ tables_1, d.before a0 Z = true) (ac : Addr) (k_ac : ClassId) (vsC : List Value) (de : Addr) (k_de : ClassId) (b2 : Addr) (o514 : Addr) (o515 : Addr) (o516 : Addr) (o517 : Addr) (k_o515 : ClassId) (k_o516 : ClassId) (h0 : Heap) (n0 : Nat) (Z0 : n0 ≤ h0.size) (S_high : Sta Z Z.heap "java/lang/Integer$IntegerCache" "high" "I" (.int i127)) (S_cache : Sta Z Z.heap "java/lang/Integer$IntegerCache" "cache" "[Ljava/lang/Integer;" (.ref ac)) (S_de : Sta Z Z.heap "java/util/ArrayList" "DEFAULTCAPACITY_EMPTY_ELEMENTDATA" "[Ljava/lang/Object;" (.ref de)) (A_ac : Arv Z h0 ac k_ac (.object "java/lang/Integer") i256 vsC .null) (A_de : Arv Z h0 de k_de (.object "java/lang/Object") i0 [] .null) (E_b2 : Exa Z h0 b2 "java/lang/Integer") (F_o514_after : Fld Z h0 o514 "com/example/dayweave/dayweave/solve/TemporalNetwork$Newcomer" "after" "[J" (.ref o515)) (F_o514_before : Fld Z h0 o514 "com/example/dayweave/dayweave/solve/TemporalNetwork$Newcomer" "before" "[J" (.ref o516)) (F_o514_bounding : Fld Z h0 o514 "com/example/dayweave/dayweave/solve/TemporalNetwork$Newcomer" "bounding" "Ljava/util/List;" (.ref o517)) (Od : Old Z n0 h0) (E_o517 : Exa Z h0 o517 "java/util/ArrayList") (F_o517_modCount : Fld Z h0 o517 "java/util/AbstractList" "modCount" "I" (.int i0)) (F_o517_elementData : Fld Z h0 o517 "java/util/ArrayList" "elementData" "[Ljava/lang/Object;" (.ref de)) (F_o517_size : Fld Z h0 o517 "java/util/ArrayList" "size" "I" (.int i0)) (A_o515 : Arv Z h0 o515 k_o515 .long i3 [(.long jU19), (.long jU19), (.long jU19)] (.long j0)) (A_o516 : Arv Z h0 o516 k_o516 .long i3 [(.long jU19), (.long jU19), (.long jU19)] (.long j0)) (hv130 : vsC.getD i130.toNatClampNeg .null = .ref b2) (ne_ac_o517 : ac ≠ o517) (ne_de_o517 : de ≠ o517) (g_o517 : n0 ≤ o517) (ne_o514_o517 : o514 ≠ o517) (ne_o515_o517 : o515 ≠ o517) (ne_o516_o517 : o516 ≠ o517) :
    Met l Z (⟨"com/example/dayweave/dayweave/solve/TemporalNetwork$Newcomer", "note", "(I)V"⟩ : MethodName) prog_68_method_4_code 2 none { frames := 5, cells := 1, slots := 10, locals := 69 } [] #[(.ref o514), (.int i2)] h0 n0 (fun v h => ∃ (o543 : Addr) (k_o543 : ClassId), v = none ∧ Keep h0 h [o517] ∧ Exa Z h o517 "java/util/ArrayList" ∧ Fld Z h o517 "java/util/AbstractList" "modCount" "I" (.int i1) ∧ Fld Z h o517 "java/util/ArrayList" "elementData" "[Ljava/lang/Object;" (.ref o543) ∧ Fld Z h o517 "java/util/ArrayList" "size" "I" (.int i1) ∧ Old Z n0 h ∧ Exa Z h o543 "[Ljava/lang/Object;" ∧ Arv Z h o543 k_o543 (.object "java/lang/Object") i10 [(.ref b2), .null, .null, .null, .null, .null, .null, .null, .null, .null] .null ∧ h0.size ≤ o543 ∧ n0 ≤ o543 ∧ o517 ≠ o543 ∧ Ovr Z k_o543 "java/lang/Object") := by
  refine Met.mkQ (tabs := tables_1) (a0 := a0) (ls0 := #[rv o514, iv i2]) (plainFor_of_name pn_com_example_dayweave_dayweave_solve_TemporalNetwork_Newcomer) hw Z0 (fun m => by first | (simp [entryFrame, mkF, argsToLocals, Value.category]; done) | rfl) ?_
  intro p e s m below meth c T Q' G' hQ hG C X
  have Kp : Keep h0 h0 [o517] := Keep.refl _ _
  refine s_aloadN 1 C X d17_0 rfl rfl ?_
  refine s_getfield 4 C X (host := "") d17_1 (Or.inl (mW 63 rfl)) Via.refl F_o514_after (fun T X => ?_)
  refine s_iloadN 5 C X d17_4 rfl ?_
  refine s_laload 6 C X d17_5 A_o515 ⟨by decide, by decide⟩ (v := (.long jU19)) rfl ?_
  refine s_ldc2Long 9 C X d17_6 (mW 93 rfl) ?_
  refine s_lcmp 10 C X d17_9 ?_
  refine Run.cast (st' := [(.int i0)]) (by rw [kf_0]) ?_
  refine s_if_ne 40 13 C X d17_10 (fun c => absurd (by decide : i0 = i0) c) (fun _ => ?_)
  refine s_aloadN 14 C X d17_13 rfl rfl ?_
  refine s_getfield 17 C X (host := "") d17_14 (Or.inl (mW 65 rfl)) Via.refl F_o514_before (fun T X => ?_)
  refine s_iloadN 18 C X d17_17 rfl ?_
  refine s_laload 19 C X d17_18 A_o516 ⟨by decide, by decide⟩ (v := (.long jU19)) rfl ?_
  refine s_ldc2Long 22 C X d17_19 (mW 93 rfl) ?_
  refine s_lcmp 23 C X d17_22 ?_
  refine Run.cast (st' := [(.int i0)]) (by rw [kf_0]) ?_
  refine s_if_ne 40 26 C X d17_23 (fun c => absurd (by decide : i0 = i0) c) (fun _ => ?_)
  refine s_aloadN 27 C X d17_26 rfl rfl ?_
  refine s_getfield 30 C X (host := "") d17_27 (Or.inl (mW 91 rfl)) Via.refl F_o514_bounding (fun T X => ?_)
  refine s_iloadN 31 C X d17_30 rfl ?_
  refine s_callS 34 [(.int i2)] [(.ref o517)] 1 C X d17_31 (mW 104 rfl) (mW 105 rfl) (mW 106 rfl) (mW 107 rfl) (rm_a537 l Z a0 hw ac k_ac vsC b2 _ n0 X.sz S_high S_cache A_ac Od hv130) (lenOf pd__I_Ljava_lang_Integer_ rfl) rfl rfl rfl (fun T v hh X q => ?_)
  obtain ⟨rfl, Od, Kc⟩ := q
  have A_de := A_de.keep Kc nin0
  have E_b2 := E_b2.keep Kc
  have E_o517 := E_o517.keep Kc
  have F_o517_modCount := F_o517_modCount.keep Kc nin0
  have F_o517_elementData := F_o517_elementData.keep Kc nin0
  have F_o517_size := F_o517_size.keep Kc nin0
  have Kp := Kp.trans Kc all0
  refine Run.cast (st' := [(.ref b2), (.ref o517)]) rfl ?_
  refine s_callI 39 [(.ref b2)] [] 0 C X d17_34 (mW 111 rfl) (mW 112 rfl) (mW 113 rfl) (mW 114 rfl) (mW 115 rfl) (mW 116 rfl) (mW 117 rfl) (mW 118 rfl) (mW 69 rfl) (mW 119 rfl) E_o517 (rm_a547 l Z a0 hw de k_de b2 o517 _ n0 X.sz S_de A_de E_b2 E_o517 F_o517_modCount F_o517_elementData F_o517_size Od ne_de_o517 g_o517) (lenOf pd__Ljava_lang_Object__Z rfl) rfl rfl rfl (fun T v hh X q => ?_)
  obtain ⟨o543, k_o543, rfl, Kc, E_o517, F_o517_modCount, F_o517_elementData, F_o517_size, Od, E_o543, A_o543, sz_o543', g_o543, ne_o517_o543, O_o543⟩ := q
  have sz_o543 : h0.size ≤ o543 := Nat.le_trans Kp.1 sz_o543'
  have Kp := Kp.trans Kc (allS (Or.inl (by simp)) all0)
  refine Run.cast (st' := [(.int i1)]) rfl ?_
  refine s_pop 40 C X d17_39 rfl ?_
  refine s_return C X d17_40 rfl ?_ (FG hG (by decide) (by decide))
  exact hQ _ _ ⟨o543, k_o543, rfl, Kp, E_o517, F_o517_modCount, F_o517_elementData, F_o517_size, Od, E_o543, A_o543, sz_o543, g_o543, ne_o517_o543, O_o543⟩
theorem rm_a550 (l : Launch) (Z : State) (a0 : Array Value) (hw : ∀ d ∈ tables_1, d.before a0 Z = true)  (h0 : Heap) (n0 : Nat) (Z0 : n0 ≤ h0.size)  :
    Met l Z (⟨"java/lang/Math", "min", "(JJ)J"⟩ : MethodName) jdk_29_method_70_code 4 (some .long) { frames := 0, cells := 0, slots := 0, locals := 0 } [] #[(.long jU19), (.long j0)] h0 n0 (fun v h => v = some (.long j0) ∧ Keep h0 h []) := by
  refine Met.mkQ (tabs := tables_1) (a0 := a0) (ls0 := #[lv jU19, .second, lv j0, .second]) (Jvm.Free.JP.mathPlain rfl (by decide +kernel)) hw Z0 (fun m => by first | (simp [entryFrame, mkF, argsToLocals, Value.category]; done) | rfl) ?_
  intro p e s m below meth c T Q' G' hQ hG C X
  have Kp : Keep h0 h0 [] := Keep.refl _ _
  refine s_lloadN 1 C X d6_0 rfl ?_
  refine s_lloadN 2 C X d6_1 rfl ?_
  refine s_lcmp 3 C X d6_2 ?_
  refine Run.cast (st' := [(.int i1)]) (by rw [kf_3]) ?_
  refine s_if_gt 10 6 C X d6_3 (fun _ => ?_) (fun c => absurd (by decide : i0 < i1) c)
  refine s_lloadN 11 C X d6_10 rfl ?_
  refine s_lreturn C X d6_11 rfl ?_ (FG hG (by decide) (by decide))
  exact hQ _ _ ⟨rfl, Kp⟩
theorem rm_a551 (l : Launch) (Z : State) (a0 : Array Value) (hw : ∀ d ∈ tables_1, d.before a0 Z = true) (ac : Addr) (k_ac : ClassId) (vsC : List Value) (de : Addr) (k_de : ClassId) (b2 : Addr) (o514 : Addr) (o515 : Addr) (o516 : Addr) (o517 : Addr) (k_o515 : ClassId) (k_o516 : ClassId) (h0 : Heap) (n0 : Nat) (Z0 : n0 ≤ h0.size) (S_high : Sta Z Z.heap "java/lang/Integer$IntegerCache" "high" "I" (.int i127)) (S_cache : Sta Z Z.heap "java/lang/Integer$IntegerCache" "cache" "[Ljava/lang/Integer;" (.ref ac)) (S_de : Sta Z Z.heap "java/util/ArrayList" "DEFAULTCAPACITY_EMPTY_ELEMENTDATA" "[Ljava/lang/Object;" (.ref de)) (A_ac : Arv Z h0 ac k_ac (.object "java/lang/Integer") i256 vsC .null) (A_de : Arv Z h0 de k_de (.object "java/lang/Object") i0 [] .null) (E_b2 : Exa Z h0 b2 "java/lang/Integer") (E_o514 : Exa Z h0 o514 "com/example/dayweave/dayweave/solve/TemporalNetwork$Newcomer") (F_o514_after : Fld Z h0 o514 "com/example/dayweave/dayweave/solve/TemporalNetwork$Newcomer" "after" "[J" (.ref o515)) (F_o514_before : Fld Z h0 o514 "com/example/dayweave/dayweave/solve/TemporalNetwork$Newcomer" "before" "[J" (.ref o516)) (F_o514_bounding : Fld Z h0 o514 "com/example/dayweave/dayweave/solve/TemporalNetwork$Newcomer" "bounding" "Ljava/util/List;" (.ref o517)) (Od : Old Z n0 h0) (E_o517 : Exa Z h0 o517 "java/util/ArrayList") (F_o517_modCount : Fld Z h0 o517 "java/util/AbstractList" "modCount" "I" (.int i0)) (F_o517_elementData : Fld Z h0 o517 "java/util/ArrayList" "elementData" "[Ljava/lang/Object;" (.ref de)) (F_o517_size : Fld Z h0 o517 "java/util/ArrayList" "size" "I" (.int i0)) (A_o515 : Arv Z h0 o515 k_o515 .long i3 [(.long jU19), (.long jU19), (.long jU19)] (.long j0)) (A_o516 : Arv Z h0 o516 k_o516 .long i3 [(.long jU19), (.long jU19), (.long jU19)] (.long j0)) (hv130 : vsC.getD i130.toNatClampNeg .null = .ref b2) (ne_ac_o515 : ac ≠ o515) (ne_de_o515 : de ≠ o515) (g_o515 : n0 ≤ o515) (ne_ac_o517 : ac ≠ o517) (ne_de_o517 : de ≠ o517) (g_o517 : n0 ≤ o517) (ne_o514_o515 : o514 ≠ o515) (ne_o515_o516 : o515 ≠ o516) (ne_o514_o517 : o514 ≠ o517) (ne_o515_o517 : o515 ≠ o517) (ne_o516_o517 : o516 ≠ o517) :
    Met l Z (⟨"com/example/dayweave/dayweave/solve/TemporalNetwork$Newcomer", "atMostAfter", "(IJ)V"⟩ : MethodName) prog_68_method_2_code 4 none { frames := 6, cells := 1, slots := 10, locals := 82 } [] #[(.ref o514), (.int i2), (.long j0)] h0 n0 (fun v h => ∃ (o543 : Addr) (k_o543 : ClassId), v = none ∧ Arv Z h o515 k_o515 .long i3 [(.long jU19), (.long jU19), (.long j0)] (.long j0) ∧ Keep h0 h [o515, o517] ∧ Exa Z h o517 "java/util/ArrayList" ∧ Fld Z h o517 "java/util/AbstractList" "modCount" "I" (.int i1) ∧ Fld Z h o517 "java/util/ArrayList" "elementData" "[Ljava/lang/Object;" (.ref o543) ∧ Fld Z h o517 "java/util/ArrayList" "size" "I" (.int i1) ∧ Old Z n0 h ∧ Exa Z h o543 "[Ljava/lang/Object;" ∧ Arv Z h o543 k_o543 (.object "java/lang/Object") i10 [(.ref b2), .null, .null, .null, .null, .null, .null, .null, .null, .null] .null ∧ o515 ≠ o543 ∧ h0.size ≤ o543 ∧ n0 ≤ o543 ∧ o517 ≠ o543 ∧ Ovr Z k_o543 "java/lang/Object") := by
  refine Met.mkQ (tabs := tables_1) (a0 := a0) (ls0 := #[rv o514, iv i2, lv j0, .second]) (plainFor_of_name pn_com_example_dayweave_dayweave_solve_TemporalNetwork_Newcomer) hw Z0 (fun m => by first | (simp [entryFrame, mkF, argsToLocals, Value.category]; done) | rfl) ?_
  intro p e s m below meth c T Q' G' hQ hG C X
  have Kp : Keep h0 h0 [o515, o517] := Keep.refl _ _
  refine s_aloadN 1 C X d16_0 rfl rfl ?_
  refine s_iloadN 2 C X d16_1 rfl ?_
  refine s_callPI 5 [(.int i2)] [] 0 C X d16_2 (mW 100 rfl) (mW 101 rfl) (mW 54 rfl) (mW 102 rfl) (mW 55 rfl) (mW 103 rfl) E_o514 (rm_a548 l Z a0 hw ac k_ac vsC de k_de b2 o514 o515 o516 o517 k_o515 k_o516 _ n0 X.sz S_high S_cache S_de A_ac A_de E_b2 F_o514_after F_o514_before F_o514_bounding Od E_o517 F_o517_modCount F_o517_elementData F_o517_size A_o515 A_o516 hv130 ne_ac_o517 ne_de_o517 g_o517 ne_o514_o517 ne_o515_o517 ne_o516_o517) (lenOf pd__I_V rfl) rfl rfl rfl (fun T v hh X q => ?_)
  obtain ⟨o543, k_o543, rfl, Kc, E_o517, F_o517_modCount, F_o517_elementData, F_o517_size, Od, E_o543, A_o543, sz_o543', g_o543, ne_o517_o543, O_o543⟩ := q
  have ne_o515_o543 : o515 ≠ o543 := Nat.ne_of_lt (Nat.lt_of_lt_of_le A_o515.lt sz_o543')
  have sz_o543 : h0.size ≤ o543 := Nat.le_trans Kp.1 sz_o543'
  have F_o514_after := F_o514_after.keep Kc (ninS ne_o514_o517 nin0)
  have A_o515 := A_o515.keep Kc (ninS ne_o515_o517 nin0)
  have Kp := Kp.trans Kc (allS (Or.inl (by simp)) all0)
  refine Run.cast (st' := []) rfl ?_
  refine s_aloadN 6 C X d16_5 rfl rfl ?_
  refine s_getfield 9 C X (host := "") d16_6 (Or.inl (mW 63 rfl)) Via.refl F_o514_after (fun T X => ?_)
  refine s_iloadN 10 C X d16_9 rfl ?_
  refine s_aloadN 11 C X d16_10 rfl rfl ?_
  refine s_getfield 14 C X (host := "") d16_11 (Or.inl (mW 63 rfl)) Via.refl F_o514_after (fun T X => ?_)
  refine s_iloadN 15 C X d16_14 rfl ?_
  refine s_laload 16 C X d16_15 A_o515 ⟨by decide, by decide⟩ (v := (.long jU19)) rfl ?_
  refine s_lloadN 17 C X d16_16 rfl ?_
  refine s_callS 20 [(.long jU19), (.long j0)] [(.int i2), (.ref o515)] 2 C X d16_17 (mW 145 rfl) (mW 29 rfl) (mW 30 rfl) (mW 31 rfl) (rm_a550 l Z a0 hw  _ n0 X.sz ) (lenOf pd__JJ_J rfl) rfl rfl rfl (fun T v hh X q => ?_)
  obtain ⟨rfl, Kc⟩ := q
  have A_o515 := A_o515.keep Kc nin0
  have Kp := Kp.trans Kc all0
  have E_o517 := E_o517.keep Kc
  have F_o517_modCount := F_o517_modCount.keep Kc nin0
  have F_o517_elementData := F_o517_elementData.keep Kc nin0
  have F_o517_size := F_o517_size.keep Kc nin0
  have Od := Od.keep Kc all0
  have E_o543 := E_o543.keep Kc
  have A_o543 := A_o543.keep Kc nin0
  refine Run.cast (st' := [(.long j0), (.int i2), (.ref o515)]) rfl ?_
  refine s_lastore 21 2 C X d16_20 A_o515 g_o515 ⟨by decide, by decide⟩ rfl (Nat.le_of_ble_eq_true rfl) (fun T hh X W A_o515 => ?_)
  have A_o515 : Arv Z _ o515 k_o515 .long i3 [(.long jU19), (.long jU19), (.long j0)] (.long j0) := A_o515
  have Kp := Kp.wr W (Or.inl (by simp))
  have E_o517 := E_o517.wr W
  have F_o517_modCount := F_o517_modCount.other W (Or.inl (Ne.symm ne_o515_o517))
  have F_o517_elementData := F_o517_elementData.other W (Or.inl (Ne.symm ne_o515_o517))
  have F_o517_size := F_o517_size.other W (Or.inl (Ne.symm ne_o515_o517))
  have Od := Od.wr W g_o515
  have E_o543 := E_o543.wr W
  have A_o543 := A_o543.other W (Ne.symm ne_o515_o543)
  refine s_return C X d16_21 rfl ?_ (FG hG (by decide) (by decide))
  exact hQ _ _ ⟨o543, k_o543, rfl, A_o515, Kp, E_o517, F_o517_modCount, F_o517_elementData, F_o517_size, Od, E_o543, A_o543, ne_o515_o543, sz_o543, g_o543, ne_o517_o543, O_o543⟩
theorem rm_a553 (l : Launch) (Z : State) (a0 : Array Value) (hw : ∀ d ∈ tables_1, d.before a0 Z = true) (o514 : Addr) (o515 : Addr) (k_o515 : ClassId) (h0 : Heap) (n0 : Nat) (Z0 : n0 ≤ h0.size) (F_o514_after : Fld Z h0 o514 "com/example/dayweave/dayweave/solve/TemporalNetwork$Newcomer" "after" "[J" (.ref o515)) (A_o515 : Arv Z h0 o515 k_o515 .long i3 [(.long jU19), (.long jU19), (.long j0)] (.long j0)) :
    Met l Z (⟨"com/example/dayweave/dayweave/solve/TemporalNetwork$Newcomer", "note", "(I)V"⟩ : MethodName) prog_68_method_4_code 2 none { frames := 0, cells := 0, slots := 0, locals := 0 } [] #[(.ref o514), (.int i2)] h0 n0 (fun v h => v = none ∧ Keep h0 h []) := by
  refine Met.mkQ (tabs := tables_1) (a0 := a0) (ls0 := #[rv o514, iv i2]) (plainFor_of_name pn_com_example_dayweave_dayweave_solve_TemporalNetwork_Newcomer) hw Z0 (fun m => by first | (simp [entryFrame, mkF, argsToLocals, Value.category]; done) | rfl) ?_
  intro p e s m below meth c T Q' G' hQ hG C X
  have Kp : Keep h0 h0 [] := Keep.refl _ _
  refine s_aloadN 1 C X d17_0 rfl rfl ?_
  refine s_getfield 4 C X (host := "") d17_1 (Or.inl (mW 63 rfl)) Via.refl F_o514_after (fun T X => ?_)
  refine s_iloadN 5 C X d17_4 rfl ?_
  refine s_laload 6 C X d17_5 A_o515 ⟨by decide, by decide⟩ (v := (.long j0)) rfl ?_
  refine s_ldc2Long 9 C X d17_6 (mW 93 rfl) ?_
  refine s_lcmp 10 C X d17_9 ?_
  refine Run.cast (st' := [(.int im1)]) (by rw [kf_4]) ?_
  refine s_if_ne 40 13 C X d17_10 (fun _ => ?_) (fun c => absurd c (by decide))
  refine s_return C X d17_40 rfl ?_ (FG hG (by decide) (by decide))
  exact hQ _ _ ⟨rfl, Kp⟩
theorem rm_a556 (l : Launch) (Z : State) (a0 : Array Value) (hw : ∀ d ∈ tables_1, d.before a0 Z = true) (o514 : Addr) (o515 : Addr) (o516 : Addr) (k_o515 : ClassId) (k_o516 : ClassId) (h0 : Heap) (n0 : Nat) (Z0 : n0 ≤ h0.size) (E_o514 : Exa Z h0 o514 "com/example/dayweave/dayweave/solve/TemporalNetwork$Newcomer") (F_o514_after : Fld Z h0 o514 "com/example/dayweave/dayweave/solve/TemporalNetwork$Newcomer" "after" "[J" (.ref o515)) (F_o514_before : Fld Z h0 o514 "com/example/dayweave/dayweave/solve/TemporalNetwork$Newcomer" "before" "[J" (.ref o516)) (A_o516 : Arv Z h0 o516 k_o516 .long i3 [(.long jU19), (.long jU19), (.long jU19)] (.long j0)) (A_o515 : Arv Z h0 o515 k_o515 .long i3 [(.long jU19), (.long jU19), (.long j0)] (.long j0)) (g_o516 : n0 ≤ o516) (ne_o514_o516 : o514 ≠ o516) (ne_o515_o516 : o515 ≠ o516) :
    Met l Z (⟨"com/example/dayweave/dayweave/solve/TemporalNetwork$Newcomer", "atLeastAfter", "(IJ)V"⟩ : MethodName) prog_68_method_3_code 4 none { frames := 1, cells := 0, slots := 0, locals := 17 } [] #[(.ref o514), (.int i2), (.long j0)] h0 n0 (fun v h => v = none ∧ Arv Z h o516 k_o516 .long i3 [(.long jU19), (.long jU19), (.long j0)] (.long j0) ∧ Keep h0 h [o516]) := by
  refine Met.mkQ (tabs := tables_1) (a0 := a0) (ls0 := #[rv o514, iv i2, lv j0, .second]) (plainFor_of_name pn_com_example_dayweave_dayweave_solve_TemporalNetwork_Newcomer) hw Z0 (fun m => by first | (simp [entryFrame, mkF, argsToLocals, Value.category]; done) | rfl) ?_
  intro p e s m below meth c T Q' G' hQ hG C X
  have Kp : Keep h0 h0 [o516] := Keep.refl _ _
  refine s_aloadN 1 C X d24_0 rfl rfl ?_
  refine s_iloadN 2 C X d24_1 rfl ?_
  refine s_callPI 5 [(.int i2)] [] 0 C X d24_2 (mW 100 rfl) (mW 101 rfl) (mW 54 rfl) (mW 102 rfl) (mW 55 rfl) (mW 103 rfl) E_o514 (rm_a553 l Z a0 hw o514 o515 k_o515 _ n0 X.sz F_o514_after A_o515) (lenOf pd__I_V rfl) rfl rfl rfl (fun T v hh X q => ?_)
  obtain ⟨rfl, Kc⟩ := q
  have F_o514_before := F_o514_before.keep Kc nin0
  have A_o516 := A_o516.keep Kc nin0
  have Kp := Kp.trans Kc all0
  refine Run.cast (st' := []) rfl ?_
  refine s_aloadN 6 C X d24_5 rfl rfl ?_
  refine s_getfield 9 C X (host := "") d24_6 (Or.inl (mW 65 rfl)) Via.refl F_o514_before (fun T X => ?_)
  refine s_iloadN 10 C X d24_9 rfl ?_
  refine s_aloadN 11 C X d24_10 rfl rfl ?_
  refine s_getfield 14 C X (host := "") d24_11 (Or.inl (mW 65 rfl)) Via.refl F_o514_before (fun T X => ?_)
  refine s_iloadN 15 C X d24_14 rfl ?_
  refine s_laload 16 C X d24_15 A_o516 ⟨by decide, by decide⟩ (v := (.long jU19)) rfl ?_
  refine s_lloadN 17 C X d24_16 rfl ?_
  refine s_lneg 18 C X d24_17 ?_
  refine Run.cast (st' := [(.long j0), (.long jU19), (.int i2), (.ref o516)]) (by rw [kf_5]) ?_
  refine s_callS 21 [(.long jU19), (.long j0)] [(.int i2), (.ref o516)] 2 C X d24_18 (mW 145 rfl) (mW 29 rfl) (mW 30 rfl) (mW 31 rfl) (rm_a550 l Z a0 hw  _ n0 X.sz ) (lenOf pd__JJ_J rfl) rfl rfl rfl (fun T v hh X q => ?_)
  obtain ⟨rfl, Kc⟩ := q
  have A_o516 := A_o516.keep Kc nin0
  have Kp := Kp.trans Kc all0
  refine Run.cast (st' := [(.long j0), (.int i2), (.ref o516)]) rfl ?_
  refine s_lastore 22 2 C X d24_21 A_o516 g_o516 ⟨by decide, by decide⟩ rfl (Nat.le_of_ble_eq_true rfl) (fun T hh X W A_o516 => ?_)
  have A_o516 : Arv Z _ o516 k_o516 .long i3 [(.long jU19), (.long jU19), (.long j0)] (.long j0) := A_o516
  have Kp := Kp.wr W (Or.inl (by simp))
  refine s_return C X d24_22 rfl ?_ (FG hG (by decide) (by decide))
  exact hQ _ _ ⟨rfl, A_o516, Kp⟩
theorem rm_a558 (l : Launch) (Z : State) (a0 : Array Value) (hw : ∀ d ∈ tables_1, d.before a0 Z = true) (o517 : Addr) (o557 : Addr) (h0 : Heap) (n0 : Nat) (Z0 : n0 ≤ h0.size) (F_o517_modCount : Fld Z h0 o517 "java/util/AbstractList" "modCount" "I" (.int i1)) (E_o557 : Exa Z h0 o557 "java/util/ArrayList$Itr") (F_o557_this_0 : Fld Z h0 o557 "java/util/ArrayList$Itr" "this$0" "Ljava/util/ArrayList;" .null) (F_o557_lastRet : Fld Z h0 o557 "java/util/ArrayList$Itr" "lastRet" "I" (.int i0)) (F_o557_expectedModCount : Fld Z h0 o557 "java/util/ArrayList$Itr" "expectedModCount" "I" (.int i0)) (F_o557_cursor : Fld Z h0 o557 "java/util/ArrayList$Itr" "cursor" "I" (.int i0)) (ne_o517_o557 : o517 ≠ o557) (g_o557 : n0 ≤ o557) :
    Met l Z (⟨"java/util/ArrayList$Itr", "<init>", "(Ljava/util/ArrayList;)V"⟩ : MethodName) jdk_49_method_1_code 2 none { frames := 1, cells := 0, slots := 0, locals := 12 } [] #[(.ref o557), (.ref o517)] h0 n0 (fun v h => v = none ∧ Exa Z h o557 "java/util/ArrayList$Itr" ∧ Fld Z h o557 "java/util/ArrayList$Itr" "this$0" "Ljava/util/ArrayList;" (.ref o517) ∧ Fld Z h o557 "java/util/ArrayList$Itr" "lastRet" "I" (.int im1) ∧ Fld Z h o557 "java/util/ArrayList$Itr" "expectedModCount" "I" (.int i1) ∧ Fld Z h o557 "java/util/ArrayList$Itr" "cursor" "I" (.int i0) ∧ Keep h0 h [o557]) := by
  refine Met.mkQ (tabs := tables_1) (a0 := a0) (ls0 := #[rv o557, rv o517]) (plainFor_of_name pn_java_util_ArrayList_Itr) hw Z0 (fun m => by first | (simp [entryFrame, mkF, argsToLocals, Value.category]; done) | rfl) ?_
  intro p e s m below meth c T Q' G' hQ hG C X
  have Kp : Keep h0 h0 [o557] := Keep.refl _ _
  refine s_aloadN 1 C X d27_0 rfl rfl ?_
  refine s_aloadN 2 C X d27_1 rfl rfl ?_
  refine s_putfield 5 C X (host := "") d27_2 (Or.inl (mW 172 rfl)) Via.refl F_o557_this_0 E_o557 (Or.inr ⟨(mW 173 rfl), rfl, rfl⟩) (mW 166 rfl) (ty := (.object "java/util/ArrayList")) (by decide) rfl rfl g_o557 (fun T hh X W => ?_)
  have F_o517_modCount := F_o517_modCount.other W (Or.inl ne_o517_o557)
  have E_o557 := E_o557.wr W
  have F_o557_this_0 := F_o557_this_0.same W
  have F_o557_lastRet := oth F_o557_lastRet W (Or.inl (hw _ (mW 176 rfl))) (Or.inr (hw _ (mW 173 rfl))) (by decide)
  have F_o557_expectedModCount := oth F_o557_expectedModCount W (Or.inl (hw _ (mW 179 rfl))) (Or.inr (hw _ (mW 173 rfl))) (by decide)
  have F_o557_cursor := oth F_o557_cursor W (Or.inl (hw _ (mW 190 rfl))) (Or.inr (hw _ (mW 173 rfl))) (by decide)
  have Kp := Kp.wr W (Or.inl (by simp))
  refine s_aloadN 6 C X d27_5 rfl rfl ?_
  refine s_objInit 9 C X d27_6 (mW 174 rfl) (mW 7 rfl) (mW 8 rfl) rfl (W := 0) rfl (by decide) (fun T X => ?_)
  refine s_aloadN 10 C X d27_9 rfl rfl ?_
  refine s_iconst 11 C X d27_10 kc_iconst_m1 ?_
  refine s_putfield 14 C X (host := "") d27_11 (Or.inl (mW 175 rfl)) Via.refl F_o557_lastRet E_o557 (Or.inl (mW 176 rfl)) (mW 166 rfl) (ty := .int) (by decide) rfl rfl g_o557 (fun T hh X W => ?_)
  have F_o517_modCount := F_o517_modCount.other W (Or.inl ne_o517_o557)
  have E_o557 := E_o557.wr W
  have F_o557_this_0 := oth F_o557_this_0 W (Or.inr (hw _ (mW 173 rfl))) (Or.inl (hw _ (mW 176 rfl))) (by decide)
  have F_o557_lastRet := F_o557_lastRet.same W
  have F_o557_expectedModCount := oth F_o557_expectedModCount W (Or.inl (hw _ (mW 179 rfl))) (Or.inl (hw _ (mW 176 rfl))) (by decide)
  have F_o557_cursor := oth F_o557_cursor W (Or.inl (hw _ (mW 190 rfl))) (Or.inl (hw _ (mW 176 rfl))) (by decide)
  have Kp := Kp.wr W (Or.inl (by simp))
  refine s_aloadN 15 C X d27_14 rfl rfl ?_
  refine s_aloadN 16 C X d27_15 rfl rfl ?_
  refine s_getfield 19 C X (host := "") d27_16 (Or.inl (mW 172 rfl)) Via.refl F_o557_this_0 (fun T X => ?_)
  refine s_getfield 22 C X (host := "") d27_19 (Or.inl (mW 177 rfl)) (Via.of (C.w (mW 121 rfl))) F_o517_modCount (fun T X => ?_)
  refine s_putfield 25 C X (host := "") d27_22 (Or.inl (mW 178 rfl)) Via.refl F_o557_expectedModCount E_o557 (Or.inl (mW 179 rfl)) (mW 166 rfl) (ty := .int) (by decide) rfl rfl g_o557 (fun T hh X W => ?_)
  have E_o557 := E_o557.wr W
  have F_o557_this_0 := oth F_o557_this_0 W (Or.inr (hw _ (mW 173 rfl))) (Or.inl (hw _ (mW 179 rfl))) (by decide)
  have F_o557_lastRet := oth F_o557_lastRet W (Or.inl (hw _ (mW 176 rfl))) (Or.inl (hw _ (mW 179 rfl))) (by decide)
  have F_o557_expectedModCount := F_o557_expectedModCount.same W
  have F_o557_cursor := oth F_o557_cursor W (Or.inl (hw _ (mW 190 rfl))) (Or.inl (hw _ (mW 179 rfl))) (by decide)
  have Kp := Kp.wr W (Or.inl (by simp))
  refine s_return C X d27_25 rfl ?_ (FG hG (by decide) (by decide))
  exact hQ _ _ ⟨rfl, E_o557, F_o557_this_0, F_o557_lastRet, F_o557_expectedModCount, F_o557_cursor, Kp⟩
theorem rm_a559 (l : Launch) (Z : State) (a0 : Array Value) (hw : ∀ d ∈ tables_1, d.before a0 Z = true) (o517 : Addr) (h0 : Heap) (n0 : Nat) (Z0 : n0 ≤ h0.size) (F_o517_modCount : Fld Z h0 o517 "java/util/AbstractList" "modCount" "I" (.int i1)) :
    Met l Z (⟨"java/util/ArrayList", "iterator", "()Ljava/util/Iterator;"⟩ : MethodName) jdk_38_method_55_code 1 (some (.object "java/util/Iterator")) { frames := 2, cells := 1, slots := 4, locals := 26 } [] #[(.ref o517)] h0 n0 (fun v h => ∃ (o557 : Addr), v = some (.ref o557) ∧ Keep h0 h [] ∧ Exa Z h o557 "java/util/ArrayList$Itr" ∧ Fld Z h o557 "java/util/ArrayList$Itr" "this$0" "Ljava/util/ArrayList;" (.ref o517) ∧ Fld Z h o557 "java/util/ArrayList$Itr" "lastRet" "I" (.int im1) ∧ Fld Z h o557 "java/util/ArrayList$Itr" "expectedModCount" "I" (.int i1) ∧ Fld Z h o557 "java/util/ArrayList$Itr" "cursor" "I" (.int i0) ∧ h0.size ≤ o557 ∧ n0 ≤ o557) := by
  refine Met.mkQ (tabs := tables_1) (a0 := a0) (ls0 := #[rv o517]) (plainFor_of_name pn_java_util_ArrayList) hw Z0 (fun m => by first | (simp [entryFrame, mkF, argsToLocals, Value.category]; done) | rfl) ?_
  intro p e s m below meth c T Q' G' hQ hG C X
  have Kp : Keep h0 h0 [] := Keep.refl _ _
  refine s_new 3 C X d26_0 (mW 165 rfl) (mW 166 rfl) (mW 167 rfl) (fun T hh o557 hb_o557 X E E_o557 D g_o557 => ?_)
  have ne_o517_o557 : o517 ≠ o557 := Nat.ne_of_lt (Nat.lt_of_lt_of_le F_o517_modCount.lt (Nat.le_of_eq hb_o557))
  have sz_o557 : h0.size ≤ o557 := Nat.le_trans Kp.1 (Nat.le_of_eq hb_o557)
  have F_o517_modCount := F_o517_modCount.ext E
  have Kp := Kp.ext E
  have F_o557_this_0 : Fld Z _ o557 "java/util/ArrayList$Itr" "this$0" "Ljava/util/ArrayList;" .null := D (Or.inr (hw _ (mW 173 rfl))) (ty := (.object "java/util/ArrayList")) (by decide)
  have F_o557_lastRet : Fld Z _ o557 "java/util/ArrayList$Itr" "lastRet" "I" (.int i0) := D (Or.inl (hw _ (mW 176 rfl))) (ty := .int) (by decide)
  have F_o557_expectedModCount : Fld Z _ o557 "java/util/ArrayList$Itr" "expectedModCount" "I" (.int i0) := D (Or.inl (hw _ (mW 179 rfl))) (ty := .int) (by decide)
  have F_o557_cursor : Fld Z _ o557 "java/util/ArrayList$Itr" "cursor" "I" (.int i0) := D (Or.inl (hw _ (mW 190 rfl))) (ty := .int) (by decide)
  refine s_dup 4 C X d26_3 rfl ?_
  refine s_aloadN 5 C X d26_4 rfl rfl ?_
  refine s_callC 8 [(.ref o517)] [(.ref o557)] 1 C X d26_5 rfl (mW 168 rfl) (mW 169 rfl) (mW 167 rfl) (mW 171 rfl) (rm_a558 l Z a0 hw o517 o557 _ n0 X.sz F_o517_modCount E_o557 F_o557_this_0 F_o557_lastRet F_o557_expectedModCount F_o557_cursor ne_o517_o557 g_o557) (lenOf pd__Ljava_util_ArrayList__V rfl) rfl rfl rfl (fun T v hh X q => ?_)
  obtain ⟨rfl, E_o557, F_o557_this_0, F_o557_lastRet, F_o557_expectedModCount, F_o557_cursor, Kc⟩ := q
  have Kp := Kp.trans Kc (allS (Or.inr sz_o557) all0)
  refine Run.cast (st' := [(.ref o557)]) rfl ?_
  refine s_areturn C X d26_8 rfl rfl rfl ?_ (FG hG (by decide) (by decide))
  exact hQ _ _ ⟨o557, rfl, Kp, E_o557, F_o557_this_0, F_o557_lastRet, F_o557_expectedModCount, F_o557_cursor, sz_o557, g_o557⟩
theorem rm_a561 (l : Launch) (Z : State) (a0 : Array Value) (hw : ∀ d ∈ tables_1, d.before a0 Z = true) (o517 : Addr) (o557 : Addr) (h0 : Heap) (n0 : Nat) (Z0 : n0 ≤ h0.size) (F_o517_size : Fld Z h0 o517 "java/util/ArrayList" "size" "I" (.int i1)) (F_o557_this_0 : Fld Z h0 o557 "java/util/ArrayList$Itr" "this$0" "Ljava/util/ArrayList;" (.ref o517)) (F_o557_cursor : Fld Z h0 o557 "java/util/ArrayList$Itr" "cursor" "I" (.int i0)) :
    Met l Z (⟨"java/util/ArrayList$Itr", "hasNext", "()Z"⟩ : MethodName) jdk_49_method_2_code 1 (some .boolean) { frames := 0, cells := 0, slots := 0, locals := 0 } [] #[(.ref o557)] h0 n0 (fun v h => v = some (.int i1) ∧ Keep h0 h []) := by
  refine Met.mkQ (tabs := tables_1) (a0 := a0) (ls0 := #[rv o557]) (plainFor_of_name pn_java_util_ArrayList_Itr) hw Z0 (fun m => by first | (simp [entryFrame, mkF, argsToLocals, Value.category]; done) | rfl) ?_
  intro p e s m below meth c T Q' G' hQ hG C X
  have Kp : Keep h0 h0 [] := Keep.refl _ _
  refine s_aloadN 1 C X d28_0 rfl rfl ?_
  refine s_getfield 4 C X (host := "") d28_1 (Or.inl (mW 189 rfl)) Via.refl F_o557_cursor (fun T X => ?_)
  refine s_aloadN 5 C X d28_4 rfl rfl ?_
  refine s_getfield 8 C X (host := "") d28_5 (Or.inl (mW 172 rfl)) Via.refl F_o557_this_0 (fun T X => ?_)
  refine s_getfield 11 C X d28_8 (Or.inr (mW 191 rfl)) Via.refl F_o517_size (fun T X => ?_)
  refine s_icmp_eq 18 14 C X d28_11 (fun c => absurd c (by decide)) (fun _ => ?_)
  refine s_iconst 15 C X d28_14 kc_iconst_1 ?_
  refine s_goto 19 C X d28_15 ?_
  refine s_nreturn C X d28_19 rfl (by simp) rfl ?_ (FG hG (by decide) (by decide))
  exact hQ _ _ ⟨rfl, Kp⟩
theorem rm_a564 (l : Launch) (Z : State) (a0 : Array Value) (hw : ∀ d ∈ tables_1, d.before a0 Z = true) (o517 : Addr) (o557 : Addr) (h0 : Heap) (n0 : Nat) (Z0 : n0 ≤ h0.size) (F_o517_modCount : Fld Z h0 o517 "java/util/AbstractList" "modCount" "I" (.int i1)) (F_o557_this_0 : Fld Z h0 o557 "java/util/ArrayList$Itr" "this$0" "Ljava/util/ArrayList;" (.ref o517)) (F_o557_expectedModCount : Fld Z h0 o557 "java/util/ArrayList$Itr" "expectedModCount" "I" (.int i1)) :
    Met l Z (⟨"java/util/ArrayList$Itr", "checkForComodification", "()V"⟩ : MethodName) jdk_49_method_6_code 1 none { frames := 0, cells := 0, slots := 0, locals := 0 } [] #[(.ref o557)] h0 n0 (fun v h => v = none ∧ Keep h0 h []) := by
  refine Met.mkQ (tabs := tables_1) (a0 := a0) (ls0 := #[rv o557]) (plainFor_of_name pn_java_util_ArrayList_Itr) hw Z0 (fun m => by first | (simp [entryFrame, mkF, argsToLocals, Value.category]; done) | rfl) ?_
  intro p e s m below meth c T Q' G' hQ hG C X
  have Kp : Keep h0 h0 [] := Keep.refl _ _
  refine s_aloadN 1 C X d30_0 rfl rfl ?_
  refine s_getfield 4 C X (host := "") d30_1 (Or.inl (mW 172 rfl)) Via.refl F_o557_this_0 (fun T X => ?_)
  refine s_getfield 7 C X (host := "") d30_4 (Or.inl (mW 177 rfl)) (Via.of (C.w (mW 121 rfl))) F_o517_modCount (fun T X => ?_)
  refine s_aloadN 8 C X d30_7 rfl rfl ?_
  refine s_getfield 11 C X (host := "") d30_8 (Or.inl (mW 178 rfl)) Via.refl F_o557_expectedModCount (fun T X => ?_)
  refine s_icmp_eq 22 14 C X d30_11 (fun _ => ?_) (fun c => absurd (by decide : i1 = i1) c)
  refine s_return C X d30_22 rfl ?_ (FG hG (by decide) (by decide))
  exact hQ _ _ ⟨rfl, Kp⟩
theorem rm_a567 (l : Launch) (Z : State) (a0 : Array Value) (hw : ∀ d ∈ tables_1, d.before a0 Z = true) (b2 : Addr) (o517 : Addr) (o543 : Addr) (k_o543 : ClassId) (o557 : Addr) (h0 : Heap) (n0 : Nat) (Z0 : n0 ≤ h0.size) (F_o517_modCount : Fld Z h0 o517 "java/util/AbstractList" "modCount" "I" (.int i1)) (F_o517_elementData : Fld Z h0 o517 "java/util/ArrayList" "elementData" "[Ljava/lang/Object;" (.ref o543)) (F_o517_size : Fld Z h0 o517 "java/util/ArrayList" "size" "I" (.int i1)) (A_o543 : Arv Z h0 o543 k_o543 (.object "java/lang/Object") i10 [(.ref b2), .null, .null, .null, .null, .null, .null, .null, .null, .null] .null) (E_o557 : Exa Z h0 o557 "java/util/ArrayList$Itr") (F_o557_this_0 : Fld Z h0 o557 "java/util/ArrayList$Itr" "this$0" "Ljava/util/ArrayList;" (.ref o517)) (F_o557_lastRet : Fld Z h0 o557 "java/util/ArrayList$Itr" "lastRet" "I" (.int im1)) (F_o557_expectedModCount : Fld Z h0 o557 "java/util/ArrayList$Itr" "expectedModCount" "I" (.int i1)) (F_o557_cursor : Fld Z h0 o557 "java/util/ArrayList$Itr" "cursor" "I" (.int i0)) (ne_o517_o557 : o517 ≠ o557) (ne_o543_o557 : o543 ≠ o557) (g_o557 : n0 ≤ o557) :
    Met l Z (⟨"java/util/ArrayList$Itr", "next", "()Ljava/lang/Object;"⟩ : MethodName) jdk_49_method_3_code 3 (some (.object "java/lang/Object")) { frames := 1, cells := 0, slots := 0, locals := 12 } [] #[(.ref o557)] h0 n0 (fun v h => v = some (.ref b2) ∧ Exa Z h o557 "java/util/ArrayList$Itr" ∧ Fld Z h o557 "java/util/ArrayList$Itr" "this$0" "Ljava/util/ArrayList;" (.ref o517) ∧ Fld Z h o557 "java/util/ArrayList$Itr" "lastRet" "I" (.int i0) ∧ Fld Z h o557 "java/util/ArrayList$Itr" "expectedModCount" "I" (.int i1) ∧ Fld Z h o557 "java/util/ArrayList$Itr" "cursor" "I" (.int i1) ∧ Keep h0 h [o557]) := by
  refine Met.mkQ (tabs := tables_1) (a0 := a0) (ls0 := #[rv o557, .unset, .unset]) (plainFor_of_name pn_java_util_ArrayList_Itr) hw Z0 (fun m => by first | (simp [entryFrame, mkF, argsToLocals, Value.category]; done) | rfl) ?_
  intro p e s m below meth c T Q' G' hQ hG C X
  have Kp : Keep h0 h0 [o557] := Keep.refl _ _
  refine s_aloadN 1 C X d29_0 rfl rfl ?_
  refine s_callV 4 [] [] 0 C X d29_1 (mW 200 rfl) (mW 201 rfl) (notFace_of_selects (args := #[]) (mvT C.2.1 (C.w (mW 203 rfl)))) (mW 203 rfl) (mW 202 rfl) (mW 167 rfl) (mW 204 rfl) E_o557 (rm_a564 l Z a0 hw o517 o557 _ n0 X.sz F_o517_modCount F_o557_this_0 F_o557_expectedModCount) (lenOf pd___V rfl) rfl rfl rfl (fun T v hh X q => ?_)
  obtain ⟨rfl, Kc⟩ := q
  have F_o517_elementData := F_o517_elementData.keep Kc nin0
  have F_o517_size := F_o517_size.keep Kc nin0
  have A_o543 := A_o543.keep Kc nin0
  have E_o557 := E_o557.keep Kc
  have F_o557_this_0 := F_o557_this_0.keep Kc nin0
  have F_o557_lastRet := F_o557_lastRet.keep Kc nin0
  have F_o557_expectedModCount := F_o557_expectedModCount.keep Kc nin0
  have F_o557_cursor := F_o557_cursor.keep Kc nin0
  have Kp := Kp.trans Kc all0
  refine Run.cast (st' := []) rfl ?_
  refine s_aloadN 5 C X d29_4 rfl rfl ?_
  refine s_getfield 8 C X (host := "") d29_5 (Or.inl (mW 189 rfl)) Via.refl F_o557_cursor (fun T X => ?_)
  refine s_istoreN 9 C X (l' := #[rv o557, iv i0, .unset]) d29_8 rfl ?_
  refine s_iloadN 10 C X d29_9 rfl ?_
  refine s_aloadN 11 C X d29_10 rfl rfl ?_
  refine s_getfield 14 C X (host := "") d29_11 (Or.inl (mW 172 rfl)) Via.refl F_o557_this_0 (fun T X => ?_)
  refine s_getfield 17 C X d29_14 (Or.inr (mW 191 rfl)) Via.refl F_o517_size (fun T X => ?_)
  refine s_icmp_lt 28 20 C X d29_17 (fun _ => ?_) (fun c => absurd (by decide : i0 < i1) c)
  refine s_aloadN 29 C X d29_28 rfl rfl ?_
  refine s_getfield 32 C X (host := "") d29_29 (Or.inl (mW 172 rfl)) Via.refl F_o557_this_0 (fun T X => ?_)
  refine s_getfield 35 C X (host := "") d29_32 (Or.inl (mW 205 rfl)) Via.refl F_o517_elementData (fun T X => ?_)
  refine s_astoreN 36 C X (l' := #[rv o557, iv i0, rv o543]) d29_35 rfl rfl ?_
  refine s_iloadN 37 C X d29_36 rfl ?_
  refine s_aloadN 38 C X d29_37 rfl rfl ?_
  refine s_arraylength 39 C X d29_38 A_o543 ?_
  refine s_icmp_lt 50 42 C X d29_39 (fun _ => ?_) (fun c => absurd (by decide : i0 < i10) c)
  refine s_aloadN 51 C X d29_50 rfl rfl ?_
  refine s_iloadN 52 C X d29_51 rfl ?_
  refine s_iconst 53 C X d29_52 kc_iconst_1 ?_
  refine s_iadd 54 C X d29_53 ?_
  refine Run.cast (st' := [(.int i1), (.ref o557)]) (by rw [kf_2]) ?_
  refine s_putfield 57 C X (host := "") d29_54 (Or.inl (mW 189 rfl)) Via.refl F_o557_cursor E_o557 (Or.inl (mW 190 rfl)) (mW 166 rfl) (ty := .int) (by decide) rfl rfl g_o557 (fun T hh X W => ?_)
  have A_o543 := A_o543.other W ne_o543_o557
  have E_o557 := E_o557.wr W
  have F_o557_this_0 := oth F_o557_this_0 W (Or.inr (hw _ (mW 173 rfl))) (Or.inl (hw _ (mW 190 rfl))) (by decide)
  have F_o557_lastRet := oth F_o557_lastRet W (Or.inl (hw _ (mW 176 rfl))) (Or.inl (hw _ (mW 190 rfl))) (by decide)
  have F_o557_expectedModCount := oth F_o557_expectedModCount W (Or.inl (hw _ (mW 179 rfl))) (Or.inl (hw _ (mW 190 rfl))) (by decide)
  have F_o557_cursor := F_o557_cursor.same W
  have Kp := Kp.wr W (Or.inl (by simp))
  refine s_aloadN 58 C X d29_57 rfl rfl ?_
  refine s_aloadN 59 C X d29_58 rfl rfl ?_
  refine s_iloadN 60 C X d29_59 rfl ?_
  refine s_dupX1 61 C X d29_60 rfl rfl ?_
  refine s_putfield 64 C X (host := "") d29_61 (Or.inl (mW 175 rfl)) Via.refl F_o557_lastRet E_o557 (Or.inl (mW 176 rfl)) (mW 166 rfl) (ty := .int) (by decide) rfl rfl g_o557 (fun T hh X W => ?_)
  have A_o543 := A_o543.other W ne_o543_o557
  have E_o557 := E_o557.wr W
  have F_o557_this_0 := oth F_o557_this_0 W (Or.inr (hw _ (mW 173 rfl))) (Or.inl (hw _ (mW 176 rfl))) (by decide)
  have F_o557_lastRet := F_o557_lastRet.same W
  have F_o557_expectedModCount := oth F_o557_expectedModCount W (Or.inl (hw _ (mW 179 rfl))) (Or.inl (hw _ (mW 176 rfl))) (by decide)
  have F_o557_cursor := oth F_o557_cursor W (Or.inl (hw _ (mW 190 rfl))) (Or.inl (hw _ (mW 176 rfl))) (by decide)
  have Kp := Kp.wr W (Or.inl (by simp))
  refine s_aaload 65 C X d29_64 A_o543 rfl ⟨by decide, by decide⟩ (v := (.ref b2)) rfl ?_
  refine s_areturn C X d29_65 rfl rfl rfl ?_ (FG hG (by decide) (by decide))
  exact hQ _ _ ⟨rfl, E_o557, F_o557_this_0, F_o557_lastRet, F_o557_expectedModCount, F_o557_cursor, Kp⟩
theorem rm_a568 (l : Launch) (Z : State) (a0 : Array Value) (hw : ∀ d ∈ tables_1, d.before a0 Z = true) (b2 : Addr) (h0 : Heap) (n0 : Nat) (Z0 : n0 ≤ h0.size) (F_b2_value : Fld Z h0 b2 "java/lang/Integer" "value" "I" (.int i2)) :
    Met l Z (⟨"java/lang/Integer", "intValue", "()I"⟩ : MethodName) jdk_33_method_27_code 1 (some .int) { frames := 0, cells := 0, slots := 0, locals := 0 } [] #[(.ref b2)] h0 n0 (fun v h => v = some (.int i2) ∧ Keep h0 h []) := by
  refine Met.mkQ (tabs := tables_1) (a0 := a0) (ls0 := #[rv b2]) (plainFor_of_name pn_java_lang_Integer) hw Z0 (fun m => by first | (simp [entryFrame, mkF, argsToLocals, Value.category]; done) | rfl) ?_
  intro p e s m below meth c T Q' G' hQ hG C X
  have Kp : Keep h0 h0 [] := Keep.refl _ _
  refine s_aloadN 1 C X d31_0 rfl rfl ?_
  refine s_getfield 4 C X (host := "") d31_1 (Or.inl (mW 213 rfl)) Via.refl F_b2_value (fun T X => ?_)
  refine s_ireturn C X d31_4 rfl ?_ (FG hG (by decide) (by decide))
  exact hQ _ _ ⟨rfl, Kp⟩
theorem rm_a587 (l : Launch) (Z : State) (a0 : Array Value) (hw : ∀ d ∈ tables_1, d.before a0 Z = true) (ga0 : Int64) (ga1 : Int64) (h0 : Heap) (n0 : Nat) (Z0 : n0 ≤ h0.size)  :
    Met l Z (⟨"java/lang/Math", "max", "(JJ)J"⟩ : MethodName) jdk_29_method_66_code 4 (some .long) { frames := 0, cells := 0, slots := 0, locals := 0 } [] #[(.long ga0), (.long ga1)] h0 n0 (fun v h => ∃ (y585 : Int64), v = some (.long y585) ∧ ((((ga0).toInt < (ga1).toInt) ∧ y585 = ga1) ∨ ((¬ ((ga0).toInt < (ga1).toInt)) ∧ y585 = ga0)) ∧ Keep h0 h []) := by
  refine Met.mkQ (tabs := tables_1) (a0 := a0) (ls0 := #[lv ga0, .second, lv ga1, .second]) (Jvm.Free.JP.mathPlain rfl (by decide +kernel)) hw Z0 (fun m => by first | (simp [entryFrame, mkF, argsToLocals, Value.category]; done) | rfl) ?_
  intro p e s m below meth c T Q' G' hQ hG C X
  have Kp : Keep h0 h0 [] := Keep.refl _ _
  refine s_lloadN 1 C X d32_0 rfl ?_
  refine s_lloadN 2 C X d32_1 rfl ?_
  refine s_lcmp 3 C X d32_2 ?_
  suffices J586 : ∀ (T : State) (hh : Heap) (y585 : Int64) (D586 : (((ga0).toInt < (ga1).toInt) ∧ y585 = ga1) ∨ ((¬ ((ga0).toInt < (ga1).toInt)) ∧ y585 = ga0)) (X : St p l e ({ frames := 0, cells := 0, slots := 0, locals := 0 } : Room) s m #[(.long ga0), (.long ga1)] below meth c n0 T hh 0 0) (Kp : Keep h0 hh []), Run p e below n0 Q' G' m T 11 #[lv ga0, .second, lv ga1, .second] [(.long y585)] by
    refine s_if_lt 10 6 C X d32_3 (fun c3_583 => ?_) (fun c3_583 => ?_)
    · have t_c3_583 : (ga0).toInt < (ga1).toInt := cl_lt.mp c3_583
      refine s_lloadN 11 C X d32_10 rfl ?_
      exact J586 T _ (ga1) ((Or.inl ⟨t_c3_583, rfl⟩)) X Kp
    have t_c3_583 : ¬ ((ga0).toInt < (ga1).toInt) := fun q => c3_583 (cl_lt.mpr q)
    refine s_lloadN 7 C X d32_6 rfl ?_
    refine s_goto 11 C X d32_7 ?_
    exact J586 T _ (ga0) (Or.inr ⟨t_c3_583, rfl⟩) X Kp
  intro T hh y585 D586  X Kp
  refine s_lreturn C X d32_11 rfl ?_ (FG hG (by decide) (by decide))
  exact hQ _ _ ⟨y585, rfl, D586, Kp⟩
theorem rm_a592 (l : Launch) (Z : State) (a0 : Array Value) (hw : ∀ d ∈ tables_1, d.before a0 Z = true) (o517 : Addr) (o557 : Addr) (h0 : Heap) (n0 : Nat) (Z0 : n0 ≤ h0.size) (F_o517_size : Fld Z h0 o517 "java/util/ArrayList" "size" "I" (.int i1)) (F_o557_this_0 : Fld Z h0 o557 "java/util/ArrayList$Itr" "this$0" "Ljava/util/ArrayList;" (.ref o517)) (F_o557_cursor : Fld Z h0 o557 "java/util/ArrayList$Itr" "cursor" "I" (.int i1)) :
    Met l Z (⟨"java/util/ArrayList$Itr", "hasNext", "()Z"⟩ : MethodName) jdk_49_method_2_code 1 (some .boolean) { frames := 0, cells := 0, slots := 0, locals := 0 } [] #[(.ref o557)] h0 n0 (fun v h => v = some (.int i0) ∧ Keep h0 h []) := by
  refine Met.mkQ (tabs := tables_1) (a0 := a0) (ls0 := #[rv o557]) (plainFor_of_name pn_java_util_ArrayList_Itr) hw Z0 (fun m => by first | (simp [entryFrame, mkF, argsToLocals, Value.category]; done) | rfl) ?_
  intro p e s m below meth c T Q' G' hQ hG C X
  have Kp : Keep h0 h0 [] := Keep.refl _ _
  refine s_aloadN 1 C X d28_0 rfl rfl ?_
  refine s_getfield 4 C X (host := "") d28_1 (Or.inl (mW 189 rfl)) Via.refl F_o557_cursor (fun T X => ?_)
  refine s_aloadN 5 C X d28_4 rfl rfl ?_
  refine s_getfield 8 C X (host := "") d28_5 (Or.inl (mW 172 rfl)) Via.refl F_o557_this_0 (fun T X => ?_)
  refine s_getfield 11 C X d28_8 (Or.inr (mW 191 rfl)) Via.refl F_o517_size (fun T X => ?_)
  refine s_icmp_eq 18 14 C X d28_11 (fun _ => ?_) (fun c => absurd (by decide : i1 = i1) c)
  refine s_iconst 19 C X d28_18 kc_iconst_0 ?_
  refine s_nreturn C X d28_19 rfl (by simp) rfl ?_ (FG hG (by decide) (by decide))
  exact hQ _ _ ⟨rfl, Kp⟩
theorem rm_a601 (l : Launch) (Z : State) (a0 : Array Value) (hw : ∀ d ∈ tables_1, d.before a0 Z = true) (o517 : Addr) (o557_599 : Addr) (h0 : Heap) (n0 : Nat) (Z0 : n0 ≤ h0.size) (F_o517_size : Fld Z h0 o517 "java/util/ArrayList" "size" "I" (.int i1)) (F_o557_599_this_0 : Fld Z h0 o557_599 "java/util/ArrayList$Itr" "this$0" "Ljava/util/ArrayList;" (.ref o517)) (F_o557_599_cursor : Fld Z h0 o557_599 "java/util/ArrayList$Itr" "cursor" "I" (.int i0)) :
    Met l Z (⟨"java/util/ArrayList$Itr", "hasNext", "()Z"⟩ : MethodName) jdk_49_method_2_code 1 (some .boolean) { frames := 0, cells := 0, slots := 0, locals := 0 } [] #[(.ref o557_599)] h0 n0 (fun v h => v = some (.int i1) ∧ Keep h0 h []) := by
  refine Met.mkQ (tabs := tables_1) (a0 := a0) (ls0 := #[rv o557_599]) (plainFor_of_name pn_java_util_ArrayList_Itr) hw Z0 (fun m => by first | (simp [entryFrame, mkF, argsToLocals, Value.category]; done) | rfl) ?_
  intro p e s m below meth c T Q' G' hQ hG C X
  have Kp : Keep h0 h0 [] := Keep.refl _ _
  refine s_aloadN 1 C X d28_0 rfl rfl ?_
  refine s_getfield 4 C X (host := "") d28_1 (Or.inl (mW 189 rfl)) Via.refl F_o557_599_cursor (fun T X => ?_)
  refine s_aloadN 5 C X d28_4 rfl rfl ?_
  refine s_getfield 8 C X (host := "") d28_5 (Or.inl (mW 172 rfl)) Via.refl F_o557_599_this_0 (fun T X => ?_)
  refine s_getfield 11 C X d28_8 (Or.inr (mW 191 rfl)) Via.refl F_o517_size (fun T X => ?_)
  refine s_icmp_eq 18 14 C X d28_11 (fun c => absurd c (by decide)) (fun _ => ?_)
  refine s_iconst 15 C X d28_14 kc_iconst_1 ?_
  refine s_goto 19 C X d28_15 ?_
  refine s_nreturn C X d28_19 rfl (by simp) rfl ?_ (FG hG (by decide) (by decide))
  exact hQ _ _ ⟨rfl, Kp⟩
theorem rm_a604 (l : Launch) (Z : State) (a0 : Array Value) (hw : ∀ d ∈ tables_1, d.before a0 Z = true) (o517 : Addr) (o557_599 : Addr) (h0 : Heap) (n0 : Nat) (Z0 : n0 ≤ h0.size) (F_o517_modCount : Fld Z h0 o517 "java/util/AbstractList" "modCount" "I" (.int i1)) (F_o557_599_this_0 : Fld Z h0 o557_599 "java/util/ArrayList$Itr" "this$0" "Ljava/util/ArrayList;" (.ref o517)) (F_o557_599_expectedModCount : Fld Z h0 o557_599 "java/util/ArrayList$Itr" "expectedModCount" "I" (.int i1)) :
    Met l Z (⟨"java/util/ArrayList$Itr", "checkForComodification", "()V"⟩ : MethodName) jdk_49_method_6_code 1 none { frames := 0, cells := 0, slots := 0, locals := 0 } [] #[(.ref o557_599)] h0 n0 (fun v h => v = none ∧ Keep h0 h []) := by
  refine Met.mkQ (tabs := tables_1) (a0 := a0) (ls0 := #[rv o557_599]) (plainFor_of_name pn_java_util_ArrayList_Itr) hw Z0 (fun m => by first | (simp [entryFrame, mkF, argsToLocals, Value.category]; done) | rfl) ?_
  intro p e s m below meth c T Q' G' hQ hG C X
  have Kp : Keep h0 h0 [] := Keep.refl _ _
  refine s_aloadN 1 C X d30_0 rfl rfl ?_
  refine s_getfield 4 C X (host := "") d30_1 (Or.inl (mW 172 rfl)) Via.refl F_o557_599_this_0 (fun T X => ?_)
  refine s_getfield 7 C X (host := "") d30_4 (Or.inl (mW 177 rfl)) (Via.of (C.w (mW 121 rfl))) F_o517_modCount (fun T X => ?_)
  refine s_aloadN 8 C X d30_7 rfl rfl ?_
  refine s_getfield 11 C X (host := "") d30_8 (Or.inl (mW 178 rfl)) Via.refl F_o557_599_expectedModCount (fun T X => ?_)
  refine s_icmp_eq 22 14 C X d30_11 (fun _ => ?_) (fun c => absurd (by decide : i1 = i1) c)
  refine s_return C X d30_22 rfl ?_ (FG hG (by decide) (by decide))
  exact hQ _ _ ⟨rfl, Kp⟩
theorem rm_a607 (l : Launch) (Z : State) (a0 : Array Value) (hw : ∀ d ∈ tables_1, d.before a0 Z = true) (b2 : Addr) (o517 : Addr) (o543 : Addr) (k_o543 : ClassId) (o557_599 : Addr) (h0 : Heap) (n0 : Nat) (Z0 : n0 ≤ h0.size) (F_o517_modCount : Fld Z h0 o517 "java/util/AbstractList" "modCount" "I" (.int i1)) (F_o517_elementData : Fld Z h0 o517 "java/util/ArrayList" "elementData" "[Ljava/lang/Object;" (.ref o543)) (F_o517_size : Fld Z h0 o517 "java/util/ArrayList" "size" "I" (.int i1)) (A_o543 : Arv Z h0 o543 k_o543 (.object "java/lang/Object") i10 [(.ref b2), .null, .null, .null, .null, .null, .null, .null, .null, .null] .null) (E_o557_599 : Exa Z h0 o557_599 "java/util/ArrayList$Itr") (F_o557_599_this_0 : Fld Z h0 o557_599 "java/util/ArrayList$Itr" "this$0" "Ljava/util/ArrayList;" (.ref o517)) (F_o557_599_lastRet : Fld Z h0 o557_599 "java/util/ArrayList$Itr" "lastRet" "I" (.int im1)) (F_o557_599_expectedModCount : Fld Z h0 o557_599 "java/util/ArrayList$Itr" "expectedModCount" "I" (.int i1)) (F_o557_599_cursor : Fld Z h0 o557_599 "java/util/ArrayList$Itr" "cursor" "I" (.int i0)) (ne_o517_o557_599 : o517 ≠ o557_599) (ne_o543_o557_599 : o543 ≠ o557_599) (g_o557_599 : n0 ≤ o557_599) :
    Met l Z (⟨"java/util/ArrayList$Itr", "next", "()Ljava/lang/Object;"⟩ : MethodName) jdk_49_method_3_code 3 (some (.object "java/lang/Object")) { frames := 1, cells := 0, slots := 0, locals := 12 } [] #[(.ref o557_599)] h0 n0 (fun v h => v = some (.ref b2) ∧ Exa Z h o557_599 "java/util/ArrayList$Itr" ∧ Fld Z h o557_599 "java/util/ArrayList$Itr" "this$0" "Ljava/util/ArrayList;" (.ref o517) ∧ Fld Z h o557_599 "java/util/ArrayList$Itr" "lastRet" "I" (.int i0) ∧ Fld Z h o557_599 "java/util/ArrayList$Itr" "expectedModCount" "I" (.int i1) ∧ Fld Z h o557_599 "java/util/ArrayList$Itr" "cursor" "I" (.int i1) ∧ Keep h0 h [o557_599]) := by
  refine Met.mkQ (tabs := tables_1) (a0 := a0) (ls0 := #[rv o557_599, .unset, .unset]) (plainFor_of_name pn_java_util_ArrayList_Itr) hw Z0 (fun m => by first | (simp [entryFrame, mkF, argsToLocals, Value.category]; done) | rfl) ?_
  intro p e s m below meth c T Q' G' hQ hG C X
  have Kp : Keep h0 h0 [o557_599] := Keep.refl _ _
  refine s_aloadN 1 C X d29_0 rfl rfl ?_
  refine s_callV 4 [] [] 0 C X d29_1 (mW 200 rfl) (mW 201 rfl) (notFace_of_selects (args := #[]) (mvT C.2.1 (C.w (mW 203 rfl)))) (mW 203 rfl) (mW 202 rfl) (mW 167 rfl) (mW 204 rfl) E_o557_599 (rm_a604 l Z a0 hw o517 o557_599 _ n0 X.sz F_o517_modCount F_o557_599_this_0 F_o557_599_expectedModCount) (lenOf pd___V rfl) rfl rfl rfl (fun T v hh X q => ?_)
  obtain ⟨rfl, Kc⟩ := q
  have F_o517_elementData := F_o517_elementData.keep Kc nin0
  have F_o517_size := F_o517_size.keep Kc nin0
  have A_o543 := A_o543.keep Kc nin0
  have E_o557_599 := E_o557_599.keep Kc
  have F_o557_599_this_0 := F_o557_599_this_0.keep Kc nin0
  have F_o557_599_lastRet := F_o557_599_lastRet.keep Kc nin0
  have F_o557_599_expectedModCount := F_o557_599_expectedModCount.keep Kc nin0
  have F_o557_599_cursor := F_o557_599_cursor.keep Kc nin0
  have Kp := Kp.trans Kc all0
  refine Run.cast (st' := []) rfl ?_
  refine s_aloadN 5 C X d29_4 rfl rfl ?_
  refine s_getfield 8 C X (host := "") d29_5 (Or.inl (mW 189 rfl)) Via.refl F_o557_599_cursor (fun T X => ?_)
  refine s_istoreN 9 C X (l' := #[rv o557_599, iv i0, .unset]) d29_8 rfl ?_
  refine s_iloadN 10 C X d29_9 rfl ?_
  refine s_aloadN 11 C X d29_10 rfl rfl ?_
  refine s_getfield 14 C X (host := "") d29_11 (Or.inl (mW 172 rfl)) Via.refl F_o557_599_this_0 (fun T X => ?_)
  refine s_getfield 17 C X d29_14 (Or.inr (mW 191 rfl)) Via.refl F_o517_size (fun T X => ?_)
  refine s_icmp_lt 28 20 C X d29_17 (fun _ => ?_) (fun c => absurd (by decide : i0 < i1) c)
  refine s_aloadN 29 C X d29_28 rfl rfl ?_
  refine s_getfield 32 C X (host := "") d29_29 (Or.inl (mW 172 rfl)) Via.refl F_o557_599_this_0 (fun T X => ?_)
  refine s_getfield 35 C X (host := "") d29_32 (Or.inl (mW 205 rfl)) Via.refl F_o517_elementData (fun T X => ?_)
  refine s_astoreN 36 C X (l' := #[rv o557_599, iv i0, rv o543]) d29_35 rfl rfl ?_
  refine s_iloadN 37 C X d29_36 rfl ?_
  refine s_aloadN 38 C X d29_37 rfl rfl ?_
  refine s_arraylength 39 C X d29_38 A_o543 ?_
  refine s_icmp_lt 50 42 C X d29_39 (fun _ => ?_) (fun c => absurd (by decide : i0 < i10) c)
  refine s_aloadN 51 C X d29_50 rfl rfl ?_
  refine s_iloadN 52 C X d29_51 rfl ?_
  refine s_iconst 53 C X d29_52 kc_iconst_1 ?_
  refine s_iadd 54 C X d29_53 ?_
  refine Run.cast (st' := [(.int i1), (.ref o557_599)]) (by rw [kf_2]) ?_
  refine s_putfield 57 C X (host := "") d29_54 (Or.inl (mW 189 rfl)) Via.refl F_o557_599_cursor E_o557_599 (Or.inl (mW 190 rfl)) (mW 166 rfl) (ty := .int) (by decide) rfl rfl g_o557_599 (fun T hh X W => ?_)
  have A_o543 := A_o543.other W ne_o543_o557_599
  have E_o557_599 := E_o557_599.wr W
  have F_o557_599_this_0 := oth F_o557_599_this_0 W (Or.inr (hw _ (mW 173 rfl))) (Or.inl (hw _ (mW 190 rfl))) (by decide)
  have F_o557_599_lastRet := oth F_o557_599_lastRet W (Or.inl (hw _ (mW 176 rfl))) (Or.inl (hw _ (mW 190 rfl))) (by decide)
  have F_o557_599_expectedModCount := oth F_o557_599_expectedModCount W (Or.inl (hw _ (mW 179 rfl))) (Or.inl (hw _ (mW 190 rfl))) (by decide)
  have F_o557_599_cursor := F_o557_599_cursor.same W
  have Kp := Kp.wr W (Or.inl (by simp))
  refine s_aloadN 58 C X d29_57 rfl rfl ?_
  refine s_aloadN 59 C X d29_58 rfl rfl ?_
  refine s_iloadN 60 C X d29_59 rfl ?_
  refine s_dupX1 61 C X d29_60 rfl rfl ?_
  refine s_putfield 64 C X (host := "") d29_61 (Or.inl (mW 175 rfl)) Via.refl F_o557_599_lastRet E_o557_599 (Or.inl (mW 176 rfl)) (mW 166 rfl) (ty := .int) (by decide) rfl rfl g_o557_599 (fun T hh X W => ?_)
  have A_o543 := A_o543.other W ne_o543_o557_599
  have E_o557_599 := E_o557_599.wr W
  have F_o557_599_this_0 := oth F_o557_599_this_0 W (Or.inr (hw _ (mW 173 rfl))) (Or.inl (hw _ (mW 176 rfl))) (by decide)
  have F_o557_599_lastRet := F_o557_599_lastRet.same W
  have F_o557_599_expectedModCount := oth F_o557_599_expectedModCount W (Or.inl (hw _ (mW 179 rfl))) (Or.inl (hw _ (mW 176 rfl))) (by decide)
  have F_o557_599_cursor := oth F_o557_599_cursor W (Or.inl (hw _ (mW 190 rfl))) (Or.inl (hw _ (mW 176 rfl))) (by decide)
  have Kp := Kp.wr W (Or.inl (by simp))
  refine s_aaload 65 C X d29_64 A_o543 rfl ⟨by decide, by decide⟩ (v := (.ref b2)) rfl ?_
  refine s_areturn C X d29_65 rfl rfl rfl ?_ (FG hG (by decide) (by decide))
  exact hQ _ _ ⟨rfl, E_o557_599, F_o557_599_this_0, F_o557_599_lastRet, F_o557_599_expectedModCount, F_o557_599_cursor, Kp⟩
theorem rm_a615 (l : Launch) (Z : State) (a0 : Array Value) (hw : ∀ d ∈ tables_1, d.before a0 Z = true) (o517 : Addr) (o557_613 : Addr) (h0 : Heap) (n0 : Nat) (Z0 : n0 ≤ h0.size) (F_o517_size : Fld Z h0 o517 "java/util/ArrayList" "size" "I" (.int i1)) (F_o557_613_this_0 : Fld Z h0 o557_613 "java/util/ArrayList$Itr" "this$0" "Ljava/util/ArrayList;" (.ref o517)) (F_o557_613_cursor : Fld Z h0 o557_613 "java/util/ArrayList$Itr" "cursor" "I" (.int i0)) :
    Met l Z (⟨"java/util/ArrayList$Itr", "hasNext", "()Z"⟩ : MethodName) jdk_49_method_2_code 1 (some .boolean) { frames := 0, cells := 0, slots := 0, locals := 0 } [] #[(.ref o557_613)] h0 n0 (fun v h => v = some (.int i1) ∧ Keep h0 h []) := by
  refine Met.mkQ (tabs := tables_1) (a0 := a0) (ls0 := #[rv o557_613]) (plainFor_of_name pn_java_util_ArrayList_Itr) hw Z0 (fun m => by first | (simp [entryFrame, mkF, argsToLocals, Value.category]; done) | rfl) ?_
  intro p e s m below meth c T Q' G' hQ hG C X
  have Kp : Keep h0 h0 [] := Keep.refl _ _
  refine s_aloadN 1 C X d28_0 rfl rfl ?_
  refine s_getfield 4 C X (host := "") d28_1 (Or.inl (mW 189 rfl)) Via.refl F_o557_613_cursor (fun T X => ?_)
  refine s_aloadN 5 C X d28_4 rfl rfl ?_
  refine s_getfield 8 C X (host := "") d28_5 (Or.inl (mW 172 rfl)) Via.refl F_o557_613_this_0 (fun T X => ?_)
  refine s_getfield 11 C X d28_8 (Or.inr (mW 191 rfl)) Via.refl F_o517_size (fun T X => ?_)
  refine s_icmp_eq 18 14 C X d28_11 (fun c => absurd c (by decide)) (fun _ => ?_)
  refine s_iconst 15 C X d28_14 kc_iconst_1 ?_
  refine s_goto 19 C X d28_15 ?_
  refine s_nreturn C X d28_19 rfl (by simp) rfl ?_ (FG hG (by decide) (by decide))
  exact hQ _ _ ⟨rfl, Kp⟩
theorem rm_a618 (l : Launch) (Z : State) (a0 : Array Value) (hw : ∀ d ∈ tables_1, d.before a0 Z = true) (o517 : Addr) (o557_613 : Addr) (h0 : Heap) (n0 : Nat) (Z0 : n0 ≤ h0.size) (F_o517_modCount : Fld Z h0 o517 "java/util/AbstractList" "modCount" "I" (.int i1)) (F_o557_613_this_0 : Fld Z h0 o557_613 "java/util/ArrayList$Itr" "this$0" "Ljava/util/ArrayList;" (.ref o517)) (F_o557_613_expectedModCount : Fld Z h0 o557_613 "java/util/ArrayList$Itr" "expectedModCount" "I" (.int i1)) :
    Met l Z (⟨"java/util/ArrayList$Itr", "checkForComodification", "()V"⟩ : MethodName) jdk_49_method_6_code 1 none { frames := 0, cells := 0, slots := 0, locals := 0 } [] #[(.ref o557_613)] h0 n0 (fun v h => v = none ∧ Keep h0 h []) := by
  refine Met.mkQ (tabs := tables_1) (a0 := a0) (ls0 := #[rv o557_613]) (plainFor_of_name pn_java_util_ArrayList_Itr) hw Z0 (fun m => by first | (simp [entryFrame, mkF, argsToLocals, Value.category]; done) | rfl) ?_
  intro p e s m below meth c T Q' G' hQ hG C X
  have Kp : Keep h0 h0 [] := Keep.refl _ _
  refine s_aloadN 1 C X d30_0 rfl rfl ?_
  refine s_getfield 4 C X (host := "") d30_1 (Or.inl (mW 172 rfl)) Via.refl F_o557_613_this_0 (fun T X => ?_)
  refine s_getfield 7 C X (host := "") d30_4 (Or.inl (mW 177 rfl)) (Via.of (C.w (mW 121 rfl))) F_o517_modCount (fun T X => ?_)
  refine s_aloadN 8 C X d30_7 rfl rfl ?_
  refine s_getfield 11 C X (host := "") d30_8 (Or.inl (mW 178 rfl)) Via.refl F_o557_613_expectedModCount (fun T X => ?_)
  refine s_icmp_eq 22 14 C X d30_11 (fun _ => ?_) (fun c => absurd (by decide : i1 = i1) c)
  refine s_return C X d30_22 rfl ?_ (FG hG (by decide) (by decide))
  exact hQ _ _ ⟨rfl, Kp⟩
theorem rm_a621 (l : Launch) (Z : State) (a0 : Array Value) (hw : ∀ d ∈ tables_1, d.before a0 Z = true) (b2 : Addr) (o517 : Addr) (o543 : Addr) (k_o543 : ClassId) (o557_613 : Addr) (h0 : Heap) (n0 : Nat) (Z0 : n0 ≤ h0.size) (F_o517_modCount : Fld Z h0 o517 "java/util/AbstractList" "modCount" "I" (.int i1)) (F_o517_elementData : Fld Z h0 o517 "java/util/ArrayList" "elementData" "[Ljava/lang/Object;" (.ref o543)) (F_o517_size : Fld Z h0 o517 "java/util/ArrayList" "size" "I" (.int i1)) (A_o543 : Arv Z h0 o543 k_o543 (.object "java/lang/Object") i10 [(.ref b2), .null, .null, .null, .null, .null, .null, .null, .null, .null] .null) (E_o557_613 : Exa Z h0 o557_613 "java/util/ArrayList$Itr") (F_o557_613_this_0 : Fld Z h0 o557_613 "java/util/ArrayList$Itr" "this$0" "Ljava/util/ArrayList;" (.ref o517)) (F_o557_613_lastRet : Fld Z h0 o557_613 "java/util/ArrayList$Itr" "lastRet" "I" (.int im1)) (F_o557_613_expectedModCount : Fld Z h0 o557_613 "java/util/ArrayList$Itr" "expectedModCount" "I" (.int i1)) (F_o557_613_cursor : Fld Z h0 o557_613 "java/util/ArrayList$Itr" "cursor" "I" (.int i0)) (ne_o517_o557_613 : o517 ≠ o557_613) (ne_o543_o557_613 : o543 ≠ o557_613) (g_o557_613 : n0 ≤ o557_613) :
    Met l Z (⟨"java/util/ArrayList$Itr", "next", "()Ljava/lang/Object;"⟩ : MethodName) jdk_49_method_3_code 3 (some (.object "java/lang/Object")) { frames := 1, cells := 0, slots := 0, locals := 12 } [] #[(.ref o557_613)] h0 n0 (fun v h => v = some (.ref b2) ∧ Exa Z h o557_613 "java/util/ArrayList$Itr" ∧ Fld Z h o557_613 "java/util/ArrayList$Itr" "this$0" "Ljava/util/ArrayList;" (.ref o517) ∧ Fld Z h o557_613 "java/util/ArrayList$Itr" "lastRet" "I" (.int i0) ∧ Fld Z h o557_613 "java/util/ArrayList$Itr" "expectedModCount" "I" (.int i1) ∧ Fld Z h o557_613 "java/util/ArrayList$Itr" "cursor" "I" (.int i1) ∧ Keep h0 h [o557_613]) := by
  refine Met.mkQ (tabs := tables_1) (a0 := a0) (ls0 := #[rv o557_613, .unset, .unset]) (plainFor_of_name pn_java_util_ArrayList_Itr) hw Z0 (fun m => by first | (simp [entryFrame, mkF, argsToLocals, Value.category]; done) | rfl) ?_
  intro p e s m below meth c T Q' G' hQ hG C X
  have Kp : Keep h0 h0 [o557_613] := Keep.refl _ _
  refine s_aloadN 1 C X d29_0 rfl rfl ?_
  refine s_callV 4 [] [] 0 C X d29_1 (mW 200 rfl) (mW 201 rfl) (notFace_of_selects (args := #[]) (mvT C.2.1 (C.w (mW 203 rfl)))) (mW 203 rfl) (mW 202 rfl) (mW 167 rfl) (mW 204 rfl) E_o557_613 (rm_a618 l Z a0 hw o517 o557_613 _ n0 X.sz F_o517_modCount F_o557_613_this_0 F_o557_613_expectedModCount) (lenOf pd___V rfl) rfl rfl rfl (fun T v hh X q => ?_)
  obtain ⟨rfl, Kc⟩ := q
  have F_o517_elementData := F_o517_elementData.keep Kc nin0
  have F_o517_size := F_o517_size.keep Kc nin0
  have A_o543 := A_o543.keep Kc nin0
  have E_o557_613 := E_o557_613.keep Kc
  have F_o557_613_this_0 := F_o557_613_this_0.keep Kc nin0
  have F_o557_613_lastRet := F_o557_613_lastRet.keep Kc nin0
  have F_o557_613_expectedModCount := F_o557_613_expectedModCount.keep Kc nin0
  have F_o557_613_cursor := F_o557_613_cursor.keep Kc nin0
  have Kp := Kp.trans Kc all0
  refine Run.cast (st' := []) rfl ?_
  refine s_aloadN 5 C X d29_4 rfl rfl ?_
  refine s_getfield 8 C X (host := "") d29_5 (Or.inl (mW 189 rfl)) Via.refl F_o557_613_cursor (fun T X => ?_)
  refine s_istoreN 9 C X (l' := #[rv o557_613, iv i0, .unset]) d29_8 rfl ?_
  refine s_iloadN 10 C X d29_9 rfl ?_
  refine s_aloadN 11 C X d29_10 rfl rfl ?_
  refine s_getfield 14 C X (host := "") d29_11 (Or.inl (mW 172 rfl)) Via.refl F_o557_613_this_0 (fun T X => ?_)
  refine s_getfield 17 C X d29_14 (Or.inr (mW 191 rfl)) Via.refl F_o517_size (fun T X => ?_)
  refine s_icmp_lt 28 20 C X d29_17 (fun _ => ?_) (fun c => absurd (by decide : i0 < i1) c)
  refine s_aloadN 29 C X d29_28 rfl rfl ?_
  refine s_getfield 32 C X (host := "") d29_29 (Or.inl (mW 172 rfl)) Via.refl F_o557_613_this_0 (fun T X => ?_)
  refine s_getfield 35 C X (host := "") d29_32 (Or.inl (mW 205 rfl)) Via.refl F_o517_elementData (fun T X => ?_)
  refine s_astoreN 36 C X (l' := #[rv o557_613, iv i0, rv o543]) d29_35 rfl rfl ?_
  refine s_iloadN 37 C X d29_36 rfl ?_
  refine s_aloadN 38 C X d29_37 rfl rfl ?_
  refine s_arraylength 39 C X d29_38 A_o543 ?_
  refine s_icmp_lt 50 42 C X d29_39 (fun _ => ?_) (fun c => absurd (by decide : i0 < i10) c)
  refine s_aloadN 51 C X d29_50 rfl rfl ?_
  refine s_iloadN 52 C X d29_51 rfl ?_
  refine s_iconst 53 C X d29_52 kc_iconst_1 ?_
  refine s_iadd 54 C X d29_53 ?_
  refine Run.cast (st' := [(.int i1), (.ref o557_613)]) (by rw [kf_2]) ?_
  refine s_putfield 57 C X (host := "") d29_54 (Or.inl (mW 189 rfl)) Via.refl F_o557_613_cursor E_o557_613 (Or.inl (mW 190 rfl)) (mW 166 rfl) (ty := .int) (by decide) rfl rfl g_o557_613 (fun T hh X W => ?_)
  have A_o543 := A_o543.other W ne_o543_o557_613
  have E_o557_613 := E_o557_613.wr W
  have F_o557_613_this_0 := oth F_o557_613_this_0 W (Or.inr (hw _ (mW 173 rfl))) (Or.inl (hw _ (mW 190 rfl))) (by decide)
  have F_o557_613_lastRet := oth F_o557_613_lastRet W (Or.inl (hw _ (mW 176 rfl))) (Or.inl (hw _ (mW 190 rfl))) (by decide)
  have F_o557_613_expectedModCount := oth F_o557_613_expectedModCount W (Or.inl (hw _ (mW 179 rfl))) (Or.inl (hw _ (mW 190 rfl))) (by decide)
  have F_o557_613_cursor := F_o557_613_cursor.same W
  have Kp := Kp.wr W (Or.inl (by simp))
  refine s_aloadN 58 C X d29_57 rfl rfl ?_
  refine s_aloadN 59 C X d29_58 rfl rfl ?_
  refine s_iloadN 60 C X d29_59 rfl ?_
  refine s_dupX1 61 C X d29_60 rfl rfl ?_
  refine s_putfield 64 C X (host := "") d29_61 (Or.inl (mW 175 rfl)) Via.refl F_o557_613_lastRet E_o557_613 (Or.inl (mW 176 rfl)) (mW 166 rfl) (ty := .int) (by decide) rfl rfl g_o557_613 (fun T hh X W => ?_)
  have A_o543 := A_o543.other W ne_o543_o557_613
  have E_o557_613 := E_o557_613.wr W
  have F_o557_613_this_0 := oth F_o557_613_this_0 W (Or.inr (hw _ (mW 173 rfl))) (Or.inl (hw _ (mW 176 rfl))) (by decide)
  have F_o557_613_lastRet := F_o557_613_lastRet.same W
  have F_o557_613_expectedModCount := oth F_o557_613_expectedModCount W (Or.inl (hw _ (mW 179 rfl))) (Or.inl (hw _ (mW 176 rfl))) (by decide)
  have F_o557_613_cursor := oth F_o557_613_cursor W (Or.inl (hw _ (mW 190 rfl))) (Or.inl (hw _ (mW 176 rfl))) (by decide)
  have Kp := Kp.wr W (Or.inl (by simp))
  refine s_aaload 65 C X d29_64 A_o543 rfl ⟨by decide, by decide⟩ (v := (.ref b2)) rfl ?_
  refine s_areturn C X d29_65 rfl rfl rfl ?_ (FG hG (by decide) (by decide))
  exact hQ _ _ ⟨rfl, E_o557_613, F_o557_613_this_0, F_o557_613_lastRet, F_o557_613_expectedModCount, F_o557_613_cursor, Kp⟩
theorem rm_a629 (l : Launch) (Z : State) (a0 : Array Value) (hw : ∀ d ∈ tables_1, d.before a0 Z = true) (o517 : Addr) (o557_613 : Addr) (h0 : Heap) (n0 : Nat) (Z0 : n0 ≤ h0.size) (F_o517_size : Fld Z h0 o517 "java/util/ArrayList" "size" "I" (.int i1)) (F_o557_613_this_0 : Fld Z h0 o557_613 "java/util/ArrayList$Itr" "this$0" "Ljava/util/ArrayList;" (.ref o517)) (F_o557_613_cursor : Fld Z h0 o557_613 "java/util/ArrayList$Itr" "cursor" "I" (.int i1)) :
    Met l Z (⟨"java/util/ArrayList$Itr", "hasNext", "()Z"⟩ : MethodName) jdk_49_method_2_code 1 (some .boolean) { frames := 0, cells := 0, slots := 0, locals := 0 } [] #[(.ref o557_613)] h0 n0 (fun v h => v = some (.int i0) ∧ Keep h0 h []) := by
  refine Met.mkQ (tabs := tables_1) (a0 := a0) (ls0 := #[rv o557_613]) (plainFor_of_name pn_java_util_ArrayList_Itr) hw Z0 (fun m => by first | (simp [entryFrame, mkF, argsToLocals, Value.category]; done) | rfl) ?_
  intro p e s m below meth c T Q' G' hQ hG C X
  have Kp : Keep h0 h0 [] := Keep.refl _ _
  refine s_aloadN 1 C X d28_0 rfl rfl ?_
  refine s_getfield 4 C X (host := "") d28_1 (Or.inl (mW 189 rfl)) Via.refl F_o557_613_cursor (fun T X => ?_)
  refine s_aloadN 5 C X d28_4 rfl rfl ?_
  refine s_getfield 8 C X (host := "") d28_5 (Or.inl (mW 172 rfl)) Via.refl F_o557_613_this_0 (fun T X => ?_)
  refine s_getfield 11 C X d28_8 (Or.inr (mW 191 rfl)) Via.refl F_o517_size (fun T X => ?_)
  refine s_icmp_eq 18 14 C X d28_11 (fun _ => ?_) (fun c => absurd (by decide : i1 = i1) c)
  refine s_iconst 19 C X d28_18 kc_iconst_0 ?_
  refine s_nreturn C X d28_19 rfl (by simp) rfl ?_ (FG hG (by decide) (by decide))
  exact hQ _ _ ⟨rfl, Kp⟩
theorem rm_a632 (l : Launch) (Z : State) (a0 : Array Value) (hw : ∀ d ∈ tables_1, d.before a0 Z = true) (o517 : Addr) (o557_599 : Addr) (h0 : Heap) (n0 : Nat) (Z0 : n0 ≤ h0.size) (F_o517_size : Fld Z h0 o517 "java/util/ArrayList" "size" "I" (.int i1)) (F_o557_599_this_0 : Fld Z h0 o557_599 "java/util/ArrayList$Itr" "this$0" "Ljava/util/ArrayList;" (.ref o517)) (F_o557_599_cursor : Fld Z h0 o557_599 "java/util/ArrayList$Itr" "cursor" "I" (.int i1)) :
    Met l Z (⟨"java/util/ArrayList$Itr", "hasNext", "()Z"⟩ : MethodName) jdk_49_method_2_code 1 (some .boolean) { frames := 0, cells := 0, slots := 0, locals := 0 } [] #[(.ref o557_599)] h0 n0 (fun v h => v = some (.int i0) ∧ Keep h0 h []) := by
  refine Met.mkQ (tabs := tables_1) (a0 := a0) (ls0 := #[rv o557_599]) (plainFor_of_name pn_java_util_ArrayList_Itr) hw Z0 (fun m => by first | (simp [entryFrame, mkF, argsToLocals, Value.category]; done) | rfl) ?_
  intro p e s m below meth c T Q' G' hQ hG C X
  have Kp : Keep h0 h0 [] := Keep.refl _ _
  refine s_aloadN 1 C X d28_0 rfl rfl ?_
  refine s_getfield 4 C X (host := "") d28_1 (Or.inl (mW 189 rfl)) Via.refl F_o557_599_cursor (fun T X => ?_)
  refine s_aloadN 5 C X d28_4 rfl rfl ?_
  refine s_getfield 8 C X (host := "") d28_5 (Or.inl (mW 172 rfl)) Via.refl F_o557_599_this_0 (fun T X => ?_)
  refine s_getfield 11 C X d28_8 (Or.inr (mW 191 rfl)) Via.refl F_o517_size (fun T X => ?_)
  refine s_icmp_eq 18 14 C X d28_11 (fun _ => ?_) (fun c => absurd (by decide : i1 = i1) c)
  refine s_iconst 19 C X d28_18 kc_iconst_0 ?_
  refine s_nreturn C X d28_19 rfl (by simp) rfl ?_ (FG hG (by decide) (by decide))
  exact hQ _ _ ⟨rfl, Kp⟩
theorem rm_a634 (l : Launch) (Z : State) (a0 : Array Value) (hw : ∀ d ∈ tables_1, d.before a0 Z = true) (b2 : Addr) (o1 : Addr) (o2 : Addr) (o3 : Addr) (o4 : Addr) (o5 : Addr) (k_o2 : ClassId) (k_o3 : ClassId) (y359 : Int64) (y360 : Int64) (y361 : Int64) (o514 : Addr) (o515 : Addr) (o516 : Addr) (o517 : Addr) (k_o515 : ClassId) (k_o516 : ClassId) (o543 : Addr) (k_o543 : ClassId) (h0 : Heap) (n0 : Nat) (Z0 : n0 ≤ h0.size) (E_b2 : Exa Z h0 b2 "java/lang/Integer") (F_b2_value : Fld Z h0 b2 "java/lang/Integer" "value" "I" (.int i2)) (F_o1_most : Fld Z h0 o1 "com/example/dayweave/dayweave/solve/TemporalNetwork" "most" "[[J" (.ref o2)) (A_o2 : Arv Z h0 o2 k_o2 (.array .long) i3 [(.ref o3), (.ref o4), (.ref o5)] .null) (A_o5 : Arv Z h0 o5 k_o3 .long i3 [(.long y359), (.long y360), (.long y361)] (.long j0)) (F_o514_this_0 : Fld Z h0 o514 "com/example/dayweave/dayweave/solve/TemporalNetwork$Newcomer" "this$0" "Lcom/example/dayweave/dayweave/solve/TemporalNetwork;" (.ref o1)) (F_o514_after : Fld Z h0 o514 "com/example/dayweave/dayweave/solve/TemporalNetwork$Newcomer" "after" "[J" (.ref o515)) (F_o514_before : Fld Z h0 o514 "com/example/dayweave/dayweave/solve/TemporalNetwork$Newcomer" "before" "[J" (.ref o516)) (F_o514_bounding : Fld Z h0 o514 "com/example/dayweave/dayweave/solve/TemporalNetwork$Newcomer" "bounding" "Ljava/util/List;" (.ref o517)) (A_o515 : Arv Z h0 o515 k_o515 .long i3 [(.long jU19), (.long jU19), (.long j0)] (.long j0)) (E_o517 : Exa Z h0 o517 "java/util/ArrayList") (F_o517_modCount : Fld Z h0 o517 "java/util/AbstractList" "modCount" "I" (.int i1)) (F_o517_elementData : Fld Z h0 o517 "java/util/ArrayList" "elementData" "[Ljava/lang/Object;" (.ref o543)) (F_o517_size : Fld Z h0 o517 "java/util/ArrayList" "size" "I" (.int i1)) (A_o543 : Arv Z h0 o543 k_o543 (.object "java/lang/Object") i10 [(.ref b2), .null, .null, .null, .null, .null, .null, .null, .null, .null] .null) (A_o516 : Arv Z h0 o516 k_o516 .long i3 [(.long jU19), (.long jU19), (.long j0)] (.long j0)) :
    Met l Z (⟨"com/example/dayweave/dayweave/solve/TemporalNetwork$Newcomer", "consistent", "()Z"⟩ : MethodName) prog_68_method_6_code 7 (some .boolean) { frames := 3, cells := 2, slots := 8, locals := 38 } [] #[(.ref o514)] h0 n0 (fun v h => (v = some (.int i1) ∧ Keep h0 h []) ∨ (v = some (.int i0) ∧ ¬ (XT.cmpL y361 jU19) = i0 ∧ (XT.cmpL ((j0 + y361) + j0) j0) < i0 ∧ Keep h0 h [])) := by
  refine Met.mkQ (tabs := tables_1) (a0 := a0) (ls0 := #[rv o514, .unset, .unset, .unset, .unset, .unset, .unset]) (plainFor_of_name pn_com_example_dayweave_dayweave_solve_TemporalNetwork_Newcomer) hw Z0 (fun m => by first | (simp [entryFrame, mkF, argsToLocals, Value.category]; done) | rfl) ?_
  intro p e s m below meth c T Q' G' hQ hG C X
  have Kp : Keep h0 h0 [] := Keep.refl _ _
  refine s_aloadN 1 C X d33_0 rfl rfl ?_
  refine s_getfield 4 C X (host := "") d33_1 (Or.inl (mW 91 rfl)) Via.refl F_o514_bounding (fun T X => ?_)
  refine s_callI 9 [] [] 0 C X d33_4 (mW 157 rfl) (mW 158 rfl) (mW 159 rfl) (mW 160 rfl) (mW 161 rfl) (mW 162 rfl) (mW 163 rfl) (mW 118 rfl) (mW 69 rfl) (mW 164 rfl) E_o517 (rm_a559 l Z a0 hw o517 _ n0 X.sz F_o517_modCount) (lenOf pd___Ljava_util_Iterator_ rfl) rfl rfl rfl (fun T v hh X q => ?_)
  obtain ⟨o557_599, rfl, Kc, E_o557_599, F_o557_599_this_0, F_o557_599_lastRet, F_o557_599_expectedModCount, F_o557_599_cursor, sz_o557_599', g_o557_599⟩ := q
  have ne_b2_o557_599 : b2 ≠ o557_599 := Nat.ne_of_lt (Nat.lt_of_lt_of_le E_b2.lt sz_o557_599')
  have ne_o1_o557_599 : o1 ≠ o557_599 := Nat.ne_of_lt (Nat.lt_of_lt_of_le F_o1_most.lt sz_o557_599')
  have ne_o2_o557_599 : o2 ≠ o557_599 := Nat.ne_of_lt (Nat.lt_of_lt_of_le A_o2.lt sz_o557_599')
  have ne_o5_o557_599 : o5 ≠ o557_599 := Nat.ne_of_lt (Nat.lt_of_lt_of_le A_o5.lt sz_o557_599')
  have ne_o514_o557_599 : o514 ≠ o557_599 := Nat.ne_of_lt (Nat.lt_of_lt_of_le F_o514_this_0.lt sz_o557_599')
  have ne_o515_o557_599 : o515 ≠ o557_599 := Nat.ne_of_lt (Nat.lt_of_lt_of_le A_o515.lt sz_o557_599')
  have ne_o517_o557_599 : o517 ≠ o557_599 := Nat.ne_of_lt (Nat.lt_of_lt_of_le E_o517.lt sz_o557_599')
  have ne_o543_o557_599 : o543 ≠ o557_599 := Nat.ne_of_lt (Nat.lt_of_lt_of_le A_o543.lt sz_o557_599')
  have ne_o516_o557_599 : o516 ≠ o557_599 := Nat.ne_of_lt (Nat.lt_of_lt_of_le A_o516.lt sz_o557_599')
  have sz_o557_599 : h0.size ≤ o557_599 := Nat.le_trans Kp.1 sz_o557_599'
  have E_b2 := E_b2.keep Kc
  have F_b2_value := F_b2_value.keep Kc nin0
  have F_o1_most := F_o1_most.keep Kc nin0
  have A_o2 := A_o2.keep Kc nin0
  have A_o5 := A_o5.keep Kc nin0
  have F_o514_this_0 := F_o514_this_0.keep Kc nin0
  have F_o514_after := F_o514_after.keep Kc nin0
  have F_o514_before := F_o514_before.keep Kc nin0
  have F_o514_bounding := F_o514_bounding.keep Kc nin0
  have A_o515 := A_o515.keep Kc nin0
  have E_o517 := E_o517.keep Kc
  have F_o517_modCount := F_o517_modCount.keep Kc nin0
  have F_o517_elementData := F_o517_elementData.keep Kc nin0
  have F_o517_size := F_o517_size.keep Kc nin0
  have A_o543 := A_o543.keep Kc nin0
  have A_o516 := A_o516.keep Kc nin0
  have Kp := Kp.trans Kc all0
  refine Run.cast (st' := [(.ref o557_599)]) rfl ?_
  refine s_astoreN 10 C X (l' := #[rv o514, rv o557_599, .unset, .unset, .unset, .unset, .unset]) d33_9 rfl rfl ?_
  refine s_aloadN 11 C X d33_10 rfl rfl ?_
  refine s_callI 16 [] [] 0 C X d33_11 (mW 180 rfl) (mW 181 rfl) (mW 182 rfl) (mW 183 rfl) (mW 184 rfl) (mW 185 rfl) (mW 186 rfl) (mW 187 rfl) (mW 167 rfl) (mW 188 rfl) E_o557_599 (rm_a601 l Z a0 hw o517 o557_599 _ n0 X.sz F_o517_size F_o557_599_this_0 F_o557_599_cursor) (lenOf pd___Z rfl) rfl rfl rfl (fun T v hh X q => ?_)
  obtain ⟨rfl, Kc⟩ := q
  have E_b2 := E_b2.keep Kc
  have F_b2_value := F_b2_value.keep Kc nin0
  have F_o1_most := F_o1_most.keep Kc nin0
  have A_o2 := A_o2.keep Kc nin0
  have A_o5 := A_o5.keep Kc nin0
  have F_o514_this_0 := F_o514_this_0.keep Kc nin0
  have F_o514_after := F_o514_after.keep Kc nin0
  have F_o514_before := F_o514_before.keep Kc nin0
  have F_o514_bounding := F_o514_bounding.keep Kc nin0
  have A_o515 := A_o515.keep Kc nin0
  have E_o517 := E_o517.keep Kc
  have F_o517_modCount := F_o517_modCount.keep Kc nin0
  have F_o517_elementData := F_o517_elementData.keep Kc nin0
  have F_o517_size := F_o517_size.keep Kc nin0
  have A_o543 := A_o543.keep Kc nin0
  have A_o516 := A_o516.keep Kc nin0
  have Kp := Kp.trans Kc all0
  have E_o557_599 := E_o557_599.keep Kc
  have F_o557_599_this_0 := F_o557_599_this_0.keep Kc nin0
  have F_o557_599_lastRet := F_o557_599_lastRet.keep Kc nin0
  have F_o557_599_expectedModCount := F_o557_599_expectedModCount.keep Kc nin0
  have F_o557_599_cursor := F_o557_599_cursor.keep Kc nin0
  refine Run.cast (st' := [(.int i1)]) rfl ?_
  refine s_if_eq 148 19 C X d33_16 (fun c => absurd c (by decide)) (fun _ => ?_)
  refine s_aloadN 20 C X d33_19 rfl rfl ?_
  refine s_callI 25 [] [] 0 C X d33_20 (mW 192 rfl) (mW 193 rfl) (mW 194 rfl) (mW 195 rfl) (mW 196 rfl) (mW 197 rfl) (mW 198 rfl) (mW 187 rfl) (mW 167 rfl) (mW 199 rfl) E_o557_599 (rm_a607 l Z a0 hw b2 o517 o543 k_o543 o557_599 _ n0 X.sz F_o517_modCount F_o517_elementData F_o517_size A_o543 E_o557_599 F_o557_599_this_0 F_o557_599_lastRet F_o557_599_expectedModCount F_o557_599_cursor ne_o517_o557_599 ne_o543_o557_599 g_o557_599) (lenOf pd___Ljava_lang_Object_ rfl) rfl rfl rfl (fun T v hh X q => ?_)
  obtain ⟨rfl, E_o557_599, F_o557_599_this_0, F_o557_599_lastRet, F_o557_599_expectedModCount, F_o557_599_cursor, Kc⟩ := q
  have E_b2 := E_b2.keep Kc
  have F_b2_value := F_b2_value.keep Kc (ninS ne_b2_o557_599 nin0)
  have F_o1_most := F_o1_most.keep Kc (ninS ne_o1_o557_599 nin0)
  have A_o2 := A_o2.keep Kc (ninS ne_o2_o557_599 nin0)
  have A_o5 := A_o5.keep Kc (ninS ne_o5_o557_599 nin0)
  have F_o514_this_0 := F_o514_this_0.keep Kc (ninS ne_o514_o557_599 nin0)
  have F_o514_after := F_o514_after.keep Kc (ninS ne_o514_o557_599 nin0)
  have F_o514_before := F_o514_before.keep Kc (ninS ne_o514_o557_599 nin0)
  have F_o514_bounding := F_o514_bounding.keep Kc (ninS ne_o514_o557_599 nin0)
  have A_o515 := A_o515.keep Kc (ninS ne_o515_o557_599 nin0)
  have E_o517 := E_o517.keep Kc
  have F_o517_modCount := F_o517_modCount.keep Kc (ninS ne_o517_o557_599 nin0)
  have F_o517_elementData := F_o517_elementData.keep Kc (ninS ne_o517_o557_599 nin0)
  have F_o517_size := F_o517_size.keep Kc (ninS ne_o517_o557_599 nin0)
  have A_o543 := A_o543.keep Kc (ninS ne_o543_o557_599 nin0)
  have A_o516 := A_o516.keep Kc (ninS ne_o516_o557_599 nin0)
  have Kp := Kp.trans Kc (allS (Or.inr sz_o557_599) all0)
  refine Run.cast (st' := [(.ref b2)]) rfl ?_
  refine s_castY 28 C X d33_25 (mW 206 rfl) (Ins.self E_b2) (fun T X => ?_)
  refine s_callV 31 [] [] 0 C X d33_28 (mW 208 rfl) (mW 209 rfl) (notFace_of_selects (args := #[]) (mvT C.2.1 (C.w (mW 211 rfl)))) (mW 211 rfl) (mW 210 rfl) (mW 106 rfl) (mW 212 rfl) E_b2 (rm_a568 l Z a0 hw b2 _ n0 X.sz F_b2_value) (lenOf pd___I rfl) rfl rfl rfl (fun T v hh X q => ?_)
  obtain ⟨rfl, Kc⟩ := q
  have E_b2 := E_b2.keep Kc
  have F_b2_value := F_b2_value.keep Kc nin0
  have F_o1_most := F_o1_most.keep Kc nin0
  have A_o2 := A_o2.keep Kc nin0
  have A_o5 := A_o5.keep Kc nin0
  have F_o514_this_0 := F_o514_this_0.keep Kc nin0
  have F_o514_after := F_o514_after.keep Kc nin0
  have F_o514_before := F_o514_before.keep Kc nin0
  have F_o514_bounding := F_o514_bounding.keep Kc nin0
  have A_o515 := A_o515.keep Kc nin0
  have E_o517 := E_o517.keep Kc
  have F_o517_modCount := F_o517_modCount.keep Kc nin0
  have F_o517_elementData := F_o517_elementData.keep Kc nin0
  have F_o517_size := F_o517_size.keep Kc nin0
  have A_o543 := A_o543.keep Kc nin0
  have A_o516 := A_o516.keep Kc nin0
  have Kp := Kp.trans Kc all0
  have E_o557_599 := E_o557_599.keep Kc
  have F_o557_599_this_0 := F_o557_599_this_0.keep Kc nin0
  have F_o557_599_cursor := F_o557_599_cursor.keep Kc nin0
  refine Run.cast (st' := [(.int i2)]) rfl ?_
  refine s_istoreN 32 C X (l' := #[rv o514, rv o557_599, iv i2, .unset, .unset, .unset, .unset]) d33_31 rfl ?_
  refine s_aloadN 33 C X d33_32 rfl rfl ?_
  refine s_getfield 36 C X (host := "") d33_33 (Or.inl (mW 65 rfl)) Via.refl F_o514_before (fun T X => ?_)
  refine s_iloadN 37 C X d33_36 rfl ?_
  refine s_laload 38 C X d33_37 A_o516 ⟨by decide, by decide⟩ (v := (.long j0)) rfl ?_
  refine s_ldc2Long 41 C X d33_38 (mW 93 rfl) ?_
  refine s_lcmp 42 C X d33_41 ?_
  refine Run.cast (st' := [(.int im1)]) (by rw [kf_4]) ?_
  refine s_if_ne 48 45 C X d33_42 (fun _ => ?_) (fun c => absurd c (by decide))
  refine s_aloadN 49 C X d33_48 rfl rfl ?_
  refine s_getfield 52 C X (host := "") d33_49 (Or.inl (mW 91 rfl)) Via.refl F_o514_bounding (fun T X => ?_)
  refine s_callI 57 [] [] 0 C X d33_52 (mW 157 rfl) (mW 158 rfl) (mW 159 rfl) (mW 160 rfl) (mW 161 rfl) (mW 162 rfl) (mW 163 rfl) (mW 118 rfl) (mW 69 rfl) (mW 164 rfl) E_o517 (rm_a559 l Z a0 hw o517 _ n0 X.sz F_o517_modCount) (lenOf pd___Ljava_util_Iterator_ rfl) rfl rfl rfl (fun T v hh X q => ?_)
  obtain ⟨o557_613, rfl, Kc, E_o557_613, F_o557_613_this_0, F_o557_613_lastRet, F_o557_613_expectedModCount, F_o557_613_cursor, sz_o557_613', g_o557_613⟩ := q
  have ne_b2_o557_613 : b2 ≠ o557_613 := Nat.ne_of_lt (Nat.lt_of_lt_of_le E_b2.lt sz_o557_613')
  have ne_o1_o557_613 : o1 ≠ o557_613 := Nat.ne_of_lt (Nat.lt_of_lt_of_le F_o1_most.lt sz_o557_613')
  have ne_o2_o557_613 : o2 ≠ o557_613 := Nat.ne_of_lt (Nat.lt_of_lt_of_le A_o2.lt sz_o557_613')
  have ne_o5_o557_613 : o5 ≠ o557_613 := Nat.ne_of_lt (Nat.lt_of_lt_of_le A_o5.lt sz_o557_613')
  have ne_o514_o557_613 : o514 ≠ o557_613 := Nat.ne_of_lt (Nat.lt_of_lt_of_le F_o514_this_0.lt sz_o557_613')
  have ne_o515_o557_613 : o515 ≠ o557_613 := Nat.ne_of_lt (Nat.lt_of_lt_of_le A_o515.lt sz_o557_613')
  have ne_o517_o557_613 : o517 ≠ o557_613 := Nat.ne_of_lt (Nat.lt_of_lt_of_le E_o517.lt sz_o557_613')
  have ne_o543_o557_613 : o543 ≠ o557_613 := Nat.ne_of_lt (Nat.lt_of_lt_of_le A_o543.lt sz_o557_613')
  have ne_o516_o557_613 : o516 ≠ o557_613 := Nat.ne_of_lt (Nat.lt_of_lt_of_le A_o516.lt sz_o557_613')
  have ne_o557_599_o557_613 : o557_599 ≠ o557_613 := Nat.ne_of_lt (Nat.lt_of_lt_of_le E_o557_599.lt sz_o557_613')
  have sz_o557_613 : h0.size ≤ o557_613 := Nat.le_trans Kp.1 sz_o557_613'
  have E_b2 := E_b2.keep Kc
  have F_b2_value := F_b2_value.keep Kc nin0
  have F_o1_most := F_o1_most.keep Kc nin0
  have A_o2 := A_o2.keep Kc nin0
  have A_o5 := A_o5.keep Kc nin0
  have F_o514_this_0 := F_o514_this_0.keep Kc nin0
  have F_o514_after := F_o514_after.keep Kc nin0
  have F_o514_before := F_o514_before.keep Kc nin0
  have A_o515 := A_o515.keep Kc nin0
  have F_o517_modCount := F_o517_modCount.keep Kc nin0
  have F_o517_elementData := F_o517_elementData.keep Kc nin0
  have F_o517_size := F_o517_size.keep Kc nin0
  have A_o543 := A_o543.keep Kc nin0
  have A_o516 := A_o516.keep Kc nin0
  have Kp := Kp.trans Kc all0
  have E_o557_599 := E_o557_599.keep Kc
  have F_o557_599_this_0 := F_o557_599_this_0.keep Kc nin0
  have F_o557_599_cursor := F_o557_599_cursor.keep Kc nin0
  refine Run.cast (st' := [(.ref o557_613)]) rfl ?_
  refine s_astoreN 58 C X (l' := #[rv o514, rv o557_599, iv i2, rv o557_613, .unset, .unset, .unset]) d33_57 rfl rfl ?_
  refine s_aloadN 59 C X d33_58 rfl rfl ?_
  refine s_callI 64 [] [] 0 C X d33_59 (mW 180 rfl) (mW 181 rfl) (mW 182 rfl) (mW 183 rfl) (mW 184 rfl) (mW 185 rfl) (mW 186 rfl) (mW 187 rfl) (mW 167 rfl) (mW 188 rfl) E_o557_613 (rm_a615 l Z a0 hw o517 o557_613 _ n0 X.sz F_o517_size F_o557_613_this_0 F_o557_613_cursor) (lenOf pd___Z rfl) rfl rfl rfl (fun T v hh X q => ?_)
  obtain ⟨rfl, Kc⟩ := q
  have E_b2 := E_b2.keep Kc
  have F_b2_value := F_b2_value.keep Kc nin0
  have F_o1_most := F_o1_most.keep Kc nin0
  have A_o2 := A_o2.keep Kc nin0
  have A_o5 := A_o5.keep Kc nin0
  have F_o514_this_0 := F_o514_this_0.keep Kc nin0
  have F_o514_after := F_o514_after.keep Kc nin0
  have F_o514_before := F_o514_before.keep Kc nin0
  have A_o515 := A_o515.keep Kc nin0
  have F_o517_modCount := F_o517_modCount.keep Kc nin0
  have F_o517_elementData := F_o517_elementData.keep Kc nin0
  have F_o517_size := F_o517_size.keep Kc nin0
  have A_o543 := A_o543.keep Kc nin0
  have A_o516 := A_o516.keep Kc nin0
  have Kp := Kp.trans Kc all0
  have E_o557_599 := E_o557_599.keep Kc
  have F_o557_599_this_0 := F_o557_599_this_0.keep Kc nin0
  have F_o557_599_cursor := F_o557_599_cursor.keep Kc nin0
  have E_o557_613 := E_o557_613.keep Kc
  have F_o557_613_this_0 := F_o557_613_this_0.keep Kc nin0
  have F_o557_613_lastRet := F_o557_613_lastRet.keep Kc nin0
  have F_o557_613_expectedModCount := F_o557_613_expectedModCount.keep Kc nin0
  have F_o557_613_cursor := F_o557_613_cursor.keep Kc nin0
  refine Run.cast (st' := [(.int i1)]) rfl ?_
  refine s_if_eq 145 67 C X d33_64 (fun c => absurd c (by decide)) (fun _ => ?_)
  refine s_aloadN 68 C X d33_67 rfl rfl ?_
  refine s_callI 73 [] [] 0 C X d33_68 (mW 192 rfl) (mW 193 rfl) (mW 194 rfl) (mW 195 rfl) (mW 196 rfl) (mW 197 rfl) (mW 198 rfl) (mW 187 rfl) (mW 167 rfl) (mW 199 rfl) E_o557_613 (rm_a621 l Z a0 hw b2 o517 o543 k_o543 o557_613 _ n0 X.sz F_o517_modCount F_o517_elementData F_o517_size A_o543 E_o557_613 F_o557_613_this_0 F_o557_613_lastRet F_o557_613_expectedModCount F_o557_613_cursor ne_o517_o557_613 ne_o543_o557_613 g_o557_613) (lenOf pd___Ljava_lang_Object_ rfl) rfl rfl rfl (fun T v hh X q => ?_)
  obtain ⟨rfl, E_o557_613, F_o557_613_this_0, F_o557_613_lastRet, F_o557_613_expectedModCount, F_o557_613_cursor, Kc⟩ := q
  have E_b2 := E_b2.keep Kc
  have F_b2_value := F_b2_value.keep Kc (ninS ne_b2_o557_613 nin0)
  have F_o1_most := F_o1_most.keep Kc (ninS ne_o1_o557_613 nin0)
  have A_o2 := A_o2.keep Kc (ninS ne_o2_o557_613 nin0)
  have A_o5 := A_o5.keep Kc (ninS ne_o5_o557_613 nin0)
  have F_o514_this_0 := F_o514_this_0.keep Kc (ninS ne_o514_o557_613 nin0)
  have F_o514_after := F_o514_after.keep Kc (ninS ne_o514_o557_613 nin0)
  have F_o514_before := F_o514_before.keep Kc (ninS ne_o514_o557_613 nin0)
  have A_o515 := A_o515.keep Kc (ninS ne_o515_o557_613 nin0)
  have F_o517_size := F_o517_size.keep Kc (ninS ne_o517_o557_613 nin0)
  have A_o516 := A_o516.keep Kc (ninS ne_o516_o557_613 nin0)
  have Kp := Kp.trans Kc (allS (Or.inr sz_o557_613) all0)
  have E_o557_599 := E_o557_599.keep Kc
  have F_o557_599_this_0 := F_o557_599_this_0.keep Kc (ninS ne_o557_599_o557_613 nin0)
  have F_o557_599_cursor := F_o557_599_cursor.keep Kc (ninS ne_o557_599_o557_613 nin0)
  refine Run.cast (st' := [(.ref b2)]) rfl ?_
  refine s_castY 76 C X d33_73 (mW 206 rfl) (Ins.self E_b2) (fun T X => ?_)
  refine s_callV 79 [] [] 0 C X d33_76 (mW 208 rfl) (mW 209 rfl) (notFace_of_selects (args := #[]) (mvT C.2.1 (C.w (mW 211 rfl)))) (mW 211 rfl) (mW 210 rfl) (mW 106 rfl) (mW 212 rfl) E_b2 (rm_a568 l Z a0 hw b2 _ n0 X.sz F_b2_value) (lenOf pd___I rfl) rfl rfl rfl (fun T v hh X q => ?_)
  obtain ⟨rfl, Kc⟩ := q
  have F_o1_most := F_o1_most.keep Kc nin0
  have A_o2 := A_o2.keep Kc nin0
  have A_o5 := A_o5.keep Kc nin0
  have F_o514_this_0 := F_o514_this_0.keep Kc nin0
  have F_o514_after := F_o514_after.keep Kc nin0
  have F_o514_before := F_o514_before.keep Kc nin0
  have A_o515 := A_o515.keep Kc nin0
  have F_o517_size := F_o517_size.keep Kc nin0
  have A_o516 := A_o516.keep Kc nin0
  have Kp := Kp.trans Kc all0
  have E_o557_599 := E_o557_599.keep Kc
  have F_o557_599_this_0 := F_o557_599_this_0.keep Kc nin0
  have F_o557_599_cursor := F_o557_599_cursor.keep Kc nin0
  have E_o557_613 := E_o557_613.keep Kc
  have F_o557_613_this_0 := F_o557_613_this_0.keep Kc nin0
  have F_o557_613_cursor := F_o557_613_cursor.keep Kc nin0
  refine Run.cast (st' := [(.int i2)]) rfl ?_
  refine s_istore 81 C X (l' := #[rv o514, rv o557_599, iv i2, rv o557_613, iv i2, .unset, .unset]) d33_79 rfl ?_
  refine s_aloadN 82 C X d33_81 rfl rfl ?_
  refine s_getfield 85 C X (host := "") d33_82 (Or.inl (mW 59 rfl)) Via.refl F_o514_this_0 (fun T X => ?_)
  refine s_getfield 88 C X d33_85 (Or.inr (mW 62 rfl)) Via.refl F_o1_most (fun T X => ?_)
  refine s_iloadN 89 C X d33_88 rfl ?_
  refine s_aaload 90 C X d33_89 A_o2 rfl ⟨by decide, by decide⟩ (v := (.ref o5)) rfl ?_
  refine s_iload 92 C X d33_90 rfl ?_
  refine s_laload 93 C X d33_92 A_o5 ⟨by decide, by decide⟩ (v := (.long y361)) rfl ?_
  refine s_lstore 95 C X (l' := #[rv o514, rv o557_599, iv i2, rv o557_613, iv i2, lv y361, .second]) d33_93 rfl ?_
  refine s_aloadN 96 C X d33_95 rfl rfl ?_
  refine s_getfield 99 C X (host := "") d33_96 (Or.inl (mW 63 rfl)) Via.refl F_o514_after (fun T X => ?_)
  refine s_iload 101 C X d33_99 rfl ?_
  refine s_laload 102 C X d33_101 A_o515 ⟨by decide, by decide⟩ (v := (.long j0)) rfl ?_
  refine s_ldc2Long 105 C X d33_102 (mW 93 rfl) ?_
  refine s_lcmp 106 C X d33_105 ?_
  refine Run.cast (st' := [(.int im1)]) (by rw [kf_4]) ?_
  suffices J627 : ∀ (T : State) (hh : Heap) (X : St p l e ({ frames := 3, cells := 2, slots := 8, locals := 38 } : Room) s m #[(.ref o514)] below meth c n0 T hh 2 8) (F_o517_size : Fld Z hh o517 "java/util/ArrayList" "size" "I" (.int i1)) (Kp : Keep h0 hh []) (E_o557_599 : Exa Z hh o557_599 "java/util/ArrayList$Itr") (F_o557_599_this_0 : Fld Z hh o557_599 "java/util/ArrayList$Itr" "this$0" "Ljava/util/ArrayList;" (.ref o517)) (F_o557_599_cursor : Fld Z hh o557_599 "java/util/ArrayList$Itr" "cursor" "I" (.int i1)) (E_o557_613 : Exa Z hh o557_613 "java/util/ArrayList$Itr") (F_o557_613_this_0 : Fld Z hh o557_613 "java/util/ArrayList$Itr" "this$0" "Ljava/util/ArrayList;" (.ref o517)) (F_o557_613_cursor : Fld Z hh o557_613 "java/util/ArrayList$Itr" "cursor" "I" (.int i1)), Run p e below n0 Q' G' m T 142 #[rv o514, rv o557_599, iv i2, rv o557_613, iv i2, lv y361, .second] [] by
    refine s_if_eq 142 109 C X d33_106 (fun c => absurd c (by decide)) (fun _ => ?_)
    refine s_lload 111 C X d33_109 rfl ?_
    refine s_ldc2Long 114 C X d33_111 (mW 93 rfl) ?_
    refine s_lcmp 115 C X d33_114 ?_
    refine s_if_eq 142 118 C X d33_115 (fun c115_624 => ?_) (fun c115_624 => ?_)
    · have t_c115_624 : (y361).toInt = (2305843009213693951 : Int) := cl_eq.mp c115_624
      exact J627 T _  X F_o517_size Kp E_o557_599 F_o557_599_this_0 F_o557_599_cursor E_o557_613 F_o557_613_this_0 F_o557_613_cursor
    refine s_aloadN 119 C X d33_118 rfl rfl ?_
    refine s_getfield 122 C X (host := "") d33_119 (Or.inl (mW 65 rfl)) Via.refl F_o514_before (fun T X => ?_)
    refine s_iloadN 123 C X d33_122 rfl ?_
    refine s_laload 124 C X d33_123 A_o516 ⟨by decide, by decide⟩ (v := (.long j0)) rfl ?_
    refine s_lload 126 C X d33_124 rfl ?_
    refine s_ladd 127 C X d33_126 ?_
    refine s_aloadN 128 C X d33_127 rfl rfl ?_
    refine s_getfield 131 C X (host := "") d33_128 (Or.inl (mW 63 rfl)) Via.refl F_o514_after (fun T X => ?_)
    refine s_iload 133 C X d33_131 rfl ?_
    refine s_laload 134 C X d33_133 A_o515 ⟨by decide, by decide⟩ (v := (.long j0)) rfl ?_
    refine s_ladd 135 C X d33_134 ?_
    refine s_lconst 136 C X (z := j0) d33_135 rfl ?_
    refine s_lcmp 137 C X d33_136 ?_
    refine s_if_ge 142 140 C X d33_137 (fun c137_625 => ?_) (fun c137_625 => ?_)
    · have t_c137_625 : ¬ ((((j0 + y361) + j0)).toInt < (0 : Int)) := fun q => c137_625 (cl_lt.mpr q)
      exact J627 T _  X F_o517_size Kp E_o557_599 F_o557_599_this_0 F_o557_599_cursor E_o557_613 F_o557_613_this_0 F_o557_613_cursor
    refine s_iconst 141 C X d33_140 kc_iconst_0 ?_
    refine s_nreturn C X d33_141 rfl (by simp) rfl ?_ (FG hG (by decide) (by decide))
    exact hQ _ _ (Or.inr ⟨rfl, c115_624, c137_625, Kp⟩)
  intro T hh  X F_o517_size Kp E_o557_599 F_o557_599_this_0 F_o557_599_cursor E_o557_613 F_o557_613_this_0 F_o557_613_cursor
  refine s_goto 58 C X d33_142 ?_
  refine s_aloadN 59 C X d33_58 rfl rfl ?_
  refine s_callI 64 [] [] 0 C X d33_59 (mW 180 rfl) (mW 181 rfl) (mW 182 rfl) (mW 183 rfl) (mW 184 rfl) (mW 185 rfl) (mW 186 rfl) (mW 187 rfl) (mW 167 rfl) (mW 188 rfl) E_o557_613 (rm_a629 l Z a0 hw o517 o557_613 _ n0 X.sz F_o517_size F_o557_613_this_0 F_o557_613_cursor) (lenOf pd___Z rfl) rfl rfl rfl (fun T v hh X q => ?_)
  obtain ⟨rfl, Kc⟩ := q
  have F_o517_size := F_o517_size.keep Kc nin0
  have Kp := Kp.trans Kc all0
  have E_o557_599 := E_o557_599.keep Kc
  have F_o557_599_this_0 := F_o557_599_this_0.keep Kc nin0
  have F_o557_599_cursor := F_o557_599_cursor.keep Kc nin0
  refine Run.cast (st' := [(.int i0)]) rfl ?_
  refine s_if_eq 145 67 C X d33_64 (fun _ => ?_) (fun c => absurd (by decide : i0 = i0) c)
  refine s_goto 10 C X d33_145 ?_
  refine s_aloadN 11 C X d33_10 rfl rfl ?_
  refine s_callI 16 [] [] 0 C X d33_11 (mW 180 rfl) (mW 181 rfl) (mW 182 rfl) (mW 183 rfl) (mW 184 rfl) (mW 185 rfl) (mW 186 rfl) (mW 187 rfl) (mW 167 rfl) (mW 188 rfl) E_o557_599 (rm_a632 l Z a0 hw o517 o557_599 _ n0 X.sz F_o517_size F_o557_599_this_0 F_o557_599_cursor) (lenOf pd___Z rfl) rfl rfl rfl (fun T v hh X q => ?_)
  obtain ⟨rfl, Kc⟩ := q
  have Kp := Kp.trans Kc all0
  refine Run.cast (st' := [(.int i0)]) rfl ?_
  refine s_if_eq 148 19 C X d33_16 (fun _ => ?_) (fun c => absurd (by decide : i0 = i0) c)
  refine s_iconst 149 C X d33_148 kc_iconst_1 ?_
  refine s_nreturn C X d33_149 rfl (by simp) rfl ?_ (FG hG (by decide) (by decide))
  exact hQ _ _ (Or.inl ⟨rfl, Kp⟩)
theorem rm_a736 (l : Launch) (Z : State) (a0 : Array Value) (hw : ∀ d ∈ tables_1, d.before a0 Z = true) (o733 : Addr) (h0 : Heap) (n0 : Nat) (Z0 : n0 ≤ h0.size)  :
    Met l Z (⟨"java/lang/Record", "<init>", "()V"⟩ : MethodName) jdk_30_method_1_code 1 none { frames := 1, cells := 0, slots := 0, locals := 12 } [] #[(.ref o733)] h0 n0 (fun v h => v = none ∧ Keep h0 h []) := by
  refine Met.mkQ (tabs := tables_1) (a0 := a0) (ls0 := #[rv o733]) (plainFor_of_name pn_java_lang_Record) hw Z0 (fun m => by first | (simp [entryFrame, mkF, argsToLocals, Value.category]; done) | rfl) ?_
  intro p e s m below meth c T Q' G' hQ hG C X
  have Kp : Keep h0 h0 [] := Keep.refl _ _
  refine s_aloadN 1 C X d35_0 rfl rfl ?_
  refine s_objInit 4 C X d35_1 (mW 233 rfl) (mW 7 rfl) (mW 8 rfl) rfl (W := 0) rfl (by decide) (fun T X => ?_)
  refine s_return C X d35_4 rfl ?_ (FG hG (by decide) (by decide))
  exact hQ _ _ ⟨rfl, Kp⟩
theorem rm_a737 (l : Launch) (Z : State) (a0 : Array Value) (hw : ∀ d ∈ tables_1, d.before a0 Z = true) (o733 : Addr) (ni734 : Int32) (xi735 : Int32) (h0 : Heap) (n0 : Nat) (Z0 : n0 ≤ h0.size) (E_o733 : Exa Z h0 o733 "com/example/dayweave/dayweave/model/Range") (F_o733_min : Fld Z h0 o733 "com/example/dayweave/dayweave/model/Range" "min" "I" (.int i0)) (F_o733_max : Fld Z h0 o733 "com/example/dayweave/dayweave/model/Range" "max" "I" (.int i0)) (g_o733 : n0 ≤ o733) :
    Met l Z (⟨"com/example/dayweave/dayweave/model/Range", "<init>", "(II)V"⟩ : MethodName) prog_11_method_1_code 3 none { frames := 2, cells := 0, slots := 0, locals := 24 } [] #[(.ref o733), (.int ni734), (.int xi735)] h0 n0 (fun v h => v = none ∧ Exa Z h o733 "com/example/dayweave/dayweave/model/Range" ∧ Fld Z h o733 "com/example/dayweave/dayweave/model/Range" "min" "I" (.int ni734) ∧ Fld Z h o733 "com/example/dayweave/dayweave/model/Range" "max" "I" (.int xi735) ∧ Keep h0 h [o733]) := by
  refine Met.mkQ (tabs := tables_1) (a0 := a0) (ls0 := #[rv o733, iv ni734, iv xi735]) (plainFor_of_name pn_com_example_dayweave_dayweave_model_Range) hw Z0 (fun m => by first | (simp [entryFrame, mkF, argsToLocals, Value.category]; done) | rfl) ?_
  intro p e s m below meth c T Q' G' hQ hG C X
  have Kp : Keep h0 h0 [o733] := Keep.refl _ _
  refine s_aloadN 1 C X d34_0 rfl rfl ?_
  refine s_callC 4 [] [] 0 C X d34_1 rfl (mW 228 rfl) (mW 229 rfl) (mW 231 rfl) (mW 232 rfl) (rm_a736 l Z a0 hw o733 _ n0 X.sz ) (lenOf pd___V rfl) rfl rfl rfl (fun T v hh X q => ?_)
  obtain ⟨rfl, Kc⟩ := q
  have E_o733 := E_o733.keep Kc
  have F_o733_min := F_o733_min.keep Kc nin0
  have F_o733_max := F_o733_max.keep Kc nin0
  have Kp := Kp.trans Kc all0
  refine Run.cast (st' := []) rfl ?_
  refine s_aloadN 5 C X d34_4 rfl rfl ?_
  refine s_iloadN 6 C X d34_5 rfl ?_
  refine s_putfield 9 C X (host := "") d34_6 (Or.inl (mW 234 rfl)) Via.refl F_o733_min E_o733 (Or.inr ⟨(mW 235 rfl), rfl, rfl⟩) (mW 223 rfl) (ty := .int) (by decide) rfl rfl g_o733 (fun T hh X W => ?_)
  have E_o733 := E_o733.wr W
  have F_o733_min := F_o733_min.same W
  have F_o733_max := oth F_o733_max W (Or.inr (hw _ (mW 237 rfl))) (Or.inr (hw _ (mW 235 rfl))) (by decide)
  have Kp := Kp.wr W (Or.inl (by simp))
  refine s_aloadN 10 C X d34_9 rfl rfl ?_
  refine s_iloadN 11 C X d34_10 rfl ?_
  refine s_putfield 14 C X (host := "") d34_11 (Or.inl (mW 236 rfl)) Via.refl F_o733_max E_o733 (Or.inr ⟨(mW 237 rfl), rfl, rfl⟩) (mW 223 rfl) (ty := .int) (by decide) rfl rfl g_o733 (fun T hh X W => ?_)
  have E_o733 := E_o733.wr W
  have F_o733_min := oth F_o733_min W (Or.inr (hw _ (mW 235 rfl))) (Or.inr (hw _ (mW 237 rfl))) (by decide)
  have F_o733_max := F_o733_max.same W
  have Kp := Kp.wr W (Or.inl (by simp))
  refine s_return C X d34_14 rfl ?_ (FG hG (by decide) (by decide))
  exact hQ _ _ ⟨rfl, E_o733, F_o733_min, F_o733_max, Kp⟩
theorem rm_a739 (l : Launch) (Z : State) (a0 : Array Value) (hw : ∀ d ∈ tables_1, d.before a0 Z = true) (b2 : Addr) (o1 : Addr) (o2 : Addr) (o3 : Addr) (o4 : Addr) (o5 : Addr) (k_o2 : ClassId) (k_o3 : ClassId) (y303 : Int64) (y304 : Int64) (y305 : Int64) (y359 : Int64) (y360 : Int64) (y361 : Int64) (o514 : Addr) (o515 : Addr) (o516 : Addr) (o517 : Addr) (k_o515 : ClassId) (k_o516 : ClassId) (o543 : Addr) (k_o543 : ClassId) (h0 : Heap) (n0 : Nat) (Z0 : n0 ≤ h0.size) (E_b2 : Exa Z h0 b2 "java/lang/Integer") (F_b2_value : Fld Z h0 b2 "java/lang/Integer" "value" "I" (.int i2)) (F_o1_most : Fld Z h0 o1 "com/example/dayweave/dayweave/solve/TemporalNetwork" "most" "[[J" (.ref o2)) (A_o2 : Arv Z h0 o2 k_o2 (.array .long) i3 [(.ref o3), (.ref o4), (.ref o5)] .null) (A_o3 : Arv Z h0 o3 k_o3 .long i3 [(.long y303), (.long y304), (.long y305)] (.long j0)) (A_o5 : Arv Z h0 o5 k_o3 .long i3 [(.long y359), (.long y360), (.long y361)] (.long j0)) (E_o514 : Exa Z h0 o514 "com/example/dayweave/dayweave/solve/TemporalNetwork$Newcomer") (F_o514_this_0 : Fld Z h0 o514 "com/example/dayweave/dayweave/solve/TemporalNetwork$Newcomer" "this$0" "Lcom/example/dayweave/dayweave/solve/TemporalNetwork;" (.ref o1)) (F_o514_after : Fld Z h0 o514 "com/example/dayweave/dayweave/solve/TemporalNetwork$Newcomer" "after" "[J" (.ref o515)) (F_o514_before : Fld Z h0 o514 "com/example/dayweave/dayweave/solve/TemporalNetwork$Newcomer" "before" "[J" (.ref o516)) (F_o514_bounding : Fld Z h0 o514 "com/example/dayweave/dayweave/solve/TemporalNetwork$Newcomer" "bounding" "Ljava/util/List;" (.ref o517)) (A_o515 : Arv Z h0 o515 k_o515 .long i3 [(.long jU19), (.long jU19), (.long j0)] (.long j0)) (E_o517 : Exa Z h0 o517 "java/util/ArrayList") (F_o517_modCount : Fld Z h0 o517 "java/util/AbstractList" "modCount" "I" (.int i1)) (F_o517_elementData : Fld Z h0 o517 "java/util/ArrayList" "elementData" "[Ljava/lang/Object;" (.ref o543)) (F_o517_size : Fld Z h0 o517 "java/util/ArrayList" "size" "I" (.int i1)) (A_o543 : Arv Z h0 o543 k_o543 (.object "java/lang/Object") i10 [(.ref b2), .null, .null, .null, .null, .null, .null, .null, .null, .null] .null) (A_o516 : Arv Z h0 o516 k_o516 .long i3 [(.long jU19), (.long jU19), (.long j0)] (.long j0)) :
    Met l Z (⟨"com/example/dayweave/dayweave/solve/TemporalNetwork$Newcomer", "slots", "()Lcom/example/dayweave/dayweave/model/Range;"⟩ : MethodName) prog_68_method_5_code 7 (some (.object "com/example/dayweave/dayweave/model/Range")) { frames := 4, cells := 4, slots := 14, locals := 56 } [] #[(.ref o514)] h0 n0 (fun v h => (∃ (y579 : Int64) (y589 : Int64), v = some .null ∧ ((((y305).toInt = (2305843009213693951 : Int)) ∧ y579 = jU19) ∨ (∃ (y29_576 : Int64), (¬ ((y305).toInt = (2305843009213693951 : Int))) ∧ (((((y305 + j0)).toInt < (jU19).toInt) ∧ y29_576 = (y305 + j0)) ∨ ((¬ (((y305 + j0)).toInt < (jU19).toInt)) ∧ y29_576 = jU19)) ∧ y579 = y29_576)) ∧ ((((y359).toInt = (2305843009213693951 : Int)) ∧ y589 = jUm20) ∨ (∃ (y585 : Int64), (¬ ((y359).toInt = (2305843009213693951 : Int))) ∧ ((((jUm20).toInt < ((-(j0 + y359))).toInt) ∧ y585 = (-(j0 + y359))) ∨ ((¬ ((jUm20).toInt < ((-(j0 + y359))).toInt)) ∧ y585 = jUm20)) ∧ y589 = y585)) ∧ (XT.cmpL y579 jU19) = i0 ∧ Keep h0 h []) ∨ (∃ (y579 : Int64) (y589 : Int64), v = some .null ∧ ((((y305).toInt = (2305843009213693951 : Int)) ∧ y579 = jU19) ∨ (∃ (y29_576 : Int64), (¬ ((y305).toInt = (2305843009213693951 : Int))) ∧ (((((y305 + j0)).toInt < (jU19).toInt) ∧ y29_576 = (y305 + j0)) ∨ ((¬ (((y305 + j0)).toInt < (jU19).toInt)) ∧ y29_576 = jU19)) ∧ y579 = y29_576)) ∧ ((((y359).toInt = (2305843009213693951 : Int)) ∧ y589 = jUm20) ∨ (∃ (y585 : Int64), (¬ ((y359).toInt = (2305843009213693951 : Int))) ∧ ((((jUm20).toInt < ((-(j0 + y359))).toInt) ∧ y585 = (-(j0 + y359))) ∨ ((¬ ((jUm20).toInt < ((-(j0 + y359))).toInt)) ∧ y585 = jUm20)) ∧ y589 = y585)) ∧ ¬ (XT.cmpL y579 jU19) = i0 ∧ (XT.cmpL y589 jUm20) = i0 ∧ Keep h0 h []) ∨ (∃ (y579 : Int64) (y589 : Int64) (o733 : Addr) (ni734 : Int32) (xi735 : Int32), v = some (.ref o733) ∧ ((((y305).toInt = (2305843009213693951 : Int)) ∧ y579 = jU19) ∨ (∃ (y29_576 : Int64), (¬ ((y305).toInt = (2305843009213693951 : Int))) ∧ (((((y305 + j0)).toInt < (jU19).toInt) ∧ y29_576 = (y305 + j0)) ∨ ((¬ (((y305 + j0)).toInt < (jU19).toInt)) ∧ y29_576 = jU19)) ∧ y579 = y29_576)) ∧ ((((y359).toInt = (2305843009213693951 : Int)) ∧ y589 = jUm20) ∨ (∃ (y585 : Int64), (¬ ((y359).toInt = (2305843009213693951 : Int))) ∧ ((((jUm20).toInt < ((-(j0 + y359))).toInt) ∧ y585 = (-(j0 + y359))) ∨ ((¬ ((jUm20).toInt < ((-(j0 + y359))).toInt)) ∧ y585 = jUm20)) ∧ y589 = y585)) ∧ ¬ (XT.cmpL y579 jU19) = i0 ∧ ¬ (XT.cmpL y589 jUm20) = i0 ∧ ni734 = (y589).toInt32 ∧ xi735 = (y579).toInt32 ∧ Keep h0 h [] ∧ Exa Z h o733 "com/example/dayweave/dayweave/model/Range" ∧ Fld Z h o733 "com/example/dayweave/dayweave/model/Range" "min" "I" (.int ni734) ∧ Fld Z h o733 "com/example/dayweave/dayweave/model/Range" "max" "I" (.int xi735) ∧ h0.size ≤ o733 ∧ n0 ≤ o733) ∨ (∃ (y579 : Int64) (y589 : Int64), v = some .null ∧ ((((y305).toInt = (2305843009213693951 : Int)) ∧ y579 = jU19) ∨ (∃ (y29_576 : Int64), (¬ ((y305).toInt = (2305843009213693951 : Int))) ∧ (((((y305 + j0)).toInt < (jU19).toInt) ∧ y29_576 = (y305 + j0)) ∨ ((¬ (((y305 + j0)).toInt < (jU19).toInt)) ∧ y29_576 = jU19)) ∧ y579 = y29_576)) ∧ ((((y359).toInt = (2305843009213693951 : Int)) ∧ y589 = jUm20) ∨ (∃ (y585 : Int64), (¬ ((y359).toInt = (2305843009213693951 : Int))) ∧ ((((jUm20).toInt < ((-(j0 + y359))).toInt) ∧ y585 = (-(j0 + y359))) ∨ ((¬ ((jUm20).toInt < ((-(j0 + y359))).toInt)) ∧ y585 = jUm20)) ∧ y589 = y585)) ∧ ¬ (XT.cmpL y579 jU19) = i0 ∧ ¬ (XT.cmpL y589 jUm20) = i0 ∧ ¬ (XT.cmpL y361 jU19) = i0 ∧ (XT.cmpL ((j0 + y361) + j0) j0) < i0 ∧ Keep h0 h [])) := by
  refine Met.mkQ (tabs := tables_1) (a0 := a0) (ls0 := #[rv o514, .unset, .unset, .unset, .unset, .unset, .unset]) (plainFor_of_name pn_com_example_dayweave_dayweave_solve_TemporalNetwork_Newcomer) hw Z0 (fun m => by first | (simp [entryFrame, mkF, argsToLocals, Value.category]; done) | rfl) ?_
  intro p e s m below meth c T Q' G' hQ hG C X
  have Kp : Keep h0 h0 [] := Keep.refl _ _
  refine s_ldc2Long 3 C X d25_0 (mW 93 rfl) ?_
  refine s_lstoreN 4 C X (l' := #[rv o514, lv jU19, .second, .unset, .unset, .unset, .unset]) d25_3 rfl ?_
  refine s_ldc2Long 7 C X d25_4 (mW 156 rfl) ?_
  refine s_lstoreN 8 C X (l' := #[rv o514, lv jU19, .second, lv jUm20, .second, .unset, .unset]) d25_7 rfl ?_
  refine s_aloadN 9 C X d25_8 rfl rfl ?_
  refine s_getfield 12 C X (host := "") d25_9 (Or.inl (mW 91 rfl)) Via.refl F_o514_bounding (fun T X => ?_)
  refine s_callI 17 [] [] 0 C X d25_12 (mW 157 rfl) (mW 158 rfl) (mW 159 rfl) (mW 160 rfl) (mW 161 rfl) (mW 162 rfl) (mW 163 rfl) (mW 118 rfl) (mW 69 rfl) (mW 164 rfl) E_o517 (rm_a559 l Z a0 hw o517 _ n0 X.sz F_o517_modCount) (lenOf pd___Ljava_util_Iterator_ rfl) rfl rfl rfl (fun T v hh X q => ?_)
  obtain ⟨o557, rfl, Kc, E_o557, F_o557_this_0, F_o557_lastRet, F_o557_expectedModCount, F_o557_cursor, sz_o557', g_o557⟩ := q
  have ne_b2_o557 : b2 ≠ o557 := Nat.ne_of_lt (Nat.lt_of_lt_of_le E_b2.lt sz_o557')
  have ne_o1_o557 : o1 ≠ o557 := Nat.ne_of_lt (Nat.lt_of_lt_of_le F_o1_most.lt sz_o557')
  have ne_o2_o557 : o2 ≠ o557 := Nat.ne_of_lt (Nat.lt_of_lt_of_le A_o2.lt sz_o557')
  have ne_o3_o557 : o3 ≠ o557 := Nat.ne_of_lt (Nat.lt_of_lt_of_le A_o3.lt sz_o557')
  have ne_o5_o557 : o5 ≠ o557 := Nat.ne_of_lt (Nat.lt_of_lt_of_le A_o5.lt sz_o557')
  have ne_o514_o557 : o514 ≠ o557 := Nat.ne_of_lt (Nat.lt_of_lt_of_le E_o514.lt sz_o557')
  have ne_o515_o557 : o515 ≠ o557 := Nat.ne_of_lt (Nat.lt_of_lt_of_le A_o515.lt sz_o557')
  have ne_o517_o557 : o517 ≠ o557 := Nat.ne_of_lt (Nat.lt_of_lt_of_le E_o517.lt sz_o557')
  have ne_o543_o557 : o543 ≠ o557 := Nat.ne_of_lt (Nat.lt_of_lt_of_le A_o543.lt sz_o557')
  have ne_o516_o557 : o516 ≠ o557 := Nat.ne_of_lt (Nat.lt_of_lt_of_le A_o516.lt sz_o557')
  have sz_o557 : h0.size ≤ o557 := Nat.le_trans Kp.1 sz_o557'
  have E_b2 := E_b2.keep Kc
  have F_b2_value := F_b2_value.keep Kc nin0
  have F_o1_most := F_o1_most.keep Kc nin0
  have A_o2 := A_o2.keep Kc nin0
  have A_o3 := A_o3.keep Kc nin0
  have A_o5 := A_o5.keep Kc nin0
  have E_o514 := E_o514.keep Kc
  have F_o514_this_0 := F_o514_this_0.keep Kc nin0
  have F_o514_after := F_o514_after.keep Kc nin0
  have F_o514_before := F_o514_before.keep Kc nin0
  have F_o514_bounding := F_o514_bounding.keep Kc nin0
  have A_o515 := A_o515.keep Kc nin0
  have E_o517 := E_o517.keep Kc
  have F_o517_modCount := F_o517_modCount.keep Kc nin0
  have F_o517_elementData := F_o517_elementData.keep Kc nin0
  have F_o517_size := F_o517_size.keep Kc nin0
  have A_o543 := A_o543.keep Kc nin0
  have A_o516 := A_o516.keep Kc nin0
  have Kp := Kp.trans Kc all0
  refine Run.cast (st' := [(.ref o557)]) rfl ?_
  refine s_astore 19 C X (l' := #[rv o514, lv jU19, .second, lv jUm20, .second, rv o557, .unset]) d25_17 rfl rfl ?_
  refine s_aload 21 C X d25_19 rfl rfl ?_
  refine s_callI 26 [] [] 0 C X d25_21 (mW 180 rfl) (mW 181 rfl) (mW 182 rfl) (mW 183 rfl) (mW 184 rfl) (mW 185 rfl) (mW 186 rfl) (mW 187 rfl) (mW 167 rfl) (mW 188 rfl) E_o557 (rm_a561 l Z a0 hw o517 o557 _ n0 X.sz F_o517_size F_o557_this_0 F_o557_cursor) (lenOf pd___Z rfl) rfl rfl rfl (fun T v hh X q => ?_)
  obtain ⟨rfl, Kc⟩ := q
  have E_b2 := E_b2.keep Kc
  have F_b2_value := F_b2_value.keep Kc nin0
  have F_o1_most := F_o1_most.keep Kc nin0
  have A_o2 := A_o2.keep Kc nin0
  have A_o3 := A_o3.keep Kc nin0
  have A_o5 := A_o5.keep Kc nin0
  have E_o514 := E_o514.keep Kc
  have F_o514_this_0 := F_o514_this_0.keep Kc nin0
  have F_o514_after := F_o514_after.keep Kc nin0
  have F_o514_before := F_o514_before.keep Kc nin0
  have F_o514_bounding := F_o514_bounding.keep Kc nin0
  have A_o515 := A_o515.keep Kc nin0
  have E_o517 := E_o517.keep Kc
  have F_o517_modCount := F_o517_modCount.keep Kc nin0
  have F_o517_elementData := F_o517_elementData.keep Kc nin0
  have F_o517_size := F_o517_size.keep Kc nin0
  have A_o543 := A_o543.keep Kc nin0
  have A_o516 := A_o516.keep Kc nin0
  have Kp := Kp.trans Kc all0
  have E_o557 := E_o557.keep Kc
  have F_o557_this_0 := F_o557_this_0.keep Kc nin0
  have F_o557_lastRet := F_o557_lastRet.keep Kc nin0
  have F_o557_expectedModCount := F_o557_expectedModCount.keep Kc nin0
  have F_o557_cursor := F_o557_cursor.keep Kc nin0
  refine Run.cast (st' := [(.int i1)]) rfl ?_
  refine s_if_eq 164 29 C X d25_26 (fun c => absurd c (by decide)) (fun _ => ?_)
  refine s_aload 31 C X d25_29 rfl rfl ?_
  refine s_callI 36 [] [] 0 C X d25_31 (mW 192 rfl) (mW 193 rfl) (mW 194 rfl) (mW 195 rfl) (mW 196 rfl) (mW 197 rfl) (mW 198 rfl) (mW 187 rfl) (mW 167 rfl) (mW 199 rfl) E_o557 (rm_a567 l Z a0 hw b2 o517 o543 k_o543 o557 _ n0 X.sz F_o517_modCount F_o517_elementData F_o517_size A_o543 E_o557 F_o557_this_0 F_o557_lastRet F_o557_expectedModCount F_o557_cursor ne_o517_o557 ne_o543_o557 g_o557) (lenOf pd___Ljava_lang_Object_ rfl) rfl rfl rfl (fun T v hh X q => ?_)
  obtain ⟨rfl, E_o557, F_o557_this_0, F_o557_lastRet, F_o557_expectedModCount, F_o557_cursor, Kc⟩ := q
  have E_b2 := E_b2.keep Kc
  have F_b2_value := F_b2_value.keep Kc (ninS ne_b2_o557 nin0)
  have F_o1_most := F_o1_most.keep Kc (ninS ne_o1_o557 nin0)
  have A_o2 := A_o2.keep Kc (ninS ne_o2_o557 nin0)
  have A_o3 := A_o3.keep Kc (ninS ne_o3_o557 nin0)
  have A_o5 := A_o5.keep Kc (ninS ne_o5_o557 nin0)
  have E_o514 := E_o514.keep Kc
  have F_o514_this_0 := F_o514_this_0.keep Kc (ninS ne_o514_o557 nin0)
  have F_o514_after := F_o514_after.keep Kc (ninS ne_o514_o557 nin0)
  have F_o514_before := F_o514_before.keep Kc (ninS ne_o514_o557 nin0)
  have F_o514_bounding := F_o514_bounding.keep Kc (ninS ne_o514_o557 nin0)
  have A_o515 := A_o515.keep Kc (ninS ne_o515_o557 nin0)
  have E_o517 := E_o517.keep Kc
  have F_o517_modCount := F_o517_modCount.keep Kc (ninS ne_o517_o557 nin0)
  have F_o517_elementData := F_o517_elementData.keep Kc (ninS ne_o517_o557 nin0)
  have F_o517_size := F_o517_size.keep Kc (ninS ne_o517_o557 nin0)
  have A_o543 := A_o543.keep Kc (ninS ne_o543_o557 nin0)
  have A_o516 := A_o516.keep Kc (ninS ne_o516_o557 nin0)
  have Kp := Kp.trans Kc (allS (Or.inr sz_o557) all0)
  refine Run.cast (st' := [(.ref b2)]) rfl ?_
  refine s_castY 39 C X d25_36 (mW 206 rfl) (Ins.self E_b2) (fun T X => ?_)
  refine s_callV 42 [] [] 0 C X d25_39 (mW 208 rfl) (mW 209 rfl) (notFace_of_selects (args := #[]) (mvT C.2.1 (C.w (mW 211 rfl)))) (mW 211 rfl) (mW 210 rfl) (mW 106 rfl) (mW 212 rfl) E_b2 (rm_a568 l Z a0 hw b2 _ n0 X.sz F_b2_value) (lenOf pd___I rfl) rfl rfl rfl (fun T v hh X q => ?_)
  obtain ⟨rfl, Kc⟩ := q
  have E_b2 := E_b2.keep Kc
  have F_b2_value := F_b2_value.keep Kc nin0
  have F_o1_most := F_o1_most.keep Kc nin0
  have A_o2 := A_o2.keep Kc nin0
  have A_o3 := A_o3.keep Kc nin0
  have A_o5 := A_o5.keep Kc nin0
  have E_o514 := E_o514.keep Kc
  have F_o514_this_0 := F_o514_this_0.keep Kc nin0
  have F_o514_after := F_o514_after.keep Kc nin0
  have F_o514_before := F_o514_before.keep Kc nin0
  have F_o514_bounding := F_o514_bounding.keep Kc nin0
  have A_o515 := A_o515.keep Kc nin0
  have E_o517 := E_o517.keep Kc
  have F_o517_modCount := F_o517_modCount.keep Kc nin0
  have F_o517_elementData := F_o517_elementData.keep Kc nin0
  have F_o517_size := F_o517_size.keep Kc nin0
  have A_o543 := A_o543.keep Kc nin0
  have A_o516 := A_o516.keep Kc nin0
  have Kp := Kp.trans Kc all0
  have E_o557 := E_o557.keep Kc
  have F_o557_this_0 := F_o557_this_0.keep Kc nin0
  have F_o557_cursor := F_o557_cursor.keep Kc nin0
  refine Run.cast (st' := [(.int i2)]) rfl ?_
  refine s_istore 44 C X (l' := #[rv o514, lv jU19, .second, lv jUm20, .second, rv o557, iv i2]) d25_42 rfl ?_
  refine s_aloadN 45 C X d25_44 rfl rfl ?_
  refine s_getfield 48 C X (host := "") d25_45 (Or.inl (mW 63 rfl)) Via.refl F_o514_after (fun T X => ?_)
  refine s_iload 50 C X d25_48 rfl ?_
  refine s_laload 51 C X d25_50 A_o515 ⟨by decide, by decide⟩ (v := (.long j0)) rfl ?_
  refine s_ldc2Long 54 C X d25_51 (mW 93 rfl) ?_
  refine s_lcmp 55 C X d25_54 ?_
  refine Run.cast (st' := [(.int im1)]) (by rw [kf_4]) ?_
  suffices J580 : ∀ (T : State) (hh : Heap) (y579 : Int64) (D580 : (((y305).toInt = (2305843009213693951 : Int)) ∧ y579 = jU19) ∨ (∃ (y29_576 : Int64), (¬ ((y305).toInt = (2305843009213693951 : Int))) ∧ (((((y305 + j0)).toInt < (jU19).toInt) ∧ y29_576 = (y305 + j0)) ∨ ((¬ (((y305 + j0)).toInt < (jU19).toInt)) ∧ y29_576 = jU19)) ∧ y579 = y29_576)) (X : St p l e ({ frames := 4, cells := 4, slots := 14, locals := 56 } : Room) s m #[(.ref o514)] below meth c n0 T hh 1 4) (E_b2 : Exa Z hh b2 "java/lang/Integer") (F_b2_value : Fld Z hh b2 "java/lang/Integer" "value" "I" (.int i2)) (F_o1_most : Fld Z hh o1 "com/example/dayweave/dayweave/solve/TemporalNetwork" "most" "[[J" (.ref o2)) (A_o2 : Arv Z hh o2 k_o2 (.array .long) i3 [(.ref o3), (.ref o4), (.ref o5)] .null) (A_o5 : Arv Z hh o5 k_o3 .long i3 [(.long y359), (.long y360), (.long y361)] (.long j0)) (E_o514 : Exa Z hh o514 "com/example/dayweave/dayweave/solve/TemporalNetwork$Newcomer") (F_o514_this_0 : Fld Z hh o514 "com/example/dayweave/dayweave/solve/TemporalNetwork$Newcomer" "this$0" "Lcom/example/dayweave/dayweave/solve/TemporalNetwork;" (.ref o1)) (F_o514_after : Fld Z hh o514 "com/example/dayweave/dayweave/solve/TemporalNetwork$Newcomer" "after" "[J" (.ref o515)) (F_o514_before : Fld Z hh o514 "com/example/dayweave/dayweave/solve/TemporalNetwork$Newcomer" "before" "[J" (.ref o516)) (F_o514_bounding : Fld Z hh o514 "com/example/dayweave/dayweave/solve/TemporalNetwork$Newcomer" "bounding" "Ljava/util/List;" (.ref o517)) (A_o515 : Arv Z hh o515 k_o515 .long i3 [(.long jU19), (.long jU19), (.long j0)] (.long j0)) (E_o517 : Exa Z hh o517 "java/util/ArrayList") (F_o517_modCount : Fld Z hh o517 "java/util/AbstractList" "modCount" "I" (.int i1)) (F_o517_elementData : Fld Z hh o517 "java/util/ArrayList" "elementData" "[Ljava/lang/Object;" (.ref o543)) (F_o517_size : Fld Z hh o517 "java/util/ArrayList" "size" "I" (.int i1)) (A_o543 : Arv Z hh o543 k_o543 (.object "java/lang/Object") i10 [(.ref b2), .null, .null, .null, .null, .null, .null, .null, .null, .null] .null) (A_o516 : Arv Z hh o516 k_o516 .long i3 [(.long jU19), (.long jU19), (.long j0)] (.long j0)) (Kp : Keep h0 hh []) (E_o557 : Exa Z hh o557 "java/util/ArrayList$Itr") (F_o557_this_0 : Fld Z hh o557 "java/util/ArrayList$Itr" "this$0" "Ljava/util/ArrayList;" (.ref o517)) (F_o557_cursor : Fld Z hh o557 "java/util/ArrayList$Itr" "cursor" "I" (.int i1)), Run p e below n0 Q' G' m T 102 #[rv o514, lv y579, .second, lv jUm20, .second, rv o557, iv i2] [] by
    refine s_if_eq 102 58 C X d25_55 (fun c => absurd c (by decide)) (fun _ => ?_)
    refine s_aloadN 59 C X d25_58 rfl rfl ?_
    refine s_getfield 62 C X (host := "") d25_59 (Or.inl (mW 59 rfl)) Via.refl F_o514_this_0 (fun T X => ?_)
    refine s_getfield 65 C X d25_62 (Or.inr (mW 62 rfl)) Via.refl F_o1_most (fun T X => ?_)
    refine s_iconst 66 C X d25_65 kc_iconst_0 ?_
    refine s_aaload 67 C X d25_66 A_o2 rfl ⟨by decide, by decide⟩ (v := (.ref o3)) rfl ?_
    refine s_iload 69 C X d25_67 rfl ?_
    refine s_laload 70 C X d25_69 A_o3 ⟨by decide, by decide⟩ (v := (.long y305)) rfl ?_
    refine s_ldc2Long 73 C X d25_70 (mW 93 rfl) ?_
    refine s_lcmp 74 C X d25_73 ?_
    refine s_if_eq 102 77 C X d25_74 (fun c74_570 => ?_) (fun c74_570 => ?_)
    · have t_c74_570 : (y305).toInt = (2305843009213693951 : Int) := cl_eq.mp c74_570
      exact J580 T _ (jU19) ((Or.inl ⟨t_c74_570, rfl⟩)) X E_b2 F_b2_value F_o1_most A_o2 A_o5 E_o514 F_o514_this_0 F_o514_after F_o514_before F_o514_bounding A_o515 E_o517 F_o517_modCount F_o517_elementData F_o517_size A_o543 A_o516 Kp E_o557 F_o557_this_0 F_o557_cursor
    have t_c74_570 : ¬ ((y305).toInt = (2305843009213693951 : Int)) := fun q => c74_570 (cl_eq.mpr q)
    refine s_lloadN 78 C X d25_77 rfl ?_
    refine s_aloadN 79 C X d25_78 rfl rfl ?_
    refine s_getfield 82 C X (host := "") d25_79 (Or.inl (mW 59 rfl)) Via.refl F_o514_this_0 (fun T X => ?_)
    refine s_getfield 85 C X d25_82 (Or.inr (mW 62 rfl)) Via.refl F_o1_most (fun T X => ?_)
    refine s_iconst 86 C X d25_85 kc_iconst_0 ?_
    refine s_aaload 87 C X d25_86 A_o2 rfl ⟨by decide, by decide⟩ (v := (.ref o3)) rfl ?_
    refine s_iload 89 C X d25_87 rfl ?_
    refine s_laload 90 C X d25_89 A_o3 ⟨by decide, by decide⟩ (v := (.long y305)) rfl ?_
    refine s_aloadN 91 C X d25_90 rfl rfl ?_
    refine s_getfield 94 C X (host := "") d25_91 (Or.inl (mW 63 rfl)) Via.refl F_o514_after (fun T X => ?_)
    refine s_iload 96 C X d25_94 rfl ?_
    refine s_laload 97 C X d25_96 A_o515 ⟨by decide, by decide⟩ (v := (.long j0)) rfl ?_
    refine s_ladd 98 C X d25_97 ?_
    refine s_callS 101 [(.long jU19), (.long (y305 + j0))] [] 0 C X d25_98 (mW 145 rfl) (mW 29 rfl) (mW 30 rfl) (mW 31 rfl) (rm_a31 l Z a0 hw jU19 (y305 + j0) _ n0 X.sz ) (lenOf pd__JJ_J rfl) rfl rfl rfl (fun T v hh X q => ?_)
    obtain ⟨y29_576, rfl, D30_577, Kc⟩ := q
    have E_b2 := E_b2.keep Kc
    have F_b2_value := F_b2_value.keep Kc nin0
    have F_o1_most := F_o1_most.keep Kc nin0
    have A_o2 := A_o2.keep Kc nin0
    have A_o5 := A_o5.keep Kc nin0
    have E_o514 := E_o514.keep Kc
    have F_o514_this_0 := F_o514_this_0.keep Kc nin0
    have F_o514_after := F_o514_after.keep Kc nin0
    have F_o514_before := F_o514_before.keep Kc nin0
    have F_o514_bounding := F_o514_bounding.keep Kc nin0
    have A_o515 := A_o515.keep Kc nin0
    have E_o517 := E_o517.keep Kc
    have F_o517_modCount := F_o517_modCount.keep Kc nin0
    have F_o517_elementData := F_o517_elementData.keep Kc nin0
    have F_o517_size := F_o517_size.keep Kc nin0
    have A_o543 := A_o543.keep Kc nin0
    have A_o516 := A_o516.keep Kc nin0
    have Kp := Kp.trans Kc all0
    have E_o557 := E_o557.keep Kc
    have F_o557_this_0 := F_o557_this_0.keep Kc nin0
    have F_o557_cursor := F_o557_cursor.keep Kc nin0
    refine Run.cast (st' := [(.long y29_576)]) rfl ?_
    refine s_lstoreN 102 C X (l' := #[rv o514, lv y29_576, .second, lv jUm20, .second, rv o557, iv i2]) d25_101 rfl ?_
    exact J580 T _ (y29_576) (Or.inr ⟨y29_576, t_c74_570, D30_577, rfl⟩) X E_b2 F_b2_value F_o1_most A_o2 A_o5 E_o514 F_o514_this_0 F_o514_after F_o514_before F_o514_bounding A_o515 E_o517 F_o517_modCount F_o517_elementData F_o517_size A_o543 A_o516 Kp E_o557 F_o557_this_0 F_o557_cursor
  intro T hh y579 D580  X E_b2 F_b2_value F_o1_most A_o2 A_o5 E_o514 F_o514_this_0 F_o514_after F_o514_before F_o514_bounding A_o515 E_o517 F_o517_modCount F_o517_elementData F_o517_size A_o543 A_o516 Kp E_o557 F_o557_this_0 F_o557_cursor
  refine s_aloadN 103 C X d25_102 rfl rfl ?_
  refine s_getfield 106 C X (host := "") d25_103 (Or.inl (mW 65 rfl)) Via.refl F_o514_before (fun T X => ?_)
  refine s_iload 108 C X d25_106 rfl ?_
  refine s_laload 109 C X d25_108 A_o516 ⟨by decide, by decide⟩ (v := (.long j0)) rfl ?_
  refine s_ldc2Long 112 C X d25_109 (mW 93 rfl) ?_
  refine s_lcmp 113 C X d25_112 ?_
  refine Run.cast (st' := [(.int im1)]) (by rw [kf_4]) ?_
  suffices J590 : ∀ (T : State) (hh : Heap) (y589 : Int64) (D590 : (((y359).toInt = (2305843009213693951 : Int)) ∧ y589 = jUm20) ∨ (∃ (y585 : Int64), (¬ ((y359).toInt = (2305843009213693951 : Int))) ∧ ((((jUm20).toInt < ((-(j0 + y359))).toInt) ∧ y585 = (-(j0 + y359))) ∨ ((¬ ((jUm20).toInt < ((-(j0 + y359))).toInt)) ∧ y585 = jUm20)) ∧ y589 = y585)) (X : St p l e ({ frames := 4, cells := 4, slots := 14, locals := 56 } : Room) s m #[(.ref o514)] below meth c n0 T hh 1 4) (E_b2 : Exa Z hh b2 "java/lang/Integer") (F_b2_value : Fld Z hh b2 "java/lang/Integer" "value" "I" (.int i2)) (F_o1_most : Fld Z hh o1 "com/example/dayweave/dayweave/solve/TemporalNetwork" "most" "[[J" (.ref o2)) (A_o2 : Arv Z hh o2 k_o2 (.array .long) i3 [(.ref o3), (.ref o4), (.ref o5)] .null) (A_o5 : Arv Z hh o5 k_o3 .long i3 [(.long y359), (.long y360), (.long y361)] (.long j0)) (E_o514 : Exa Z hh o514 "com/example/dayweave/dayweave/solve/TemporalNetwork$Newcomer") (F_o514_this_0 : Fld Z hh o514 "com/example/dayweave/dayweave/solve/TemporalNetwork$Newcomer" "this$0" "Lcom/example/dayweave/dayweave/solve/TemporalNetwork;" (.ref o1)) (F_o514_after : Fld Z hh o514 "com/example/dayweave/dayweave/solve/TemporalNetwork$Newcomer" "after" "[J" (.ref o515)) (F_o514_before : Fld Z hh o514 "com/example/dayweave/dayweave/solve/TemporalNetwork$Newcomer" "before" "[J" (.ref o516)) (F_o514_bounding : Fld Z hh o514 "com/example/dayweave/dayweave/solve/TemporalNetwork$Newcomer" "bounding" "Ljava/util/List;" (.ref o517)) (A_o515 : Arv Z hh o515 k_o515 .long i3 [(.long jU19), (.long jU19), (.long j0)] (.long j0)) (E_o517 : Exa Z hh o517 "java/util/ArrayList") (F_o517_modCount : Fld Z hh o517 "java/util/AbstractList" "modCount" "I" (.int i1)) (F_o517_elementData : Fld Z hh o517 "java/util/ArrayList" "elementData" "[Ljava/lang/Object;" (.ref o543)) (F_o517_size : Fld Z hh o517 "java/util/ArrayList" "size" "I" (.int i1)) (A_o543 : Arv Z hh o543 k_o543 (.object "java/lang/Object") i10 [(.ref b2), .null, .null, .null, .null, .null, .null, .null, .null, .null] .null) (A_o516 : Arv Z hh o516 k_o516 .long i3 [(.long jU19), (.long jU19), (.long j0)] (.long j0)) (Kp : Keep h0 hh []) (E_o557 : Exa Z hh o557 "java/util/ArrayList$Itr") (F_o557_this_0 : Fld Z hh o557 "java/util/ArrayList$Itr" "this$0" "Ljava/util/ArrayList;" (.ref o517)) (F_o557_cursor : Fld Z hh o557 "java/util/ArrayList$Itr" "cursor" "I" (.int i1)), Run p e below n0 Q' G' m T 161 #[rv o514, lv y579, .second, lv y589, .second, rv o557, iv i2] [] by
    refine s_if_eq 161 116 C X d25_113 (fun c => absurd c (by decide)) (fun _ => ?_)
    refine s_aloadN 117 C X d25_116 rfl rfl ?_
    refine s_getfield 120 C X (host := "") d25_117 (Or.inl (mW 59 rfl)) Via.refl F_o514_this_0 (fun T X => ?_)
    refine s_getfield 123 C X d25_120 (Or.inr (mW 62 rfl)) Via.refl F_o1_most (fun T X => ?_)
    refine s_iload 125 C X d25_123 rfl ?_
    refine s_aaload 126 C X d25_125 A_o2 rfl ⟨by decide, by decide⟩ (v := (.ref o5)) rfl ?_
    refine s_iconst 127 C X d25_126 kc_iconst_0 ?_
    refine s_laload 128 C X d25_127 A_o5 ⟨by decide, by decide⟩ (v := (.long y359)) rfl ?_
    refine s_ldc2Long 131 C X d25_128 (mW 93 rfl) ?_
    refine s_lcmp 132 C X d25_131 ?_
    refine s_if_eq 161 135 C X d25_132 (fun c132_582 => ?_) (fun c132_582 => ?_)
    · have t_c132_582 : (y359).toInt = (2305843009213693951 : Int) := cl_eq.mp c132_582
      exact J590 T _ (jUm20) ((Or.inl ⟨t_c132_582, rfl⟩)) X E_b2 F_b2_value F_o1_most A_o2 A_o5 E_o514 F_o514_this_0 F_o514_after F_o514_before F_o514_bounding A_o515 E_o517 F_o517_modCount F_o517_elementData F_o517_size A_o543 A_o516 Kp E_o557 F_o557_this_0 F_o557_cursor
    have t_c132_582 : ¬ ((y359).toInt = (2305843009213693951 : Int)) := fun q => c132_582 (cl_eq.mpr q)
    refine s_lloadN 136 C X d25_135 rfl ?_
    refine s_aloadN 137 C X d25_136 rfl rfl ?_
    refine s_getfield 140 C X (host := "") d25_137 (Or.inl (mW 65 rfl)) Via.refl F_o514_before (fun T X => ?_)
    refine s_iload 142 C X d25_140 rfl ?_
    refine s_laload 143 C X d25_142 A_o516 ⟨by decide, by decide⟩ (v := (.long j0)) rfl ?_
    refine s_aloadN 144 C X d25_143 rfl rfl ?_
    refine s_getfield 147 C X (host := "") d25_144 (Or.inl (mW 59 rfl)) Via.refl F_o514_this_0 (fun T X => ?_)
    refine s_getfield 150 C X d25_147 (Or.inr (mW 62 rfl)) Via.refl F_o1_most (fun T X => ?_)
    refine s_iload 152 C X d25_150 rfl ?_
    refine s_aaload 153 C X d25_152 A_o2 rfl ⟨by decide, by decide⟩ (v := (.ref o5)) rfl ?_
    refine s_iconst 154 C X d25_153 kc_iconst_0 ?_
    refine s_laload 155 C X d25_154 A_o5 ⟨by decide, by decide⟩ (v := (.long y359)) rfl ?_
    refine s_ladd 156 C X d25_155 ?_
    refine s_lneg 157 C X d25_156 ?_
    refine s_callS 160 [(.long jUm20), (.long (-(j0 + y359)))] [] 0 C X d25_157 (mW 215 rfl) (mW 216 rfl) (mW 30 rfl) (mW 217 rfl) (rm_a587 l Z a0 hw jUm20 (-(j0 + y359)) _ n0 X.sz ) (lenOf pd__JJ_J rfl) rfl rfl rfl (fun T v hh X q => ?_)
    obtain ⟨y585, rfl, D586, Kc⟩ := q
    have E_b2 := E_b2.keep Kc
    have F_b2_value := F_b2_value.keep Kc nin0
    have F_o1_most := F_o1_most.keep Kc nin0
    have A_o2 := A_o2.keep Kc nin0
    have A_o5 := A_o5.keep Kc nin0
    have E_o514 := E_o514.keep Kc
    have F_o514_this_0 := F_o514_this_0.keep Kc nin0
    have F_o514_after := F_o514_after.keep Kc nin0
    have F_o514_before := F_o514_before.keep Kc nin0
    have F_o514_bounding := F_o514_bounding.keep Kc nin0
    have A_o515 := A_o515.keep Kc nin0
    have E_o517 := E_o517.keep Kc
    have F_o517_modCount := F_o517_modCount.keep Kc nin0
    have F_o517_elementData := F_o517_elementData.keep Kc nin0
    have F_o517_size := F_o517_size.keep Kc nin0
    have A_o543 := A_o543.keep Kc nin0
    have A_o516 := A_o516.keep Kc nin0
    have Kp := Kp.trans Kc all0
    have E_o557 := E_o557.keep Kc
    have F_o557_this_0 := F_o557_this_0.keep Kc nin0
    have F_o557_cursor := F_o557_cursor.keep Kc nin0
    refine Run.cast (st' := [(.long y585)]) rfl ?_
    refine s_lstoreN 161 C X (l' := #[rv o514, lv y579, .second, lv y585, .second, rv o557, iv i2]) d25_160 rfl ?_
    exact J590 T _ (y585) (Or.inr ⟨y585, t_c132_582, D586, rfl⟩) X E_b2 F_b2_value F_o1_most A_o2 A_o5 E_o514 F_o514_this_0 F_o514_after F_o514_before F_o514_bounding A_o515 E_o517 F_o517_modCount F_o517_elementData F_o517_size A_o543 A_o516 Kp E_o557 F_o557_this_0 F_o557_cursor
  intro T hh y589 D590  X E_b2 F_b2_value F_o1_most A_o2 A_o5 E_o514 F_o514_this_0 F_o514_after F_o514_before F_o514_bounding A_o515 E_o517 F_o517_modCount F_o517_elementData F_o517_size A_o543 A_o516 Kp E_o557 F_o557_this_0 F_o557_cursor
  refine s_goto 19 C X d25_161 ?_
  refine s_aload 21 C X d25_19 rfl rfl ?_
  refine s_callI 26 [] [] 0 C X d25_21 (mW 180 rfl) (mW 181 rfl) (mW 182 rfl) (mW 183 rfl) (mW 184 rfl) (mW 185 rfl) (mW 186 rfl) (mW 187 rfl) (mW 167 rfl) (mW 188 rfl) E_o557 (rm_a592 l Z a0 hw o517 o557 _ n0 X.sz F_o517_size F_o557_this_0 F_o557_cursor) (lenOf pd___Z rfl) rfl rfl rfl (fun T v hh X q => ?_)
  obtain ⟨rfl, Kc⟩ := q
  have E_b2 := E_b2.keep Kc
  have F_b2_value := F_b2_value.keep Kc nin0
  have F_o1_most := F_o1_most.keep Kc nin0
  have A_o2 := A_o2.keep Kc nin0
  have A_o5 := A_o5.keep Kc nin0
  have E_o514 := E_o514.keep Kc
  have F_o514_this_0 := F_o514_this_0.keep Kc nin0
  have F_o514_after := F_o514_after.keep Kc nin0
  have F_o514_before := F_o514_before.keep Kc nin0
  have F_o514_bounding := F_o514_bounding.keep Kc nin0
  have A_o515 := A_o515.keep Kc nin0
  have E_o517 := E_o517.keep Kc
  have F_o517_modCount := F_o517_modCount.keep Kc nin0
  have F_o517_elementData := F_o517_elementData.keep Kc nin0
  have F_o517_size := F_o517_size.keep Kc nin0
  have A_o543 := A_o543.keep Kc nin0
  have A_o516 := A_o516.keep Kc nin0
  have Kp := Kp.trans Kc all0
  refine Run.cast (st' := [(.int i0)]) rfl ?_
  refine s_if_eq 164 29 C X d25_26 (fun _ => ?_) (fun c => absurd (by decide : i0 = i0) c)
  refine s_lloadN 165 C X d25_164 rfl ?_
  refine s_ldc2Long 168 C X d25_165 (mW 93 rfl) ?_
  refine s_lcmp 169 C X d25_168 ?_
  refine s_if_eq 187 172 C X d25_169 (fun c169_643 => ?_) (fun c169_643 => ?_)
  · have t_c169_643 : (y579).toInt = (2305843009213693951 : Int) := cl_eq.mp c169_643
    refine s_aconstNull 188 C X d25_187 ?_
    refine s_areturn C X d25_188 rfl rfl rfl ?_ (FG hG (by decide) (by decide))
    exact hQ _ _ (Or.inl ⟨y579, y589, rfl, D580, D590, c169_643, Kp⟩)
  refine s_lloadN 173 C X d25_172 rfl ?_
  refine s_ldc2Long 176 C X d25_173 (mW 156 rfl) ?_
  refine s_lcmp 177 C X d25_176 ?_
  refine s_if_eq 187 180 C X d25_177 (fun c177_692 => ?_) (fun c177_692 => ?_)
  · have t_c177_692 : (y589).toInt = (jUm20).toInt := cl_eq.mp c177_692
    refine s_aconstNull 188 C X d25_187 ?_
    refine s_areturn C X d25_188 rfl rfl rfl ?_ (FG hG (by decide) (by decide))
    exact hQ _ _ (Or.inr (Or.inl ⟨y579, y589, rfl, D580, D590, c169_643, c177_692, Kp⟩))
  refine s_aloadN 181 C X d25_180 rfl rfl ?_
  refine s_callPI 184 [] [] 0 C X d25_181 (mW 218 rfl) (mW 219 rfl) (mW 54 rfl) (mW 220 rfl) (mW 55 rfl) (mW 221 rfl) E_o514 (rm_a634 l Z a0 hw b2 o1 o2 o3 o4 o5 k_o2 k_o3 y359 y360 y361 o514 o515 o516 o517 k_o515 k_o516 o543 k_o543 _ n0 X.sz E_b2 F_b2_value F_o1_most A_o2 A_o5 F_o514_this_0 F_o514_after F_o514_before F_o514_bounding A_o515 E_o517 F_o517_modCount F_o517_elementData F_o517_size A_o543 A_o516) (lenOf pd___Z rfl) rfl rfl rfl (fun T v hh X q => ?_)
  obtain ⟨rfl, Kc⟩ | ⟨rfl, c115_624, c137_625, Kc⟩ := q
  · have E_b2 := E_b2.keep Kc
    have Kp := Kp.trans Kc all0
    refine Run.cast (st' := [(.int i1)]) rfl ?_
    refine s_if_ne 189 187 C X d25_184 (fun _ => ?_) (fun c => absurd c (by decide))
    refine s_new 192 C X d25_189 (mW 222 rfl) (mW 223 rfl) (mW 224 rfl) (fun T hh o733 hb_o733 X E E_o733 D g_o733 => ?_)
    have sz_o733 : h0.size ≤ o733 := Nat.le_trans Kp.1 (Nat.le_of_eq hb_o733)
    have Kp := Kp.ext E
    have F_o733_min : Fld Z _ o733 "com/example/dayweave/dayweave/model/Range" "min" "I" (.int i0) := D (Or.inr (hw _ (mW 235 rfl))) (ty := .int) (by decide)
    have F_o733_max : Fld Z _ o733 "com/example/dayweave/dayweave/model/Range" "max" "I" (.int i0) := D (Or.inr (hw _ (mW 237 rfl))) (ty := .int) (by decide)
    refine s_dup 193 C X d25_192 rfl ?_
    refine s_lloadN 194 C X d25_193 rfl ?_
    refine s_l2i 195 C X d25_194 ?_
    obtain ⟨ni734, e_ni734⟩ : ∃ zz_ : Int32, zz_ = (y589).toInt32 := ⟨_, rfl⟩
    refine Run.cast (st' := [(.int ni734), (.ref o733), (.ref o733)]) (by subst e_ni734; rfl) ?_
    refine s_lloadN 196 C X d25_195 rfl ?_
    refine s_l2i 197 C X d25_196 ?_
    obtain ⟨xi735, e_xi735⟩ : ∃ zz_ : Int32, zz_ = (y579).toInt32 := ⟨_, rfl⟩
    refine Run.cast (st' := [(.int xi735), (.int ni734), (.ref o733), (.ref o733)]) (by subst e_xi735; rfl) ?_
    refine s_callC 200 [(.int ni734), (.int xi735)] [(.ref o733)] 1 C X d25_197 rfl (mW 225 rfl) (mW 226 rfl) (mW 224 rfl) (mW 227 rfl) (rm_a737 l Z a0 hw o733 ni734 xi735 _ n0 X.sz E_o733 F_o733_min F_o733_max g_o733) (lenOf pd__II_V rfl) rfl rfl rfl (fun T v hh X q => ?_)
    obtain ⟨rfl, E_o733, F_o733_min, F_o733_max, Kc⟩ := q
    have Kp := Kp.trans Kc (allS (Or.inr sz_o733) all0)
    refine Run.cast (st' := [(.ref o733)]) rfl ?_
    refine s_areturn C X d25_200 rfl rfl rfl ?_ (FG hG (by decide) (by decide))
    exact hQ _ _ (Or.inr (Or.inr (Or.inl ⟨y579, y589, o733, ni734, xi735, rfl, D580, D590, c169_643, c177_692, e_ni734, e_xi735, Kp, E_o733, F_o733_min, F_o733_max, sz_o733, g_o733⟩)))
  · have E_b2 := E_b2.keep Kc
    have Kp := Kp.trans Kc all0
    refine Run.cast (st' := [(.int i0)]) rfl ?_
    refine s_if_ne 189 187 C X d25_184 (fun c => absurd (by decide : i0 = i0) c) (fun _ => ?_)
    refine s_aconstNull 188 C X d25_187 ?_
    refine s_areturn C X d25_188 rfl rfl rfl ?_ (FG hG (by decide) (by decide))
    exact hQ _ _ (Or.inr (Or.inr (Or.inr ⟨y579, y589, rfl, D580, D590, c169_643, c177_692, c115_624, c137_625, Kp⟩)))
theorem rm_a752 (l : Launch) (Z : State) (a0 : Array Value) (hw : ∀ d ∈ tables_1, d.before a0 Z = true) (o733 : Addr) (ni734 : Int32) (h0 : Heap) (n0 : Nat) (Z0 : n0 ≤ h0.size) (F_o733_min : Fld Z h0 o733 "com/example/dayweave/dayweave/model/Range" "min" "I" (.int ni734)) :
    Met l Z (⟨"com/example/dayweave/dayweave/model/Range", "min", "()I"⟩ : MethodName) prog_11_method_6_code 1 (some .int) { frames := 0, cells := 0, slots := 0, locals := 0 } [] #[(.ref o733)] h0 n0 (fun v h => v = some (.int ni734) ∧ Keep h0 h []) := by
  refine Met.mkQ (tabs := tables_1) (a0 := a0) (ls0 := #[rv o733]) (plainFor_of_name pn_com_example_dayweave_dayweave_model_Range) hw Z0 (fun m => by first | (simp [entryFrame, mkF, argsToLocals, Value.category]; done) | rfl) ?_
  intro p e s m below meth c T Q' G' hQ hG C X
  have Kp : Keep h0 h0 [] := Keep.refl _ _
  refine s_aloadN 1 C X d36_0 rfl rfl ?_
  refine s_getfield 4 C X (host := "") d36_1 (Or.inl (mW 234 rfl)) Via.refl F_o733_min (fun T X => ?_)
  refine s_ireturn C X d36_4 rfl ?_ (FG hG (by decide) (by decide))
  exact hQ _ _ ⟨rfl, Kp⟩
theorem rm_a754 (l : Launch) (Z : State) (a0 : Array Value) (hw : ∀ d ∈ tables_1, d.before a0 Z = true) (o733 : Addr) (xi735 : Int32) (h0 : Heap) (n0 : Nat) (Z0 : n0 ≤ h0.size) (F_o733_max : Fld Z h0 o733 "com/example/dayweave/dayweave/model/Range" "max" "I" (.int xi735)) :
    Met l Z (⟨"com/example/dayweave/dayweave/model/Range", "max", "()I"⟩ : MethodName) prog_11_method_7_code 1 (some .int) { frames := 0, cells := 0, slots := 0, locals := 0 } [] #[(.ref o733)] h0 n0 (fun v h => v = some (.int xi735) ∧ Keep h0 h []) := by
  refine Met.mkQ (tabs := tables_1) (a0 := a0) (ls0 := #[rv o733]) (plainFor_of_name pn_com_example_dayweave_dayweave_model_Range) hw Z0 (fun m => by first | (simp [entryFrame, mkF, argsToLocals, Value.category]; done) | rfl) ?_
  intro p e s m below meth c T Q' G' hQ hG C X
  have Kp : Keep h0 h0 [] := Keep.refl _ _
  refine s_aloadN 1 C X d37_0 rfl rfl ?_
  refine s_getfield 4 C X (host := "") d37_1 (Or.inl (mW 236 rfl)) Via.refl F_o733_max (fun T X => ?_)
  refine s_ireturn C X d37_4 rfl ?_ (FG hG (by decide) (by decide))
  exact hQ _ _ ⟨rfl, Kp⟩
theorem rm_a817 (l : Launch) (Z : State) (a0 : Array Value) (hw : ∀ d ∈ tables_1, d.before a0 Z = true) (ac : Addr) (k_ac : ClassId) (vsC : List Value) (b1 : Addr) (h0 : Heap) (n0 : Nat) (Z0 : n0 ≤ h0.size) (S_high : Sta Z Z.heap "java/lang/Integer$IntegerCache" "high" "I" (.int i127)) (S_cache : Sta Z Z.heap "java/lang/Integer$IntegerCache" "cache" "[Ljava/lang/Integer;" (.ref ac)) (A_ac : Arv Z h0 ac k_ac (.object "java/lang/Integer") i256 vsC .null) (Od : Old Z n0 h0) (hv129 : vsC.getD i129.toNatClampNeg .null = .ref b1) :
    Met l Z (⟨"java/lang/Integer", "valueOf", "(I)Ljava/lang/Integer;"⟩ : MethodName) jdk_33_method_22_code 1 (some (.object "java/lang/Integer")) { frames := 0, cells := 0, slots := 0, locals := 0 } [] #[(.int i1)] h0 n0 (fun v h => v = some (.ref b1) ∧ Old Z n0 h ∧ Keep h0 h []) := by
  refine Met.mkQ (tabs := tables_1) (a0 := a0) (ls0 := #[iv i1]) (plainFor_of_name pn_java_lang_Integer) hw Z0 (fun m => by first | (simp [entryFrame, mkF, argsToLocals, Value.category]; done) | rfl) ?_
  intro p e s m below meth c T Q' G' hQ hG C X
  have Kp : Keep h0 h0 [] := Keep.refl _ _
  refine s_iloadN 1 C X d18_0 rfl ?_
  refine s_bipush 3 C X d18_1 kc_bipush_m128 ?_
  refine s_icmp_lt 23 6 C X d18_3 (fun c => absurd c (by decide)) (fun _ => ?_)
  refine s_iloadN 7 C X d18_6 rfl ?_
  refine s_getstatic 10 C X (host := "") d18_7 (Or.inl (mW 108 rfl)) Via.refl (S_high.ext Od.2) (fun T X => ?_)
  refine s_icmp_gt 23 13 C X d18_10 (fun c => absurd c (by decide)) (fun _ => ?_)
  refine s_getstatic 16 C X (host := "") d18_13 (Or.inl (mW 110 rfl)) Via.refl (S_cache.ext Od.2) (fun T X => ?_)
  refine s_iloadN 17 C X d18_16 rfl ?_
  refine s_sipush 20 C X d18_17 kc_sipush_128 ?_
  refine s_iadd 21 C X d18_20 ?_
  refine Run.cast (st' := [(.int i129), (.ref ac)]) (by rw [kf_6]) ?_
  refine s_aaload 22 C X d18_21 A_ac rfl ⟨by decide, by decide⟩ (v := (.ref b1)) hv129 ?_
  refine s_areturn C X d18_22 rfl rfl rfl ?_ (FG hG (by decide) (by decide))
  exact hQ _ _ ⟨rfl, Od, Kp⟩
theorem rm_a826 (l : Launch) (Z : State) (a0 : Array Value) (hw : ∀ d ∈ tables_1, d.before a0 Z = true) (de : Addr) (k_de : ClassId) (b1 : Addr) (o517 : Addr) (h0 : Heap) (n0 : Nat) (Z0 : n0 ≤ h0.size) (S_de : Sta Z Z.heap "java/util/ArrayList" "DEFAULTCAPACITY_EMPTY_ELEMENTDATA" "[Ljava/lang/Object;" (.ref de)) (A_de : Arv Z h0 de k_de (.object "java/lang/Object") i0 [] .null) (E_b1 : Exa Z h0 b1 "java/lang/Integer") (E_o517 : Exa Z h0 o517 "java/util/ArrayList") (F_o517_modCount : Fld Z h0 o517 "java/util/AbstractList" "modCount" "I" (.int i1)) (F_o517_elementData : Fld Z h0 o517 "java/util/ArrayList" "elementData" "[Ljava/lang/Object;" (.ref de)) (F_o517_size : Fld Z h0 o517 "java/util/ArrayList" "size" "I" (.int i0)) (Od : Old Z n0 h0) (ne_de_o517 : de ≠ o517) (g_o517 : n0 ≤ o517) :
    Met l Z (⟨"java/util/ArrayList", "add", "(Ljava/lang/Object;[Ljava/lang/Object;I)V"⟩ : MethodName) jdk_38_method_24_code 4 none { frames := 3, cells := 1, slots := 10, locals := 41 } [] #[(.ref o517), (.ref b1), (.ref de), (.int i0)] h0 n0 (fun v h => ∃ (o543 : Addr) (k_o543 : ClassId), v = none ∧ Keep h0 h [o517] ∧ Exa Z h o517 "java/util/ArrayList" ∧ Fld Z h o517 "java/util/AbstractList" "modCount" "I" (.int i1) ∧ Fld Z h o517 "java/util/ArrayList" "elementData" "[Ljava/lang/Object;" (.ref o543) ∧ Fld Z h o517 "java/util/ArrayList" "size" "I" (.int i1) ∧ Old Z n0 h ∧ Exa Z h o543 "[Ljava/lang/Object;" ∧ Arv Z h o543 k_o543 (.object "java/lang/Object") i10 [(.ref b1), .null, .null, .null, .null, .null, .null, .null, .null, .null] .null ∧ h0.size ≤ o543 ∧ n0 ≤ o543 ∧ o517 ≠ o543 ∧ Ovr Z k_o543 "java/lang/Object") := by
  refine Met.mkQ (tabs := tables_1) (a0 := a0) (ls0 := #[rv o517, rv b1, rv de, iv i0]) (plainFor_of_name pn_java_util_ArrayList) hw Z0 (fun m => by first | (simp [entryFrame, mkF, argsToLocals, Value.category]; done) | rfl) ?_
  intro p e s m below meth c T Q' G' hQ hG C X
  have Kp : Keep h0 h0 [o517] := Keep.refl _ _
  refine s_iloadN 1 C X d20_0 rfl ?_
  refine s_aloadN 2 C X d20_1 rfl rfl ?_
  refine s_arraylength 3 C X d20_2 A_de ?_
  refine s_icmp_ne 11 6 C X d20_3 (fun c => absurd (by decide : i0 = i0) c) (fun _ => ?_)
  refine s_aloadN 7 C X d20_6 rfl rfl ?_
  refine s_callP 10 [] [] 0 C X d20_7 (mW 129 rfl) (mW 130 rfl) (mW 132 rfl) (mW 131 rfl) (mW 69 rfl) (mW 133 rfl) E_o517 (rm_a545 l Z a0 hw de k_de o517 _ n0 X.sz S_de A_de E_o517 F_o517_modCount F_o517_elementData F_o517_size Od ne_de_o517 g_o517) (lenOf pd____Ljava_lang_Object_ rfl) rfl rfl rfl (fun T v hh X q => ?_)
  obtain ⟨o543, k_o543, rfl, Kc, E_o517, F_o517_modCount, F_o517_elementData, F_o517_size, Od, E_o543, A_o543, sz_o543', g_o543, ne_o517_o543, O_o543⟩ := q
  have sz_o543 : h0.size ≤ o543 := Nat.le_trans Kp.1 sz_o543'
  have E_b1 := E_b1.keep Kc
  have Kp := Kp.trans Kc (allS (Or.inl (by simp)) all0)
  refine Run.cast (st' := [(.ref o543)]) rfl ?_
  refine s_astoreN 11 C X (l' := #[rv o517, rv b1, rv o543, iv i0]) d20_10 rfl rfl ?_
  refine s_aloadN 12 C X d20_11 rfl rfl ?_
  refine s_iloadN 13 C X d20_12 rfl ?_
  refine s_aloadN 14 C X d20_13 rfl rfl ?_
  refine s_aastore 15 0 C X d20_14 A_o543 rfl rfl (fun _ A q => Sto.ofV A q O_o543 (Ins.of_exa E_b1 (C.w (mW 144 rfl)))) g_o543 ⟨by decide, by decide⟩ rfl (Nat.le_of_ble_eq_true rfl) (fun T hh X W A_o543 => ?_)
  have A_o543 : Arv Z _ o543 k_o543 (.object "java/lang/Object") i10 [(.ref b1), .null, .null, .null, .null, .null, .null, .null, .null, .null] .null := A_o543
  have Kp := Kp.wr W (Or.inr sz_o543)
  have E_o517 := E_o517.wr W
  have F_o517_modCount := F_o517_modCount.other W (Or.inl ne_o517_o543)
  have F_o517_elementData := F_o517_elementData.other W (Or.inl ne_o517_o543)
  have F_o517_size := F_o517_size.other W (Or.inl ne_o517_o543)
  have Od := Od.wr W g_o543
  have E_o543 := E_o543.wr W
  refine s_aloadN 16 C X d20_15 rfl rfl ?_
  refine s_iloadN 17 C X d20_16 rfl ?_
  refine s_iconst 18 C X d20_17 kc_iconst_1 ?_
  refine s_iadd 19 C X d20_18 ?_
  refine Run.cast (st' := [(.int i1), (.ref o517)]) (by rw [kf_2]) ?_
  refine s_putfield 22 C X (host := "") d20_19 (Or.inl (mW 122 rfl)) Via.refl F_o517_size E_o517 (Or.inl (mW 123 rfl)) (mW 68 rfl) (ty := .int) (by decide) rfl rfl g_o517 (fun T hh X W => ?_)
  have Kp := Kp.wr W (Or.inl (by simp))
  have E_o517 := E_o517.wr W
  have F_o517_modCount := oth F_o517_modCount W (Or.inl (hw _ (mW 87 rfl))) (Or.inl (hw _ (mW 123 rfl))) (by decide)
  have F_o517_elementData := oth F_o517_elementData W (Or.inl (hw _ (mW 90 rfl))) (Or.inl (hw _ (mW 123 rfl))) (by decide)
  have F_o517_size := F_o517_size.same W
  have Od := Od.wr W g_o517
  have E_o543 := E_o543.wr W
  have A_o543 := A_o543.other W (Ne.symm ne_o517_o543)
  refine s_return C X d20_22 rfl ?_ (FG hG (by decide) (by decide))
  exact hQ _ _ ⟨o543, k_o543, rfl, Kp, E_o517, F_o517_modCount, F_o517_elementData, F_o517_size, Od, E_o543, A_o543, sz_o543, g_o543, ne_o517_o543, O_o543⟩
theorem rm_a827 (l : Launch) (Z : State) (a0 : Array Value) (hw : ∀ d ∈ tables_1, d.before a0 Z = true) (de : Addr) (k_de : ClassId) (b1 : Addr) (o517 : Addr) (h0 : Heap) (n0 : Nat) (Z0 : n0 ≤ h0.size) (S_de : Sta Z Z.heap "java/util/ArrayList" "DEFAULTCAPACITY_EMPTY_ELEMENTDATA" "[Ljava/lang/Object;" (.ref de)) (A_de : Arv Z h0 de k_de (.object "java/lang/Object") i0 [] .null) (E_b1 : Exa Z h0 b1 "java/lang/Integer") (E_o517 : Exa Z h0 o517 "java/util/ArrayList") (F_o517_modCount : Fld Z h0 o517 "java/util/AbstractList" "modCount" "I" (.int i0)) (F_o517_elementData : Fld Z h0 o517 "java/util/ArrayList" "elementData" "[Ljava/lang/Object;" (.ref de)) (F_o517_size : Fld Z h0 o517 "java/util/ArrayList" "size" "I" (.int i0)) (Od : Old Z n0 h0) (ne_de_o517 : de ≠ o517) (g_o517 : n0 ≤ o517) :
    Met l Z (⟨"java/util/ArrayList", "add", "(Ljava/lang/Object;)Z"⟩ : MethodName) jdk_38_method_25_code 2 (some .boolean) { frames := 4, cells := 1, slots := 10, locals := 56 } [] #[(.ref o517), (.ref b1)] h0 n0 (fun v h => ∃ (o543 : Addr) (k_o543 : ClassId), v = some (.int i1) ∧ Keep h0 h [o517] ∧ Exa Z h o517 "java/util/ArrayList" ∧ Fld Z h o517 "java/util/AbstractList" "modCount" "I" (.int i1) ∧ Fld Z h o517 "java/util/ArrayList" "elementData" "[Ljava/lang/Object;" (.ref o543) ∧ Fld Z h o517 "java/util/ArrayList" "size" "I" (.int i1) ∧ Old Z n0 h ∧ Exa Z h o543 "[Ljava/lang/Object;" ∧ Arv Z h o543 k_o543 (.object "java/lang/Object") i10 [(.ref b1), .null, .null, .null, .null, .null, .null, .null, .null, .null] .null ∧ h0.size ≤ o543 ∧ n0 ≤ o543 ∧ o517 ≠ o543 ∧ Ovr Z k_o543 "java/lang/Object") := by
  refine Met.mkQ (tabs := tables_1) (a0 := a0) (ls0 := #[rv o517, rv b1]) (plainFor_of_name pn_java_util_ArrayList) hw Z0 (fun m => by first | (simp [entryFrame, mkF, argsToLocals, Value.category]; done) | rfl) ?_
  intro p e s m below meth c T Q' G' hQ hG C X
  have Kp : Keep h0 h0 [o517] := Keep.refl _ _
  refine s_aloadN 1 C X d19_0 rfl rfl ?_
  refine s_dup 2 C X d19_1 rfl ?_
  refine s_getfield 5 C X (host := "") d19_2 (Or.inl (mW 120 rfl)) (Via.of (C.w (mW 121 rfl))) F_o517_modCount (fun T X => ?_)
  refine s_iconst 6 C X d19_5 kc_iconst_1 ?_
  refine s_iadd 7 C X d19_6 ?_
  refine Run.cast (st' := [(.int i1), (.ref o517)]) (by rw [kf_2]) ?_
  refine s_putfield 10 C X (host := "") d19_7 (Or.inl (mW 120 rfl)) (Via.of (C.w (mW 121 rfl))) F_o517_modCount E_o517 (Or.inl (mW 87 rfl)) (mW 68 rfl) (ty := .int) (by decide) rfl rfl g_o517 (fun T hh X W => ?_)
  have A_de := A_de.other W ne_de_o517
  have E_b1 := E_b1.wr W
  have E_o517 := E_o517.wr W
  have F_o517_modCount := F_o517_modCount.same W
  have F_o517_elementData := oth F_o517_elementData W (Or.inl (hw _ (mW 90 rfl))) (Or.inl (hw _ (mW 87 rfl))) (by decide)
  have F_o517_size := oth F_o517_size W (Or.inl (hw _ (mW 123 rfl))) (Or.inl (hw _ (mW 87 rfl))) (by decide)
  have Od := Od.wr W g_o517
  have Kp := Kp.wr W (Or.inl (by simp))
  refine s_aloadN 11 C X d19_10 rfl rfl ?_
  refine s_aloadN 12 C X d19_11 rfl rfl ?_
  refine s_aloadN 13 C X d19_12 rfl rfl ?_
  refine s_getfield 16 C X (host := "") d19_13 (Or.inl (mW 89 rfl)) Via.refl F_o517_elementData (fun T X => ?_)
  refine s_aloadN 17 C X d19_16 rfl rfl ?_
  refine s_getfield 20 C X (host := "") d19_17 (Or.inl (mW 122 rfl)) Via.refl F_o517_size (fun T X => ?_)
  refine s_callP 23 [(.ref b1), (.ref de), (.int i0)] [] 0 C X d19_20 (mW 124 rfl) (mW 125 rfl) (mW 127 rfl) (mW 126 rfl) (mW 69 rfl) (mW 128 rfl) E_o517 (rm_a826 l Z a0 hw de k_de b1 o517 _ n0 X.sz S_de A_de E_b1 E_o517 F_o517_modCount F_o517_elementData F_o517_size Od ne_de_o517 g_o517) (lenOf pd__Ljava_lang_Object__Ljava_lang_Object_I_V rfl) rfl rfl rfl (fun T v hh X q => ?_)
  obtain ⟨o543, k_o543, rfl, Kc, E_o517, F_o517_modCount, F_o517_elementData, F_o517_size, Od, E_o543, A_o543, sz_o543', g_o543, ne_o517_o543, O_o543⟩ := q
  have sz_o543 : h0.size ≤ o543 := Nat.le_trans Kp.1 sz_o543'
  have Kp := Kp.trans Kc (allS (Or.inl (by simp)) all0)
  refine Run.cast (st' := []) rfl ?_
  refine s_iconst 24 C X d19_23 kc_iconst_1 ?_
  refine s_nreturn C X d19_24 rfl (by simp) rfl ?_ (FG hG (by decide) (by decide))
  exact hQ _ _ ⟨o543, k_o543, rfl, Kp, E_o517, F_o517_modCount, F_o517_elementData, F_o517_size, Od, E_o543, A_o543, sz_o543, g_o543, ne_o517_o543, O_o543⟩
theorem rm_a828 (l : Launch) (Z : State) (a0 : Array Value) (hw : ∀ d ∈ tables_1, d.before a0 Z = true) (ac : Addr) (k_ac : ClassId) (vsC : List Value) (de : Addr) (k_de : ClassId) (b1 : Addr) (o514 : Addr) (o515 : Addr) (o516 : Addr) (o517 : Addr) (k_o515 : ClassId) (k_o516 : ClassId) (h0 : Heap) (n0 : Nat) (Z0 : n0 ≤ h0.size) (S_high : Sta Z Z.heap "java/lang/Integer$IntegerCache" "high" "I" (.int i127)) (S_cache : Sta Z Z.heap "java/lang/Integer$IntegerCache" "cache" "[Ljava/lang/Integer;" (.ref ac)) (S_de : Sta Z Z.heap "java/util/ArrayList" "DEFAULTCAPACITY_EMPTY_ELEMENTDATA" "[Ljava/lang/Object;" (.ref de)) (A_ac : Arv Z h0 ac k_ac (.object "java/lang/Integer") i256 vsC .null) (A_de : Arv Z h0 de k_de (.object "java/lang/Object") i0 [] .null) (E_b1 : Exa Z h0 b1 "java/lang/Integer") (F_o514_after : Fld Z h0 o514 "com/example/dayweave/dayweave/solve/TemporalNetwork$Newcomer" "after" "[J" (.ref o515)) (F_o514_before : Fld Z h0 o514 "com/example/dayweave/dayweave/solve/TemporalNetwork$Newcomer" "before" "[J" (.ref o516)) (F_o514_bounding : Fld Z h0 o514 "com/example/dayweave/dayweave/solve/TemporalNetwork$Newcomer" "bounding" "Ljava/util/List;" (.ref o517)) (Od : Old Z n0 h0) (E_o517 : Exa Z h0 o517 "java/util/ArrayList") (F_o517_modCount : Fld Z h0 o517 "java/util/AbstractList" "modCount" "I" (.int i0)) (F_o517_elementData : Fld Z h0 o517 "java/util/ArrayList" "elementData" "[Ljava/lang/Object;" (.ref de)) (F_o517_size : Fld Z h0 o517 "java/util/ArrayList" "size" "I" (.int i0)) (A_o515 : Arv Z h0 o515 k_o515 .long i3 [(.long jU19), (.long jU19), (.long jU19)] (.long j0)) (A_o516 : Arv Z h0 o516 k_o516 .long i3 [(.long jU19), (.long jU19), (.long jU19)] (.long j0)) (hv129 : vsC.getD i129.toNatClampNeg .null = .ref b1) (ne_ac_o517 : ac ≠ o517) (ne_de_o517 : de ≠ o517) (g_o517 : n0 ≤ o517) (ne_o514_o517 : o514 ≠ o517) (ne_o515_o517 : o515 ≠ o517) (ne_o516_o517 : o516 ≠ o517) :
    Met l Z (⟨"com/example/dayweave/dayweave/solve/TemporalNetwork$Newcomer", "note", "(I)V"⟩ : MethodName) prog_68_method_4_code 2 none { frames := 5, cells := 1, slots := 10, locals := 69 } [] #[(.ref o514), (.int i1)] h0 n0 (fun v h => ∃ (o543 : Addr) (k_o543 : ClassId), v = none ∧ Keep h0 h [o517] ∧ Exa Z h o517 "java/util/ArrayList" ∧ Fld Z h o517 "java/util/AbstractList" "modCount" "I" (.int i1) ∧ Fld Z h o517 "java/util/ArrayList" "elementData" "[Ljava/lang/Object;" (.ref o543) ∧ Fld Z h o517 "java/util/ArrayList" "size" "I" (.int i1) ∧ Old Z n0 h ∧ Exa Z h o543 "[Ljava/lang/Object;" ∧ Arv Z h o543 k_o543 (.object "java/lang/Object") i10 [(.ref b1), .null, .null, .null, .null, .null, .null, .null, .null, .null] .null ∧ h0.size ≤ o543 ∧ n0 ≤ o543 ∧ o517 ≠ o543 ∧ Ovr Z k_o543 "java/lang/Object") := by
  refine Met.mkQ (tabs := tables_1) (a0 := a0) (ls0 := #[rv o514, iv i1]) (plainFor_of_name pn_com_example_dayweave_dayweave_solve_TemporalNetwork_Newcomer) hw Z0 (fun m => by first | (simp [entryFrame, mkF, argsToLocals, Value.category]; done) | rfl) ?_
  intro p e s m below meth c T Q' G' hQ hG C X
  have Kp : Keep h0 h0 [o517] := Keep.refl _ _
  refine s_aloadN 1 C X d17_0 rfl rfl ?_
  refine s_getfield 4 C X (host := "") d17_1 (Or.inl (mW 63 rfl)) Via.refl F_o514_after (fun T X => ?_)
  refine s_iloadN 5 C X d17_4 rfl ?_
  refine s_laload 6 C X d17_5 A_o515 ⟨by decide, by decide⟩ (v := (.long jU19)) rfl ?_
  refine s_ldc2Long 9 C X d17_6 (mW 93 rfl) ?_
  refine s_lcmp 10 C X d17_9 ?_
  refine Run.cast (st' := [(.int i0)]) (by rw [kf_0]) ?_
  refine s_if_ne 40 13 C X d17_10 (fun c => absurd (by decide : i0 = i0) c) (fun _ => ?_)
  refine s_aloadN 14 C X d17_13 rfl rfl ?_
  refine s_getfield 17 C X (host := "") d17_14 (Or.inl (mW 65 rfl)) Via.refl F_o514_before (fun T X => ?_)
  refine s_iloadN 18 C X d17_17 rfl ?_
  refine s_laload 19 C X d17_18 A_o516 ⟨by decide, by decide⟩ (v := (.long jU19)) rfl ?_
  refine s_ldc2Long 22 C X d17_19 (mW 93 rfl) ?_
  refine s_lcmp 23 C X d17_22 ?_
  refine Run.cast (st' := [(.int i0)]) (by rw [kf_0]) ?_
  refine s_if_ne 40 26 C X d17_23 (fun c => absurd (by decide : i0 = i0) c) (fun _ => ?_)
  refine s_aloadN 27 C X d17_26 rfl rfl ?_
  refine s_getfield 30 C X (host := "") d17_27 (Or.inl (mW 91 rfl)) Via.refl F_o514_bounding (fun T X => ?_)
  refine s_iloadN 31 C X d17_30 rfl ?_
  refine s_callS 34 [(.int i1)] [(.ref o517)] 1 C X d17_31 (mW 104 rfl) (mW 105 rfl) (mW 106 rfl) (mW 107 rfl) (rm_a817 l Z a0 hw ac k_ac vsC b1 _ n0 X.sz S_high S_cache A_ac Od hv129) (lenOf pd__I_Ljava_lang_Integer_ rfl) rfl rfl rfl (fun T v hh X q => ?_)
  obtain ⟨rfl, Od, Kc⟩ := q
  have A_de := A_de.keep Kc nin0
  have E_b1 := E_b1.keep Kc
  have E_o517 := E_o517.keep Kc
  have F_o517_modCount := F_o517_modCount.keep Kc nin0
  have F_o517_elementData := F_o517_elementData.keep Kc nin0
  have F_o517_size := F_o517_size.keep Kc nin0
  have Kp := Kp.trans Kc all0
  refine Run.cast (st' := [(.ref b1), (.ref o517)]) rfl ?_
  refine s_callI 39 [(.ref b1)] [] 0 C X d17_34 (mW 111 rfl) (mW 112 rfl) (mW 113 rfl) (mW 114 rfl) (mW 115 rfl) (mW 116 rfl) (mW 117 rfl) (mW 118 rfl) (mW 69 rfl) (mW 119 rfl) E_o517 (rm_a827 l Z a0 hw de k_de b1 o517 _ n0 X.sz S_de A_de E_b1 E_o517 F_o517_modCount F_o517_elementData F_o517_size Od ne_de_o517 g_o517) (lenOf pd__Ljava_lang_Object__Z rfl) rfl rfl rfl (fun T v hh X q => ?_)
  obtain ⟨o543, k_o543, rfl, Kc, E_o517, F_o517_modCount, F_o517_elementData, F_o517_size, Od, E_o543, A_o543, sz_o543', g_o543, ne_o517_o543, O_o543⟩ := q
  have sz_o543 : h0.size ≤ o543 := Nat.le_trans Kp.1 sz_o543'
  have Kp := Kp.trans Kc (allS (Or.inl (by simp)) all0)
  refine Run.cast (st' := [(.int i1)]) rfl ?_
  refine s_pop 40 C X d17_39 rfl ?_
  refine s_return C X d17_40 rfl ?_ (FG hG (by decide) (by decide))
  exact hQ _ _ ⟨o543, k_o543, rfl, Kp, E_o517, F_o517_modCount, F_o517_elementData, F_o517_size, Od, E_o543, A_o543, sz_o543, g_o543, ne_o517_o543, O_o543⟩
theorem rm_a831 (l : Launch) (Z : State) (a0 : Array Value) (hw : ∀ d ∈ tables_1, d.before a0 Z = true) (ac : Addr) (k_ac : ClassId) (vsC : List Value) (de : Addr) (k_de : ClassId) (b1 : Addr) (o514 : Addr) (o515 : Addr) (o516 : Addr) (o517 : Addr) (k_o515 : ClassId) (k_o516 : ClassId) (h0 : Heap) (n0 : Nat) (Z0 : n0 ≤ h0.size) (S_high : Sta Z Z.heap "java/lang/Integer$IntegerCache" "high" "I" (.int i127)) (S_cache : Sta Z Z.heap "java/lang/Integer$IntegerCache" "cache" "[Ljava/lang/Integer;" (.ref ac)) (S_de : Sta Z Z.heap "java/util/ArrayList" "DEFAULTCAPACITY_EMPTY_ELEMENTDATA" "[Ljava/lang/Object;" (.ref de)) (A_ac : Arv Z h0 ac k_ac (.object "java/lang/Integer") i256 vsC .null) (A_de : Arv Z h0 de k_de (.object "java/lang/Object") i0 [] .null) (E_b1 : Exa Z h0 b1 "java/lang/Integer") (E_o514 : Exa Z h0 o514 "com/example/dayweave/dayweave/solve/TemporalNetwork$Newcomer") (F_o514_after : Fld Z h0 o514 "com/example/dayweave/dayweave/solve/TemporalNetwork$Newcomer" "after" "[J" (.ref o515)) (F_o514_before : Fld Z h0 o514 "com/example/dayweave/dayweave/solve/TemporalNetwork$Newcomer" "before" "[J" (.ref o516)) (F_o514_bounding : Fld Z h0 o514 "com/example/dayweave/dayweave/solve/TemporalNetwork$Newcomer" "bounding" "Ljava/util/List;" (.ref o517)) (Od : Old Z n0 h0) (E_o517 : Exa Z h0 o517 "java/util/ArrayList") (F_o517_modCount : Fld Z h0 o517 "java/util/AbstractList" "modCount" "I" (.int i0)) (F_o517_elementData : Fld Z h0 o517 "java/util/ArrayList" "elementData" "[Ljava/lang/Object;" (.ref de)) (F_o517_size : Fld Z h0 o517 "java/util/ArrayList" "size" "I" (.int i0)) (A_o515 : Arv Z h0 o515 k_o515 .long i3 [(.long jU19), (.long jU19), (.long jU19)] (.long j0)) (A_o516 : Arv Z h0 o516 k_o516 .long i3 [(.long jU19), (.long jU19), (.long jU19)] (.long j0)) (hv129 : vsC.getD i129.toNatClampNeg .null = .ref b1) (ne_ac_o515 : ac ≠ o515) (ne_de_o515 : de ≠ o515) (g_o515 : n0 ≤ o515) (ne_ac_o517 : ac ≠ o517) (ne_de_o517 : de ≠ o517) (g_o517 : n0 ≤ o517) (ne_o514_o515 : o514 ≠ o515) (ne_o515_o516 : o515 ≠ o516) (ne_o514_o517 : o514 ≠ o517) (ne_o515_o517 : o515 ≠ o517) (ne_o516_o517 : o516 ≠ o517) :
    Met l Z (⟨"com/example/dayweave/dayweave/solve/TemporalNetwork$Newcomer", "atMostAfter", "(IJ)V"⟩ : MethodName) prog_68_method_2_code 4 none { frames := 6, cells := 1, slots := 10, locals := 82 } [] #[(.ref o514), (.int i1), (.long j0)] h0 n0 (fun v h => ∃ (o543 : Addr) (k_o543 : ClassId), v = none ∧ Arv Z h o515 k_o515 .long i3 [(.long jU19), (.long j0), (.long jU19)] (.long j0) ∧ Keep h0 h [o515, o517] ∧ Exa Z h o517 "java/util/ArrayList" ∧ Fld Z h o517 "java/util/AbstractList" "modCount" "I" (.int i1) ∧ Fld Z h o517 "java/util/ArrayList" "elementData" "[Ljava/lang/Object;" (.ref o543) ∧ Fld Z h o517 "java/util/ArrayList" "size" "I" (.int i1) ∧ Old Z n0 h ∧ Exa Z h o543 "[Ljava/lang/Object;" ∧ Arv Z h o543 k_o543 (.object "java/lang/Object") i10 [(.ref b1), .null, .null, .null, .null, .null, .null, .null, .null, .null] .null ∧ o515 ≠ o543 ∧ h0.size ≤ o543 ∧ n0 ≤ o543 ∧ o517 ≠ o543 ∧ Ovr Z k_o543 "java/lang/Object") := by
  refine Met.mkQ (tabs := tables_1) (a0 := a0) (ls0 := #[rv o514, iv i1, lv j0, .second]) (plainFor_of_name pn_com_example_dayweave_dayweave_solve_TemporalNetwork_Newcomer) hw Z0 (fun m => by first | (simp [entryFrame, mkF, argsToLocals, Value.category]; done) | rfl) ?_
  intro p e s m below meth c T Q' G' hQ hG C X
  have Kp : Keep h0 h0 [o515, o517] := Keep.refl _ _
  refine s_aloadN 1 C X d16_0 rfl rfl ?_
  refine s_iloadN 2 C X d16_1 rfl ?_
  refine s_callPI 5 [(.int i1)] [] 0 C X d16_2 (mW 100 rfl) (mW 101 rfl) (mW 54 rfl) (mW 102 rfl) (mW 55 rfl) (mW 103 rfl) E_o514 (rm_a828 l Z a0 hw ac k_ac vsC de k_de b1 o514 o515 o516 o517 k_o515 k_o516 _ n0 X.sz S_high S_cache S_de A_ac A_de E_b1 F_o514_after F_o514_before F_o514_bounding Od E_o517 F_o517_modCount F_o517_elementData F_o517_size A_o515 A_o516 hv129 ne_ac_o517 ne_de_o517 g_o517 ne_o514_o517 ne_o515_o517 ne_o516_o517) (lenOf pd__I_V rfl) rfl rfl rfl (fun T v hh X q => ?_)
  obtain ⟨o543, k_o543, rfl, Kc, E_o517, F_o517_modCount, F_o517_elementData, F_o517_size, Od, E_o543, A_o543, sz_o543', g_o543, ne_o517_o543, O_o543⟩ := q
  have ne_o515_o543 : o515 ≠ o543 := Nat.ne_of_lt (Nat.lt_of_lt_of_le A_o515.lt sz_o543')
  have sz_o543 : h0.size ≤ o543 := Nat.le_trans Kp.1 sz_o543'
  have F_o514_after := F_o514_after.keep Kc (ninS ne_o514_o517 nin0)
  have A_o515 := A_o515.keep Kc (ninS ne_o515_o517 nin0)
  have Kp := Kp.trans Kc (allS (Or.inl (by simp)) all0)
  refine Run.cast (st' := []) rfl ?_
  refine s_aloadN 6 C X d16_5 rfl rfl ?_
  refine s_getfield 9 C X (host := "") d16_6 (Or.inl (mW 63 rfl)) Via.refl F_o514_after (fun T X => ?_)
  refine s_iloadN 10 C X d16_9 rfl ?_
  refine s_aloadN 11 C X d16_10 rfl rfl ?_
  refine s_getfield 14 C X (host := "") d16_11 (Or.inl (mW 63 rfl)) Via.refl F_o514_after (fun T X => ?_)
  refine s_iloadN 15 C X d16_14 rfl ?_
  refine s_laload 16 C X d16_15 A_o515 ⟨by decide, by decide⟩ (v := (.long jU19)) rfl ?_
  refine s_lloadN 17 C X d16_16 rfl ?_
  refine s_callS 20 [(.long jU19), (.long j0)] [(.int i1), (.ref o515)] 2 C X d16_17 (mW 145 rfl) (mW 29 rfl) (mW 30 rfl) (mW 31 rfl) (rm_a550 l Z a0 hw  _ n0 X.sz ) (lenOf pd__JJ_J rfl) rfl rfl rfl (fun T v hh X q => ?_)
  obtain ⟨rfl, Kc⟩ := q
  have A_o515 := A_o515.keep Kc nin0
  have Kp := Kp.trans Kc all0
  have E_o517 := E_o517.keep Kc
  have F_o517_modCount := F_o517_modCount.keep Kc nin0
  have F_o517_elementData := F_o517_elementData.keep Kc nin0
  have F_o517_size := F_o517_size.keep Kc nin0
  have Od := Od.keep Kc all0
  have E_o543 := E_o543.keep Kc
  have A_o543 := A_o543.keep Kc nin0
  refine Run.cast (st' := [(.long j0), (.int i1), (.ref o515)]) rfl ?_
  refine s_lastore 21 1 C X d16_20 A_o515 g_o515 ⟨by decide, by decide⟩ rfl (Nat.le_of_ble_eq_true rfl) (fun T hh X W A_o515 => ?_)
  have A_o515 : Arv Z _ o515 k_o515 .long i3 [(.long jU19), (.long j0), (.long jU19)] (.long j0) := A_o515
  have Kp := Kp.wr W (Or.inl (by simp))
  have E_o517 := E_o517.wr W
  have F_o517_modCount := F_o517_modCount.other W (Or.inl (Ne.symm ne_o515_o517))
  have F_o517_elementData := F_o517_elementData.other W (Or.inl (Ne.symm ne_o515_o517))
  have F_o517_size := F_o517_size.other W (Or.inl (Ne.symm ne_o515_o517))
  have Od := Od.wr W g_o515
  have E_o543 := E_o543.wr W
  have A_o543 := A_o543.other W (Ne.symm ne_o515_o543)
  refine s_return C X d16_21 rfl ?_ (FG hG (by decide) (by decide))
  exact hQ _ _ ⟨o543, k_o543, rfl, A_o515, Kp, E_o517, F_o517_modCount, F_o517_elementData, F_o517_size, Od, E_o543, A_o543, ne_o515_o543, sz_o543, g_o543, ne_o517_o543, O_o543⟩
theorem rm_a833 (l : Launch) (Z : State) (a0 : Array Value) (hw : ∀ d ∈ tables_1, d.before a0 Z = true) (o514 : Addr) (o515 : Addr) (k_o515 : ClassId) (h0 : Heap) (n0 : Nat) (Z0 : n0 ≤ h0.size) (F_o514_after : Fld Z h0 o514 "com/example/dayweave/dayweave/solve/TemporalNetwork$Newcomer" "after" "[J" (.ref o515)) (A_o515 : Arv Z h0 o515 k_o515 .long i3 [(.long jU19), (.long j0), (.long jU19)] (.long j0)) :
    Met l Z (⟨"com/example/dayweave/dayweave/solve/TemporalNetwork$Newcomer", "note", "(I)V"⟩ : MethodName) prog_68_method_4_code 2 none { frames := 0, cells := 0, slots := 0, locals := 0 } [] #[(.ref o514), (.int i1)] h0 n0 (fun v h => v = none ∧ Keep h0 h []) := by
  refine Met.mkQ (tabs := tables_1) (a0 := a0) (ls0 := #[rv o514, iv i1]) (plainFor_of_name pn_com_example_dayweave_dayweave_solve_TemporalNetwork_Newcomer) hw Z0 (fun m => by first | (simp [entryFrame, mkF, argsToLocals, Value.category]; done) | rfl) ?_
  intro p e s m below meth c T Q' G' hQ hG C X
  have Kp : Keep h0 h0 [] := Keep.refl _ _
  refine s_aloadN 1 C X d17_0 rfl rfl ?_
  refine s_getfield 4 C X (host := "") d17_1 (Or.inl (mW 63 rfl)) Via.refl F_o514_after (fun T X => ?_)
  refine s_iloadN 5 C X d17_4 rfl ?_
  refine s_laload 6 C X d17_5 A_o515 ⟨by decide, by decide⟩ (v := (.long j0)) rfl ?_
  refine s_ldc2Long 9 C X d17_6 (mW 93 rfl) ?_
  refine s_lcmp 10 C X d17_9 ?_
  refine Run.cast (st' := [(.int im1)]) (by rw [kf_4]) ?_
  refine s_if_ne 40 13 C X d17_10 (fun _ => ?_) (fun c => absurd c (by decide))
  refine s_return C X d17_40 rfl ?_ (FG hG (by decide) (by decide))
  exact hQ _ _ ⟨rfl, Kp⟩
theorem rm_a836 (l : Launch) (Z : State) (a0 : Array Value) (hw : ∀ d ∈ tables_1, d.before a0 Z = true) (o514 : Addr) (o515 : Addr) (o516 : Addr) (k_o515 : ClassId) (k_o516 : ClassId) (h0 : Heap) (n0 : Nat) (Z0 : n0 ≤ h0.size) (E_o514 : Exa Z h0 o514 "com/example/dayweave/dayweave/solve/TemporalNetwork$Newcomer") (F_o514_after : Fld Z h0 o514 "com/example/dayweave/dayweave/solve/TemporalNetwork$Newcomer" "after" "[J" (.ref o515)) (F_o514_before : Fld Z h0 o514 "com/example/dayweave/dayweave/solve/TemporalNetwork$Newcomer" "before" "[J" (.ref o516)) (A_o516 : Arv Z h0 o516 k_o516 .long i3 [(.long jU19), (.long jU19), (.long jU19)] (.long j0)) (A_o515 : Arv Z h0 o515 k_o515 .long i3 [(.long jU19), (.long j0), (.long jU19)] (.long j0)) (g_o516 : n0 ≤ o516) (ne_o514_o516 : o514 ≠ o516) (ne_o515_o516 : o515 ≠ o516) :
    Met l Z (⟨"com/example/dayweave/dayweave/solve/TemporalNetwork$Newcomer", "atLeastAfter", "(IJ)V"⟩ : MethodName) prog_68_method_3_code 4 none { frames := 1, cells := 0, slots := 0, locals := 17 } [] #[(.ref o514), (.int i1), (.long j0)] h0 n0 (fun v h => v = none ∧ Arv Z h o516 k_o516 .long i3 [(.long jU19), (.long j0), (.long jU19)] (.long j0) ∧ Keep h0 h [o516]) := by
  refine Met.mkQ (tabs := tables_1) (a0 := a0) (ls0 := #[rv o514, iv i1, lv j0, .second]) (plainFor_of_name pn_com_example_dayweave_dayweave_solve_TemporalNetwork_Newcomer) hw Z0 (fun m => by first | (simp [entryFrame, mkF, argsToLocals, Value.category]; done) | rfl) ?_
  intro p e s m below meth c T Q' G' hQ hG C X
  have Kp : Keep h0 h0 [o516] := Keep.refl _ _
  refine s_aloadN 1 C X d24_0 rfl rfl ?_
  refine s_iloadN 2 C X d24_1 rfl ?_
  refine s_callPI 5 [(.int i1)] [] 0 C X d24_2 (mW 100 rfl) (mW 101 rfl) (mW 54 rfl) (mW 102 rfl) (mW 55 rfl) (mW 103 rfl) E_o514 (rm_a833 l Z a0 hw o514 o515 k_o515 _ n0 X.sz F_o514_after A_o515) (lenOf pd__I_V rfl) rfl rfl rfl (fun T v hh X q => ?_)
  obtain ⟨rfl, Kc⟩ := q
  have F_o514_before := F_o514_before.keep Kc nin0
  have A_o516 := A_o516.keep Kc nin0
  have Kp := Kp.trans Kc all0
  refine Run.cast (st' := []) rfl ?_
  refine s_aloadN 6 C X d24_5 rfl rfl ?_
  refine s_getfield 9 C X (host := "") d24_6 (Or.inl (mW 65 rfl)) Via.refl F_o514_before (fun T X => ?_)
  refine s_iloadN 10 C X d24_9 rfl ?_
  refine s_aloadN 11 C X d24_10 rfl rfl ?_
  refine s_getfield 14 C X (host := "") d24_11 (Or.inl (mW 65 rfl)) Via.refl F_o514_before (fun T X => ?_)
  refine s_iloadN 15 C X d24_14 rfl ?_
  refine s_laload 16 C X d24_15 A_o516 ⟨by decide, by decide⟩ (v := (.long jU19)) rfl ?_
  refine s_lloadN 17 C X d24_16 rfl ?_
  refine s_lneg 18 C X d24_17 ?_
  refine Run.cast (st' := [(.long j0), (.long jU19), (.int i1), (.ref o516)]) (by rw [kf_5]) ?_
  refine s_callS 21 [(.long jU19), (.long j0)] [(.int i1), (.ref o516)] 2 C X d24_18 (mW 145 rfl) (mW 29 rfl) (mW 30 rfl) (mW 31 rfl) (rm_a550 l Z a0 hw  _ n0 X.sz ) (lenOf pd__JJ_J rfl) rfl rfl rfl (fun T v hh X q => ?_)
  obtain ⟨rfl, Kc⟩ := q
  have A_o516 := A_o516.keep Kc nin0
  have Kp := Kp.trans Kc all0
  refine Run.cast (st' := [(.long j0), (.int i1), (.ref o516)]) rfl ?_
  refine s_lastore 22 1 C X d24_21 A_o516 g_o516 ⟨by decide, by decide⟩ rfl (Nat.le_of_ble_eq_true rfl) (fun T hh X W A_o516 => ?_)
  have A_o516 : Arv Z _ o516 k_o516 .long i3 [(.long jU19), (.long j0), (.long jU19)] (.long j0) := A_o516
  have Kp := Kp.wr W (Or.inl (by simp))
  refine s_return C X d24_22 rfl ?_ (FG hG (by decide) (by decide))
  exact hQ _ _ ⟨rfl, A_o516, Kp⟩
theorem rm_a847 (l : Launch) (Z : State) (a0 : Array Value) (hw : ∀ d ∈ tables_1, d.before a0 Z = true) (b1 : Addr) (o517 : Addr) (o543 : Addr) (k_o543 : ClassId) (o557 : Addr) (h0 : Heap) (n0 : Nat) (Z0 : n0 ≤ h0.size) (F_o517_modCount : Fld Z h0 o517 "java/util/AbstractList" "modCount" "I" (.int i1)) (F_o517_elementData : Fld Z h0 o517 "java/util/ArrayList" "elementData" "[Ljava/lang/Object;" (.ref o543)) (F_o517_size : Fld Z h0 o517 "java/util/ArrayList" "size" "I" (.int i1)) (A_o543 : Arv Z h0 o543 k_o543 (.object "java/lang/Object") i10 [(.ref b1), .null, .null, .null, .null, .null, .null, .null, .null, .null] .null) (E_o557 : Exa Z h0 o557 "java/util/ArrayList$Itr") (F_o557_this_0 : Fld Z h0 o557 "java/util/ArrayList$Itr" "this$0" "Ljava/util/ArrayList;" (.ref o517)) (F_o557_lastRet : Fld Z h0 o557 "java/util/ArrayList$Itr" "lastRet" "I" (.int im1)) (F_o557_expectedModCount : Fld Z h0 o557 "java/util/ArrayList$Itr" "expectedModCount" "I" (.int i1)) (F_o557_cursor : Fld Z h0 o557 "java/util/ArrayList$Itr" "cursor" "I" (.int i0)) (ne_o517_o557 : o517 ≠ o557) (ne_o543_o557 : o543 ≠ o557) (g_o557 : n0 ≤ o557) :
    Met l Z (⟨"java/util/ArrayList$Itr", "next", "()Ljava/lang/Object;"⟩ : MethodName) jdk_49_method_3_code 3 (some (.object "java/lang/Object")) { frames := 1, cells := 0, slots := 0, locals := 12 } [] #[(.ref o557)] h0 n0 (fun v h => v = some (.ref b1) ∧ Exa Z h o557 "java/util/ArrayList$Itr" ∧ Fld Z h o557 "java/util/ArrayList$Itr" "this$0" "Ljava/util/ArrayList;" (.ref o517) ∧ Fld Z h o557 "java/util/ArrayList$Itr" "lastRet" "I" (.int i0) ∧ Fld Z h o557 "java/util/ArrayList$Itr" "expectedModCount" "I" (.int i1) ∧ Fld Z h o557 "java/util/ArrayList$Itr" "cursor" "I" (.int i1) ∧ Keep h0 h [o557]) := by
  refine Met.mkQ (tabs := tables_1) (a0 := a0) (ls0 := #[rv o557, .unset, .unset]) (plainFor_of_name pn_java_util_ArrayList_Itr) hw Z0 (fun m => by first | (simp [entryFrame, mkF, argsToLocals, Value.category]; done) | rfl) ?_
  intro p e s m below meth c T Q' G' hQ hG C X
  have Kp : Keep h0 h0 [o557] := Keep.refl _ _
  refine s_aloadN 1 C X d29_0 rfl rfl ?_
  refine s_callV 4 [] [] 0 C X d29_1 (mW 200 rfl) (mW 201 rfl) (notFace_of_selects (args := #[]) (mvT C.2.1 (C.w (mW 203 rfl)))) (mW 203 rfl) (mW 202 rfl) (mW 167 rfl) (mW 204 rfl) E_o557 (rm_a564 l Z a0 hw o517 o557 _ n0 X.sz F_o517_modCount F_o557_this_0 F_o557_expectedModCount) (lenOf pd___V rfl) rfl rfl rfl (fun T v hh X q => ?_)
  obtain ⟨rfl, Kc⟩ := q
  have F_o517_elementData := F_o517_elementData.keep Kc nin0
  have F_o517_size := F_o517_size.keep Kc nin0
  have A_o543 := A_o543.keep Kc nin0
  have E_o557 := E_o557.keep Kc
  have F_o557_this_0 := F_o557_this_0.keep Kc nin0
  have F_o557_lastRet := F_o557_lastRet.keep Kc nin0
  have F_o557_expectedModCount := F_o557_expectedModCount.keep Kc nin0
  have F_o557_cursor := F_o557_cursor.keep Kc nin0
  have Kp := Kp.trans Kc all0
  refine Run.cast (st' := []) rfl ?_
  refine s_aloadN 5 C X d29_4 rfl rfl ?_
  refine s_getfield 8 C X (host := "") d29_5 (Or.inl (mW 189 rfl)) Via.refl F_o557_cursor (fun T X => ?_)
  refine s_istoreN 9 C X (l' := #[rv o557, iv i0, .unset]) d29_8 rfl ?_
  refine s_iloadN 10 C X d29_9 rfl ?_
  refine s_aloadN 11 C X d29_10 rfl rfl ?_
  refine s_getfield 14 C X (host := "") d29_11 (Or.inl (mW 172 rfl)) Via.refl F_o557_this_0 (fun T X => ?_)
  refine s_getfield 17 C X d29_14 (Or.inr (mW 191 rfl)) Via.refl F_o517_size (fun T X => ?_)
  refine s_icmp_lt 28 20 C X d29_17 (fun _ => ?_) (fun c => absurd (by decide : i0 < i1) c)
  refine s_aloadN 29 C X d29_28 rfl rfl ?_
  refine s_getfield 32 C X (host := "") d29_29 (Or.inl (mW 172 rfl)) Via.refl F_o557_this_0 (fun T X => ?_)
  refine s_getfield 35 C X (host := "") d29_32 (Or.inl (mW 205 rfl)) Via.refl F_o517_elementData (fun T X => ?_)
  refine s_astoreN 36 C X (l' := #[rv o557, iv i0, rv o543]) d29_35 rfl rfl ?_
  refine s_iloadN 37 C X d29_36 rfl ?_
  refine s_aloadN 38 C X d29_37 rfl rfl ?_
  refine s_arraylength 39 C X d29_38 A_o543 ?_
  refine s_icmp_lt 50 42 C X d29_39 (fun _ => ?_) (fun c => absurd (by decide : i0 < i10) c)
  refine s_aloadN 51 C X d29_50 rfl rfl ?_
  refine s_iloadN 52 C X d29_51 rfl ?_
  refine s_iconst 53 C X d29_52 kc_iconst_1 ?_
  refine s_iadd 54 C X d29_53 ?_
  refine Run.cast (st' := [(.int i1), (.ref o557)]) (by rw [kf_2]) ?_
  refine s_putfield 57 C X (host := "") d29_54 (Or.inl (mW 189 rfl)) Via.refl F_o557_cursor E_o557 (Or.inl (mW 190 rfl)) (mW 166 rfl) (ty := .int) (by decide) rfl rfl g_o557 (fun T hh X W => ?_)
  have A_o543 := A_o543.other W ne_o543_o557
  have E_o557 := E_o557.wr W
  have F_o557_this_0 := oth F_o557_this_0 W (Or.inr (hw _ (mW 173 rfl))) (Or.inl (hw _ (mW 190 rfl))) (by decide)
  have F_o557_lastRet := oth F_o557_lastRet W (Or.inl (hw _ (mW 176 rfl))) (Or.inl (hw _ (mW 190 rfl))) (by decide)
  have F_o557_expectedModCount := oth F_o557_expectedModCount W (Or.inl (hw _ (mW 179 rfl))) (Or.inl (hw _ (mW 190 rfl))) (by decide)
  have F_o557_cursor := F_o557_cursor.same W
  have Kp := Kp.wr W (Or.inl (by simp))
  refine s_aloadN 58 C X d29_57 rfl rfl ?_
  refine s_aloadN 59 C X d29_58 rfl rfl ?_
  refine s_iloadN 60 C X d29_59 rfl ?_
  refine s_dupX1 61 C X d29_60 rfl rfl ?_
  refine s_putfield 64 C X (host := "") d29_61 (Or.inl (mW 175 rfl)) Via.refl F_o557_lastRet E_o557 (Or.inl (mW 176 rfl)) (mW 166 rfl) (ty := .int) (by decide) rfl rfl g_o557 (fun T hh X W => ?_)
  have A_o543 := A_o543.other W ne_o543_o557
  have E_o557 := E_o557.wr W
  have F_o557_this_0 := oth F_o557_this_0 W (Or.inr (hw _ (mW 173 rfl))) (Or.inl (hw _ (mW 176 rfl))) (by decide)
  have F_o557_lastRet := F_o557_lastRet.same W
  have F_o557_expectedModCount := oth F_o557_expectedModCount W (Or.inl (hw _ (mW 179 rfl))) (Or.inl (hw _ (mW 176 rfl))) (by decide)
  have F_o557_cursor := oth F_o557_cursor W (Or.inl (hw _ (mW 190 rfl))) (Or.inl (hw _ (mW 176 rfl))) (by decide)
  have Kp := Kp.wr W (Or.inl (by simp))
  refine s_aaload 65 C X d29_64 A_o543 rfl ⟨by decide, by decide⟩ (v := (.ref b1)) rfl ?_
  refine s_areturn C X d29_65 rfl rfl rfl ?_ (FG hG (by decide) (by decide))
  exact hQ _ _ ⟨rfl, E_o557, F_o557_this_0, F_o557_lastRet, F_o557_expectedModCount, F_o557_cursor, Kp⟩
theorem rm_a848 (l : Launch) (Z : State) (a0 : Array Value) (hw : ∀ d ∈ tables_1, d.before a0 Z = true) (b1 : Addr) (h0 : Heap) (n0 : Nat) (Z0 : n0 ≤ h0.size) (F_b1_value : Fld Z h0 b1 "java/lang/Integer" "value" "I" (.int i1)) :
    Met l Z (⟨"java/lang/Integer", "intValue", "()I"⟩ : MethodName) jdk_33_method_27_code 1 (some .int) { frames := 0, cells := 0, slots := 0, locals := 0 } [] #[(.ref b1)] h0 n0 (fun v h => v = some (.int i1) ∧ Keep h0 h []) := by
  refine Met.mkQ (tabs := tables_1) (a0 := a0) (ls0 := #[rv b1]) (plainFor_of_name pn_java_lang_Integer) hw Z0 (fun m => by first | (simp [entryFrame, mkF, argsToLocals, Value.category]; done) | rfl) ?_
  intro p e s m below meth c T Q' G' hQ hG C X
  have Kp : Keep h0 h0 [] := Keep.refl _ _
  refine s_aloadN 1 C X d31_0 rfl rfl ?_
  refine s_getfield 4 C X (host := "") d31_1 (Or.inl (mW 213 rfl)) Via.refl F_b1_value (fun T X => ?_)
  refine s_ireturn C X d31_4 rfl ?_ (FG hG (by decide) (by decide))
  exact hQ _ _ ⟨rfl, Kp⟩
theorem rm_a881 (l : Launch) (Z : State) (a0 : Array Value) (hw : ∀ d ∈ tables_1, d.before a0 Z = true) (o517 : Addr) (o557_879 : Addr) (h0 : Heap) (n0 : Nat) (Z0 : n0 ≤ h0.size) (F_o517_size : Fld Z h0 o517 "java/util/ArrayList" "size" "I" (.int i1)) (F_o557_879_this_0 : Fld Z h0 o557_879 "java/util/ArrayList$Itr" "this$0" "Ljava/util/ArrayList;" (.ref o517)) (F_o557_879_cursor : Fld Z h0 o557_879 "java/util/ArrayList$Itr" "cursor" "I" (.int i0)) :
    Met l Z (⟨"java/util/ArrayList$Itr", "hasNext", "()Z"⟩ : MethodName) jdk_49_method_2_code 1 (some .boolean) { frames := 0, cells := 0, slots := 0, locals := 0 } [] #[(.ref o557_879)] h0 n0 (fun v h => v = some (.int i1) ∧ Keep h0 h []) := by
  refine Met.mkQ (tabs := tables_1) (a0 := a0) (ls0 := #[rv o557_879]) (plainFor_of_name pn_java_util_ArrayList_Itr) hw Z0 (fun m => by first | (simp [entryFrame, mkF, argsToLocals, Value.category]; done) | rfl) ?_
  intro p e s m below meth c T Q' G' hQ hG C X
  have Kp : Keep h0 h0 [] := Keep.refl _ _
  refine s_aloadN 1 C X d28_0 rfl rfl ?_
  refine s_getfield 4 C X (host := "") d28_1 (Or.inl (mW 189 rfl)) Via.refl F_o557_879_cursor (fun T X => ?_)
  refine s_aloadN 5 C X d28_4 rfl rfl ?_
  refine s_getfield 8 C X (host := "") d28_5 (Or.inl (mW 172 rfl)) Via.refl F_o557_879_this_0 (fun T X => ?_)
  refine s_getfield 11 C X d28_8 (Or.inr (mW 191 rfl)) Via.refl F_o517_size (fun T X => ?_)
  refine s_icmp_eq 18 14 C X d28_11 (fun c => absurd c (by decide)) (fun _ => ?_)
  refine s_iconst 15 C X d28_14 kc_iconst_1 ?_
  refine s_goto 19 C X d28_15 ?_
  refine s_nreturn C X d28_19 rfl (by simp) rfl ?_ (FG hG (by decide) (by decide))
  exact hQ _ _ ⟨rfl, Kp⟩
theorem rm_a884 (l : Launch) (Z : State) (a0 : Array Value) (hw : ∀ d ∈ tables_1, d.before a0 Z = true) (o517 : Addr) (o557_879 : Addr) (h0 : Heap) (n0 : Nat) (Z0 : n0 ≤ h0.size) (F_o517_modCount : Fld Z h0 o517 "java/util/AbstractList" "modCount" "I" (.int i1)) (F_o557_879_this_0 : Fld Z h0 o557_879 "java/util/ArrayList$Itr" "this$0" "Ljava/util/ArrayList;" (.ref o517)) (F_o557_879_expectedModCount : Fld Z h0 o557_879 "java/util/ArrayList$Itr" "expectedModCount" "I" (.int i1)) :
    Met l Z (⟨"java/util/ArrayList$Itr", "checkForComodification", "()V"⟩ : MethodName) jdk_49_method_6_code 1 none { frames := 0, cells := 0, slots := 0, locals := 0 } [] #[(.ref o557_879)] h0 n0 (fun v h => v = none ∧ Keep h0 h []) := by
  refine Met.mkQ (tabs := tables_1) (a0 := a0) (ls0 := #[rv o557_879]) (plainFor_of_name pn_java_util_ArrayList_Itr) hw Z0 (fun m => by first | (simp [entryFrame, mkF, argsToLocals, Value.category]; done) | rfl) ?_
  intro p e s m below meth c T Q' G' hQ hG C X
  have Kp : Keep h0 h0 [] := Keep.refl _ _
  refine s_aloadN 1 C X d30_0 rfl rfl ?_
  refine s_getfield 4 C X (host := "") d30_1 (Or.inl (mW 172 rfl)) Via.refl F_o557_879_this_0 (fun T X => ?_)
  refine s_getfield 7 C X (host := "") d30_4 (Or.inl (mW 177 rfl)) (Via.of (C.w (mW 121 rfl))) F_o517_modCount (fun T X => ?_)
  refine s_aloadN 8 C X d30_7 rfl rfl ?_
  refine s_getfield 11 C X (host := "") d30_8 (Or.inl (mW 178 rfl)) Via.refl F_o557_879_expectedModCount (fun T X => ?_)
  refine s_icmp_eq 22 14 C X d30_11 (fun _ => ?_) (fun c => absurd (by decide : i1 = i1) c)
  refine s_return C X d30_22 rfl ?_ (FG hG (by decide) (by decide))
  exact hQ _ _ ⟨rfl, Kp⟩
theorem rm_a887 (l : Launch) (Z : State) (a0 : Array Value) (hw : ∀ d ∈ tables_1, d.before a0 Z = true) (b1 : Addr) (o517 : Addr) (o543 : Addr) (k_o543 : ClassId) (o557_879 : Addr) (h0 : Heap) (n0 : Nat) (Z0 : n0 ≤ h0.size) (F_o517_modCount : Fld Z h0 o517 "java/util/AbstractList" "modCount" "I" (.int i1)) (F_o517_elementData : Fld Z h0 o517 "java/util/ArrayList" "elementData" "[Ljava/lang/Object;" (.ref o543)) (F_o517_size : Fld Z h0 o517 "java/util/ArrayList" "size" "I" (.int i1)) (A_o543 : Arv Z h0 o543 k_o543 (.object "java/lang/Object") i10 [(.ref b1), .null, .null, .null, .null, .null, .null, .null, .null, .null] .null) (E_o557_879 : Exa Z h0 o557_879 "java/util/ArrayList$Itr") (F_o557_879_this_0 : Fld Z h0 o557_879 "java/util/ArrayList$Itr" "this$0" "Ljava/util/ArrayList;" (.ref o517)) (F_o557_879_lastRet : Fld Z h0 o557_879 "java/util/ArrayList$Itr" "lastRet" "I" (.int im1)) (F_o557_879_expectedModCount : Fld Z h0 o557_879 "java/util/ArrayList$Itr" "expectedModCount" "I" (.int i1)) (F_o557_879_cursor : Fld Z h0 o557_879 "java/util/ArrayList$Itr" "cursor" "I" (.int i0)) (ne_o517_o557_879 : o517 ≠ o557_879) (ne_o543_o557_879 : o543 ≠ o557_879) (g_o557_879 : n0 ≤ o557_879) :
    Met l Z (⟨"java/util/ArrayList$Itr", "next", "()Ljava/lang/Object;"⟩ : MethodName) jdk_49_method_3_code 3 (some (.object "java/lang/Object")) { frames := 1, cells := 0, slots := 0, locals := 12 } [] #[(.ref o557_879)] h0 n0 (fun v h => v = some (.ref b1) ∧ Exa Z h o557_879 "java/util/ArrayList$Itr" ∧ Fld Z h o557_879 "java/util/ArrayList$Itr" "this$0" "Ljava/util/ArrayList;" (.ref o517) ∧ Fld Z h o557_879 "java/util/ArrayList$Itr" "lastRet" "I" (.int i0) ∧ Fld Z h o557_879 "java/util/ArrayList$Itr" "expectedModCount" "I" (.int i1) ∧ Fld Z h o557_879 "java/util/ArrayList$Itr" "cursor" "I" (.int i1) ∧ Keep h0 h [o557_879]) := by
  refine Met.mkQ (tabs := tables_1) (a0 := a0) (ls0 := #[rv o557_879, .unset, .unset]) (plainFor_of_name pn_java_util_ArrayList_Itr) hw Z0 (fun m => by first | (simp [entryFrame, mkF, argsToLocals, Value.category]; done) | rfl) ?_
  intro p e s m below meth c T Q' G' hQ hG C X
  have Kp : Keep h0 h0 [o557_879] := Keep.refl _ _
  refine s_aloadN 1 C X d29_0 rfl rfl ?_
  refine s_callV 4 [] [] 0 C X d29_1 (mW 200 rfl) (mW 201 rfl) (notFace_of_selects (args := #[]) (mvT C.2.1 (C.w (mW 203 rfl)))) (mW 203 rfl) (mW 202 rfl) (mW 167 rfl) (mW 204 rfl) E_o557_879 (rm_a884 l Z a0 hw o517 o557_879 _ n0 X.sz F_o517_modCount F_o557_879_this_0 F_o557_879_expectedModCount) (lenOf pd___V rfl) rfl rfl rfl (fun T v hh X q => ?_)
  obtain ⟨rfl, Kc⟩ := q
  have F_o517_elementData := F_o517_elementData.keep Kc nin0
  have F_o517_size := F_o517_size.keep Kc nin0
  have A_o543 := A_o543.keep Kc nin0
  have E_o557_879 := E_o557_879.keep Kc
  have F_o557_879_this_0 := F_o557_879_this_0.keep Kc nin0
  have F_o557_879_lastRet := F_o557_879_lastRet.keep Kc nin0
  have F_o557_879_expectedModCount := F_o557_879_expectedModCount.keep Kc nin0
  have F_o557_879_cursor := F_o557_879_cursor.keep Kc nin0
  have Kp := Kp.trans Kc all0
  refine Run.cast (st' := []) rfl ?_
  refine s_aloadN 5 C X d29_4 rfl rfl ?_
  refine s_getfield 8 C X (host := "") d29_5 (Or.inl (mW 189 rfl)) Via.refl F_o557_879_cursor (fun T X => ?_)
  refine s_istoreN 9 C X (l' := #[rv o557_879, iv i0, .unset]) d29_8 rfl ?_
  refine s_iloadN 10 C X d29_9 rfl ?_
  refine s_aloadN 11 C X d29_10 rfl rfl ?_
  refine s_getfield 14 C X (host := "") d29_11 (Or.inl (mW 172 rfl)) Via.refl F_o557_879_this_0 (fun T X => ?_)
  refine s_getfield 17 C X d29_14 (Or.inr (mW 191 rfl)) Via.refl F_o517_size (fun T X => ?_)
  refine s_icmp_lt 28 20 C X d29_17 (fun _ => ?_) (fun c => absurd (by decide : i0 < i1) c)
  refine s_aloadN 29 C X d29_28 rfl rfl ?_
  refine s_getfield 32 C X (host := "") d29_29 (Or.inl (mW 172 rfl)) Via.refl F_o557_879_this_0 (fun T X => ?_)
  refine s_getfield 35 C X (host := "") d29_32 (Or.inl (mW 205 rfl)) Via.refl F_o517_elementData (fun T X => ?_)
  refine s_astoreN 36 C X (l' := #[rv o557_879, iv i0, rv o543]) d29_35 rfl rfl ?_
  refine s_iloadN 37 C X d29_36 rfl ?_
  refine s_aloadN 38 C X d29_37 rfl rfl ?_
  refine s_arraylength 39 C X d29_38 A_o543 ?_
  refine s_icmp_lt 50 42 C X d29_39 (fun _ => ?_) (fun c => absurd (by decide : i0 < i10) c)
  refine s_aloadN 51 C X d29_50 rfl rfl ?_
  refine s_iloadN 52 C X d29_51 rfl ?_
  refine s_iconst 53 C X d29_52 kc_iconst_1 ?_
  refine s_iadd 54 C X d29_53 ?_
  refine Run.cast (st' := [(.int i1), (.ref o557_879)]) (by rw [kf_2]) ?_
  refine s_putfield 57 C X (host := "") d29_54 (Or.inl (mW 189 rfl)) Via.refl F_o557_879_cursor E_o557_879 (Or.inl (mW 190 rfl)) (mW 166 rfl) (ty := .int) (by decide) rfl rfl g_o557_879 (fun T hh X W => ?_)
  have A_o543 := A_o543.other W ne_o543_o557_879
  have E_o557_879 := E_o557_879.wr W
  have F_o557_879_this_0 := oth F_o557_879_this_0 W (Or.inr (hw _ (mW 173 rfl))) (Or.inl (hw _ (mW 190 rfl))) (by decide)
  have F_o557_879_lastRet := oth F_o557_879_lastRet W (Or.inl (hw _ (mW 176 rfl))) (Or.inl (hw _ (mW 190 rfl))) (by decide)
  have F_o557_879_expectedModCount := oth F_o557_879_expectedModCount W (Or.inl (hw _ (mW 179 rfl))) (Or.inl (hw _ (mW 190 rfl))) (by decide)
  have F_o557_879_cursor := F_o557_879_cursor.same W
  have Kp := Kp.wr W (Or.inl (by simp))
  refine s_aloadN 58 C X d29_57 rfl rfl ?_
  refine s_aloadN 59 C X d29_58 rfl rfl ?_
  refine s_iloadN 60 C X d29_59 rfl ?_
  refine s_dupX1 61 C X d29_60 rfl rfl ?_
  refine s_putfield 64 C X (host := "") d29_61 (Or.inl (mW 175 rfl)) Via.refl F_o557_879_lastRet E_o557_879 (Or.inl (mW 176 rfl)) (mW 166 rfl) (ty := .int) (by decide) rfl rfl g_o557_879 (fun T hh X W => ?_)
  have A_o543 := A_o543.other W ne_o543_o557_879
  have E_o557_879 := E_o557_879.wr W
  have F_o557_879_this_0 := oth F_o557_879_this_0 W (Or.inr (hw _ (mW 173 rfl))) (Or.inl (hw _ (mW 176 rfl))) (by decide)
  have F_o557_879_lastRet := F_o557_879_lastRet.same W
  have F_o557_879_expectedModCount := oth F_o557_879_expectedModCount W (Or.inl (hw _ (mW 179 rfl))) (Or.inl (hw _ (mW 176 rfl))) (by decide)
  have F_o557_879_cursor := oth F_o557_879_cursor W (Or.inl (hw _ (mW 190 rfl))) (Or.inl (hw _ (mW 176 rfl))) (by decide)
  have Kp := Kp.wr W (Or.inl (by simp))
  refine s_aaload 65 C X d29_64 A_o543 rfl ⟨by decide, by decide⟩ (v := (.ref b1)) rfl ?_
  refine s_areturn C X d29_65 rfl rfl rfl ?_ (FG hG (by decide) (by decide))
  exact hQ _ _ ⟨rfl, E_o557_879, F_o557_879_this_0, F_o557_879_lastRet, F_o557_879_expectedModCount, F_o557_879_cursor, Kp⟩
theorem rm_a895 (l : Launch) (Z : State) (a0 : Array Value) (hw : ∀ d ∈ tables_1, d.before a0 Z = true) (o517 : Addr) (o557_893 : Addr) (h0 : Heap) (n0 : Nat) (Z0 : n0 ≤ h0.size) (F_o517_size : Fld Z h0 o517 "java/util/ArrayList" "size" "I" (.int i1)) (F_o557_893_this_0 : Fld Z h0 o557_893 "java/util/ArrayList$Itr" "this$0" "Ljava/util/ArrayList;" (.ref o517)) (F_o557_893_cursor : Fld Z h0 o557_893 "java/util/ArrayList$Itr" "cursor" "I" (.int i0)) :
    Met l Z (⟨"java/util/ArrayList$Itr", "hasNext", "()Z"⟩ : MethodName) jdk_49_method_2_code 1 (some .boolean) { frames := 0, cells := 0, slots := 0, locals := 0 } [] #[(.ref o557_893)] h0 n0 (fun v h => v = some (.int i1) ∧ Keep h0 h []) := by
  refine Met.mkQ (tabs := tables_1) (a0 := a0) (ls0 := #[rv o557_893]) (plainFor_of_name pn_java_util_ArrayList_Itr) hw Z0 (fun m => by first | (simp [entryFrame, mkF, argsToLocals, Value.category]; done) | rfl) ?_
  intro p e s m below meth c T Q' G' hQ hG C X
  have Kp : Keep h0 h0 [] := Keep.refl _ _
  refine s_aloadN 1 C X d28_0 rfl rfl ?_
  refine s_getfield 4 C X (host := "") d28_1 (Or.inl (mW 189 rfl)) Via.refl F_o557_893_cursor (fun T X => ?_)
  refine s_aloadN 5 C X d28_4 rfl rfl ?_
  refine s_getfield 8 C X (host := "") d28_5 (Or.inl (mW 172 rfl)) Via.refl F_o557_893_this_0 (fun T X => ?_)
  refine s_getfield 11 C X d28_8 (Or.inr (mW 191 rfl)) Via.refl F_o517_size (fun T X => ?_)
  refine s_icmp_eq 18 14 C X d28_11 (fun c => absurd c (by decide)) (fun _ => ?_)
  refine s_iconst 15 C X d28_14 kc_iconst_1 ?_
  refine s_goto 19 C X d28_15 ?_
  refine s_nreturn C X d28_19 rfl (by simp) rfl ?_ (FG hG (by decide) (by decide))
  exact hQ _ _ ⟨rfl, Kp⟩
theorem rm_a898 (l : Launch) (Z : State) (a0 : Array Value) (hw : ∀ d ∈ tables_1, d.before a0 Z = true) (o517 : Addr) (o557_893 : Addr) (h0 : Heap) (n0 : Nat) (Z0 : n0 ≤ h0.size) (F_o517_modCount : Fld Z h0 o517 "java/util/AbstractList" "modCount" "I" (.int i1)) (F_o557_893_this_0 : Fld Z h0 o557_893 "java/util/ArrayList$Itr" "this$0" "Ljava/util/ArrayList;" (.ref o517)) (F_o557_893_expectedModCount : Fld Z h0 o557_893 "java/util/ArrayList$Itr" "expectedModCount" "I" (.int i1)) :
    Met l Z (⟨"java/util/ArrayList$Itr", "checkForComodification", "()V"⟩ : MethodName) jdk_49_method_6_code 1 none { frames := 0, cells := 0, slots := 0, locals := 0 } [] #[(.ref o557_893)] h0 n0 (fun v h => v = none ∧ Keep h0 h []) := by
  refine Met.mkQ (tabs := tables_1) (a0 := a0) (ls0 := #[rv o557_893]) (plainFor_of_name pn_java_util_ArrayList_Itr) hw Z0 (fun m => by first | (simp [entryFrame, mkF, argsToLocals, Value.category]; done) | rfl) ?_
  intro p e s m below meth c T Q' G' hQ hG C X
  have Kp : Keep h0 h0 [] := Keep.refl _ _
  refine s_aloadN 1 C X d30_0 rfl rfl ?_
  refine s_getfield 4 C X (host := "") d30_1 (Or.inl (mW 172 rfl)) Via.refl F_o557_893_this_0 (fun T X => ?_)
  refine s_getfield 7 C X (host := "") d30_4 (Or.inl (mW 177 rfl)) (Via.of (C.w (mW 121 rfl))) F_o517_modCount (fun T X => ?_)
  refine s_aloadN 8 C X d30_7 rfl rfl ?_
  refine s_getfield 11 C X (host := "") d30_8 (Or.inl (mW 178 rfl)) Via.refl F_o557_893_expectedModCount (fun T X => ?_)
  refine s_icmp_eq 22 14 C X d30_11 (fun _ => ?_) (fun c => absurd (by decide : i1 = i1) c)
  refine s_return C X d30_22 rfl ?_ (FG hG (by decide) (by decide))
  exact hQ _ _ ⟨rfl, Kp⟩
theorem rm_a901 (l : Launch) (Z : State) (a0 : Array Value) (hw : ∀ d ∈ tables_1, d.before a0 Z = true) (b1 : Addr) (o517 : Addr) (o543 : Addr) (k_o543 : ClassId) (o557_893 : Addr) (h0 : Heap) (n0 : Nat) (Z0 : n0 ≤ h0.size) (F_o517_modCount : Fld Z h0 o517 "java/util/AbstractList" "modCount" "I" (.int i1)) (F_o517_elementData : Fld Z h0 o517 "java/util/ArrayList" "elementData" "[Ljava/lang/Object;" (.ref o543)) (F_o517_size : Fld Z h0 o517 "java/util/ArrayList" "size" "I" (.int i1)) (A_o543 : Arv Z h0 o543 k_o543 (.object "java/lang/Object") i10 [(.ref b1), .null, .null, .null, .null, .null, .null, .null, .null, .null] .null) (E_o557_893 : Exa Z h0 o557_893 "java/util/ArrayList$Itr") (F_o557_893_this_0 : Fld Z h0 o557_893 "java/util/ArrayList$Itr" "this$0" "Ljava/util/ArrayList;" (.ref o517)) (F_o557_893_lastRet : Fld Z h0 o557_893 "java/util/ArrayList$Itr" "lastRet" "I" (.int im1)) (F_o557_893_expectedModCount : Fld Z h0 o557_893 "java/util/ArrayList$Itr" "expectedModCount" "I" (.int i1)) (F_o557_893_cursor : Fld Z h0 o557_893 "java/util/ArrayList$Itr" "cursor" "I" (.int i0)) (ne_o517_o557_893 : o517 ≠ o557_893) (ne_o543_o557_893 : o543 ≠ o557_893) (g_o557_893 : n0 ≤ o557_893) :
    Met l Z (⟨"java/util/ArrayList$Itr", "next", "()Ljava/lang/Object;"⟩ : MethodName) jdk_49_method_3_code 3 (some (.object "java/lang/Object")) { frames := 1, cells := 0, slots := 0, locals := 12 } [] #[(.ref o557_893)] h0 n0 (fun v h => v = some (.ref b1) ∧ Exa Z h o557_893 "java/util/ArrayList$Itr" ∧ Fld Z h o557_893 "java/util/ArrayList$Itr" "this$0" "Ljava/util/ArrayList;" (.ref o517) ∧ Fld Z h o557_893 "java/util/ArrayList$Itr" "lastRet" "I" (.int i0) ∧ Fld Z h o557_893 "java/util/ArrayList$Itr" "expectedModCount" "I" (.int i1) ∧ Fld Z h o557_893 "java/util/ArrayList$Itr" "cursor" "I" (.int i1) ∧ Keep h0 h [o557_893]) := by
  refine Met.mkQ (tabs := tables_1) (a0 := a0) (ls0 := #[rv o557_893, .unset, .unset]) (plainFor_of_name pn_java_util_ArrayList_Itr) hw Z0 (fun m => by first | (simp [entryFrame, mkF, argsToLocals, Value.category]; done) | rfl) ?_
  intro p e s m below meth c T Q' G' hQ hG C X
  have Kp : Keep h0 h0 [o557_893] := Keep.refl _ _
  refine s_aloadN 1 C X d29_0 rfl rfl ?_
  refine s_callV 4 [] [] 0 C X d29_1 (mW 200 rfl) (mW 201 rfl) (notFace_of_selects (args := #[]) (mvT C.2.1 (C.w (mW 203 rfl)))) (mW 203 rfl) (mW 202 rfl) (mW 167 rfl) (mW 204 rfl) E_o557_893 (rm_a898 l Z a0 hw o517 o557_893 _ n0 X.sz F_o517_modCount F_o557_893_this_0 F_o557_893_expectedModCount) (lenOf pd___V rfl) rfl rfl rfl (fun T v hh X q => ?_)
  obtain ⟨rfl, Kc⟩ := q
  have F_o517_elementData := F_o517_elementData.keep Kc nin0
  have F_o517_size := F_o517_size.keep Kc nin0
  have A_o543 := A_o543.keep Kc nin0
  have E_o557_893 := E_o557_893.keep Kc
  have F_o557_893_this_0 := F_o557_893_this_0.keep Kc nin0
  have F_o557_893_lastRet := F_o557_893_lastRet.keep Kc nin0
  have F_o557_893_expectedModCount := F_o557_893_expectedModCount.keep Kc nin0
  have F_o557_893_cursor := F_o557_893_cursor.keep Kc nin0
  have Kp := Kp.trans Kc all0
  refine Run.cast (st' := []) rfl ?_
  refine s_aloadN 5 C X d29_4 rfl rfl ?_
  refine s_getfield 8 C X (host := "") d29_5 (Or.inl (mW 189 rfl)) Via.refl F_o557_893_cursor (fun T X => ?_)
  refine s_istoreN 9 C X (l' := #[rv o557_893, iv i0, .unset]) d29_8 rfl ?_
  refine s_iloadN 10 C X d29_9 rfl ?_
  refine s_aloadN 11 C X d29_10 rfl rfl ?_
  refine s_getfield 14 C X (host := "") d29_11 (Or.inl (mW 172 rfl)) Via.refl F_o557_893_this_0 (fun T X => ?_)
  refine s_getfield 17 C X d29_14 (Or.inr (mW 191 rfl)) Via.refl F_o517_size (fun T X => ?_)
  refine s_icmp_lt 28 20 C X d29_17 (fun _ => ?_) (fun c => absurd (by decide : i0 < i1) c)
  refine s_aloadN 29 C X d29_28 rfl rfl ?_
  refine s_getfield 32 C X (host := "") d29_29 (Or.inl (mW 172 rfl)) Via.refl F_o557_893_this_0 (fun T X => ?_)
  refine s_getfield 35 C X (host := "") d29_32 (Or.inl (mW 205 rfl)) Via.refl F_o517_elementData (fun T X => ?_)
  refine s_astoreN 36 C X (l' := #[rv o557_893, iv i0, rv o543]) d29_35 rfl rfl ?_
  refine s_iloadN 37 C X d29_36 rfl ?_
  refine s_aloadN 38 C X d29_37 rfl rfl ?_
  refine s_arraylength 39 C X d29_38 A_o543 ?_
  refine s_icmp_lt 50 42 C X d29_39 (fun _ => ?_) (fun c => absurd (by decide : i0 < i10) c)
  refine s_aloadN 51 C X d29_50 rfl rfl ?_
  refine s_iloadN 52 C X d29_51 rfl ?_
  refine s_iconst 53 C X d29_52 kc_iconst_1 ?_
  refine s_iadd 54 C X d29_53 ?_
  refine Run.cast (st' := [(.int i1), (.ref o557_893)]) (by rw [kf_2]) ?_
  refine s_putfield 57 C X (host := "") d29_54 (Or.inl (mW 189 rfl)) Via.refl F_o557_893_cursor E_o557_893 (Or.inl (mW 190 rfl)) (mW 166 rfl) (ty := .int) (by decide) rfl rfl g_o557_893 (fun T hh X W => ?_)
  have A_o543 := A_o543.other W ne_o543_o557_893
  have E_o557_893 := E_o557_893.wr W
  have F_o557_893_this_0 := oth F_o557_893_this_0 W (Or.inr (hw _ (mW 173 rfl))) (Or.inl (hw _ (mW 190 rfl))) (by decide)
  have F_o557_893_lastRet := oth F_o557_893_lastRet W (Or.inl (hw _ (mW 176 rfl))) (Or.inl (hw _ (mW 190 rfl))) (by decide)
  have F_o557_893_expectedModCount := oth F_o557_893_expectedModCount W (Or.inl (hw _ (mW 179 rfl))) (Or.inl (hw _ (mW 190 rfl))) (by decide)
  have F_o557_893_cursor := F_o557_893_cursor.same W
  have Kp := Kp.wr W (Or.inl (by simp))
  refine s_aloadN 58 C X d29_57 rfl rfl ?_
  refine s_aloadN 59 C X d29_58 rfl rfl ?_
  refine s_iloadN 60 C X d29_59 rfl ?_
  refine s_dupX1 61 C X d29_60 rfl rfl ?_
  refine s_putfield 64 C X (host := "") d29_61 (Or.inl (mW 175 rfl)) Via.refl F_o557_893_lastRet E_o557_893 (Or.inl (mW 176 rfl)) (mW 166 rfl) (ty := .int) (by decide) rfl rfl g_o557_893 (fun T hh X W => ?_)
  have A_o543 := A_o543.other W ne_o543_o557_893
  have E_o557_893 := E_o557_893.wr W
  have F_o557_893_this_0 := oth F_o557_893_this_0 W (Or.inr (hw _ (mW 173 rfl))) (Or.inl (hw _ (mW 176 rfl))) (by decide)
  have F_o557_893_lastRet := F_o557_893_lastRet.same W
  have F_o557_893_expectedModCount := oth F_o557_893_expectedModCount W (Or.inl (hw _ (mW 179 rfl))) (Or.inl (hw _ (mW 176 rfl))) (by decide)
  have F_o557_893_cursor := oth F_o557_893_cursor W (Or.inl (hw _ (mW 190 rfl))) (Or.inl (hw _ (mW 176 rfl))) (by decide)
  have Kp := Kp.wr W (Or.inl (by simp))
  refine s_aaload 65 C X d29_64 A_o543 rfl ⟨by decide, by decide⟩ (v := (.ref b1)) rfl ?_
  refine s_areturn C X d29_65 rfl rfl rfl ?_ (FG hG (by decide) (by decide))
  exact hQ _ _ ⟨rfl, E_o557_893, F_o557_893_this_0, F_o557_893_lastRet, F_o557_893_expectedModCount, F_o557_893_cursor, Kp⟩
theorem rm_a909 (l : Launch) (Z : State) (a0 : Array Value) (hw : ∀ d ∈ tables_1, d.before a0 Z = true) (o517 : Addr) (o557_893 : Addr) (h0 : Heap) (n0 : Nat) (Z0 : n0 ≤ h0.size) (F_o517_size : Fld Z h0 o517 "java/util/ArrayList" "size" "I" (.int i1)) (F_o557_893_this_0 : Fld Z h0 o557_893 "java/util/ArrayList$Itr" "this$0" "Ljava/util/ArrayList;" (.ref o517)) (F_o557_893_cursor : Fld Z h0 o557_893 "java/util/ArrayList$Itr" "cursor" "I" (.int i1)) :
    Met l Z (⟨"java/util/ArrayList$Itr", "hasNext", "()Z"⟩ : MethodName) jdk_49_method_2_code 1 (some .boolean) { frames := 0, cells := 0, slots := 0, locals := 0 } [] #[(.ref o557_893)] h0 n0 (fun v h => v = some (.int i0) ∧ Keep h0 h []) := by
  refine Met.mkQ (tabs := tables_1) (a0 := a0) (ls0 := #[rv o557_893]) (plainFor_of_name pn_java_util_ArrayList_Itr) hw Z0 (fun m => by first | (simp [entryFrame, mkF, argsToLocals, Value.category]; done) | rfl) ?_
  intro p e s m below meth c T Q' G' hQ hG C X
  have Kp : Keep h0 h0 [] := Keep.refl _ _
  refine s_aloadN 1 C X d28_0 rfl rfl ?_
  refine s_getfield 4 C X (host := "") d28_1 (Or.inl (mW 189 rfl)) Via.refl F_o557_893_cursor (fun T X => ?_)
  refine s_aloadN 5 C X d28_4 rfl rfl ?_
  refine s_getfield 8 C X (host := "") d28_5 (Or.inl (mW 172 rfl)) Via.refl F_o557_893_this_0 (fun T X => ?_)
  refine s_getfield 11 C X d28_8 (Or.inr (mW 191 rfl)) Via.refl F_o517_size (fun T X => ?_)
  refine s_icmp_eq 18 14 C X d28_11 (fun _ => ?_) (fun c => absurd (by decide : i1 = i1) c)
  refine s_iconst 19 C X d28_18 kc_iconst_0 ?_
  refine s_nreturn C X d28_19 rfl (by simp) rfl ?_ (FG hG (by decide) (by decide))
  exact hQ _ _ ⟨rfl, Kp⟩
theorem rm_a912 (l : Launch) (Z : State) (a0 : Array Value) (hw : ∀ d ∈ tables_1, d.before a0 Z = true) (o517 : Addr) (o557_879 : Addr) (h0 : Heap) (n0 : Nat) (Z0 : n0 ≤ h0.size) (F_o517_size : Fld Z h0 o517 "java/util/ArrayList" "size" "I" (.int i1)) (F_o557_879_this_0 : Fld Z h0 o557_879 "java/util/ArrayList$Itr" "this$0" "Ljava/util/ArrayList;" (.ref o517)) (F_o557_879_cursor : Fld Z h0 o557_879 "java/util/ArrayList$Itr" "cursor" "I" (.int i1)) :
    Met l Z (⟨"java/util/ArrayList$Itr", "hasNext", "()Z"⟩ : MethodName) jdk_49_method_2_code 1 (some .boolean) { frames := 0, cells := 0, slots := 0, locals := 0 } [] #[(.ref o557_879)] h0 n0 (fun v h => v = some (.int i0) ∧ Keep h0 h []) := by
  refine Met.mkQ (tabs := tables_1) (a0 := a0) (ls0 := #[rv o557_879]) (plainFor_of_name pn_java_util_ArrayList_Itr) hw Z0 (fun m => by first | (simp [entryFrame, mkF, argsToLocals, Value.category]; done) | rfl) ?_
  intro p e s m below meth c T Q' G' hQ hG C X
  have Kp : Keep h0 h0 [] := Keep.refl _ _
  refine s_aloadN 1 C X d28_0 rfl rfl ?_
  refine s_getfield 4 C X (host := "") d28_1 (Or.inl (mW 189 rfl)) Via.refl F_o557_879_cursor (fun T X => ?_)
  refine s_aloadN 5 C X d28_4 rfl rfl ?_
  refine s_getfield 8 C X (host := "") d28_5 (Or.inl (mW 172 rfl)) Via.refl F_o557_879_this_0 (fun T X => ?_)
  refine s_getfield 11 C X d28_8 (Or.inr (mW 191 rfl)) Via.refl F_o517_size (fun T X => ?_)
  refine s_icmp_eq 18 14 C X d28_11 (fun _ => ?_) (fun c => absurd (by decide : i1 = i1) c)
  refine s_iconst 19 C X d28_18 kc_iconst_0 ?_
  refine s_nreturn C X d28_19 rfl (by simp) rfl ?_ (FG hG (by decide) (by decide))
  exact hQ _ _ ⟨rfl, Kp⟩
theorem rm_a914 (l : Launch) (Z : State) (a0 : Array Value) (hw : ∀ d ∈ tables_1, d.before a0 Z = true) (b1 : Addr) (o1 : Addr) (o2 : Addr) (o3 : Addr) (o4 : Addr) (o5 : Addr) (k_o2 : ClassId) (k_o3 : ClassId) (y331 : Int64) (y332 : Int64) (y333 : Int64) (o514 : Addr) (o515 : Addr) (o516 : Addr) (o517 : Addr) (k_o515 : ClassId) (k_o516 : ClassId) (o543 : Addr) (k_o543 : ClassId) (h0 : Heap) (n0 : Nat) (Z0 : n0 ≤ h0.size) (E_b1 : Exa Z h0 b1 "java/lang/Integer") (F_b1_value : Fld Z h0 b1 "java/lang/Integer" "value" "I" (.int i1)) (F_o1_most : Fld Z h0 o1 "com/example/dayweave/dayweave/solve/TemporalNetwork" "most" "[[J" (.ref o2)) (A_o2 : Arv Z h0 o2 k_o2 (.array .long) i3 [(.ref o3), (.ref o4), (.ref o5)] .null) (A_o4 : Arv Z h0 o4 k_o3 .long i3 [(.long y331), (.long y332), (.long y333)] (.long j0)) (F_o514_this_0 : Fld Z h0 o514 "com/example/dayweave/dayweave/solve/TemporalNetwork$Newcomer" "this$0" "Lcom/example/dayweave/dayweave/solve/TemporalNetwork;" (.ref o1)) (F_o514_after : Fld Z h0 o514 "com/example/dayweave/dayweave/solve/TemporalNetwork$Newcomer" "after" "[J" (.ref o515)) (F_o514_before : Fld Z h0 o514 "com/example/dayweave/dayweave/solve/TemporalNetwork$Newcomer" "before" "[J" (.ref o516)) (F_o514_bounding : Fld Z h0 o514 "com/example/dayweave/dayweave/solve/TemporalNetwork$Newcomer" "bounding" "Ljava/util/List;" (.ref o517)) (A_o515 : Arv Z h0 o515 k_o515 .long i3 [(.long jU19), (.long j0), (.long jU19)] (.long j0)) (E_o517 : Exa Z h0 o517 "java/util/ArrayList") (F_o517_modCount : Fld Z h0 o517 "java/util/AbstractList" "modCount" "I" (.int i1)) (F_o517_elementData : Fld Z h0 o517 "java/util/ArrayList" "elementData" "[Ljava/lang/Object;" (.ref o543)) (F_o517_size : Fld Z h0 o517 "java/util/ArrayList" "size" "I" (.int i1)) (A_o543 : Arv Z h0 o543 k_o543 (.object "java/lang/Object") i10 [(.ref b1), .null, .null, .null, .null, .null, .null, .null, .null, .null] .null) (A_o516 : Arv Z h0 o516 k_o516 .long i3 [(.long jU19), (.long j0), (.long jU19)] (.long j0)) :
    Met l Z (⟨"com/example/dayweave/dayweave/solve/TemporalNetwork$Newcomer", "consistent", "()Z"⟩ : MethodName) prog_68_method_6_code 7 (some .boolean) { frames := 3, cells := 2, slots := 8, locals := 38 } [] #[(.ref o514)] h0 n0 (fun v h => (v = some (.int i1) ∧ Keep h0 h []) ∨ (v = some (.int i0) ∧ ¬ (XT.cmpL y332 jU19) = i0 ∧ (XT.cmpL ((j0 + y332) + j0) j0) < i0 ∧ Keep h0 h [])) := by
  refine Met.mkQ (tabs := tables_1) (a0 := a0) (ls0 := #[rv o514, .unset, .unset, .unset, .unset, .unset, .unset]) (plainFor_of_name pn_com_example_dayweave_dayweave_solve_TemporalNetwork_Newcomer) hw Z0 (fun m => by first | (simp [entryFrame, mkF, argsToLocals, Value.category]; done) | rfl) ?_
  intro p e s m below meth c T Q' G' hQ hG C X
  have Kp : Keep h0 h0 [] := Keep.refl _ _
  refine s_aloadN 1 C X d33_0 rfl rfl ?_
  refine s_getfield 4 C X (host := "") d33_1 (Or.inl (mW 91 rfl)) Via.refl F_o514_bounding (fun T X => ?_)
  refine s_callI 9 [] [] 0 C X d33_4 (mW 157 rfl) (mW 158 rfl) (mW 159 rfl) (mW 160 rfl) (mW 161 rfl) (mW 162 rfl) (mW 163 rfl) (mW 118 rfl) (mW 69 rfl) (mW 164 rfl) E_o517 (rm_a559 l Z a0 hw o517 _ n0 X.sz F_o517_modCount) (lenOf pd___Ljava_util_Iterator_ rfl) rfl rfl rfl (fun T v hh X q => ?_)
  obtain ⟨o557_879, rfl, Kc, E_o557_879, F_o557_879_this_0, F_o557_879_lastRet, F_o557_879_expectedModCount, F_o557_879_cursor, sz_o557_879', g_o557_879⟩ := q
  have ne_b1_o557_879 : b1 ≠ o557_879 := Nat.ne_of_lt (Nat.lt_of_lt_of_le E_b1.lt sz_o557_879')
  have ne_o1_o557_879 : o1 ≠ o557_879 := Nat.ne_of_lt (Nat.lt_of_lt_of_le F_o1_most.lt sz_o557_879')
  have ne_o2_o557_879 : o2 ≠ o557_879 := Nat.ne_of_lt (Nat.lt_of_lt_of_le A_o2.lt sz_o557_879')
  have ne_o4_o557_879 : o4 ≠ o557_879 := Nat.ne_of_lt (Nat.lt_of_lt_of_le A_o4.lt sz_o557_879')
  have ne_o514_o557_879 : o514 ≠ o557_879 := Nat.ne_of_lt (Nat.lt_of_lt_of_le F_o514_this_0.lt sz_o557_879')
  have ne_o515_o557_879 : o515 ≠ o557_879 := Nat.ne_of_lt (Nat.lt_of_lt_of_le A_o515.lt sz_o557_879')
  have ne_o517_o557_879 : o517 ≠ o557_879 := Nat.ne_of_lt (Nat.lt_of_lt_of_le E_o517.lt sz_o557_879')
  have ne_o543_o557_879 : o543 ≠ o557_879 := Nat.ne_of_lt (Nat.lt_of_lt_of_le A_o543.lt sz_o557_879')
  have ne_o516_o557_879 : o516 ≠ o557_879 := Nat.ne_of_lt (Nat.lt_of_lt_of_le A_o516.lt sz_o557_879')
  have sz_o557_879 : h0.size ≤ o557_879 := Nat.le_trans Kp.1 sz_o557_879'
  have E_b1 := E_b1.keep Kc
  have F_b1_value := F_b1_value.keep Kc nin0
  have F_o1_most := F_o1_most.keep Kc nin0
  have A_o2 := A_o2.keep Kc nin0
  have A_o4 := A_o4.keep Kc nin0
  have F_o514_this_0 := F_o514_this_0.keep Kc nin0
  have F_o514_after := F_o514_after.keep Kc nin0
  have F_o514_before := F_o514_before.keep Kc nin0
  have F_o514_bounding := F_o514_bounding.keep Kc nin0
  have A_o515 := A_o515.keep Kc nin0
  have E_o517 := E_o517.keep Kc
  have F_o517_modCount := F_o517_modCount.keep Kc nin0
  have F_o517_elementData := F_o517_elementData.keep Kc nin0
  have F_o517_size := F_o517_size.keep Kc nin0
  have A_o543 := A_o543.keep Kc nin0
  have A_o516 := A_o516.keep Kc nin0
  have Kp := Kp.trans Kc all0
  refine Run.cast (st' := [(.ref o557_879)]) rfl ?_
  refine s_astoreN 10 C X (l' := #[rv o514, rv o557_879, .unset, .unset, .unset, .unset, .unset]) d33_9 rfl rfl ?_
  refine s_aloadN 11 C X d33_10 rfl rfl ?_
  refine s_callI 16 [] [] 0 C X d33_11 (mW 180 rfl) (mW 181 rfl) (mW 182 rfl) (mW 183 rfl) (mW 184 rfl) (mW 185 rfl) (mW 186 rfl) (mW 187 rfl) (mW 167 rfl) (mW 188 rfl) E_o557_879 (rm_a881 l Z a0 hw o517 o557_879 _ n0 X.sz F_o517_size F_o557_879_this_0 F_o557_879_cursor) (lenOf pd___Z rfl) rfl rfl rfl (fun T v hh X q => ?_)
  obtain ⟨rfl, Kc⟩ := q
  have E_b1 := E_b1.keep Kc
  have F_b1_value := F_b1_value.keep Kc nin0
  have F_o1_most := F_o1_most.keep Kc nin0
  have A_o2 := A_o2.keep Kc nin0
  have A_o4 := A_o4.keep Kc nin0
  have F_o514_this_0 := F_o514_this_0.keep Kc nin0
  have F_o514_after := F_o514_after.keep Kc nin0
  have F_o514_before := F_o514_before.keep Kc nin0
  have F_o514_bounding := F_o514_bounding.keep Kc nin0
  have A_o515 := A_o515.keep Kc nin0
  have E_o517 := E_o517.keep Kc
  have F_o517_modCount := F_o517_modCount.keep Kc nin0
  have F_o517_elementData := F_o517_elementData.keep Kc nin0
  have F_o517_size := F_o517_size.keep Kc nin0
  have A_o543 := A_o543.keep Kc nin0
  have A_o516 := A_o516.keep Kc nin0
  have Kp := Kp.trans Kc all0
  have E_o557_879 := E_o557_879.keep Kc
  have F_o557_879_this_0 := F_o557_879_this_0.keep Kc nin0
  have F_o557_879_lastRet := F_o557_879_lastRet.keep Kc nin0
  have F_o557_879_expectedModCount := F_o557_879_expectedModCount.keep Kc nin0
  have F_o557_879_cursor := F_o557_879_cursor.keep Kc nin0
  refine Run.cast (st' := [(.int i1)]) rfl ?_
  refine s_if_eq 148 19 C X d33_16 (fun c => absurd c (by decide)) (fun _ => ?_)
  refine s_aloadN 20 C X d33_19 rfl rfl ?_
  refine s_callI 25 [] [] 0 C X d33_20 (mW 192 rfl) (mW 193 rfl) (mW 194 rfl) (mW 195 rfl) (mW 196 rfl) (mW 197 rfl) (mW 198 rfl) (mW 187 rfl) (mW 167 rfl) (mW 199 rfl) E_o557_879 (rm_a887 l Z a0 hw b1 o517 o543 k_o543 o557_879 _ n0 X.sz F_o517_modCount F_o517_elementData F_o517_size A_o543 E_o557_879 F_o557_879_this_0 F_o557_879_lastRet F_o557_879_expectedModCount F_o557_879_cursor ne_o517_o557_879 ne_o543_o557_879 g_o557_879) (lenOf pd___Ljava_lang_Object_ rfl) rfl rfl rfl (fun T v hh X q => ?_)
  obtain ⟨rfl, E_o557_879, F_o557_879_this_0, F_o557_879_lastRet, F_o557_879_expectedModCount, F_o557_879_cursor, Kc⟩ := q
  have E_b1 := E_b1.keep Kc
  have F_b1_value := F_b1_value.keep Kc (ninS ne_b1_o557_879 nin0)
  have F_o1_most := F_o1_most.keep Kc (ninS ne_o1_o557_879 nin0)
  have A_o2 := A_o2.keep Kc (ninS ne_o2_o557_879 nin0)
  have A_o4 := A_o4.keep Kc (ninS ne_o4_o557_879 nin0)
  have F_o514_this_0 := F_o514_this_0.keep Kc (ninS ne_o514_o557_879 nin0)
  have F_o514_after := F_o514_after.keep Kc (ninS ne_o514_o557_879 nin0)
  have F_o514_before := F_o514_before.keep Kc (ninS ne_o514_o557_879 nin0)
  have F_o514_bounding := F_o514_bounding.keep Kc (ninS ne_o514_o557_879 nin0)
  have A_o515 := A_o515.keep Kc (ninS ne_o515_o557_879 nin0)
  have E_o517 := E_o517.keep Kc
  have F_o517_modCount := F_o517_modCount.keep Kc (ninS ne_o517_o557_879 nin0)
  have F_o517_elementData := F_o517_elementData.keep Kc (ninS ne_o517_o557_879 nin0)
  have F_o517_size := F_o517_size.keep Kc (ninS ne_o517_o557_879 nin0)
  have A_o543 := A_o543.keep Kc (ninS ne_o543_o557_879 nin0)
  have A_o516 := A_o516.keep Kc (ninS ne_o516_o557_879 nin0)
  have Kp := Kp.trans Kc (allS (Or.inr sz_o557_879) all0)
  refine Run.cast (st' := [(.ref b1)]) rfl ?_
  refine s_castY 28 C X d33_25 (mW 206 rfl) (Ins.self E_b1) (fun T X => ?_)
  refine s_callV 31 [] [] 0 C X d33_28 (mW 208 rfl) (mW 209 rfl) (notFace_of_selects (args := #[]) (mvT C.2.1 (C.w (mW 211 rfl)))) (mW 211 rfl) (mW 210 rfl) (mW 106 rfl) (mW 212 rfl) E_b1 (rm_a848 l Z a0 hw b1 _ n0 X.sz F_b1_value) (lenOf pd___I rfl) rfl rfl rfl (fun T v hh X q => ?_)
  obtain ⟨rfl, Kc⟩ := q
  have E_b1 := E_b1.keep Kc
  have F_b1_value := F_b1_value.keep Kc nin0
  have F_o1_most := F_o1_most.keep Kc nin0
  have A_o2 := A_o2.keep Kc nin0
  have A_o4 := A_o4.keep Kc nin0
  have F_o514_this_0 := F_o514_this_0.keep Kc nin0
  have F_o514_after := F_o514_after.keep Kc nin0
  have F_o514_before := F_o514_before.keep Kc nin0
  have F_o514_bounding := F_o514_bounding.keep Kc nin0
  have A_o515 := A_o515.keep Kc nin0
  have E_o517 := E_o517.keep Kc
  have F_o517_modCount := F_o517_modCount.keep Kc nin0
  have F_o517_elementData := F_o517_elementData.keep Kc nin0
  have F_o517_size := F_o517_size.keep Kc nin0
  have A_o543 := A_o543.keep Kc nin0
  have A_o516 := A_o516.keep Kc nin0
  have Kp := Kp.trans Kc all0
  have E_o557_879 := E_o557_879.keep Kc
  have F_o557_879_this_0 := F_o557_879_this_0.keep Kc nin0
  have F_o557_879_cursor := F_o557_879_cursor.keep Kc nin0
  refine Run.cast (st' := [(.int i1)]) rfl ?_
  refine s_istoreN 32 C X (l' := #[rv o514, rv o557_879, iv i1, .unset, .unset, .unset, .unset]) d33_31 rfl ?_
  refine s_aloadN 33 C X d33_32 rfl rfl ?_
  refine s_getfield 36 C X (host := "") d33_33 (Or.inl (mW 65 rfl)) Via.refl F_o514_before (fun T X => ?_)
  refine s_iloadN 37 C X d33_36 rfl ?_
  refine s_laload 38 C X d33_37 A_o516 ⟨by decide, by decide⟩ (v := (.long j0)) rfl ?_
  refine s_ldc2Long 41 C X d33_38 (mW 93 rfl) ?_
  refine s_lcmp 42 C X d33_41 ?_
  refine Run.cast (st' := [(.int im1)]) (by rw [kf_4]) ?_
  refine s_if_ne 48 45 C X d33_42 (fun _ => ?_) (fun c => absurd c (by decide))
  refine s_aloadN 49 C X d33_48 rfl rfl ?_
  refine s_getfield 52 C X (host := "") d33_49 (Or.inl (mW 91 rfl)) Via.refl F_o514_bounding (fun T X => ?_)
  refine s_callI 57 [] [] 0 C X d33_52 (mW 157 rfl) (mW 158 rfl) (mW 159 rfl) (mW 160 rfl) (mW 161 rfl) (mW 162 rfl) (mW 163 rfl) (mW 118 rfl) (mW 69 rfl) (mW 164 rfl) E_o517 (rm_a559 l Z a0 hw o517 _ n0 X.sz F_o517_modCount) (lenOf pd___Ljava_util_Iterator_ rfl) rfl rfl rfl (fun T v hh X q => ?_)
  obtain ⟨o557_893, rfl, Kc, E_o557_893, F_o557_893_this_0, F_o557_893_lastRet, F_o557_893_expectedModCount, F_o557_893_cursor, sz_o557_893', g_o557_893⟩ := q
  have ne_b1_o557_893 : b1 ≠ o557_893 := Nat.ne_of_lt (Nat.lt_of_lt_of_le E_b1.lt sz_o557_893')
  have ne_o1_o557_893 : o1 ≠ o557_893 := Nat.ne_of_lt (Nat.lt_of_lt_of_le F_o1_most.lt sz_o557_893')
  have ne_o2_o557_893 : o2 ≠ o557_893 := Nat.ne_of_lt (Nat.lt_of_lt_of_le A_o2.lt sz_o557_893')
  have ne_o4_o557_893 : o4 ≠ o557_893 := Nat.ne_of_lt (Nat.lt_of_lt_of_le A_o4.lt sz_o557_893')
  have ne_o514_o557_893 : o514 ≠ o557_893 := Nat.ne_of_lt (Nat.lt_of_lt_of_le F_o514_this_0.lt sz_o557_893')
  have ne_o515_o557_893 : o515 ≠ o557_893 := Nat.ne_of_lt (Nat.lt_of_lt_of_le A_o515.lt sz_o557_893')
  have ne_o517_o557_893 : o517 ≠ o557_893 := Nat.ne_of_lt (Nat.lt_of_lt_of_le E_o517.lt sz_o557_893')
  have ne_o543_o557_893 : o543 ≠ o557_893 := Nat.ne_of_lt (Nat.lt_of_lt_of_le A_o543.lt sz_o557_893')
  have ne_o516_o557_893 : o516 ≠ o557_893 := Nat.ne_of_lt (Nat.lt_of_lt_of_le A_o516.lt sz_o557_893')
  have ne_o557_879_o557_893 : o557_879 ≠ o557_893 := Nat.ne_of_lt (Nat.lt_of_lt_of_le E_o557_879.lt sz_o557_893')
  have sz_o557_893 : h0.size ≤ o557_893 := Nat.le_trans Kp.1 sz_o557_893'
  have E_b1 := E_b1.keep Kc
  have F_b1_value := F_b1_value.keep Kc nin0
  have F_o1_most := F_o1_most.keep Kc nin0
  have A_o2 := A_o2.keep Kc nin0
  have A_o4 := A_o4.keep Kc nin0
  have F_o514_this_0 := F_o514_this_0.keep Kc nin0
  have F_o514_after := F_o514_after.keep Kc nin0
  have F_o514_before := F_o514_before.keep Kc nin0
  have A_o515 := A_o515.keep Kc nin0
  have F_o517_modCount := F_o517_modCount.keep Kc nin0
  have F_o517_elementData := F_o517_elementData.keep Kc nin0
  have F_o517_size := F_o517_size.keep Kc nin0
  have A_o543 := A_o543.keep Kc nin0
  have A_o516 := A_o516.keep Kc nin0
  have Kp := Kp.trans Kc all0
  have E_o557_879 := E_o557_879.keep Kc
  have F_o557_879_this_0 := F_o557_879_this_0.keep Kc nin0
  have F_o557_879_cursor := F_o557_879_cursor.keep Kc nin0
  refine Run.cast (st' := [(.ref o557_893)]) rfl ?_
  refine s_astoreN 58 C X (l' := #[rv o514, rv o557_879, iv i1, rv o557_893, .unset, .unset, .unset]) d33_57 rfl rfl ?_
  refine s_aloadN 59 C X d33_58 rfl rfl ?_
  refine s_callI 64 [] [] 0 C X d33_59 (mW 180 rfl) (mW 181 rfl) (mW 182 rfl) (mW 183 rfl) (mW 184 rfl) (mW 185 rfl) (mW 186 rfl) (mW 187 rfl) (mW 167 rfl) (mW 188 rfl) E_o557_893 (rm_a895 l Z a0 hw o517 o557_893 _ n0 X.sz F_o517_size F_o557_893_this_0 F_o557_893_cursor) (lenOf pd___Z rfl) rfl rfl rfl (fun T v hh X q => ?_)
  obtain ⟨rfl, Kc⟩ := q
  have E_b1 := E_b1.keep Kc
  have F_b1_value := F_b1_value.keep Kc nin0
  have F_o1_most := F_o1_most.keep Kc nin0
  have A_o2 := A_o2.keep Kc nin0
  have A_o4 := A_o4.keep Kc nin0
  have F_o514_this_0 := F_o514_this_0.keep Kc nin0
  have F_o514_after := F_o514_after.keep Kc nin0
  have F_o514_before := F_o514_before.keep Kc nin0
  have A_o515 := A_o515.keep Kc nin0
  have F_o517_modCount := F_o517_modCount.keep Kc nin0
  have F_o517_elementData := F_o517_elementData.keep Kc nin0
  have F_o517_size := F_o517_size.keep Kc nin0
  have A_o543 := A_o543.keep Kc nin0
  have A_o516 := A_o516.keep Kc nin0
  have Kp := Kp.trans Kc all0
  have E_o557_879 := E_o557_879.keep Kc
  have F_o557_879_this_0 := F_o557_879_this_0.keep Kc nin0
  have F_o557_879_cursor := F_o557_879_cursor.keep Kc nin0
  have E_o557_893 := E_o557_893.keep Kc
  have F_o557_893_this_0 := F_o557_893_this_0.keep Kc nin0
  have F_o557_893_lastRet := F_o557_893_lastRet.keep Kc nin0
  have F_o557_893_expectedModCount := F_o557_893_expectedModCount.keep Kc nin0
  have F_o557_893_cursor := F_o557_893_cursor.keep Kc nin0
  refine Run.cast (st' := [(.int i1)]) rfl ?_
  refine s_if_eq 145 67 C X d33_64 (fun c => absurd c (by decide)) (fun _ => ?_)
  refine s_aloadN 68 C X d33_67 rfl rfl ?_
  refine s_callI 73 [] [] 0 C X d33_68 (mW 192 rfl) (mW 193 rfl) (mW 194 rfl) (mW 195 rfl) (mW 196 rfl) (mW 197 rfl) (mW 198 rfl) (mW 187 rfl) (mW 167 rfl) (mW 199 rfl) E_o557_893 (rm_a901 l Z a0 hw b1 o517 o543 k_o543 o557_893 _ n0 X.sz F_o517_modCount F_o517_elementData F_o517_size A_o543 E_o557_893 F_o557_893_this_0 F_o557_893_lastRet F_o557_893_expectedModCount F_o557_893_cursor ne_o517_o557_893 ne_o543_o557_893 g_o557_893) (lenOf pd___Ljava_lang_Object_ rfl) rfl rfl rfl (fun T v hh X q => ?_)
  obtain ⟨rfl, E_o557_893, F_o557_893_this_0, F_o557_893_lastRet, F_o557_893_expectedModCount, F_o557_893_cursor, Kc⟩ := q
  have E_b1 := E_b1.keep Kc
  have F_b1_value := F_b1_value.keep Kc (ninS ne_b1_o557_893 nin0)
  have F_o1_most := F_o1_most.keep Kc (ninS ne_o1_o557_893 nin0)
  have A_o2 := A_o2.keep Kc (ninS ne_o2_o557_893 nin0)
  have A_o4 := A_o4.keep Kc (ninS ne_o4_o557_893 nin0)
  have F_o514_this_0 := F_o514_this_0.keep Kc (ninS ne_o514_o557_893 nin0)
  have F_o514_after := F_o514_after.keep Kc (ninS ne_o514_o557_893 nin0)
  have F_o514_before := F_o514_before.keep Kc (ninS ne_o514_o557_893 nin0)
  have A_o515 := A_o515.keep Kc (ninS ne_o515_o557_893 nin0)
  have F_o517_size := F_o517_size.keep Kc (ninS ne_o517_o557_893 nin0)
  have A_o516 := A_o516.keep Kc (ninS ne_o516_o557_893 nin0)
  have Kp := Kp.trans Kc (allS (Or.inr sz_o557_893) all0)
  have E_o557_879 := E_o557_879.keep Kc
  have F_o557_879_this_0 := F_o557_879_this_0.keep Kc (ninS ne_o557_879_o557_893 nin0)
  have F_o557_879_cursor := F_o557_879_cursor.keep Kc (ninS ne_o557_879_o557_893 nin0)
  refine Run.cast (st' := [(.ref b1)]) rfl ?_
  refine s_castY 76 C X d33_73 (mW 206 rfl) (Ins.self E_b1) (fun T X => ?_)
  refine s_callV 79 [] [] 0 C X d33_76 (mW 208 rfl) (mW 209 rfl) (notFace_of_selects (args := #[]) (mvT C.2.1 (C.w (mW 211 rfl)))) (mW 211 rfl) (mW 210 rfl) (mW 106 rfl) (mW 212 rfl) E_b1 (rm_a848 l Z a0 hw b1 _ n0 X.sz F_b1_value) (lenOf pd___I rfl) rfl rfl rfl (fun T v hh X q => ?_)
  obtain ⟨rfl, Kc⟩ := q
  have F_o1_most := F_o1_most.keep Kc nin0
  have A_o2 := A_o2.keep Kc nin0
  have A_o4 := A_o4.keep Kc nin0
  have F_o514_this_0 := F_o514_this_0.keep Kc nin0
  have F_o514_after := F_o514_after.keep Kc nin0
  have F_o514_before := F_o514_before.keep Kc nin0
  have A_o515 := A_o515.keep Kc nin0
  have F_o517_size := F_o517_size.keep Kc nin0
  have A_o516 := A_o516.keep Kc nin0
  have Kp := Kp.trans Kc all0
  have E_o557_879 := E_o557_879.keep Kc
  have F_o557_879_this_0 := F_o557_879_this_0.keep Kc nin0
  have F_o557_879_cursor := F_o557_879_cursor.keep Kc nin0
  have E_o557_893 := E_o557_893.keep Kc
  have F_o557_893_this_0 := F_o557_893_this_0.keep Kc nin0
  have F_o557_893_cursor := F_o557_893_cursor.keep Kc nin0
  refine Run.cast (st' := [(.int i1)]) rfl ?_
  refine s_istore 81 C X (l' := #[rv o514, rv o557_879, iv i1, rv o557_893, iv i1, .unset, .unset]) d33_79 rfl ?_
  refine s_aloadN 82 C X d33_81 rfl rfl ?_
  refine s_getfield 85 C X (host := "") d33_82 (Or.inl (mW 59 rfl)) Via.refl F_o514_this_0 (fun T X => ?_)
  refine s_getfield 88 C X d33_85 (Or.inr (mW 62 rfl)) Via.refl F_o1_most (fun T X => ?_)
  refine s_iloadN 89 C X d33_88 rfl ?_
  refine s_aaload 90 C X d33_89 A_o2 rfl ⟨by decide, by decide⟩ (v := (.ref o4)) rfl ?_
  refine s_iload 92 C X d33_90 rfl ?_
  refine s_laload 93 C X d33_92 A_o4 ⟨by decide, by decide⟩ (v := (.long y332)) rfl ?_
  refine s_lstore 95 C X (l' := #[rv o514, rv o557_879, iv i1, rv o557_893, iv i1, lv y332, .second]) d33_93 rfl ?_
  refine s_aloadN 96 C X d33_95 rfl rfl ?_
  refine s_getfield 99 C X (host := "") d33_96 (Or.inl (mW 63 rfl)) Via.refl F_o514_after (fun T X => ?_)
  refine s_iload 101 C X d33_99 rfl ?_
  refine s_laload 102 C X d33_101 A_o515 ⟨by decide, by decide⟩ (v := (.long j0)) rfl ?_
  refine s_ldc2Long 105 C X d33_102 (mW 93 rfl) ?_
  refine s_lcmp 106 C X d33_105 ?_
  refine Run.cast (st' := [(.int im1)]) (by rw [kf_4]) ?_
  suffices J907 : ∀ (T : State) (hh : Heap) (X : St p l e ({ frames := 3, cells := 2, slots := 8, locals := 38 } : Room) s m #[(.ref o514)] below meth c n0 T hh 2 8) (F_o517_size : Fld Z hh o517 "java/util/ArrayList" "size" "I" (.int i1)) (Kp : Keep h0 hh []) (E_o557_879 : Exa Z hh o557_879 "java/util/ArrayList$Itr") (F_o557_879_this_0 : Fld Z hh o557_879 "java/util/ArrayList$Itr" "this$0" "Ljava/util/ArrayList;" (.ref o517)) (F_o557_879_cursor : Fld Z hh o557_879 "java/util/ArrayList$Itr" "cursor" "I" (.int i1)) (E_o557_893 : Exa Z hh o557_893 "java/util/ArrayList$Itr") (F_o557_893_this_0 : Fld Z hh o557_893 "java/util/ArrayList$Itr" "this$0" "Ljava/util/ArrayList;" (.ref o517)) (F_o557_893_cursor : Fld Z hh o557_893 "java/util/ArrayList$Itr" "cursor" "I" (.int i1)), Run p e below n0 Q' G' m T 142 #[rv o514, rv o557_879, iv i1, rv o557_893, iv i1, lv y332, .second] [] by
    refine s_if_eq 142 109 C X d33_106 (fun c => absurd c (by decide)) (fun _ => ?_)
    refine s_lload 111 C X d33_109 rfl ?_
    refine s_ldc2Long 114 C X d33_111 (mW 93 rfl) ?_
    refine s_lcmp 115 C X d33_114 ?_
    refine s_if_eq 142 118 C X d33_115 (fun c115_904 => ?_) (fun c115_904 => ?_)
    · have t_c115_904 : (y332).toInt = (2305843009213693951 : Int) := cl_eq.mp c115_904
      exact J907 T _  X F_o517_size Kp E_o557_879 F_o557_879_this_0 F_o557_879_cursor E_o557_893 F_o557_893_this_0 F_o557_893_cursor
    refine s_aloadN 119 C X d33_118 rfl rfl ?_
    refine s_getfield 122 C X (host := "") d33_119 (Or.inl (mW 65 rfl)) Via.refl F_o514_before (fun T X => ?_)
    refine s_iloadN 123 C X d33_122 rfl ?_
    refine s_laload 124 C X d33_123 A_o516 ⟨by decide, by decide⟩ (v := (.long j0)) rfl ?_
    refine s_lload 126 C X d33_124 rfl ?_
    refine s_ladd 127 C X d33_126 ?_
    refine s_aloadN 128 C X d33_127 rfl rfl ?_
    refine s_getfield 131 C X (host := "") d33_128 (Or.inl (mW 63 rfl)) Via.refl F_o514_after (fun T X => ?_)
    refine s_iload 133 C X d33_131 rfl ?_
    refine s_laload 134 C X d33_133 A_o515 ⟨by decide, by decide⟩ (v := (.long j0)) rfl ?_
    refine s_ladd 135 C X d33_134 ?_
    refine s_lconst 136 C X (z := j0) d33_135 rfl ?_
    refine s_lcmp 137 C X d33_136 ?_
    refine s_if_ge 142 140 C X d33_137 (fun c137_905 => ?_) (fun c137_905 => ?_)
    · have t_c137_905 : ¬ ((((j0 + y332) + j0)).toInt < (0 : Int)) := fun q => c137_905 (cl_lt.mpr q)
      exact J907 T _  X F_o517_size Kp E_o557_879 F_o557_879_this_0 F_o557_879_cursor E_o557_893 F_o557_893_this_0 F_o557_893_cursor
    refine s_iconst 141 C X d33_140 kc_iconst_0 ?_
    refine s_nreturn C X d33_141 rfl (by simp) rfl ?_ (FG hG (by decide) (by decide))
    exact hQ _ _ (Or.inr ⟨rfl, c115_904, c137_905, Kp⟩)
  intro T hh  X F_o517_size Kp E_o557_879 F_o557_879_this_0 F_o557_879_cursor E_o557_893 F_o557_893_this_0 F_o557_893_cursor
  refine s_goto 58 C X d33_142 ?_
  refine s_aloadN 59 C X d33_58 rfl rfl ?_
  refine s_callI 64 [] [] 0 C X d33_59 (mW 180 rfl) (mW 181 rfl) (mW 182 rfl) (mW 183 rfl) (mW 184 rfl) (mW 185 rfl) (mW 186 rfl) (mW 187 rfl) (mW 167 rfl) (mW 188 rfl) E_o557_893 (rm_a909 l Z a0 hw o517 o557_893 _ n0 X.sz F_o517_size F_o557_893_this_0 F_o557_893_cursor) (lenOf pd___Z rfl) rfl rfl rfl (fun T v hh X q => ?_)
  obtain ⟨rfl, Kc⟩ := q
  have F_o517_size := F_o517_size.keep Kc nin0
  have Kp := Kp.trans Kc all0
  have E_o557_879 := E_o557_879.keep Kc
  have F_o557_879_this_0 := F_o557_879_this_0.keep Kc nin0
  have F_o557_879_cursor := F_o557_879_cursor.keep Kc nin0
  refine Run.cast (st' := [(.int i0)]) rfl ?_
  refine s_if_eq 145 67 C X d33_64 (fun _ => ?_) (fun c => absurd (by decide : i0 = i0) c)
  refine s_goto 10 C X d33_145 ?_
  refine s_aloadN 11 C X d33_10 rfl rfl ?_
  refine s_callI 16 [] [] 0 C X d33_11 (mW 180 rfl) (mW 181 rfl) (mW 182 rfl) (mW 183 rfl) (mW 184 rfl) (mW 185 rfl) (mW 186 rfl) (mW 187 rfl) (mW 167 rfl) (mW 188 rfl) E_o557_879 (rm_a912 l Z a0 hw o517 o557_879 _ n0 X.sz F_o517_size F_o557_879_this_0 F_o557_879_cursor) (lenOf pd___Z rfl) rfl rfl rfl (fun T v hh X q => ?_)
  obtain ⟨rfl, Kc⟩ := q
  have Kp := Kp.trans Kc all0
  refine Run.cast (st' := [(.int i0)]) rfl ?_
  refine s_if_eq 148 19 C X d33_16 (fun _ => ?_) (fun c => absurd (by decide : i0 = i0) c)
  refine s_iconst 149 C X d33_148 kc_iconst_1 ?_
  refine s_nreturn C X d33_149 rfl (by simp) rfl ?_ (FG hG (by decide) (by decide))
  exact hQ _ _ (Or.inl ⟨rfl, Kp⟩)
theorem rm_a1016 (l : Launch) (Z : State) (a0 : Array Value) (hw : ∀ d ∈ tables_1, d.before a0 Z = true) (o1013 : Addr) (h0 : Heap) (n0 : Nat) (Z0 : n0 ≤ h0.size)  :
    Met l Z (⟨"java/lang/Record", "<init>", "()V"⟩ : MethodName) jdk_30_method_1_code 1 none { frames := 1, cells := 0, slots := 0, locals := 12 } [] #[(.ref o1013)] h0 n0 (fun v h => v = none ∧ Keep h0 h []) := by
  refine Met.mkQ (tabs := tables_1) (a0 := a0) (ls0 := #[rv o1013]) (plainFor_of_name pn_java_lang_Record) hw Z0 (fun m => by first | (simp [entryFrame, mkF, argsToLocals, Value.category]; done) | rfl) ?_
  intro p e s m below meth c T Q' G' hQ hG C X
  have Kp : Keep h0 h0 [] := Keep.refl _ _
  refine s_aloadN 1 C X d35_0 rfl rfl ?_
  refine s_objInit 4 C X d35_1 (mW 233 rfl) (mW 7 rfl) (mW 8 rfl) rfl (W := 0) rfl (by decide) (fun T X => ?_)
  refine s_return C X d35_4 rfl ?_ (FG hG (by decide) (by decide))
  exact hQ _ _ ⟨rfl, Kp⟩
theorem rm_a1017 (l : Launch) (Z : State) (a0 : Array Value) (hw : ∀ d ∈ tables_1, d.before a0 Z = true) (o1013 : Addr) (ni1014 : Int32) (xi1015 : Int32) (h0 : Heap) (n0 : Nat) (Z0 : n0 ≤ h0.size) (E_o1013 : Exa Z h0 o1013 "com/example/dayweave/dayweave/model/Range") (F_o1013_min : Fld Z h0 o1013 "com/example/dayweave/dayweave/model/Range" "min" "I" (.int i0)) (F_o1013_max : Fld Z h0 o1013 "com/example/dayweave/dayweave/model/Range" "max" "I" (.int i0)) (g_o1013 : n0 ≤ o1013) :
    Met l Z (⟨"com/example/dayweave/dayweave/model/Range", "<init>", "(II)V"⟩ : MethodName) prog_11_method_1_code 3 none { frames := 2, cells := 0, slots := 0, locals := 24 } [] #[(.ref o1013), (.int ni1014), (.int xi1015)] h0 n0 (fun v h => v = none ∧ Exa Z h o1013 "com/example/dayweave/dayweave/model/Range" ∧ Fld Z h o1013 "com/example/dayweave/dayweave/model/Range" "min" "I" (.int ni1014) ∧ Fld Z h o1013 "com/example/dayweave/dayweave/model/Range" "max" "I" (.int xi1015) ∧ Keep h0 h [o1013]) := by
  refine Met.mkQ (tabs := tables_1) (a0 := a0) (ls0 := #[rv o1013, iv ni1014, iv xi1015]) (plainFor_of_name pn_com_example_dayweave_dayweave_model_Range) hw Z0 (fun m => by first | (simp [entryFrame, mkF, argsToLocals, Value.category]; done) | rfl) ?_
  intro p e s m below meth c T Q' G' hQ hG C X
  have Kp : Keep h0 h0 [o1013] := Keep.refl _ _
  refine s_aloadN 1 C X d34_0 rfl rfl ?_
  refine s_callC 4 [] [] 0 C X d34_1 rfl (mW 228 rfl) (mW 229 rfl) (mW 231 rfl) (mW 232 rfl) (rm_a1016 l Z a0 hw o1013 _ n0 X.sz ) (lenOf pd___V rfl) rfl rfl rfl (fun T v hh X q => ?_)
  obtain ⟨rfl, Kc⟩ := q
  have E_o1013 := E_o1013.keep Kc
  have F_o1013_min := F_o1013_min.keep Kc nin0
  have F_o1013_max := F_o1013_max.keep Kc nin0
  have Kp := Kp.trans Kc all0
  refine Run.cast (st' := []) rfl ?_
  refine s_aloadN 5 C X d34_4 rfl rfl ?_
  refine s_iloadN 6 C X d34_5 rfl ?_
  refine s_putfield 9 C X (host := "") d34_6 (Or.inl (mW 234 rfl)) Via.refl F_o1013_min E_o1013 (Or.inr ⟨(mW 235 rfl), rfl, rfl⟩) (mW 223 rfl) (ty := .int) (by decide) rfl rfl g_o1013 (fun T hh X W => ?_)
  have E_o1013 := E_o1013.wr W
  have F_o1013_min := F_o1013_min.same W
  have F_o1013_max := oth F_o1013_max W (Or.inr (hw _ (mW 237 rfl))) (Or.inr (hw _ (mW 235 rfl))) (by decide)
  have Kp := Kp.wr W (Or.inl (by simp))
  refine s_aloadN 10 C X d34_9 rfl rfl ?_
  refine s_iloadN 11 C X d34_10 rfl ?_
  refine s_putfield 14 C X (host := "") d34_11 (Or.inl (mW 236 rfl)) Via.refl F_o1013_max E_o1013 (Or.inr ⟨(mW 237 rfl), rfl, rfl⟩) (mW 223 rfl) (ty := .int) (by decide) rfl rfl g_o1013 (fun T hh X W => ?_)
  have E_o1013 := E_o1013.wr W
  have F_o1013_min := oth F_o1013_min W (Or.inr (hw _ (mW 235 rfl))) (Or.inr (hw _ (mW 237 rfl))) (by decide)
  have F_o1013_max := F_o1013_max.same W
  have Kp := Kp.wr W (Or.inl (by simp))
  refine s_return C X d34_14 rfl ?_ (FG hG (by decide) (by decide))
  exact hQ _ _ ⟨rfl, E_o1013, F_o1013_min, F_o1013_max, Kp⟩
theorem rm_a1019 (l : Launch) (Z : State) (a0 : Array Value) (hw : ∀ d ∈ tables_1, d.before a0 Z = true) (b1 : Addr) (o1 : Addr) (o2 : Addr) (o3 : Addr) (o4 : Addr) (o5 : Addr) (k_o2 : ClassId) (k_o3 : ClassId) (y303 : Int64) (y304 : Int64) (y305 : Int64) (y331 : Int64) (y332 : Int64) (y333 : Int64) (o514 : Addr) (o515 : Addr) (o516 : Addr) (o517 : Addr) (k_o515 : ClassId) (k_o516 : ClassId) (o543 : Addr) (k_o543 : ClassId) (h0 : Heap) (n0 : Nat) (Z0 : n0 ≤ h0.size) (E_b1 : Exa Z h0 b1 "java/lang/Integer") (F_b1_value : Fld Z h0 b1 "java/lang/Integer" "value" "I" (.int i1)) (F_o1_most : Fld Z h0 o1 "com/example/dayweave/dayweave/solve/TemporalNetwork" "most" "[[J" (.ref o2)) (A_o2 : Arv Z h0 o2 k_o2 (.array .long) i3 [(.ref o3), (.ref o4), (.ref o5)] .null) (A_o3 : Arv Z h0 o3 k_o3 .long i3 [(.long y303), (.long y304), (.long y305)] (.long j0)) (A_o4 : Arv Z h0 o4 k_o3 .long i3 [(.long y331), (.long y332), (.long y333)] (.long j0)) (E_o514 : Exa Z h0 o514 "com/example/dayweave/dayweave/solve/TemporalNetwork$Newcomer") (F_o514_this_0 : Fld Z h0 o514 "com/example/dayweave/dayweave/solve/TemporalNetwork$Newcomer" "this$0" "Lcom/example/dayweave/dayweave/solve/TemporalNetwork;" (.ref o1)) (F_o514_after : Fld Z h0 o514 "com/example/dayweave/dayweave/solve/TemporalNetwork$Newcomer" "after" "[J" (.ref o515)) (F_o514_before : Fld Z h0 o514 "com/example/dayweave/dayweave/solve/TemporalNetwork$Newcomer" "before" "[J" (.ref o516)) (F_o514_bounding : Fld Z h0 o514 "com/example/dayweave/dayweave/solve/TemporalNetwork$Newcomer" "bounding" "Ljava/util/List;" (.ref o517)) (A_o515 : Arv Z h0 o515 k_o515 .long i3 [(.long jU19), (.long j0), (.long jU19)] (.long j0)) (E_o517 : Exa Z h0 o517 "java/util/ArrayList") (F_o517_modCount : Fld Z h0 o517 "java/util/AbstractList" "modCount" "I" (.int i1)) (F_o517_elementData : Fld Z h0 o517 "java/util/ArrayList" "elementData" "[Ljava/lang/Object;" (.ref o543)) (F_o517_size : Fld Z h0 o517 "java/util/ArrayList" "size" "I" (.int i1)) (A_o543 : Arv Z h0 o543 k_o543 (.object "java/lang/Object") i10 [(.ref b1), .null, .null, .null, .null, .null, .null, .null, .null, .null] .null) (A_o516 : Arv Z h0 o516 k_o516 .long i3 [(.long jU19), (.long j0), (.long jU19)] (.long j0)) :
    Met l Z (⟨"com/example/dayweave/dayweave/solve/TemporalNetwork$Newcomer", "slots", "()Lcom/example/dayweave/dayweave/model/Range;"⟩ : MethodName) prog_68_method_5_code 7 (some (.object "com/example/dayweave/dayweave/model/Range")) { frames := 4, cells := 4, slots := 14, locals := 56 } [] #[(.ref o514)] h0 n0 (fun v h => (∃ (y859 : Int64) (y869 : Int64), v = some .null ∧ ((((y304).toInt = (2305843009213693951 : Int)) ∧ y859 = jU19) ∨ (∃ (y29_856 : Int64), (¬ ((y304).toInt = (2305843009213693951 : Int))) ∧ (((((y304 + j0)).toInt < (jU19).toInt) ∧ y29_856 = (y304 + j0)) ∨ ((¬ (((y304 + j0)).toInt < (jU19).toInt)) ∧ y29_856 = jU19)) ∧ y859 = y29_856)) ∧ ((((y331).toInt = (2305843009213693951 : Int)) ∧ y869 = jUm20) ∨ (∃ (y585 : Int64), (¬ ((y331).toInt = (2305843009213693951 : Int))) ∧ ((((jUm20).toInt < ((-(j0 + y331))).toInt) ∧ y585 = (-(j0 + y331))) ∨ ((¬ ((jUm20).toInt < ((-(j0 + y331))).toInt)) ∧ y585 = jUm20)) ∧ y869 = y585)) ∧ (XT.cmpL y859 jU19) = i0 ∧ Keep h0 h []) ∨ (∃ (y859 : Int64) (y869 : Int64), v = some .null ∧ ((((y304).toInt = (2305843009213693951 : Int)) ∧ y859 = jU19) ∨ (∃ (y29_856 : Int64), (¬ ((y304).toInt = (2305843009213693951 : Int))) ∧ (((((y304 + j0)).toInt < (jU19).toInt) ∧ y29_856 = (y304 + j0)) ∨ ((¬ (((y304 + j0)).toInt < (jU19).toInt)) ∧ y29_856 = jU19)) ∧ y859 = y29_856)) ∧ ((((y331).toInt = (2305843009213693951 : Int)) ∧ y869 = jUm20) ∨ (∃ (y585 : Int64), (¬ ((y331).toInt = (2305843009213693951 : Int))) ∧ ((((jUm20).toInt < ((-(j0 + y331))).toInt) ∧ y585 = (-(j0 + y331))) ∨ ((¬ ((jUm20).toInt < ((-(j0 + y331))).toInt)) ∧ y585 = jUm20)) ∧ y869 = y585)) ∧ ¬ (XT.cmpL y859 jU19) = i0 ∧ (XT.cmpL y869 jUm20) = i0 ∧ Keep h0 h []) ∨ (∃ (y859 : Int64) (y869 : Int64) (o1013 : Addr) (ni1014 : Int32) (xi1015 : Int32), v = some (.ref o1013) ∧ ((((y304).toInt = (2305843009213693951 : Int)) ∧ y859 = jU19) ∨ (∃ (y29_856 : Int64), (¬ ((y304).toInt = (2305843009213693951 : Int))) ∧ (((((y304 + j0)).toInt < (jU19).toInt) ∧ y29_856 = (y304 + j0)) ∨ ((¬ (((y304 + j0)).toInt < (jU19).toInt)) ∧ y29_856 = jU19)) ∧ y859 = y29_856)) ∧ ((((y331).toInt = (2305843009213693951 : Int)) ∧ y869 = jUm20) ∨ (∃ (y585 : Int64), (¬ ((y331).toInt = (2305843009213693951 : Int))) ∧ ((((jUm20).toInt < ((-(j0 + y331))).toInt) ∧ y585 = (-(j0 + y331))) ∨ ((¬ ((jUm20).toInt < ((-(j0 + y331))).toInt)) ∧ y585 = jUm20)) ∧ y869 = y585)) ∧ ¬ (XT.cmpL y859 jU19) = i0 ∧ ¬ (XT.cmpL y869 jUm20) = i0 ∧ ni1014 = (y869).toInt32 ∧ xi1015 = (y859).toInt32 ∧ Keep h0 h [] ∧ Exa Z h o1013 "com/example/dayweave/dayweave/model/Range" ∧ Fld Z h o1013 "com/example/dayweave/dayweave/model/Range" "min" "I" (.int ni1014) ∧ Fld Z h o1013 "com/example/dayweave/dayweave/model/Range" "max" "I" (.int xi1015) ∧ h0.size ≤ o1013 ∧ n0 ≤ o1013) ∨ (∃ (y859 : Int64) (y869 : Int64), v = some .null ∧ ((((y304).toInt = (2305843009213693951 : Int)) ∧ y859 = jU19) ∨ (∃ (y29_856 : Int64), (¬ ((y304).toInt = (2305843009213693951 : Int))) ∧ (((((y304 + j0)).toInt < (jU19).toInt) ∧ y29_856 = (y304 + j0)) ∨ ((¬ (((y304 + j0)).toInt < (jU19).toInt)) ∧ y29_856 = jU19)) ∧ y859 = y29_856)) ∧ ((((y331).toInt = (2305843009213693951 : Int)) ∧ y869 = jUm20) ∨ (∃ (y585 : Int64), (¬ ((y331).toInt = (2305843009213693951 : Int))) ∧ ((((jUm20).toInt < ((-(j0 + y331))).toInt) ∧ y585 = (-(j0 + y331))) ∨ ((¬ ((jUm20).toInt < ((-(j0 + y331))).toInt)) ∧ y585 = jUm20)) ∧ y869 = y585)) ∧ ¬ (XT.cmpL y859 jU19) = i0 ∧ ¬ (XT.cmpL y869 jUm20) = i0 ∧ ¬ (XT.cmpL y332 jU19) = i0 ∧ (XT.cmpL ((j0 + y332) + j0) j0) < i0 ∧ Keep h0 h [])) := by
  refine Met.mkQ (tabs := tables_1) (a0 := a0) (ls0 := #[rv o514, .unset, .unset, .unset, .unset, .unset, .unset]) (plainFor_of_name pn_com_example_dayweave_dayweave_solve_TemporalNetwork_Newcomer) hw Z0 (fun m => by first | (simp [entryFrame, mkF, argsToLocals, Value.category]; done) | rfl) ?_
  intro p e s m below meth c T Q' G' hQ hG C X
  have Kp : Keep h0 h0 [] := Keep.refl _ _
  refine s_ldc2Long 3 C X d25_0 (mW 93 rfl) ?_
  refine s_lstoreN 4 C X (l' := #[rv o514, lv jU19, .second, .unset, .unset, .unset, .unset]) d25_3 rfl ?_
  refine s_ldc2Long 7 C X d25_4 (mW 156 rfl) ?_
  refine s_lstoreN 8 C X (l' := #[rv o514, lv jU19, .second, lv jUm20, .second, .unset, .unset]) d25_7 rfl ?_
  refine s_aloadN 9 C X d25_8 rfl rfl ?_
  refine s_getfield 12 C X (host := "") d25_9 (Or.inl (mW 91 rfl)) Via.refl F_o514_bounding (fun T X => ?_)
  refine s_callI 17 [] [] 0 C X d25_12 (mW 157 rfl) (mW 158 rfl) (mW 159 rfl) (mW 160 rfl) (mW 161 rfl) (mW 162 rfl) (mW 163 rfl) (mW 118 rfl) (mW 69 rfl) (mW 164 rfl) E_o517 (rm_a559 l Z a0 hw o517 _ n0 X.sz F_o517_modCount) (lenOf pd___Ljava_util_Iterator_ rfl) rfl rfl rfl (fun T v hh X q => ?_)
  obtain ⟨o557, rfl, Kc, E_o557, F_o557_this_0, F_o557_lastRet, F_o557_expectedModCount, F_o557_cursor, sz_o557', g_o557⟩ := q
  have ne_b1_o557 : b1 ≠ o557 := Nat.ne_of_lt (Nat.lt_of_lt_of_le E_b1.lt sz_o557')
  have ne_o1_o557 : o1 ≠ o557 := Nat.ne_of_lt (Nat.lt_of_lt_of_le F_o1_most.lt sz_o557')
  have ne_o2_o557 : o2 ≠ o557 := Nat.ne_of_lt (Nat.lt_of_lt_of_le A_o2.lt sz_o557')
  have ne_o3_o557 : o3 ≠ o557 := Nat.ne_of_lt (Nat.lt_of_lt_of_le A_o3.lt sz_o557')
  have ne_o4_o557 : o4 ≠ o557 := Nat.ne_of_lt (Nat.lt_of_lt_of_le A_o4.lt sz_o557')
  have ne_o514_o557 : o514 ≠ o557 := Nat.ne_of_lt (Nat.lt_of_lt_of_le E_o514.lt sz_o557')
  have ne_o515_o557 : o515 ≠ o557 := Nat.ne_of_lt (Nat.lt_of_lt_of_le A_o515.lt sz_o557')
  have ne_o517_o557 : o517 ≠ o557 := Nat.ne_of_lt (Nat.lt_of_lt_of_le E_o517.lt sz_o557')
  have ne_o543_o557 : o543 ≠ o557 := Nat.ne_of_lt (Nat.lt_of_lt_of_le A_o543.lt sz_o557')
  have ne_o516_o557 : o516 ≠ o557 := Nat.ne_of_lt (Nat.lt_of_lt_of_le A_o516.lt sz_o557')
  have sz_o557 : h0.size ≤ o557 := Nat.le_trans Kp.1 sz_o557'
  have E_b1 := E_b1.keep Kc
  have F_b1_value := F_b1_value.keep Kc nin0
  have F_o1_most := F_o1_most.keep Kc nin0
  have A_o2 := A_o2.keep Kc nin0
  have A_o3 := A_o3.keep Kc nin0
  have A_o4 := A_o4.keep Kc nin0
  have E_o514 := E_o514.keep Kc
  have F_o514_this_0 := F_o514_this_0.keep Kc nin0
  have F_o514_after := F_o514_after.keep Kc nin0
  have F_o514_before := F_o514_before.keep Kc nin0
  have F_o514_bounding := F_o514_bounding.keep Kc nin0
  have A_o515 := A_o515.keep Kc nin0
  have E_o517 := E_o517.keep Kc
  have F_o517_modCount := F_o517_modCount.keep Kc nin0
  have F_o517_elementData := F_o517_elementData.keep Kc nin0
  have F_o517_size := F_o517_size.keep Kc nin0
  have A_o543 := A_o543.keep Kc nin0
  have A_o516 := A_o516.keep Kc nin0
  have Kp := Kp.trans Kc all0
  refine Run.cast (st' := [(.ref o557)]) rfl ?_
  refine s_astore 19 C X (l' := #[rv o514, lv jU19, .second, lv jUm20, .second, rv o557, .unset]) d25_17 rfl rfl ?_
  refine s_aload 21 C X d25_19 rfl rfl ?_
  refine s_callI 26 [] [] 0 C X d25_21 (mW 180 rfl) (mW 181 rfl) (mW 182 rfl) (mW 183 rfl) (mW 184 rfl) (mW 185 rfl) (mW 186 rfl) (mW 187 rfl) (mW 167 rfl) (mW 188 rfl) E_o557 (rm_a561 l Z a0 hw o517 o557 _ n0 X.sz F_o517_size F_o557_this_0 F_o557_cursor) (lenOf pd___Z rfl) rfl rfl rfl (fun T v hh X q => ?_)
  obtain ⟨rfl, Kc⟩ := q
  have E_b1 := E_b1.keep Kc
  have F_b1_value := F_b1_value.keep Kc nin0
  have F_o1_most := F_o1_most.keep Kc nin0
  have A_o2 := A_o2.keep Kc nin0
  have A_o3 := A_o3.keep Kc nin0
  have A_o4 := A_o4.keep Kc nin0
  have E_o514 := E_o514.keep Kc
  have F_o514_this_0 := F_o514_this_0.keep Kc nin0
  have F_o514_after := F_o514_after.keep Kc nin0
  have F_o514_before := F_o514_before.keep Kc nin0
  have F_o514_bounding := F_o514_bounding.keep Kc nin0
  have A_o515 := A_o515.keep Kc nin0
  have E_o517 := E_o517.keep Kc
  have F_o517_modCount := F_o517_modCount.keep Kc nin0
  have F_o517_elementData := F_o517_elementData.keep Kc nin0
  have F_o517_size := F_o517_size.keep Kc nin0
  have A_o543 := A_o543.keep Kc nin0
  have A_o516 := A_o516.keep Kc nin0
  have Kp := Kp.trans Kc all0
  have E_o557 := E_o557.keep Kc
  have F_o557_this_0 := F_o557_this_0.keep Kc nin0
  have F_o557_lastRet := F_o557_lastRet.keep Kc nin0
  have F_o557_expectedModCount := F_o557_expectedModCount.keep Kc nin0
  have F_o557_cursor := F_o557_cursor.keep Kc nin0
  refine Run.cast (st' := [(.int i1)]) rfl ?_
  refine s_if_eq 164 29 C X d25_26 (fun c => absurd c (by decide)) (fun _ => ?_)
  refine s_aload 31 C X d25_29 rfl rfl ?_
  refine s_callI 36 [] [] 0 C X d25_31 (mW 192 rfl) (mW 193 rfl) (mW 194 rfl) (mW 195 rfl) (mW 196 rfl) (mW 197 rfl) (mW 198 rfl) (mW 187 rfl) (mW 167 rfl) (mW 199 rfl) E_o557 (rm_a847 l Z a0 hw b1 o517 o543 k_o543 o557 _ n0 X.sz F_o517_modCount F_o517_elementData F_o517_size A_o543 E_o557 F_o557_this_0 F_o557_lastRet F_o557_expectedModCount F_o557_cursor ne_o517_o557 ne_o543_o557 g_o557) (lenOf pd___Ljava_lang_Object_ rfl) rfl rfl rfl (fun T v hh X q => ?_)
  obtain ⟨rfl, E_o557, F_o557_this_0, F_o557_lastRet, F_o557_expectedModCount, F_o557_cursor, Kc⟩ := q
  have E_b1 := E_b1.keep Kc
  have F_b1_value := F_b1_value.keep Kc (ninS ne_b1_o557 nin0)
  have F_o1_most := F_o1_most.keep Kc (ninS ne_o1_o557 nin0)
  have A_o2 := A_o2.keep Kc (ninS ne_o2_o557 nin0)
  have A_o3 := A_o3.keep Kc (ninS ne_o3_o557 nin0)
  have A_o4 := A_o4.keep Kc (ninS ne_o4_o557 nin0)
  have E_o514 := E_o514.keep Kc
  have F_o514_this_0 := F_o514_this_0.keep Kc (ninS ne_o514_o557 nin0)
  have F_o514_after := F_o514_after.keep Kc (ninS ne_o514_o557 nin0)
  have F_o514_before := F_o514_before.keep Kc (ninS ne_o514_o557 nin0)
  have F_o514_bounding := F_o514_bounding.keep Kc (ninS ne_o514_o557 nin0)
  have A_o515 := A_o515.keep Kc (ninS ne_o515_o557 nin0)
  have E_o517 := E_o517.keep Kc
  have F_o517_modCount := F_o517_modCount.keep Kc (ninS ne_o517_o557 nin0)
  have F_o517_elementData := F_o517_elementData.keep Kc (ninS ne_o517_o557 nin0)
  have F_o517_size := F_o517_size.keep Kc (ninS ne_o517_o557 nin0)
  have A_o543 := A_o543.keep Kc (ninS ne_o543_o557 nin0)
  have A_o516 := A_o516.keep Kc (ninS ne_o516_o557 nin0)
  have Kp := Kp.trans Kc (allS (Or.inr sz_o557) all0)
  refine Run.cast (st' := [(.ref b1)]) rfl ?_
  refine s_castY 39 C X d25_36 (mW 206 rfl) (Ins.self E_b1) (fun T X => ?_)
  refine s_callV 42 [] [] 0 C X d25_39 (mW 208 rfl) (mW 209 rfl) (notFace_of_selects (args := #[]) (mvT C.2.1 (C.w (mW 211 rfl)))) (mW 211 rfl) (mW 210 rfl) (mW 106 rfl) (mW 212 rfl) E_b1 (rm_a848 l Z a0 hw b1 _ n0 X.sz F_b1_value) (lenOf pd___I rfl) rfl rfl rfl (fun T v hh X q => ?_)
  obtain ⟨rfl, Kc⟩ := q
  have E_b1 := E_b1.keep Kc
  have F_b1_value := F_b1_value.keep Kc nin0
  have F_o1_most := F_o1_most.keep Kc nin0
  have A_o2 := A_o2.keep Kc nin0
  have A_o3 := A_o3.keep Kc nin0
  have A_o4 := A_o4.keep Kc nin0
  have E_o514 := E_o514.keep Kc
  have F_o514_this_0 := F_o514_this_0.keep Kc nin0
  have F_o514_after := F_o514_after.keep Kc nin0
  have F_o514_before := F_o514_before.keep Kc nin0
  have F_o514_bounding := F_o514_bounding.keep Kc nin0
  have A_o515 := A_o515.keep Kc nin0
  have E_o517 := E_o517.keep Kc
  have F_o517_modCount := F_o517_modCount.keep Kc nin0
  have F_o517_elementData := F_o517_elementData.keep Kc nin0
  have F_o517_size := F_o517_size.keep Kc nin0
  have A_o543 := A_o543.keep Kc nin0
  have A_o516 := A_o516.keep Kc nin0
  have Kp := Kp.trans Kc all0
  have E_o557 := E_o557.keep Kc
  have F_o557_this_0 := F_o557_this_0.keep Kc nin0
  have F_o557_cursor := F_o557_cursor.keep Kc nin0
  refine Run.cast (st' := [(.int i1)]) rfl ?_
  refine s_istore 44 C X (l' := #[rv o514, lv jU19, .second, lv jUm20, .second, rv o557, iv i1]) d25_42 rfl ?_
  refine s_aloadN 45 C X d25_44 rfl rfl ?_
  refine s_getfield 48 C X (host := "") d25_45 (Or.inl (mW 63 rfl)) Via.refl F_o514_after (fun T X => ?_)
  refine s_iload 50 C X d25_48 rfl ?_
  refine s_laload 51 C X d25_50 A_o515 ⟨by decide, by decide⟩ (v := (.long j0)) rfl ?_
  refine s_ldc2Long 54 C X d25_51 (mW 93 rfl) ?_
  refine s_lcmp 55 C X d25_54 ?_
  refine Run.cast (st' := [(.int im1)]) (by rw [kf_4]) ?_
  suffices J860 : ∀ (T : State) (hh : Heap) (y859 : Int64) (D860 : (((y304).toInt = (2305843009213693951 : Int)) ∧ y859 = jU19) ∨ (∃ (y29_856 : Int64), (¬ ((y304).toInt = (2305843009213693951 : Int))) ∧ (((((y304 + j0)).toInt < (jU19).toInt) ∧ y29_856 = (y304 + j0)) ∨ ((¬ (((y304 + j0)).toInt < (jU19).toInt)) ∧ y29_856 = jU19)) ∧ y859 = y29_856)) (X : St p l e ({ frames := 4, cells := 4, slots := 14, locals := 56 } : Room) s m #[(.ref o514)] below meth c n0 T hh 1 4) (E_b1 : Exa Z hh b1 "java/lang/Integer") (F_b1_value : Fld Z hh b1 "java/lang/Integer" "value" "I" (.int i1)) (F_o1_most : Fld Z hh o1 "com/example/dayweave/dayweave/solve/TemporalNetwork" "most" "[[J" (.ref o2)) (A_o2 : Arv Z hh o2 k_o2 (.array .long) i3 [(.ref o3), (.ref o4), (.ref o5)] .null) (A_o4 : Arv Z hh o4 k_o3 .long i3 [(.long y331), (.long y332), (.long y333)] (.long j0)) (E_o514 : Exa Z hh o514 "com/example/dayweave/dayweave/solve/TemporalNetwork$Newcomer") (F_o514_this_0 : Fld Z hh o514 "com/example/dayweave/dayweave/solve/TemporalNetwork$Newcomer" "this$0" "Lcom/example/dayweave/dayweave/solve/TemporalNetwork;" (.ref o1)) (F_o514_after : Fld Z hh o514 "com/example/dayweave/dayweave/solve/TemporalNetwork$Newcomer" "after" "[J" (.ref o515)) (F_o514_before : Fld Z hh o514 "com/example/dayweave/dayweave/solve/TemporalNetwork$Newcomer" "before" "[J" (.ref o516)) (F_o514_bounding : Fld Z hh o514 "com/example/dayweave/dayweave/solve/TemporalNetwork$Newcomer" "bounding" "Ljava/util/List;" (.ref o517)) (A_o515 : Arv Z hh o515 k_o515 .long i3 [(.long jU19), (.long j0), (.long jU19)] (.long j0)) (E_o517 : Exa Z hh o517 "java/util/ArrayList") (F_o517_modCount : Fld Z hh o517 "java/util/AbstractList" "modCount" "I" (.int i1)) (F_o517_elementData : Fld Z hh o517 "java/util/ArrayList" "elementData" "[Ljava/lang/Object;" (.ref o543)) (F_o517_size : Fld Z hh o517 "java/util/ArrayList" "size" "I" (.int i1)) (A_o543 : Arv Z hh o543 k_o543 (.object "java/lang/Object") i10 [(.ref b1), .null, .null, .null, .null, .null, .null, .null, .null, .null] .null) (A_o516 : Arv Z hh o516 k_o516 .long i3 [(.long jU19), (.long j0), (.long jU19)] (.long j0)) (Kp : Keep h0 hh []) (E_o557 : Exa Z hh o557 "java/util/ArrayList$Itr") (F_o557_this_0 : Fld Z hh o557 "java/util/ArrayList$Itr" "this$0" "Ljava/util/ArrayList;" (.ref o517)) (F_o557_cursor : Fld Z hh o557 "java/util/ArrayList$Itr" "cursor" "I" (.int i1)), Run p e below n0 Q' G' m T 102 #[rv o514, lv y859, .second, lv jUm20, .second, rv o557, iv i1] [] by
    refine s_if_eq 102 58 C X d25_55 (fun c => absurd c (by decide)) (fun _ => ?_)
    refine s_aloadN 59 C X d25_58 rfl rfl ?_
    refine s_getfield 62 C X (host := "") d25_59 (Or.inl (mW 59 rfl)) Via.refl F_o514_this_0 (fun T X => ?_)
    refine s_getfield 65 C X d25_62 (Or.inr (mW 62 rfl)) Via.refl F_o1_most (fun T X => ?_)
    refine s_iconst 66 C X d25_65 kc_iconst_0 ?_
    refine s_aaload 67 C X d25_66 A_o2 rfl ⟨by decide, by decide⟩ (v := (.ref o3)) rfl ?_
    refine s_iload 69 C X d25_67 rfl ?_
    refine s_laload 70 C X d25_69 A_o3 ⟨by decide, by decide⟩ (v := (.long y304)) rfl ?_
    refine s_ldc2Long 73 C X d25_70 (mW 93 rfl) ?_
    refine s_lcmp 74 C X d25_73 ?_
    refine s_if_eq 102 77 C X d25_74 (fun c74_850 => ?_) (fun c74_850 => ?_)
    · have t_c74_850 : (y304).toInt = (2305843009213693951 : Int) := cl_eq.mp c74_850
      exact J860 T _ (jU19) ((Or.inl ⟨t_c74_850, rfl⟩)) X E_b1 F_b1_value F_o1_most A_o2 A_o4 E_o514 F_o514_this_0 F_o514_after F_o514_before F_o514_bounding A_o515 E_o517 F_o517_modCount F_o517_elementData F_o517_size A_o543 A_o516 Kp E_o557 F_o557_this_0 F_o557_cursor
    have t_c74_850 : ¬ ((y304).toInt = (2305843009213693951 : Int)) := fun q => c74_850 (cl_eq.mpr q)
    refine s_lloadN 78 C X d25_77 rfl ?_
    refine s_aloadN 79 C X d25_78 rfl rfl ?_
    refine s_getfield 82 C X (host := "") d25_79 (Or.inl (mW 59 rfl)) Via.refl F_o514_this_0 (fun T X => ?_)
    refine s_getfield 85 C X d25_82 (Or.inr (mW 62 rfl)) Via.refl F_o1_most (fun T X => ?_)
    refine s_iconst 86 C X d25_85 kc_iconst_0 ?_
    refine s_aaload 87 C X d25_86 A_o2 rfl ⟨by decide, by decide⟩ (v := (.ref o3)) rfl ?_
    refine s_iload 89 C X d25_87 rfl ?_
    refine s_laload 90 C X d25_89 A_o3 ⟨by decide, by decide⟩ (v := (.long y304)) rfl ?_
    refine s_aloadN 91 C X d25_90 rfl rfl ?_
    refine s_getfield 94 C X (host := "") d25_91 (Or.inl (mW 63 rfl)) Via.refl F_o514_after (fun T X => ?_)
    refine s_iload 96 C X d25_94 rfl ?_
    refine s_laload 97 C X d25_96 A_o515 ⟨by decide, by decide⟩ (v := (.long j0)) rfl ?_
    refine s_ladd 98 C X d25_97 ?_
    refine s_callS 101 [(.long jU19), (.long (y304 + j0))] [] 0 C X d25_98 (mW 145 rfl) (mW 29 rfl) (mW 30 rfl) (mW 31 rfl) (rm_a31 l Z a0 hw jU19 (y304 + j0) _ n0 X.sz ) (lenOf pd__JJ_J rfl) rfl rfl rfl (fun T v hh X q => ?_)
    obtain ⟨y29_856, rfl, D30_857, Kc⟩ := q
    have E_b1 := E_b1.keep Kc
    have F_b1_value := F_b1_value.keep Kc nin0
    have F_o1_most := F_o1_most.keep Kc nin0
    have A_o2 := A_o2.keep Kc nin0
    have A_o4 := A_o4.keep Kc nin0
    have E_o514 := E_o514.keep Kc
    have F_o514_this_0 := F_o514_this_0.keep Kc nin0
    have F_o514_after := F_o514_after.keep Kc nin0
    have F_o514_before := F_o514_before.keep Kc nin0
    have F_o514_bounding := F_o514_bounding.keep Kc nin0
    have A_o515 := A_o515.keep Kc nin0
    have E_o517 := E_o517.keep Kc
    have F_o517_modCount := F_o517_modCount.keep Kc nin0
    have F_o517_elementData := F_o517_elementData.keep Kc nin0
    have F_o517_size := F_o517_size.keep Kc nin0
    have A_o543 := A_o543.keep Kc nin0
    have A_o516 := A_o516.keep Kc nin0
    have Kp := Kp.trans Kc all0
    have E_o557 := E_o557.keep Kc
    have F_o557_this_0 := F_o557_this_0.keep Kc nin0
    have F_o557_cursor := F_o557_cursor.keep Kc nin0
    refine Run.cast (st' := [(.long y29_856)]) rfl ?_
    refine s_lstoreN 102 C X (l' := #[rv o514, lv y29_856, .second, lv jUm20, .second, rv o557, iv i1]) d25_101 rfl ?_
    exact J860 T _ (y29_856) (Or.inr ⟨y29_856, t_c74_850, D30_857, rfl⟩) X E_b1 F_b1_value F_o1_most A_o2 A_o4 E_o514 F_o514_this_0 F_o514_after F_o514_before F_o514_bounding A_o515 E_o517 F_o517_modCount F_o517_elementData F_o517_size A_o543 A_o516 Kp E_o557 F_o557_this_0 F_o557_cursor
  intro T hh y859 D860  X E_b1 F_b1_value F_o1_most A_o2 A_o4 E_o514 F_o514_this_0 F_o514_after F_o514_before F_o514_bounding A_o515 E_o517 F_o517_modCount F_o517_elementData F_o517_size A_o543 A_o516 Kp E_o557 F_o557_this_0 F_o557_cursor
  refine s_aloadN 103 C X d25_102 rfl rfl ?_
  refine s_getfield 106 C X (host := "") d25_103 (Or.inl (mW 65 rfl)) Via.refl F_o514_before (fun T X => ?_)
  refine s_iload 108 C X d25_106 rfl ?_
  refine s_laload 109 C X d25_108 A_o516 ⟨by decide, by decide⟩ (v := (.long j0)) rfl ?_
  refine s_ldc2Long 112 C X d25_109 (mW 93 rfl) ?_
  refine s_lcmp 113 C X d25_112 ?_
  refine Run.cast (st' := [(.int im1)]) (by rw [kf_4]) ?_
  suffices J870 : ∀ (T : State) (hh : Heap) (y869 : Int64) (D870 : (((y331).toInt = (2305843009213693951 : Int)) ∧ y869 = jUm20) ∨ (∃ (y585 : Int64), (¬ ((y331).toInt = (2305843009213693951 : Int))) ∧ ((((jUm20).toInt < ((-(j0 + y331))).toInt) ∧ y585 = (-(j0 + y331))) ∨ ((¬ ((jUm20).toInt < ((-(j0 + y331))).toInt)) ∧ y585 = jUm20)) ∧ y869 = y585)) (X : St p l e ({ frames := 4, cells := 4, slots := 14, locals := 56 } : Room) s m #[(.ref o514)] below meth c n0 T hh 1 4) (E_b1 : Exa Z hh b1 "java/lang/Integer") (F_b1_value : Fld Z hh b1 "java/lang/Integer" "value" "I" (.int i1)) (F_o1_most : Fld Z hh o1 "com/example/dayweave/dayweave/solve/TemporalNetwork" "most" "[[J" (.ref o2)) (A_o2 : Arv Z hh o2 k_o2 (.array .long) i3 [(.ref o3), (.ref o4), (.ref o5)] .null) (A_o4 : Arv Z hh o4 k_o3 .long i3 [(.long y331), (.long y332), (.long y333)] (.long j0)) (E_o514 : Exa Z hh o514 "com/example/dayweave/dayweave/solve/TemporalNetwork$Newcomer") (F_o514_this_0 : Fld Z hh o514 "com/example/dayweave/dayweave/solve/TemporalNetwork$Newcomer" "this$0" "Lcom/example/dayweave/dayweave/solve/TemporalNetwork;" (.ref o1)) (F_o514_after : Fld Z hh o514 "com/example/dayweave/dayweave/solve/TemporalNetwork$Newcomer" "after" "[J" (.ref o515)) (F_o514_before : Fld Z hh o514 "com/example/dayweave/dayweave/solve/TemporalNetwork$Newcomer" "before" "[J" (.ref o516)) (F_o514_bounding : Fld Z hh o514 "com/example/dayweave/dayweave/solve/TemporalNetwork$Newcomer" "bounding" "Ljava/util/List;" (.ref o517)) (A_o515 : Arv Z hh o515 k_o515 .long i3 [(.long jU19), (.long j0), (.long jU19)] (.long j0)) (E_o517 : Exa Z hh o517 "java/util/ArrayList") (F_o517_modCount : Fld Z hh o517 "java/util/AbstractList" "modCount" "I" (.int i1)) (F_o517_elementData : Fld Z hh o517 "java/util/ArrayList" "elementData" "[Ljava/lang/Object;" (.ref o543)) (F_o517_size : Fld Z hh o517 "java/util/ArrayList" "size" "I" (.int i1)) (A_o543 : Arv Z hh o543 k_o543 (.object "java/lang/Object") i10 [(.ref b1), .null, .null, .null, .null, .null, .null, .null, .null, .null] .null) (A_o516 : Arv Z hh o516 k_o516 .long i3 [(.long jU19), (.long j0), (.long jU19)] (.long j0)) (Kp : Keep h0 hh []) (E_o557 : Exa Z hh o557 "java/util/ArrayList$Itr") (F_o557_this_0 : Fld Z hh o557 "java/util/ArrayList$Itr" "this$0" "Ljava/util/ArrayList;" (.ref o517)) (F_o557_cursor : Fld Z hh o557 "java/util/ArrayList$Itr" "cursor" "I" (.int i1)), Run p e below n0 Q' G' m T 161 #[rv o514, lv y859, .second, lv y869, .second, rv o557, iv i1] [] by
    refine s_if_eq 161 116 C X d25_113 (fun c => absurd c (by decide)) (fun _ => ?_)
    refine s_aloadN 117 C X d25_116 rfl rfl ?_
    refine s_getfield 120 C X (host := "") d25_117 (Or.inl (mW 59 rfl)) Via.refl F_o514_this_0 (fun T X => ?_)
    refine s_getfield 123 C X d25_120 (Or.inr (mW 62 rfl)) Via.refl F_o1_most (fun T X => ?_)
    refine s_iload 125 C X d25_123 rfl ?_
    refine s_aaload 126 C X d25_125 A_o2 rfl ⟨by decide, by decide⟩ (v := (.ref o4)) rfl ?_
    refine s_iconst 127 C X d25_126 kc_iconst_0 ?_
    refine s_laload 128 C X d25_127 A_o4 ⟨by decide, by decide⟩ (v := (.long y331)) rfl ?_
    refine s_ldc2Long 131 C X d25_128 (mW 93 rfl) ?_
    refine s_lcmp 132 C X d25_131 ?_
    refine s_if_eq 161 135 C X d25_132 (fun c132_862 => ?_) (fun c132_862 => ?_)
    · have t_c132_862 : (y331).toInt = (2305843009213693951 : Int) := cl_eq.mp c132_862
      exact J870 T _ (jUm20) ((Or.inl ⟨t_c132_862, rfl⟩)) X E_b1 F_b1_value F_o1_most A_o2 A_o4 E_o514 F_o514_this_0 F_o514_after F_o514_before F_o514_bounding A_o515 E_o517 F_o517_modCount F_o517_elementData F_o517_size A_o543 A_o516 Kp E_o557 F_o557_this_0 F_o557_cursor
    have t_c132_862 : ¬ ((y331).toInt = (2305843009213693951 : Int)) := fun q => c132_862 (cl_eq.mpr q)
    refine s_lloadN 136 C X d25_135 rfl ?_
    refine s_aloadN 137 C X d25_136 rfl rfl ?_
    refine s_getfield 140 C X (host := "") d25_137 (Or.inl (mW 65 rfl)) Via.refl F_o514_before (fun T X => ?_)
    refine s_iload 142 C X d25_140 rfl ?_
    refine s_laload 143 C X d25_142 A_o516 ⟨by decide, by decide⟩ (v := (.long j0)) rfl ?_
    refine s_aloadN 144 C X d25_143 rfl rfl ?_
    refine s_getfield 147 C X (host := "") d25_144 (Or.inl (mW 59 rfl)) Via.refl F_o514_this_0 (fun T X => ?_)
    refine s_getfield 150 C X d25_147 (Or.inr (mW 62 rfl)) Via.refl F_o1_most (fun T X => ?_)
    refine s_iload 152 C X d25_150 rfl ?_
    refine s_aaload 153 C X d25_152 A_o2 rfl ⟨by decide, by decide⟩ (v := (.ref o4)) rfl ?_
    refine s_iconst 154 C X d25_153 kc_iconst_0 ?_
    refine s_laload 155 C X d25_154 A_o4 ⟨by decide, by decide⟩ (v := (.long y331)) rfl ?_
    refine s_ladd 156 C X d25_155 ?_
    refine s_lneg 157 C X d25_156 ?_
    refine s_callS 160 [(.long jUm20), (.long (-(j0 + y331)))] [] 0 C X d25_157 (mW 215 rfl) (mW 216 rfl) (mW 30 rfl) (mW 217 rfl) (rm_a587 l Z a0 hw jUm20 (-(j0 + y331)) _ n0 X.sz ) (lenOf pd__JJ_J rfl) rfl rfl rfl (fun T v hh X q => ?_)
    obtain ⟨y585, rfl, D586, Kc⟩ := q
    have E_b1 := E_b1.keep Kc
    have F_b1_value := F_b1_value.keep Kc nin0
    have F_o1_most := F_o1_most.keep Kc nin0
    have A_o2 := A_o2.keep Kc nin0
    have A_o4 := A_o4.keep Kc nin0
    have E_o514 := E_o514.keep Kc
    have F_o514_this_0 := F_o514_this_0.keep Kc nin0
    have F_o514_after := F_o514_after.keep Kc nin0
    have F_o514_before := F_o514_before.keep Kc nin0
    have F_o514_bounding := F_o514_bounding.keep Kc nin0
    have A_o515 := A_o515.keep Kc nin0
    have E_o517 := E_o517.keep Kc
    have F_o517_modCount := F_o517_modCount.keep Kc nin0
    have F_o517_elementData := F_o517_elementData.keep Kc nin0
    have F_o517_size := F_o517_size.keep Kc nin0
    have A_o543 := A_o543.keep Kc nin0
    have A_o516 := A_o516.keep Kc nin0
    have Kp := Kp.trans Kc all0
    have E_o557 := E_o557.keep Kc
    have F_o557_this_0 := F_o557_this_0.keep Kc nin0
    have F_o557_cursor := F_o557_cursor.keep Kc nin0
    refine Run.cast (st' := [(.long y585)]) rfl ?_
    refine s_lstoreN 161 C X (l' := #[rv o514, lv y859, .second, lv y585, .second, rv o557, iv i1]) d25_160 rfl ?_
    exact J870 T _ (y585) (Or.inr ⟨y585, t_c132_862, D586, rfl⟩) X E_b1 F_b1_value F_o1_most A_o2 A_o4 E_o514 F_o514_this_0 F_o514_after F_o514_before F_o514_bounding A_o515 E_o517 F_o517_modCount F_o517_elementData F_o517_size A_o543 A_o516 Kp E_o557 F_o557_this_0 F_o557_cursor
  intro T hh y869 D870  X E_b1 F_b1_value F_o1_most A_o2 A_o4 E_o514 F_o514_this_0 F_o514_after F_o514_before F_o514_bounding A_o515 E_o517 F_o517_modCount F_o517_elementData F_o517_size A_o543 A_o516 Kp E_o557 F_o557_this_0 F_o557_cursor
  refine s_goto 19 C X d25_161 ?_
  refine s_aload 21 C X d25_19 rfl rfl ?_
  refine s_callI 26 [] [] 0 C X d25_21 (mW 180 rfl) (mW 181 rfl) (mW 182 rfl) (mW 183 rfl) (mW 184 rfl) (mW 185 rfl) (mW 186 rfl) (mW 187 rfl) (mW 167 rfl) (mW 188 rfl) E_o557 (rm_a592 l Z a0 hw o517 o557 _ n0 X.sz F_o517_size F_o557_this_0 F_o557_cursor) (lenOf pd___Z rfl) rfl rfl rfl (fun T v hh X q => ?_)
  obtain ⟨rfl, Kc⟩ := q
  have E_b1 := E_b1.keep Kc
  have F_b1_value := F_b1_value.keep Kc nin0
  have F_o1_most := F_o1_most.keep Kc nin0
  have A_o2 := A_o2.keep Kc nin0
  have A_o4 := A_o4.keep Kc nin0
  have E_o514 := E_o514.keep Kc
  have F_o514_this_0 := F_o514_this_0.keep Kc nin0
  have F_o514_after := F_o514_after.keep Kc nin0
  have F_o514_before := F_o514_before.keep Kc nin0
  have F_o514_bounding := F_o514_bounding.keep Kc nin0
  have A_o515 := A_o515.keep Kc nin0
  have E_o517 := E_o517.keep Kc
  have F_o517_modCount := F_o517_modCount.keep Kc nin0
  have F_o517_elementData := F_o517_elementData.keep Kc nin0
  have F_o517_size := F_o517_size.keep Kc nin0
  have A_o543 := A_o543.keep Kc nin0
  have A_o516 := A_o516.keep Kc nin0
  have Kp := Kp.trans Kc all0
  refine Run.cast (st' := [(.int i0)]) rfl ?_
  refine s_if_eq 164 29 C X d25_26 (fun _ => ?_) (fun c => absurd (by decide : i0 = i0) c)
  refine s_lloadN 165 C X d25_164 rfl ?_
  refine s_ldc2Long 168 C X d25_165 (mW 93 rfl) ?_
  refine s_lcmp 169 C X d25_168 ?_
  refine s_if_eq 187 172 C X d25_169 (fun c169_923 => ?_) (fun c169_923 => ?_)
  · have t_c169_923 : (y859).toInt = (2305843009213693951 : Int) := cl_eq.mp c169_923
    refine s_aconstNull 188 C X d25_187 ?_
    refine s_areturn C X d25_188 rfl rfl rfl ?_ (FG hG (by decide) (by decide))
    exact hQ _ _ (Or.inl ⟨y859, y869, rfl, D860, D870, c169_923, Kp⟩)
  refine s_lloadN 173 C X d25_172 rfl ?_
  refine s_ldc2Long 176 C X d25_173 (mW 156 rfl) ?_
  refine s_lcmp 177 C X d25_176 ?_
  refine s_if_eq 187 180 C X d25_177 (fun c177_972 => ?_) (fun c177_972 => ?_)
  · have t_c177_972 : (y869).toInt = (jUm20).toInt := cl_eq.mp c177_972
    refine s_aconstNull 188 C X d25_187 ?_
    refine s_areturn C X d25_188 rfl rfl rfl ?_ (FG hG (by decide) (by decide))
    exact hQ _ _ (Or.inr (Or.inl ⟨y859, y869, rfl, D860, D870, c169_923, c177_972, Kp⟩))
  refine s_aloadN 181 C X d25_180 rfl rfl ?_
  refine s_callPI 184 [] [] 0 C X d25_181 (mW 218 rfl) (mW 219 rfl) (mW 54 rfl) (mW 220 rfl) (mW 55 rfl) (mW 221 rfl) E_o514 (rm_a914 l Z a0 hw b1 o1 o2 o3 o4 o5 k_o2 k_o3 y331 y332 y333 o514 o515 o516 o517 k_o515 k_o516 o543 k_o543 _ n0 X.sz E_b1 F_b1_value F_o1_most A_o2 A_o4 F_o514_this_0 F_o514_after F_o514_before F_o514_bounding A_o515 E_o517 F_o517_modCount F_o517_elementData F_o517_size A_o543 A_o516) (lenOf pd___Z rfl) rfl rfl rfl (fun T v hh X q => ?_)
  obtain ⟨rfl, Kc⟩ | ⟨rfl, c115_904, c137_905, Kc⟩ := q
  · have E_b1 := E_b1.keep Kc
    have Kp := Kp.trans Kc all0
    refine Run.cast (st' := [(.int i1)]) rfl ?_
    refine s_if_ne 189 187 C X d25_184 (fun _ => ?_) (fun c => absurd c (by decide))
    refine s_new 192 C X d25_189 (mW 222 rfl) (mW 223 rfl) (mW 224 rfl) (fun T hh o1013 hb_o1013 X E E_o1013 D g_o1013 => ?_)
    have sz_o1013 : h0.size ≤ o1013 := Nat.le_trans Kp.1 (Nat.le_of_eq hb_o1013)
    have Kp := Kp.ext E
    have F_o1013_min : Fld Z _ o1013 "com/example/dayweave/dayweave/model/Range" "min" "I" (.int i0) := D (Or.inr (hw _ (mW 235 rfl))) (ty := .int) (by decide)
    have F_o1013_max : Fld Z _ o1013 "com/example/dayweave/dayweave/model/Range" "max" "I" (.int i0) := D (Or.inr (hw _ (mW 237 rfl))) (ty := .int) (by decide)
    refine s_dup 193 C X d25_192 rfl ?_
    refine s_lloadN 194 C X d25_193 rfl ?_
    refine s_l2i 195 C X d25_194 ?_
    obtain ⟨ni1014, e_ni1014⟩ : ∃ zz_ : Int32, zz_ = (y869).toInt32 := ⟨_, rfl⟩
    refine Run.cast (st' := [(.int ni1014), (.ref o1013), (.ref o1013)]) (by subst e_ni1014; rfl) ?_
    refine s_lloadN 196 C X d25_195 rfl ?_
    refine s_l2i 197 C X d25_196 ?_
    obtain ⟨xi1015, e_xi1015⟩ : ∃ zz_ : Int32, zz_ = (y859).toInt32 := ⟨_, rfl⟩
    refine Run.cast (st' := [(.int xi1015), (.int ni1014), (.ref o1013), (.ref o1013)]) (by subst e_xi1015; rfl) ?_
    refine s_callC 200 [(.int ni1014), (.int xi1015)] [(.ref o1013)] 1 C X d25_197 rfl (mW 225 rfl) (mW 226 rfl) (mW 224 rfl) (mW 227 rfl) (rm_a1017 l Z a0 hw o1013 ni1014 xi1015 _ n0 X.sz E_o1013 F_o1013_min F_o1013_max g_o1013) (lenOf pd__II_V rfl) rfl rfl rfl (fun T v hh X q => ?_)
    obtain ⟨rfl, E_o1013, F_o1013_min, F_o1013_max, Kc⟩ := q
    have Kp := Kp.trans Kc (allS (Or.inr sz_o1013) all0)
    refine Run.cast (st' := [(.ref o1013)]) rfl ?_
    refine s_areturn C X d25_200 rfl rfl rfl ?_ (FG hG (by decide) (by decide))
    exact hQ _ _ (Or.inr (Or.inr (Or.inl ⟨y859, y869, o1013, ni1014, xi1015, rfl, D860, D870, c169_923, c177_972, e_ni1014, e_xi1015, Kp, E_o1013, F_o1013_min, F_o1013_max, sz_o1013, g_o1013⟩)))
  · have E_b1 := E_b1.keep Kc
    have Kp := Kp.trans Kc all0
    refine Run.cast (st' := [(.int i0)]) rfl ?_
    refine s_if_ne 189 187 C X d25_184 (fun c => absurd (by decide : i0 = i0) c) (fun _ => ?_)
    refine s_aconstNull 188 C X d25_187 ?_
    refine s_areturn C X d25_188 rfl rfl rfl ?_ (FG hG (by decide) (by decide))
    exact hQ _ _ (Or.inr (Or.inr (Or.inr ⟨y859, y869, rfl, D860, D870, c169_923, c177_972, c115_904, c137_905, Kp⟩)))
theorem rm_a1032 (l : Launch) (Z : State) (a0 : Array Value) (hw : ∀ d ∈ tables_1, d.before a0 Z = true) (o1013 : Addr) (ni1014 : Int32) (h0 : Heap) (n0 : Nat) (Z0 : n0 ≤ h0.size) (F_o1013_min : Fld Z h0 o1013 "com/example/dayweave/dayweave/model/Range" "min" "I" (.int ni1014)) :
    Met l Z (⟨"com/example/dayweave/dayweave/model/Range", "min", "()I"⟩ : MethodName) prog_11_method_6_code 1 (some .int) { frames := 0, cells := 0, slots := 0, locals := 0 } [] #[(.ref o1013)] h0 n0 (fun v h => v = some (.int ni1014) ∧ Keep h0 h []) := by
  refine Met.mkQ (tabs := tables_1) (a0 := a0) (ls0 := #[rv o1013]) (plainFor_of_name pn_com_example_dayweave_dayweave_model_Range) hw Z0 (fun m => by first | (simp [entryFrame, mkF, argsToLocals, Value.category]; done) | rfl) ?_
  intro p e s m below meth c T Q' G' hQ hG C X
  have Kp : Keep h0 h0 [] := Keep.refl _ _
  refine s_aloadN 1 C X d36_0 rfl rfl ?_
  refine s_getfield 4 C X (host := "") d36_1 (Or.inl (mW 234 rfl)) Via.refl F_o1013_min (fun T X => ?_)
  refine s_ireturn C X d36_4 rfl ?_ (FG hG (by decide) (by decide))
  exact hQ _ _ ⟨rfl, Kp⟩
theorem rm_a1034 (l : Launch) (Z : State) (a0 : Array Value) (hw : ∀ d ∈ tables_1, d.before a0 Z = true) (o1013 : Addr) (xi1015 : Int32) (h0 : Heap) (n0 : Nat) (Z0 : n0 ≤ h0.size) (F_o1013_max : Fld Z h0 o1013 "com/example/dayweave/dayweave/model/Range" "max" "I" (.int xi1015)) :
    Met l Z (⟨"com/example/dayweave/dayweave/model/Range", "max", "()I"⟩ : MethodName) prog_11_method_7_code 1 (some .int) { frames := 0, cells := 0, slots := 0, locals := 0 } [] #[(.ref o1013)] h0 n0 (fun v h => v = some (.int xi1015) ∧ Keep h0 h []) := by
  refine Met.mkQ (tabs := tables_1) (a0 := a0) (ls0 := #[rv o1013]) (plainFor_of_name pn_com_example_dayweave_dayweave_model_Range) hw Z0 (fun m => by first | (simp [entryFrame, mkF, argsToLocals, Value.category]; done) | rfl) ?_
  intro p e s m below meth c T Q' G' hQ hG C X
  have Kp : Keep h0 h0 [] := Keep.refl _ _
  refine s_aloadN 1 C X d37_0 rfl rfl ?_
  refine s_getfield 4 C X (host := "") d37_1 (Or.inl (mW 236 rfl)) Via.refl F_o1013_max (fun T X => ?_)
  refine s_ireturn C X d37_4 rfl ?_ (FG hG (by decide) (by decide))
  exact hQ _ _ ⟨rfl, Kp⟩
theorem rm0 (l : Launch) (Z : State) (a0 : Array Value) (hw : ∀ d ∈ tables_1, d.before a0 Z = true) (x0 x1 x2 x3 x4 x5 : Int32) (ac : Addr) (k_ac : ClassId) (vsC : List Value) (de : Addr) (k_de : ClassId) (b1 b2 : Addr) (h0 : Heap) (n0 : Nat) (Z0 : n0 ≤ h0.size) (Od : Old Z n0 h0) (S_high : Sta Z Z.heap "java/lang/Integer$IntegerCache" "high" "I" (.int 127)) (S_cache : Sta Z Z.heap "java/lang/Integer$IntegerCache" "cache" "[Ljava/lang/Integer;" (.ref ac)) (S_de : Sta Z Z.heap "java/util/ArrayList" "DEFAULTCAPACITY_EMPTY_ELEMENTDATA" "[Ljava/lang/Object;" (.ref de)) (A_ac : Arv Z h0 ac k_ac (.object "java/lang/Integer") 256 vsC .null) (A_de : Arv Z h0 de k_de (.object "java/lang/Object") 0 [] .null) (E_b1 : Exa Z h0 b1 "java/lang/Integer") (F_b1_value : Fld Z h0 b1 "java/lang/Integer" "value" "I" (.int 1)) (E_b2 : Exa Z h0 b2 "java/lang/Integer") (F_b2_value : Fld Z h0 b2 "java/lang/Integer" "value" "I" (.int 2)) (hv129 : vsC.getD i129.toNatClampNeg .null = .ref b1) (hv130 : vsC.getD i130.toNatClampNeg .null = .ref b2) :
    Met l Z x code maxLocals ret room_1 tables_1 #[(.int x0), (.int x1), (.int x2), (.int x3), (.int x4), (.int x5)] h0 n0 (fun v h => v = some (.int 1)) := by
  refine Met.mk (tabs := tables_1) (a0 := a0) (ls0 := #[iv x0, iv x1, iv x2, iv x3, iv x4, iv x5, .unset, .unset, .unset, .unset, .unset, .unset, .unset, .unset, .unset, .unset, .unset, .unset, .unset, .unset, .unset, .unset, .unset, .unset, .unset, .unset, .unset, .unset, .unset, .unset, .unset, .unset, .unset, .unset, .unset, .unset, .unset, .unset, .unset, .unset]) (plainFor_of_name pn_com_example_dayweave_dayweave_solve_TemporalNetworkMinimisePinLaw) hw Z0 (fun m => by first | (simp [entryFrame, mkF, argsToLocals, Value.category, maxLocals]; done) | rfl) ?_
  intro p e s m below meth c T C X
  refine s_new 3 C X at_0 (mW 0 rfl) (mW 1 rfl) (mW 2 rfl) (fun T hh o1 hb_o1 X E E_o1 D g_o1 => ?_)
  have ne_ac_o1 : ac ≠ o1 := Nat.ne_of_lt (Nat.lt_of_lt_of_le A_ac.lt (Nat.le_of_eq hb_o1))
  have ne_de_o1 : de ≠ o1 := Nat.ne_of_lt (Nat.lt_of_lt_of_le A_de.lt (Nat.le_of_eq hb_o1))
  have ne_b1_o1 : b1 ≠ o1 := Nat.ne_of_lt (Nat.lt_of_lt_of_le E_b1.lt (Nat.le_of_eq hb_o1))
  have ne_b2_o1 : b2 ≠ o1 := Nat.ne_of_lt (Nat.lt_of_lt_of_le E_b2.lt (Nat.le_of_eq hb_o1))
  have Od := Od.ext E
  have A_ac := A_ac.ext E
  have A_de := A_de.ext E
  have E_b1 := E_b1.ext E
  have F_b1_value := F_b1_value.ext E
  have E_b2 := E_b2.ext E
  have F_b2_value := F_b2_value.ext E
  have F_o1_most : Fld Z _ o1 "com/example/dayweave/dayweave/solve/TemporalNetwork" "most" "[[J" .null := D (Or.inr (hw _ (mW 13 rfl))) (ty := (.array (.array .long))) (by decide)
  refine s_dup 4 C X at_3 rfl ?_
  refine s_iconst 5 C X at_4 kc_iconst_3 ?_
  refine s_callC 8 [(.int i3)] [(.ref o1)] 1 C X at_5 rfl (mW 3 rfl) (mW 4 rfl) (mW 2 rfl) (mW 5 rfl) (rm_a25 l Z a0 hw o1 _ n0 X.sz E_o1 F_o1_most g_o1) (lenOf pd__I_V rfl) rfl rfl rfl (fun T v hh X q => ?_)
  obtain ⟨o2, o3, o4, o5, k_o2, k_o3, rfl, E_o1, F_o1_most, Kc, A_o2, A_o3, A_o4, A_o5, ne_o1_o2, sz_o2', g_o2, ne_o1_o3, sz_o3', g_o3, ne_o1_o4, sz_o4', g_o4, ne_o1_o5, sz_o5', g_o5, ne_o2_o3, ne_o2_o4, ne_o2_o5, ne_o3_o4, ne_o3_o5, ne_o4_o5⟩ := q
  have ne_ac_o3 : ac ≠ o3 := Nat.ne_of_lt (Nat.lt_of_lt_of_le A_ac.lt sz_o3')
  have ne_de_o3 : de ≠ o3 := Nat.ne_of_lt (Nat.lt_of_lt_of_le A_de.lt sz_o3')
  have ne_b1_o3 : b1 ≠ o3 := Nat.ne_of_lt (Nat.lt_of_lt_of_le E_b1.lt sz_o3')
  have ne_b2_o3 : b2 ≠ o3 := Nat.ne_of_lt (Nat.lt_of_lt_of_le E_b2.lt sz_o3')
  have ne_ac_o4 : ac ≠ o4 := Nat.ne_of_lt (Nat.lt_of_lt_of_le A_ac.lt sz_o4')
  have ne_de_o4 : de ≠ o4 := Nat.ne_of_lt (Nat.lt_of_lt_of_le A_de.lt sz_o4')
  have ne_b1_o4 : b1 ≠ o4 := Nat.ne_of_lt (Nat.lt_of_lt_of_le E_b1.lt sz_o4')
  have ne_b2_o4 : b2 ≠ o4 := Nat.ne_of_lt (Nat.lt_of_lt_of_le E_b2.lt sz_o4')
  have ne_ac_o5 : ac ≠ o5 := Nat.ne_of_lt (Nat.lt_of_lt_of_le A_ac.lt sz_o5')
  have ne_de_o5 : de ≠ o5 := Nat.ne_of_lt (Nat.lt_of_lt_of_le A_de.lt sz_o5')
  have ne_b1_o5 : b1 ≠ o5 := Nat.ne_of_lt (Nat.lt_of_lt_of_le E_b1.lt sz_o5')
  have ne_b2_o5 : b2 ≠ o5 := Nat.ne_of_lt (Nat.lt_of_lt_of_le E_b2.lt sz_o5')
  have Od := Od.keep Kc (allS g_o1 all0)
  have A_ac := A_ac.keep Kc (ninS ne_ac_o1 nin0)
  have A_de := A_de.keep Kc (ninS ne_de_o1 nin0)
  have E_b1 := E_b1.keep Kc
  have F_b1_value := F_b1_value.keep Kc (ninS ne_b1_o1 nin0)
  have E_b2 := E_b2.keep Kc
  have F_b2_value := F_b2_value.keep Kc (ninS ne_b2_o1 nin0)
  refine Run.cast (st' := [(.ref o1)]) rfl ?_
  refine s_astore 10 C X (l' := #[iv x0, iv x1, iv x2, iv x3, iv x4, iv x5, rv o1, .unset, .unset, .unset, .unset, .unset, .unset, .unset, .unset, .unset, .unset, .unset, .unset, .unset, .unset, .unset, .unset, .unset, .unset, .unset, .unset, .unset, .unset, .unset, .unset, .unset, .unset, .unset, .unset, .unset, .unset, .unset, .unset, .unset]) at_8 rfl rfl ?_
  refine s_aload 12 C X at_10 rfl rfl ?_
  refine s_iconst 13 C X at_12 kc_iconst_0 ?_
  refine s_iconst 14 C X at_13 kc_iconst_1 ?_
  refine s_iloadN 15 C X at_14 rfl ?_
  refine s_callS 18 [(.ref o1), (.int i0), (.int i1), (.int x0)] [] 0 C X at_15 (mW 19 rfl) (mW 20 rfl) (mW 21 rfl) (mW 22 rfl) (rm_a36 l Z a0 hw x0 o1 o2 o3 o4 o5 k_o2 k_o3 _ n0 X.sz E_o1 F_o1_most A_o2 A_o3 g_o3 ne_o1_o3 ne_o2_o3) (lenOf pd__Lcom_example_dayweave_dayweave_solve_TemporalNetwork_III_V rfl) rfl rfl rfl (fun T v hh X q => ?_)
  obtain ⟨y34, rfl, W_y34, A_o3, Kc⟩ := q
  have Od := Od.keep Kc (allS g_o3 all0)
  have A_ac := A_ac.keep Kc (ninS ne_ac_o3 nin0)
  have A_de := A_de.keep Kc (ninS ne_de_o3 nin0)
  have E_b1 := E_b1.keep Kc
  have F_b1_value := F_b1_value.keep Kc (ninS ne_b1_o3 nin0)
  have E_b2 := E_b2.keep Kc
  have F_b2_value := F_b2_value.keep Kc (ninS ne_b2_o3 nin0)
  have E_o1 := E_o1.keep Kc
  have F_o1_most := F_o1_most.keep Kc (ninS ne_o1_o3 nin0)
  have A_o2 := A_o2.keep Kc (ninS ne_o2_o3 nin0)
  have A_o4 := A_o4.keep Kc (ninS (Ne.symm ne_o3_o4) nin0)
  have A_o5 := A_o5.keep Kc (ninS (Ne.symm ne_o3_o5) nin0)
  refine Run.cast (st' := []) rfl ?_
  refine s_aload 20 C X at_18 rfl rfl ?_
  refine s_iconst 21 C X at_20 kc_iconst_1 ?_
  refine s_iconst 22 C X at_21 kc_iconst_0 ?_
  refine s_iloadN 23 C X at_22 rfl ?_
  refine s_callS 26 [(.ref o1), (.int i1), (.int i0), (.int x1)] [] 0 C X at_23 (mW 19 rfl) (mW 20 rfl) (mW 21 rfl) (mW 22 rfl) (rm_a47 l Z a0 hw x1 o1 o2 o3 o4 o5 k_o2 k_o3 _ n0 X.sz E_o1 F_o1_most A_o2 A_o4 g_o4 ne_o1_o4 ne_o2_o4) (lenOf pd__Lcom_example_dayweave_dayweave_solve_TemporalNetwork_III_V rfl) rfl rfl rfl (fun T v hh X q => ?_)
  obtain ⟨y45, rfl, W_y45, A_o4, Kc⟩ := q
  have Od := Od.keep Kc (allS g_o4 all0)
  have A_ac := A_ac.keep Kc (ninS ne_ac_o4 nin0)
  have A_de := A_de.keep Kc (ninS ne_de_o4 nin0)
  have E_b1 := E_b1.keep Kc
  have F_b1_value := F_b1_value.keep Kc (ninS ne_b1_o4 nin0)
  have E_b2 := E_b2.keep Kc
  have F_b2_value := F_b2_value.keep Kc (ninS ne_b2_o4 nin0)
  have E_o1 := E_o1.keep Kc
  have F_o1_most := F_o1_most.keep Kc (ninS ne_o1_o4 nin0)
  have A_o2 := A_o2.keep Kc (ninS ne_o2_o4 nin0)
  have A_o5 := A_o5.keep Kc (ninS (Ne.symm ne_o4_o5) nin0)
  have A_o3 := A_o3.keep Kc (ninS ne_o3_o4 nin0)
  refine Run.cast (st' := []) rfl ?_
  refine s_aload 28 C X at_26 rfl rfl ?_
  refine s_iconst 29 C X at_28 kc_iconst_0 ?_
  refine s_iconst 30 C X at_29 kc_iconst_2 ?_
  refine s_iloadN 31 C X at_30 rfl ?_
  refine s_callS 34 [(.ref o1), (.int i0), (.int i2), (.int x2)] [] 0 C X at_31 (mW 19 rfl) (mW 20 rfl) (mW 21 rfl) (mW 22 rfl) (rm_a58 l Z a0 hw x2 o1 o2 o3 o4 o5 k_o2 k_o3 y34 _ n0 X.sz E_o1 F_o1_most A_o2 A_o3 g_o3 ne_o1_o3 ne_o2_o3) (lenOf pd__Lcom_example_dayweave_dayweave_solve_TemporalNetwork_III_V rfl) rfl rfl rfl (fun T v hh X q => ?_)
  obtain ⟨y56, rfl, W_y56, A_o3, Kc⟩ := q
  have Od := Od.keep Kc (allS g_o3 all0)
  have A_ac := A_ac.keep Kc (ninS ne_ac_o3 nin0)
  have A_de := A_de.keep Kc (ninS ne_de_o3 nin0)
  have E_b1 := E_b1.keep Kc
  have F_b1_value := F_b1_value.keep Kc (ninS ne_b1_o3 nin0)
  have E_b2 := E_b2.keep Kc
  have F_b2_value := F_b2_value.keep Kc (ninS ne_b2_o3 nin0)
  have E_o1 := E_o1.keep Kc
  have F_o1_most := F_o1_most.keep Kc (ninS ne_o1_o3 nin0)
  have A_o2 := A_o2.keep Kc (ninS ne_o2_o3 nin0)
  have A_o5 := A_o5.keep Kc (ninS (Ne.symm ne_o3_o5) nin0)
  have A_o4 := A_o4.keep Kc (ninS (Ne.symm ne_o3_o4) nin0)
  refine Run.cast (st' := []) rfl ?_
  refine s_aload 36 C X at_34 rfl rfl ?_
  refine s_iconst 37 C X at_36 kc_iconst_2 ?_
  refine s_iconst 38 C X at_37 kc_iconst_0 ?_
  refine s_iloadN 39 C X at_38 rfl ?_
  refine s_callS 42 [(.ref o1), (.int i2), (.int i0), (.int x3)] [] 0 C X at_39 (mW 19 rfl) (mW 20 rfl) (mW 21 rfl) (mW 22 rfl) (rm_a69 l Z a0 hw x3 o1 o2 o3 o4 o5 k_o2 k_o3 _ n0 X.sz E_o1 F_o1_most A_o2 A_o5 g_o5 ne_o1_o5 ne_o2_o5) (lenOf pd__Lcom_example_dayweave_dayweave_solve_TemporalNetwork_III_V rfl) rfl rfl rfl (fun T v hh X q => ?_)
  obtain ⟨y67, rfl, W_y67, A_o5, Kc⟩ := q
  have Od := Od.keep Kc (allS g_o5 all0)
  have A_ac := A_ac.keep Kc (ninS ne_ac_o5 nin0)
  have A_de := A_de.keep Kc (ninS ne_de_o5 nin0)
  have E_b1 := E_b1.keep Kc
  have F_b1_value := F_b1_value.keep Kc (ninS ne_b1_o5 nin0)
  have E_b2 := E_b2.keep Kc
  have F_b2_value := F_b2_value.keep Kc (ninS ne_b2_o5 nin0)
  have E_o1 := E_o1.keep Kc
  have F_o1_most := F_o1_most.keep Kc (ninS ne_o1_o5 nin0)
  have A_o2 := A_o2.keep Kc (ninS ne_o2_o5 nin0)
  have A_o4 := A_o4.keep Kc (ninS ne_o4_o5 nin0)
  have A_o3 := A_o3.keep Kc (ninS ne_o3_o5 nin0)
  refine Run.cast (st' := []) rfl ?_
  refine s_aload 44 C X at_42 rfl rfl ?_
  refine s_iconst 45 C X at_44 kc_iconst_1 ?_
  refine s_iconst 46 C X at_45 kc_iconst_2 ?_
  refine s_iload 48 C X at_46 rfl ?_
  refine s_callS 51 [(.ref o1), (.int i1), (.int i2), (.int x4)] [] 0 C X at_48 (mW 19 rfl) (mW 20 rfl) (mW 21 rfl) (mW 22 rfl) (rm_a80 l Z a0 hw x4 o1 o2 o3 o4 o5 k_o2 k_o3 y45 _ n0 X.sz E_o1 F_o1_most A_o2 A_o4 g_o4 ne_o1_o4 ne_o2_o4) (lenOf pd__Lcom_example_dayweave_dayweave_solve_TemporalNetwork_III_V rfl) rfl rfl rfl (fun T v hh X q => ?_)
  obtain ⟨y78, rfl, W_y78, A_o4, Kc⟩ := q
  have Od := Od.keep Kc (allS g_o4 all0)
  have A_ac := A_ac.keep Kc (ninS ne_ac_o4 nin0)
  have A_de := A_de.keep Kc (ninS ne_de_o4 nin0)
  have E_b1 := E_b1.keep Kc
  have F_b1_value := F_b1_value.keep Kc (ninS ne_b1_o4 nin0)
  have E_b2 := E_b2.keep Kc
  have F_b2_value := F_b2_value.keep Kc (ninS ne_b2_o4 nin0)
  have E_o1 := E_o1.keep Kc
  have F_o1_most := F_o1_most.keep Kc (ninS ne_o1_o4 nin0)
  have A_o2 := A_o2.keep Kc (ninS ne_o2_o4 nin0)
  have A_o3 := A_o3.keep Kc (ninS ne_o3_o4 nin0)
  have A_o5 := A_o5.keep Kc (ninS (Ne.symm ne_o4_o5) nin0)
  refine Run.cast (st' := []) rfl ?_
  refine s_aload 53 C X at_51 rfl rfl ?_
  refine s_iconst 54 C X at_53 kc_iconst_2 ?_
  refine s_iconst 55 C X at_54 kc_iconst_1 ?_
  refine s_iload 57 C X at_55 rfl ?_
  refine s_callS 60 [(.ref o1), (.int i2), (.int i1), (.int x5)] [] 0 C X at_57 (mW 19 rfl) (mW 20 rfl) (mW 21 rfl) (mW 22 rfl) (rm_a91 l Z a0 hw x5 o1 o2 o3 o4 o5 k_o2 k_o3 y67 _ n0 X.sz E_o1 F_o1_most A_o2 A_o5 g_o5 ne_o1_o5 ne_o2_o5) (lenOf pd__Lcom_example_dayweave_dayweave_solve_TemporalNetwork_III_V rfl) rfl rfl rfl (fun T v hh X q => ?_)
  obtain ⟨y89, rfl, W_y89, A_o5, Kc⟩ := q
  have Od := Od.keep Kc (allS g_o5 all0)
  have A_ac := A_ac.keep Kc (ninS ne_ac_o5 nin0)
  have A_de := A_de.keep Kc (ninS ne_de_o5 nin0)
  have E_b1 := E_b1.keep Kc
  have F_b1_value := F_b1_value.keep Kc (ninS ne_b1_o5 nin0)
  have E_b2 := E_b2.keep Kc
  have F_b2_value := F_b2_value.keep Kc (ninS ne_b2_o5 nin0)
  have E_o1 := E_o1.keep Kc
  have F_o1_most := F_o1_most.keep Kc (ninS ne_o1_o5 nin0)
  have A_o2 := A_o2.keep Kc (ninS ne_o2_o5 nin0)
  have A_o3 := A_o3.keep Kc (ninS ne_o3_o5 nin0)
  have A_o4 := A_o4.keep Kc (ninS ne_o4_o5 nin0)
  refine Run.cast (st' := []) rfl ?_
  obtain ⟨dz, e_dz⟩ : ∃ z : Int64, z = j0 := ⟨_, rfl⟩
  have hvz : dz.toInt = 0 := by rw [e_dz]; decide
  have A_o3 : Arv Z hh o3 k_o3 .long i3 [(.long dz), (.long y34), (.long y56)] (.long j0) := by rw [e_dz]; exact A_o3
  have A_o4 : Arv Z hh o4 k_o3 .long i3 [(.long y45), (.long dz), (.long y78)] (.long j0) := by rw [e_dz]; exact A_o4
  have A_o5 : Arv Z hh o5 k_o3 .long i3 [(.long y67), (.long y89), (.long dz)] (.long j0) := by rw [e_dz]; exact A_o5
  have hvB01 : own_B 268435456 y34 := own_WB W_y34
  have hvB02 : own_B 268435456 y56 := own_WB W_y56
  have hvB10 : own_B 268435456 y45 := own_WB W_y45
  have hvB12 : own_B 268435456 y78 := own_WB W_y78
  have hvB20 : own_B 268435456 y67 := own_WB W_y67
  have hvB21 : own_B 268435456 y89 := own_WB W_y89
  refine s_aload 62 C X at_60 rfl rfl ?_
  refine s_callV 65 [] [] 0 C X at_62 (mW 32 rfl) (mW 33 rfl) (notFace_of_selects (args := #[]) (mvT C.2.1 (C.w (mW 35 rfl)))) (mW 35 rfl) (mW 34 rfl) (mW 2 rfl) (mW 36 rfl) E_o1 (rm_a372 l Z a0 hw o1 o2 o3 o4 o5 k_o2 k_o3 y34 y45 y56 y67 y78 y89 dz _ n0 X.sz F_o1_most A_o2 A_o3 A_o4 A_o5 g_o3 g_o4 g_o5 ne_o1_o3 ne_o1_o4 ne_o1_o5 ne_o2_o3 ne_o2_o4 ne_o2_o5 ne_o3_o4 ne_o3_o5 ne_o4_o5 hvz hvB01 hvB02 hvB10 hvB12 hvB20 hvB21) (lenOf pd___Z rfl) rfl rfl rfl (fun T v hh X q => ?_)
  obtain ⟨y303, y304, y305, y331, y332, y333, y359, y360, y361, rfl, hY, A_o3, A_o4, A_o5, Kc⟩ | ⟨rfl, hN, Kc⟩ := q
  · have Od := Od.keep Kc (allS g_o3 (allS g_o4 (allS g_o5 all0)))
    have A_ac := A_ac.keep Kc (ninS ne_ac_o3 (ninS ne_ac_o4 (ninS ne_ac_o5 nin0)))
    have A_de := A_de.keep Kc (ninS ne_de_o3 (ninS ne_de_o4 (ninS ne_de_o5 nin0)))
    have E_b1 := E_b1.keep Kc
    have F_b1_value := F_b1_value.keep Kc (ninS ne_b1_o3 (ninS ne_b1_o4 (ninS ne_b1_o5 nin0)))
    have E_b2 := E_b2.keep Kc
    have F_b2_value := F_b2_value.keep Kc (ninS ne_b2_o3 (ninS ne_b2_o4 (ninS ne_b2_o5 nin0)))
    have E_o1 := E_o1.keep Kc
    have F_o1_most := F_o1_most.keep Kc (ninS ne_o1_o3 (ninS ne_o1_o4 (ninS ne_o1_o5 nin0)))
    have A_o2 := A_o2.keep Kc (ninS ne_o2_o3 (ninS ne_o2_o4 (ninS ne_o2_o5 nin0)))
    refine Run.cast (st' := [(.int i1)]) rfl ?_
    refine s_istore 67 C X (l' := #[iv x0, iv x1, iv x2, iv x3, iv x4, iv x5, rv o1, iv i1, .unset, .unset, .unset, .unset, .unset, .unset, .unset, .unset, .unset, .unset, .unset, .unset, .unset, .unset, .unset, .unset, .unset, .unset, .unset, .unset, .unset, .unset, .unset, .unset, .unset, .unset, .unset, .unset, .unset, .unset, .unset, .unset]) at_65 rfl ?_
    refine s_iloadN 68 C X at_67 rfl ?_
    refine s_callS 71 [(.int x0)] [] 0 C X at_68 (mW 37 rfl) (mW 38 rfl) (mW 21 rfl) (mW 39 rfl) (rm_a378 l Z a0 hw (x0) _ n0 X.sz ) (lenOf pd__I_J rfl) rfl rfl rfl (fun T v hh X q => ?_)
    obtain ⟨y376, rfl, V_y376, Kc⟩ := q
    have Od := Od.keep Kc all0
    have A_ac := A_ac.keep Kc nin0
    have A_de := A_de.keep Kc nin0
    have E_b1 := E_b1.keep Kc
    have F_b1_value := F_b1_value.keep Kc nin0
    have E_b2 := E_b2.keep Kc
    have F_b2_value := F_b2_value.keep Kc nin0
    have E_o1 := E_o1.keep Kc
    have F_o1_most := F_o1_most.keep Kc nin0
    have A_o2 := A_o2.keep Kc nin0
    have A_o3 := A_o3.keep Kc nin0
    have A_o4 := A_o4.keep Kc nin0
    have A_o5 := A_o5.keep Kc nin0
    refine Run.cast (st' := [(.long y376)]) rfl ?_
    refine s_lstore 73 C X (l' := #[iv x0, iv x1, iv x2, iv x3, iv x4, iv x5, rv o1, iv i1, lv y376, .second, .unset, .unset, .unset, .unset, .unset, .unset, .unset, .unset, .unset, .unset, .unset, .unset, .unset, .unset, .unset, .unset, .unset, .unset, .unset, .unset, .unset, .unset, .unset, .unset, .unset, .unset, .unset, .unset, .unset, .unset]) at_71 rfl ?_
    refine s_iloadN 74 C X at_73 rfl ?_
    refine s_callS 77 [(.int x1)] [] 0 C X at_74 (mW 37 rfl) (mW 38 rfl) (mW 21 rfl) (mW 39 rfl) (rm_a378 l Z a0 hw (x1) _ n0 X.sz ) (lenOf pd__I_J rfl) rfl rfl rfl (fun T v hh X q => ?_)
    obtain ⟨y376_385, rfl, V_y376_385, Kc⟩ := q
    have Od := Od.keep Kc all0
    have A_ac := A_ac.keep Kc nin0
    have A_de := A_de.keep Kc nin0
    have E_b1 := E_b1.keep Kc
    have F_b1_value := F_b1_value.keep Kc nin0
    have E_b2 := E_b2.keep Kc
    have F_b2_value := F_b2_value.keep Kc nin0
    have E_o1 := E_o1.keep Kc
    have F_o1_most := F_o1_most.keep Kc nin0
    have A_o2 := A_o2.keep Kc nin0
    have A_o3 := A_o3.keep Kc nin0
    have A_o4 := A_o4.keep Kc nin0
    have A_o5 := A_o5.keep Kc nin0
    refine Run.cast (st' := [(.long y376_385)]) rfl ?_
    refine s_lstore 79 C X (l' := #[iv x0, iv x1, iv x2, iv x3, iv x4, iv x5, rv o1, iv i1, lv y376, .second, lv y376_385, .second, .unset, .unset, .unset, .unset, .unset, .unset, .unset, .unset, .unset, .unset, .unset, .unset, .unset, .unset, .unset, .unset, .unset, .unset, .unset, .unset, .unset, .unset, .unset, .unset, .unset, .unset, .unset, .unset]) at_77 rfl ?_
    refine s_iloadN 80 C X at_79 rfl ?_
    refine s_callS 83 [(.int x2)] [] 0 C X at_80 (mW 37 rfl) (mW 38 rfl) (mW 21 rfl) (mW 39 rfl) (rm_a378 l Z a0 hw (x2) _ n0 X.sz ) (lenOf pd__I_J rfl) rfl rfl rfl (fun T v hh X q => ?_)
    obtain ⟨y376_392, rfl, V_y376_392, Kc⟩ := q
    have Od := Od.keep Kc all0
    have A_ac := A_ac.keep Kc nin0
    have A_de := A_de.keep Kc nin0
    have E_b1 := E_b1.keep Kc
    have F_b1_value := F_b1_value.keep Kc nin0
    have E_b2 := E_b2.keep Kc
    have F_b2_value := F_b2_value.keep Kc nin0
    have E_o1 := E_o1.keep Kc
    have F_o1_most := F_o1_most.keep Kc nin0
    have A_o2 := A_o2.keep Kc nin0
    have A_o3 := A_o3.keep Kc nin0
    have A_o4 := A_o4.keep Kc nin0
    have A_o5 := A_o5.keep Kc nin0
    refine Run.cast (st' := [(.long y376_392)]) rfl ?_
    refine s_lstore 85 C X (l' := #[iv x0, iv x1, iv x2, iv x3, iv x4, iv x5, rv o1, iv i1, lv y376, .second, lv y376_385, .second, lv y376_392, .second, .unset, .unset, .unset, .unset, .unset, .unset, .unset, .unset, .unset, .unset, .unset, .unset, .unset, .unset, .unset, .unset, .unset, .unset, .unset, .unset, .unset, .unset, .unset, .unset, .unset, .unset]) at_83 rfl ?_
    refine s_iloadN 86 C X at_85 rfl ?_
    refine s_callS 89 [(.int x3)] [] 0 C X at_86 (mW 37 rfl) (mW 38 rfl) (mW 21 rfl) (mW 39 rfl) (rm_a378 l Z a0 hw (x3) _ n0 X.sz ) (lenOf pd__I_J rfl) rfl rfl rfl (fun T v hh X q => ?_)
    obtain ⟨y376_399, rfl, V_y376_399, Kc⟩ := q
    have Od := Od.keep Kc all0
    have A_ac := A_ac.keep Kc nin0
    have A_de := A_de.keep Kc nin0
    have E_b1 := E_b1.keep Kc
    have F_b1_value := F_b1_value.keep Kc nin0
    have E_b2 := E_b2.keep Kc
    have F_b2_value := F_b2_value.keep Kc nin0
    have E_o1 := E_o1.keep Kc
    have F_o1_most := F_o1_most.keep Kc nin0
    have A_o2 := A_o2.keep Kc nin0
    have A_o3 := A_o3.keep Kc nin0
    have A_o4 := A_o4.keep Kc nin0
    have A_o5 := A_o5.keep Kc nin0
    refine Run.cast (st' := [(.long y376_399)]) rfl ?_
    refine s_lstore 91 C X (l' := #[iv x0, iv x1, iv x2, iv x3, iv x4, iv x5, rv o1, iv i1, lv y376, .second, lv y376_385, .second, lv y376_392, .second, lv y376_399, .second, .unset, .unset, .unset, .unset, .unset, .unset, .unset, .unset, .unset, .unset, .unset, .unset, .unset, .unset, .unset, .unset, .unset, .unset, .unset, .unset, .unset, .unset, .unset, .unset]) at_89 rfl ?_
    refine s_iload 93 C X at_91 rfl ?_
    refine s_callS 96 [(.int x4)] [] 0 C X at_93 (mW 37 rfl) (mW 38 rfl) (mW 21 rfl) (mW 39 rfl) (rm_a378 l Z a0 hw (x4) _ n0 X.sz ) (lenOf pd__I_J rfl) rfl rfl rfl (fun T v hh X q => ?_)
    obtain ⟨y376_406, rfl, V_y376_406, Kc⟩ := q
    have Od := Od.keep Kc all0
    have A_ac := A_ac.keep Kc nin0
    have A_de := A_de.keep Kc nin0
    have E_b1 := E_b1.keep Kc
    have F_b1_value := F_b1_value.keep Kc nin0
    have E_b2 := E_b2.keep Kc
    have F_b2_value := F_b2_value.keep Kc nin0
    have E_o1 := E_o1.keep Kc
    have F_o1_most := F_o1_most.keep Kc nin0
    have A_o2 := A_o2.keep Kc nin0
    have A_o3 := A_o3.keep Kc nin0
    have A_o4 := A_o4.keep Kc nin0
    have A_o5 := A_o5.keep Kc nin0
    refine Run.cast (st' := [(.long y376_406)]) rfl ?_
    refine s_lstore 98 C X (l' := #[iv x0, iv x1, iv x2, iv x3, iv x4, iv x5, rv o1, iv i1, lv y376, .second, lv y376_385, .second, lv y376_392, .second, lv y376_399, .second, lv y376_406, .second, .unset, .unset, .unset, .unset, .unset, .unset, .unset, .unset, .unset, .unset, .unset, .unset, .unset, .unset, .unset, .unset, .unset, .unset, .unset, .unset, .unset, .unset]) at_96 rfl ?_
    refine s_iload 100 C X at_98 rfl ?_
    refine s_callS 103 [(.int x5)] [] 0 C X at_100 (mW 37 rfl) (mW 38 rfl) (mW 21 rfl) (mW 39 rfl) (rm_a378 l Z a0 hw (x5) _ n0 X.sz ) (lenOf pd__I_J rfl) rfl rfl rfl (fun T v hh X q => ?_)
    obtain ⟨y376_413, rfl, V_y376_413, Kc⟩ := q
    have Od := Od.keep Kc all0
    have A_ac := A_ac.keep Kc nin0
    have A_de := A_de.keep Kc nin0
    have E_b1 := E_b1.keep Kc
    have F_b1_value := F_b1_value.keep Kc nin0
    have E_b2 := E_b2.keep Kc
    have F_b2_value := F_b2_value.keep Kc nin0
    have E_o1 := E_o1.keep Kc
    have F_o1_most := F_o1_most.keep Kc nin0
    have A_o2 := A_o2.keep Kc nin0
    have A_o3 := A_o3.keep Kc nin0
    have A_o4 := A_o4.keep Kc nin0
    have A_o5 := A_o5.keep Kc nin0
    refine Run.cast (st' := [(.long y376_413)]) rfl ?_
    refine s_lstore 105 C X (l' := #[iv x0, iv x1, iv x2, iv x3, iv x4, iv x5, rv o1, iv i1, lv y376, .second, lv y376_385, .second, lv y376_392, .second, lv y376_399, .second, lv y376_406, .second, lv y376_413, .second, .unset, .unset, .unset, .unset, .unset, .unset, .unset, .unset, .unset, .unset, .unset, .unset, .unset, .unset, .unset, .unset, .unset, .unset, .unset, .unset]) at_103 rfl ?_
    refine s_lload 107 C X at_105 rfl ?_
    refine s_lload 109 C X at_107 rfl ?_
    refine s_callS 112 [(.long y376), (.long y376_385)] [] 0 C X at_109 (mW 44 rfl) (mW 45 rfl) (mW 21 rfl) (mW 46 rfl) (rm_a420 l Z a0 hw (y376) (y376_385) _ n0 X.sz ) (lenOf pd__JJ_J rfl) rfl rfl rfl (fun T v hh X q => ?_)
    obtain ⟨y418, rfl, A_y418, Kc⟩ := q
    have Od := Od.keep Kc all0
    have A_ac := A_ac.keep Kc nin0
    have A_de := A_de.keep Kc nin0
    have E_b1 := E_b1.keep Kc
    have F_b1_value := F_b1_value.keep Kc nin0
    have E_b2 := E_b2.keep Kc
    have F_b2_value := F_b2_value.keep Kc nin0
    have E_o1 := E_o1.keep Kc
    have F_o1_most := F_o1_most.keep Kc nin0
    have A_o2 := A_o2.keep Kc nin0
    have A_o3 := A_o3.keep Kc nin0
    have A_o4 := A_o4.keep Kc nin0
    have A_o5 := A_o5.keep Kc nin0
    refine Run.cast (st' := [(.long y418)]) rfl ?_
    refine s_lconst 113 C X (z := j0) at_112 rfl ?_
    refine s_lcmp 114 C X at_113 ?_
    suffices J476 : ∀ (T : State) (hh : Heap) (y475 : Int32) (D476 : (((y418).toInt < (0 : Int)) ∧ y475 = i1) ∨ (∃ (y418_429 : Int64), (¬ ((y418).toInt < (0 : Int))) ∧ own_A y376_392 y376_399 y418_429 ∧ ((y418_429).toInt < (0 : Int)) ∧ y475 = i1) ∨ (∃ (y418_429 : Int64) (y418_438 : Int64), (¬ ((y418).toInt < (0 : Int))) ∧ own_A y376_392 y376_399 y418_429 ∧ (¬ ((y418_429).toInt < (0 : Int))) ∧ own_A y376_406 y376_413 y418_438 ∧ ((y418_438).toInt < (0 : Int)) ∧ y475 = i1) ∨ (∃ (y418_429 : Int64) (y418_438 : Int64) (y418_447 : Int64) (y418_455 : Int64), (¬ ((y418).toInt < (0 : Int))) ∧ own_A y376_392 y376_399 y418_429 ∧ (¬ ((y418_429).toInt < (0 : Int))) ∧ own_A y376_406 y376_413 y418_438 ∧ (¬ ((y418_438).toInt < (0 : Int))) ∧ own_A y376 y376_406 y418_447 ∧ own_A y418_447 y376_399 y418_455 ∧ ((y418_455).toInt < (0 : Int)) ∧ y475 = i1) ∨ (∃ (y418_429 : Int64) (y418_438 : Int64) (y418_447 : Int64) (y418_455 : Int64) (y418_464 : Int64) (y418_472 : Int64), (¬ ((y418).toInt < (0 : Int))) ∧ own_A y376_392 y376_399 y418_429 ∧ (¬ ((y418_429).toInt < (0 : Int))) ∧ own_A y376_406 y376_413 y418_438 ∧ (¬ ((y418_438).toInt < (0 : Int))) ∧ own_A y376 y376_406 y418_447 ∧ own_A y418_447 y376_399 y418_455 ∧ (¬ ((y418_455).toInt < (0 : Int))) ∧ own_A y376_392 y376_413 y418_464 ∧ own_A y418_464 y376_385 y418_472 ∧ (¬ ((y418_472).toInt < (0 : Int))) ∧ y475 = i0) ∨ (∃ (y418_429 : Int64) (y418_438 : Int64) (y418_447 : Int64) (y418_455 : Int64) (y418_464 : Int64) (y418_472 : Int64), (¬ ((y418).toInt < (0 : Int))) ∧ own_A y376_392 y376_399 y418_429 ∧ (¬ ((y418_429).toInt < (0 : Int))) ∧ own_A y376_406 y376_413 y418_438 ∧ (¬ ((y418_438).toInt < (0 : Int))) ∧ own_A y376 y376_406 y418_447 ∧ own_A y418_447 y376_399 y418_455 ∧ (¬ ((y418_455).toInt < (0 : Int))) ∧ own_A y376_392 y376_413 y418_464 ∧ own_A y418_464 y376_385 y418_472 ∧ ((y418_472).toInt < (0 : Int)) ∧ y475 = i1)) (X : St p l e room_1 s m #[(.int x0), (.int x1), (.int x2), (.int x3), (.int x4), (.int x5)] below meth c n0 T hh 5 13) (Od : Old Z n0 hh) (A_ac : Arv Z hh ac k_ac (.object "java/lang/Integer") i256 vsC .null) (A_de : Arv Z hh de k_de (.object "java/lang/Object") i0 [] .null) (E_b1 : Exa Z hh b1 "java/lang/Integer") (F_b1_value : Fld Z hh b1 "java/lang/Integer" "value" "I" (.int i1)) (E_b2 : Exa Z hh b2 "java/lang/Integer") (F_b2_value : Fld Z hh b2 "java/lang/Integer" "value" "I" (.int i2)) (E_o1 : Exa Z hh o1 "com/example/dayweave/dayweave/solve/TemporalNetwork") (F_o1_most : Fld Z hh o1 "com/example/dayweave/dayweave/solve/TemporalNetwork" "most" "[[J" (.ref o2)) (A_o2 : Arv Z hh o2 k_o2 (.array .long) i3 [(.ref o3), (.ref o4), (.ref o5)] .null) (A_o3 : Arv Z hh o3 k_o3 .long i3 [(.long y303), (.long y304), (.long y305)] (.long j0)) (A_o4 : Arv Z hh o4 k_o3 .long i3 [(.long y331), (.long y332), (.long y333)] (.long j0)) (A_o5 : Arv Z hh o5 k_o3 .long i3 [(.long y359), (.long y360), (.long y361)] (.long j0)), Run p e below n0 (fun (v : Option Value) (h : Heap) => v = some (.int 1)) (fun o t L => FrameEnd s o t L room_1.cells room_1.slots) m T 180 #[iv x0, iv x1, iv x2, iv x3, iv x4, iv x5, rv o1, iv i1, lv y376, .second, lv y376_385, .second, lv y376_392, .second, lv y376_399, .second, lv y376_406, .second, lv y376_413, .second, .unset, .unset, .unset, .unset, .unset, .unset, .unset, .unset, .unset, .unset, .unset, .unset, .unset, .unset, .unset, .unset, .unset, .unset, .unset, .unset] [(.int y475)] by
      refine s_if_lt 175 117 C X at_114 (fun c114_421 => ?_) (fun c114_421 => ?_)
      · have t_c114_421 : (y418).toInt < (0 : Int) := cl_lt.mp c114_421
        refine s_iconst 176 C X at_175 kc_iconst_1 ?_
        refine s_goto 180 C X at_176 ?_
        exact J476 T _ (i1) ((Or.inl ⟨t_c114_421, rfl⟩)) X Od A_ac A_de E_b1 F_b1_value E_b2 F_b2_value E_o1 F_o1_most A_o2 A_o3 A_o4 A_o5
      have t_c114_421 : ¬ ((y418).toInt < (0 : Int)) := fun q => c114_421 (cl_lt.mpr q)
      refine s_lload 119 C X at_117 rfl ?_
      refine s_lload 121 C X at_119 rfl ?_
      refine s_callS 124 [(.long y376_392), (.long y376_399)] [] 0 C X at_121 (mW 44 rfl) (mW 45 rfl) (mW 21 rfl) (mW 46 rfl) (rm_a420 l Z a0 hw (y376_392) (y376_399) _ n0 X.sz ) (lenOf pd__JJ_J rfl) rfl rfl rfl (fun T v hh X q => ?_)
      obtain ⟨y418_429, rfl, A_y418_429, Kc⟩ := q
      have Od := Od.keep Kc all0
      have A_ac := A_ac.keep Kc nin0
      have A_de := A_de.keep Kc nin0
      have E_b1 := E_b1.keep Kc
      have F_b1_value := F_b1_value.keep Kc nin0
      have E_b2 := E_b2.keep Kc
      have F_b2_value := F_b2_value.keep Kc nin0
      have E_o1 := E_o1.keep Kc
      have F_o1_most := F_o1_most.keep Kc nin0
      have A_o2 := A_o2.keep Kc nin0
      have A_o3 := A_o3.keep Kc nin0
      have A_o4 := A_o4.keep Kc nin0
      have A_o5 := A_o5.keep Kc nin0
      refine Run.cast (st' := [(.long y418_429)]) rfl ?_
      refine s_lconst 125 C X (z := j0) at_124 rfl ?_
      refine s_lcmp 126 C X at_125 ?_
      refine s_if_lt 175 129 C X at_126 (fun c126_430 => ?_) (fun c126_430 => ?_)
      · have t_c126_430 : (y418_429).toInt < (0 : Int) := cl_lt.mp c126_430
        refine s_iconst 176 C X at_175 kc_iconst_1 ?_
        refine s_goto 180 C X at_176 ?_
        exact J476 T _ (i1) (Or.inr (Or.inl ⟨y418_429, t_c114_421, A_y418_429, t_c126_430, rfl⟩)) X Od A_ac A_de E_b1 F_b1_value E_b2 F_b2_value E_o1 F_o1_most A_o2 A_o3 A_o4 A_o5
      have t_c126_430 : ¬ ((y418_429).toInt < (0 : Int)) := fun q => c126_430 (cl_lt.mpr q)
      refine s_lload 131 C X at_129 rfl ?_
      refine s_lload 133 C X at_131 rfl ?_
      refine s_callS 136 [(.long y376_406), (.long y376_413)] [] 0 C X at_133 (mW 44 rfl) (mW 45 rfl) (mW 21 rfl) (mW 46 rfl) (rm_a420 l Z a0 hw (y376_406) (y376_413) _ n0 X.sz ) (lenOf pd__JJ_J rfl) rfl rfl rfl (fun T v hh X q => ?_)
      obtain ⟨y418_438, rfl, A_y418_438, Kc⟩ := q
      have Od := Od.keep Kc all0
      have A_ac := A_ac.keep Kc nin0
      have A_de := A_de.keep Kc nin0
      have E_b1 := E_b1.keep Kc
      have F_b1_value := F_b1_value.keep Kc nin0
      have E_b2 := E_b2.keep Kc
      have F_b2_value := F_b2_value.keep Kc nin0
      have E_o1 := E_o1.keep Kc
      have F_o1_most := F_o1_most.keep Kc nin0
      have A_o2 := A_o2.keep Kc nin0
      have A_o3 := A_o3.keep Kc nin0
      have A_o4 := A_o4.keep Kc nin0
      have A_o5 := A_o5.keep Kc nin0
      refine Run.cast (st' := [(.long y418_438)]) rfl ?_
      refine s_lconst 137 C X (z := j0) at_136 rfl ?_
      refine s_lcmp 138 C X at_137 ?_
      refine s_if_lt 175 141 C X at_138 (fun c138_439 => ?_) (fun c138_439 => ?_)
      · have t_c138_439 : (y418_438).toInt < (0 : Int) := cl_lt.mp c138_439
        refine s_iconst 176 C X at_175 kc_iconst_1 ?_
        refine s_goto 180 C X at_176 ?_
        exact J476 T _ (i1) (Or.inr (Or.inr (Or.inl ⟨y418_429, y418_438, t_c114_421, A_y418_429, t_c126_430, A_y418_438, t_c138_439, rfl⟩))) X Od A_ac A_de E_b1 F_b1_value E_b2 F_b2_value E_o1 F_o1_most A_o2 A_o3 A_o4 A_o5
      have t_c138_439 : ¬ ((y418_438).toInt < (0 : Int)) := fun q => c138_439 (cl_lt.mpr q)
      refine s_lload 143 C X at_141 rfl ?_
      refine s_lload 145 C X at_143 rfl ?_
      refine s_callS 148 [(.long y376), (.long y376_406)] [] 0 C X at_145 (mW 44 rfl) (mW 45 rfl) (mW 21 rfl) (mW 46 rfl) (rm_a420 l Z a0 hw (y376) (y376_406) _ n0 X.sz ) (lenOf pd__JJ_J rfl) rfl rfl rfl (fun T v hh X q => ?_)
      obtain ⟨y418_447, rfl, A_y418_447, Kc⟩ := q
      have Od := Od.keep Kc all0
      have A_ac := A_ac.keep Kc nin0
      have A_de := A_de.keep Kc nin0
      have E_b1 := E_b1.keep Kc
      have F_b1_value := F_b1_value.keep Kc nin0
      have E_b2 := E_b2.keep Kc
      have F_b2_value := F_b2_value.keep Kc nin0
      have E_o1 := E_o1.keep Kc
      have F_o1_most := F_o1_most.keep Kc nin0
      have A_o2 := A_o2.keep Kc nin0
      have A_o3 := A_o3.keep Kc nin0
      have A_o4 := A_o4.keep Kc nin0
      have A_o5 := A_o5.keep Kc nin0
      refine Run.cast (st' := [(.long y418_447)]) rfl ?_
      refine s_lload 150 C X at_148 rfl ?_
      refine s_callS 153 [(.long y418_447), (.long y376_399)] [] 0 C X at_150 (mW 44 rfl) (mW 45 rfl) (mW 21 rfl) (mW 46 rfl) (rm_a420 l Z a0 hw (y418_447) (y376_399) _ n0 X.sz ) (lenOf pd__JJ_J rfl) rfl rfl rfl (fun T v hh X q => ?_)
      obtain ⟨y418_455, rfl, A_y418_455, Kc⟩ := q
      have Od := Od.keep Kc all0
      have A_ac := A_ac.keep Kc nin0
      have A_de := A_de.keep Kc nin0
      have E_b1 := E_b1.keep Kc
      have F_b1_value := F_b1_value.keep Kc nin0
      have E_b2 := E_b2.keep Kc
      have F_b2_value := F_b2_value.keep Kc nin0
      have E_o1 := E_o1.keep Kc
      have F_o1_most := F_o1_most.keep Kc nin0
      have A_o2 := A_o2.keep Kc nin0
      have A_o3 := A_o3.keep Kc nin0
      have A_o4 := A_o4.keep Kc nin0
      have A_o5 := A_o5.keep Kc nin0
      refine Run.cast (st' := [(.long y418_455)]) rfl ?_
      refine s_lconst 154 C X (z := j0) at_153 rfl ?_
      refine s_lcmp 155 C X at_154 ?_
      refine s_if_lt 175 158 C X at_155 (fun c155_456 => ?_) (fun c155_456 => ?_)
      · have t_c155_456 : (y418_455).toInt < (0 : Int) := cl_lt.mp c155_456
        refine s_iconst 176 C X at_175 kc_iconst_1 ?_
        refine s_goto 180 C X at_176 ?_
        exact J476 T _ (i1) (Or.inr (Or.inr (Or.inr (Or.inl ⟨y418_429, y418_438, y418_447, y418_455, t_c114_421, A_y418_429, t_c126_430, A_y418_438, t_c138_439, A_y418_447, A_y418_455, t_c155_456, rfl⟩)))) X Od A_ac A_de E_b1 F_b1_value E_b2 F_b2_value E_o1 F_o1_most A_o2 A_o3 A_o4 A_o5
      have t_c155_456 : ¬ ((y418_455).toInt < (0 : Int)) := fun q => c155_456 (cl_lt.mpr q)
      refine s_lload 160 C X at_158 rfl ?_
      refine s_lload 162 C X at_160 rfl ?_
      refine s_callS 165 [(.long y376_392), (.long y376_413)] [] 0 C X at_162 (mW 44 rfl) (mW 45 rfl) (mW 21 rfl) (mW 46 rfl) (rm_a420 l Z a0 hw (y376_392) (y376_413) _ n0 X.sz ) (lenOf pd__JJ_J rfl) rfl rfl rfl (fun T v hh X q => ?_)
      obtain ⟨y418_464, rfl, A_y418_464, Kc⟩ := q
      have Od := Od.keep Kc all0
      have A_ac := A_ac.keep Kc nin0
      have A_de := A_de.keep Kc nin0
      have E_b1 := E_b1.keep Kc
      have F_b1_value := F_b1_value.keep Kc nin0
      have E_b2 := E_b2.keep Kc
      have F_b2_value := F_b2_value.keep Kc nin0
      have E_o1 := E_o1.keep Kc
      have F_o1_most := F_o1_most.keep Kc nin0
      have A_o2 := A_o2.keep Kc nin0
      have A_o3 := A_o3.keep Kc nin0
      have A_o4 := A_o4.keep Kc nin0
      have A_o5 := A_o5.keep Kc nin0
      refine Run.cast (st' := [(.long y418_464)]) rfl ?_
      refine s_lload 167 C X at_165 rfl ?_
      refine s_callS 170 [(.long y418_464), (.long y376_385)] [] 0 C X at_167 (mW 44 rfl) (mW 45 rfl) (mW 21 rfl) (mW 46 rfl) (rm_a420 l Z a0 hw (y418_464) (y376_385) _ n0 X.sz ) (lenOf pd__JJ_J rfl) rfl rfl rfl (fun T v hh X q => ?_)
      obtain ⟨y418_472, rfl, A_y418_472, Kc⟩ := q
      have Od := Od.keep Kc all0
      have A_ac := A_ac.keep Kc nin0
      have A_de := A_de.keep Kc nin0
      have E_b1 := E_b1.keep Kc
      have F_b1_value := F_b1_value.keep Kc nin0
      have E_b2 := E_b2.keep Kc
      have F_b2_value := F_b2_value.keep Kc nin0
      have E_o1 := E_o1.keep Kc
      have F_o1_most := F_o1_most.keep Kc nin0
      have A_o2 := A_o2.keep Kc nin0
      have A_o3 := A_o3.keep Kc nin0
      have A_o4 := A_o4.keep Kc nin0
      have A_o5 := A_o5.keep Kc nin0
      refine Run.cast (st' := [(.long y418_472)]) rfl ?_
      refine s_lconst 171 C X (z := j0) at_170 rfl ?_
      refine s_lcmp 172 C X at_171 ?_
      refine s_if_ge 179 175 C X at_172 (fun c172_473 => ?_) (fun c172_473 => ?_)
      · have t_c172_473 : ¬ ((y418_472).toInt < (0 : Int)) := fun q => c172_473 (cl_lt.mpr q)
        refine s_iconst 180 C X at_179 kc_iconst_0 ?_
        exact J476 T _ (i0) (Or.inr (Or.inr (Or.inr (Or.inr (Or.inl ⟨y418_429, y418_438, y418_447, y418_455, y418_464, y418_472, t_c114_421, A_y418_429, t_c126_430, A_y418_438, t_c138_439, A_y418_447, A_y418_455, t_c155_456, A_y418_464, A_y418_472, t_c172_473, rfl⟩))))) X Od A_ac A_de E_b1 F_b1_value E_b2 F_b2_value E_o1 F_o1_most A_o2 A_o3 A_o4 A_o5
      have t_c172_473 : (y418_472).toInt < (0 : Int) := cl_lt.mp c172_473
      refine s_iconst 176 C X at_175 kc_iconst_1 ?_
      refine s_goto 180 C X at_176 ?_
      exact J476 T _ (i1) (Or.inr (Or.inr (Or.inr (Or.inr (Or.inr ⟨y418_429, y418_438, y418_447, y418_455, y418_464, y418_472, t_c114_421, A_y418_429, t_c126_430, A_y418_438, t_c138_439, A_y418_447, A_y418_455, t_c155_456, A_y418_464, A_y418_472, t_c172_473, rfl⟩))))) X Od A_ac A_de E_b1 F_b1_value E_b2 F_b2_value E_o1 F_o1_most A_o2 A_o3 A_o4 A_o5
    intro T hh y475 D476  X Od A_ac A_de E_b1 F_b1_value E_b2 F_b2_value E_o1 F_o1_most A_o2 A_o3 A_o4 A_o5
    refine s_istore 182 C X (l' := #[iv x0, iv x1, iv x2, iv x3, iv x4, iv x5, rv o1, iv i1, lv y376, .second, lv y376_385, .second, lv y376_392, .second, lv y376_399, .second, lv y376_406, .second, lv y376_413, .second, iv y475, .unset, .unset, .unset, .unset, .unset, .unset, .unset, .unset, .unset, .unset, .unset, .unset, .unset, .unset, .unset, .unset, .unset, .unset, .unset]) at_180 rfl ?_
    refine s_iload 184 C X at_182 rfl ?_
    refine s_if_eq 198 187 C X at_184 (fun c184_477 => ?_) (fun c184_477 => ?_)
    · have t_c184_477 : (y475).toInt = (0 : Int) := congrArg Int32.toInt c184_477
      refine s_iload 200 C X at_198 rfl ?_
      refine s_if_ne 205 203 C X at_200 (fun _ => ?_) (fun c => absurd c (by decide))
      refine s_iloadN 206 C X at_205 rfl ?_
      refine s_iconst 207 C X at_206 kc_iconst_1 ?_
      refine s_ishr 208 C X at_207 ?_
      refine s_iconst 209 C X at_208 kc_iconst_1 ?_
      refine s_iand 210 C X at_209 ?_
      refine s_if_ne 217 213 C X at_210 (fun c210_479 => ?_) (fun c210_479 => ?_)
      · have t_c210_479 : ¬ ((((x0 >>> (i1 &&& 31)) &&& i1)).toInt = (0 : Int)) := fun q => c210_479 (Int32.toInt_inj.mp q)
        refine s_iconst 218 C X at_217 kc_iconst_2 ?_
        refine s_istore 220 C X (l' := #[iv x0, iv x1, iv x2, iv x3, iv x4, iv x5, rv o1, iv i1, lv y376, .second, lv y376_385, .second, lv y376_392, .second, lv y376_399, .second, lv y376_406, .second, lv y376_413, .second, iv y475, iv i2, .unset, .unset, .unset, .unset, .unset, .unset, .unset, .unset, .unset, .unset, .unset, .unset, .unset, .unset, .unset, .unset, .unset, .unset]) at_218 rfl ?_
        refine s_iload 222 C X at_220 rfl ?_
        refine s_iconst 223 C X at_222 kc_iconst_1 ?_
        refine s_icmp_ne 231 226 C X at_223 (fun _ => ?_) (fun c => absurd c (by decide))
        refine s_lload 233 C X at_231 rfl ?_
        refine s_lstore 235 C X (l' := #[iv x0, iv x1, iv x2, iv x3, iv x4, iv x5, rv o1, iv i1, lv y376, .second, lv y376_385, .second, lv y376_392, .second, lv y376_399, .second, lv y376_406, .second, lv y376_413, .second, iv y475, iv i2, lv y376_392, .second, .unset, .unset, .unset, .unset, .unset, .unset, .unset, .unset, .unset, .unset, .unset, .unset, .unset, .unset, .unset, .unset]) at_233 rfl ?_
        refine s_iload 237 C X at_235 rfl ?_
        refine s_iconst 238 C X at_237 kc_iconst_1 ?_
        refine s_icmp_ne 246 241 C X at_238 (fun _ => ?_) (fun c => absurd c (by decide))
        refine s_lload 248 C X at_246 rfl ?_
        refine s_lstore 250 C X (l' := #[iv x0, iv x1, iv x2, iv x3, iv x4, iv x5, rv o1, iv i1, lv y376, .second, lv y376_385, .second, lv y376_392, .second, lv y376_399, .second, lv y376_406, .second, lv y376_413, .second, iv y475, iv i2, lv y376_392, .second, lv y376, .second, .unset, .unset, .unset, .unset, .unset, .unset, .unset, .unset, .unset, .unset, .unset, .unset, .unset, .unset]) at_248 rfl ?_
        refine s_iload 252 C X at_250 rfl ?_
        refine s_iconst 253 C X at_252 kc_iconst_1 ?_
        refine s_icmp_ne 261 256 C X at_253 (fun _ => ?_) (fun c => absurd c (by decide))
        refine s_lload 263 C X at_261 rfl ?_
        refine s_lstore 265 C X (l' := #[iv x0, iv x1, iv x2, iv x3, iv x4, iv x5, rv o1, iv i1, lv y376, .second, lv y376_385, .second, lv y376_392, .second, lv y376_399, .second, lv y376_406, .second, lv y376_413, .second, iv y475, iv i2, lv y376_392, .second, lv y376, .second, lv y376_406, .second, .unset, .unset, .unset, .unset, .unset, .unset, .unset, .unset, .unset, .unset, .unset, .unset]) at_263 rfl ?_
        refine s_iload 267 C X at_265 rfl ?_
        refine s_iconst 268 C X at_267 kc_iconst_1 ?_
        refine s_icmp_ne 276 271 C X at_268 (fun _ => ?_) (fun c => absurd c (by decide))
        refine s_lload 278 C X at_276 rfl ?_
        refine s_lstore 280 C X (l' := #[iv x0, iv x1, iv x2, iv x3, iv x4, iv x5, rv o1, iv i1, lv y376, .second, lv y376_385, .second, lv y376_392, .second, lv y376_399, .second, lv y376_406, .second, lv y376_413, .second, iv y475, iv i2, lv y376_392, .second, lv y376, .second, lv y376_406, .second, lv y376_399, .second, .unset, .unset, .unset, .unset, .unset, .unset, .unset, .unset, .unset, .unset]) at_278 rfl ?_
        refine s_iload 282 C X at_280 rfl ?_
        refine s_iconst 283 C X at_282 kc_iconst_1 ?_
        refine s_icmp_ne 291 286 C X at_283 (fun _ => ?_) (fun c => absurd c (by decide))
        refine s_lload 293 C X at_291 rfl ?_
        refine s_lstore 295 C X (l' := #[iv x0, iv x1, iv x2, iv x3, iv x4, iv x5, rv o1, iv i1, lv y376, .second, lv y376_385, .second, lv y376_392, .second, lv y376_399, .second, lv y376_406, .second, lv y376_413, .second, iv y475, iv i2, lv y376_392, .second, lv y376, .second, lv y376_406, .second, lv y376_399, .second, lv y376_413, .second, .unset, .unset, .unset, .unset, .unset, .unset, .unset, .unset]) at_293 rfl ?_
        refine s_iload 297 C X at_295 rfl ?_
        refine s_iconst 298 C X at_297 kc_iconst_1 ?_
        refine s_icmp_ne 306 301 C X at_298 (fun _ => ?_) (fun c => absurd c (by decide))
        refine s_lload 308 C X at_306 rfl ?_
        refine s_lstore 310 C X (l' := #[iv x0, iv x1, iv x2, iv x3, iv x4, iv x5, rv o1, iv i1, lv y376, .second, lv y376_385, .second, lv y376_392, .second, lv y376_399, .second, lv y376_406, .second, lv y376_413, .second, iv y475, iv i2, lv y376_392, .second, lv y376, .second, lv y376_406, .second, lv y376_399, .second, lv y376_413, .second, lv y376_385, .second, .unset, .unset, .unset, .unset, .unset, .unset]) at_308 rfl ?_
        refine s_lload 312 C X at_310 rfl ?_
        refine s_lload 314 C X at_312 rfl ?_
        refine s_lload 316 C X at_314 rfl ?_
        refine s_callS 319 [(.long y376), (.long y376_406)] [(.long y376_392)] 2 C X at_316 (mW 44 rfl) (mW 45 rfl) (mW 21 rfl) (mW 46 rfl) (rm_a420 l Z a0 hw (y376) (y376_406) _ n0 X.sz ) (lenOf pd__JJ_J rfl) rfl rfl rfl (fun T v hh X q => ?_)
        obtain ⟨y418_493, rfl, A_y418_493, Kc⟩ := q
        have Od := Od.keep Kc all0
        have A_ac := A_ac.keep Kc nin0
        have A_de := A_de.keep Kc nin0
        have E_b2 := E_b2.keep Kc
        have F_b2_value := F_b2_value.keep Kc nin0
        have E_o1 := E_o1.keep Kc
        have F_o1_most := F_o1_most.keep Kc nin0
        have A_o2 := A_o2.keep Kc nin0
        have A_o3 := A_o3.keep Kc nin0
        have A_o5 := A_o5.keep Kc nin0
        refine Run.cast (st' := [(.long y418_493), (.long y376_392)]) rfl ?_
        refine s_callS 322 [(.long y376_392), (.long y418_493)] [] 0 C X at_319 (mW 47 rfl) (mW 29 rfl) (mW 30 rfl) (mW 31 rfl) (rm_a31 l Z a0 hw (y376_392) (y418_493) _ n0 X.sz ) (lenOf pd__JJ_J rfl) rfl rfl rfl (fun T v hh X q => ?_)
        obtain ⟨y29, rfl, D30, Kc⟩ := q
        have Od := Od.keep Kc all0
        have A_ac := A_ac.keep Kc nin0
        have A_de := A_de.keep Kc nin0
        have E_b2 := E_b2.keep Kc
        have F_b2_value := F_b2_value.keep Kc nin0
        have E_o1 := E_o1.keep Kc
        have F_o1_most := F_o1_most.keep Kc nin0
        have A_o2 := A_o2.keep Kc nin0
        have A_o3 := A_o3.keep Kc nin0
        have A_o5 := A_o5.keep Kc nin0
        refine Run.cast (st' := [(.long y29)]) rfl ?_
        refine s_lstore 324 C X (l' := #[iv x0, iv x1, iv x2, iv x3, iv x4, iv x5, rv o1, iv i1, lv y376, .second, lv y376_385, .second, lv y376_392, .second, lv y376_399, .second, lv y376_406, .second, lv y376_413, .second, iv y475, iv i2, lv y376_392, .second, lv y376, .second, lv y376_406, .second, lv y376_399, .second, lv y376_413, .second, lv y376_385, .second, lv y29, .second, .unset, .unset, .unset, .unset]) at_322 rfl ?_
        refine s_lload 326 C X at_324 rfl ?_
        refine s_lload 328 C X at_326 rfl ?_
        refine s_lload 330 C X at_328 rfl ?_
        refine s_callS 333 [(.long y376_413), (.long y376_385)] [(.long y376_399)] 2 C X at_330 (mW 44 rfl) (mW 45 rfl) (mW 21 rfl) (mW 46 rfl) (rm_a420 l Z a0 hw (y376_413) (y376_385) _ n0 X.sz ) (lenOf pd__JJ_J rfl) rfl rfl rfl (fun T v hh X q => ?_)
        obtain ⟨y418_506, rfl, A_y418_506, Kc⟩ := q
        have Od := Od.keep Kc all0
        have A_ac := A_ac.keep Kc nin0
        have A_de := A_de.keep Kc nin0
        have E_b2 := E_b2.keep Kc
        have F_b2_value := F_b2_value.keep Kc nin0
        have E_o1 := E_o1.keep Kc
        have F_o1_most := F_o1_most.keep Kc nin0
        have A_o2 := A_o2.keep Kc nin0
        have A_o3 := A_o3.keep Kc nin0
        have A_o5 := A_o5.keep Kc nin0
        refine Run.cast (st' := [(.long y418_506), (.long y376_399)]) rfl ?_
        refine s_callS 336 [(.long y376_399), (.long y418_506)] [] 0 C X at_333 (mW 47 rfl) (mW 29 rfl) (mW 30 rfl) (mW 31 rfl) (rm_a31 l Z a0 hw (y376_399) (y418_506) _ n0 X.sz ) (lenOf pd__JJ_J rfl) rfl rfl rfl (fun T v hh X q => ?_)
        obtain ⟨y29_512, rfl, D30_513, Kc⟩ := q
        have Od := Od.keep Kc all0
        have A_ac := A_ac.keep Kc nin0
        have A_de := A_de.keep Kc nin0
        have E_b2 := E_b2.keep Kc
        have F_b2_value := F_b2_value.keep Kc nin0
        have E_o1 := E_o1.keep Kc
        have F_o1_most := F_o1_most.keep Kc nin0
        have A_o2 := A_o2.keep Kc nin0
        have A_o3 := A_o3.keep Kc nin0
        have A_o5 := A_o5.keep Kc nin0
        refine Run.cast (st' := [(.long y29_512)]) rfl ?_
        refine s_lstore 338 C X (l' := #[iv x0, iv x1, iv x2, iv x3, iv x4, iv x5, rv o1, iv i1, lv y376, .second, lv y376_385, .second, lv y376_392, .second, lv y376_399, .second, lv y376_406, .second, lv y376_413, .second, iv y475, iv i2, lv y376_392, .second, lv y376, .second, lv y376_406, .second, lv y376_399, .second, lv y376_413, .second, lv y376_385, .second, lv y29, .second, lv y29_512, .second, .unset, .unset]) at_336 rfl ?_
        refine s_aload 340 C X at_338 rfl rfl ?_
        refine s_callV 343 [] [] 0 C X at_340 (mW 48 rfl) (mW 49 rfl) (notFace_of_selects (args := #[]) (mvT C.2.1 (C.w (mW 51 rfl)))) (mW 51 rfl) (mW 50 rfl) (mW 2 rfl) (mW 52 rfl) E_o1 (rm_a532 l Z a0 hw de o1 o2 o3 o4 o5 k_o2 _ n0 X.sz Od S_de F_o1_most A_o2) (lenOf pd___Lcom_example_dayweave_dayweave_solve_TemporalNetwork_Newcomer_ rfl) rfl rfl rfl (fun T v hh X q => ?_)
        obtain ⟨o514, o515, o516, o517, k_o515, k_o516, rfl, Kc, E_o514, F_o514_this_0, F_o514_after, F_o514_before, F_o514_bounding, Od, E_o517, F_o517_modCount, F_o517_elementData, F_o517_size, A_o515, A_o516, sz_o514', g_o514, sz_o515', g_o515, sz_o516', g_o516, sz_o517', g_o517, ne_o514_o515, ne_o514_o516, ne_o515_o516, ne_o514_o517, ne_o515_o517, ne_o516_o517⟩ := q
        have ne_ac_o515 : ac ≠ o515 := Nat.ne_of_lt (Nat.lt_of_lt_of_le A_ac.lt sz_o515')
        have ne_de_o515 : de ≠ o515 := Nat.ne_of_lt (Nat.lt_of_lt_of_le A_de.lt sz_o515')
        have ne_b2_o515 : b2 ≠ o515 := Nat.ne_of_lt (Nat.lt_of_lt_of_le E_b2.lt sz_o515')
        have ne_o1_o515 : o1 ≠ o515 := Nat.ne_of_lt (Nat.lt_of_lt_of_le E_o1.lt sz_o515')
        have ne_o2_o515 : o2 ≠ o515 := Nat.ne_of_lt (Nat.lt_of_lt_of_le A_o2.lt sz_o515')
        have ne_o3_o515 : o3 ≠ o515 := Nat.ne_of_lt (Nat.lt_of_lt_of_le A_o3.lt sz_o515')
        have ne_o5_o515 : o5 ≠ o515 := Nat.ne_of_lt (Nat.lt_of_lt_of_le A_o5.lt sz_o515')
        have ne_ac_o516 : ac ≠ o516 := Nat.ne_of_lt (Nat.lt_of_lt_of_le A_ac.lt sz_o516')
        have ne_b2_o516 : b2 ≠ o516 := Nat.ne_of_lt (Nat.lt_of_lt_of_le E_b2.lt sz_o516')
        have ne_o1_o516 : o1 ≠ o516 := Nat.ne_of_lt (Nat.lt_of_lt_of_le E_o1.lt sz_o516')
        have ne_o2_o516 : o2 ≠ o516 := Nat.ne_of_lt (Nat.lt_of_lt_of_le A_o2.lt sz_o516')
        have ne_o3_o516 : o3 ≠ o516 := Nat.ne_of_lt (Nat.lt_of_lt_of_le A_o3.lt sz_o516')
        have ne_o5_o516 : o5 ≠ o516 := Nat.ne_of_lt (Nat.lt_of_lt_of_le A_o5.lt sz_o516')
        have ne_ac_o517 : ac ≠ o517 := Nat.ne_of_lt (Nat.lt_of_lt_of_le A_ac.lt sz_o517')
        have ne_de_o517 : de ≠ o517 := Nat.ne_of_lt (Nat.lt_of_lt_of_le A_de.lt sz_o517')
        have ne_b2_o517 : b2 ≠ o517 := Nat.ne_of_lt (Nat.lt_of_lt_of_le E_b2.lt sz_o517')
        have ne_o1_o517 : o1 ≠ o517 := Nat.ne_of_lt (Nat.lt_of_lt_of_le E_o1.lt sz_o517')
        have ne_o2_o517 : o2 ≠ o517 := Nat.ne_of_lt (Nat.lt_of_lt_of_le A_o2.lt sz_o517')
        have ne_o3_o517 : o3 ≠ o517 := Nat.ne_of_lt (Nat.lt_of_lt_of_le A_o3.lt sz_o517')
        have ne_o5_o517 : o5 ≠ o517 := Nat.ne_of_lt (Nat.lt_of_lt_of_le A_o5.lt sz_o517')
        have A_ac := A_ac.keep Kc nin0
        have A_de := A_de.keep Kc nin0
        have E_b2 := E_b2.keep Kc
        have F_b2_value := F_b2_value.keep Kc nin0
        have F_o1_most := F_o1_most.keep Kc nin0
        have A_o2 := A_o2.keep Kc nin0
        have A_o3 := A_o3.keep Kc nin0
        have A_o5 := A_o5.keep Kc nin0
        refine Run.cast (st' := [(.ref o514)]) rfl ?_
        refine s_astore 345 C X (l' := #[iv x0, iv x1, iv x2, iv x3, iv x4, iv x5, rv o1, iv i1, lv y376, .second, lv y376_385, .second, lv y376_392, .second, lv y376_399, .second, lv y376_406, .second, lv y376_413, .second, iv y475, iv i2, lv y376_392, .second, lv y376, .second, lv y376_406, .second, lv y376_399, .second, lv y376_413, .second, lv y376_385, .second, lv y29, .second, lv y29_512, .second, rv o514, .unset]) at_343 rfl rfl ?_
        refine s_aload 347 C X at_345 rfl rfl ?_
        refine s_iload 349 C X at_347 rfl ?_
        refine s_lconst 350 C X (z := j0) at_349 rfl ?_
        refine s_callV 353 [(.int i2), (.long j0)] [] 0 C X at_350 (mW 95 rfl) (mW 96 rfl) (notFace_of_selects (args := #[]) (mvT C.2.1 (C.w (mW 98 rfl)))) (mW 98 rfl) (mW 97 rfl) (mW 55 rfl) (mW 99 rfl) E_o514 (rm_a551 l Z a0 hw ac k_ac vsC de k_de b2 o514 o515 o516 o517 k_o515 k_o516 _ n0 X.sz S_high S_cache S_de A_ac A_de E_b2 E_o514 F_o514_after F_o514_before F_o514_bounding Od E_o517 F_o517_modCount F_o517_elementData F_o517_size A_o515 A_o516 hv130 ne_ac_o515 ne_de_o515 g_o515 ne_ac_o517 ne_de_o517 g_o517 ne_o514_o515 ne_o515_o516 ne_o514_o517 ne_o515_o517 ne_o516_o517) (lenOf pd__IJ_V rfl) rfl rfl rfl (fun T v hh X q => ?_)
        obtain ⟨o543, k_o543, rfl, A_o515, Kc, E_o517, F_o517_modCount, F_o517_elementData, F_o517_size, Od, E_o543, A_o543, ne_o515_o543, sz_o543', g_o543, ne_o517_o543, O_o543⟩ := q
        have ne_o516_o543 : o516 ≠ o543 := Nat.ne_of_lt (Nat.lt_of_lt_of_le A_o516.lt sz_o543')
        have nn_o514 : o514 ∉ [o515, o517] := (ninS ne_o514_o515 (ninS ne_o514_o517 nin0))
        have A_ac := A_ac.keep Kc (ninS ne_ac_o515 (ninS ne_ac_o517 nin0))
        have E_b2 := E_b2.keep Kc
        have F_b2_value := F_b2_value.keep Kc (ninS ne_b2_o515 (ninS ne_b2_o517 nin0))
        have F_o1_most := F_o1_most.keep Kc (ninS ne_o1_o515 (ninS ne_o1_o517 nin0))
        have A_o2 := A_o2.keep Kc (ninS ne_o2_o515 (ninS ne_o2_o517 nin0))
        have A_o3 := A_o3.keep Kc (ninS ne_o3_o515 (ninS ne_o3_o517 nin0))
        have A_o5 := A_o5.keep Kc (ninS ne_o5_o515 (ninS ne_o5_o517 nin0))
        have E_o514 := E_o514.keep Kc
        have F_o514_this_0 := F_o514_this_0.keep Kc nn_o514
        have F_o514_after := F_o514_after.keep Kc nn_o514
        have F_o514_before := F_o514_before.keep Kc nn_o514
        have F_o514_bounding := F_o514_bounding.keep Kc nn_o514
        have A_o516 := A_o516.keep Kc (ninS (Ne.symm ne_o515_o516) (ninS ne_o516_o517 nin0))
        refine Run.cast (st' := []) rfl ?_
        refine s_aload 355 C X at_353 rfl rfl ?_
        refine s_iload 357 C X at_355 rfl ?_
        refine s_lconst 358 C X (z := j0) at_357 rfl ?_
        refine s_callV 361 [(.int i2), (.long j0)] [] 0 C X at_358 (mW 146 rfl) (mW 147 rfl) (notFace_of_selects (args := #[]) (mvT C.2.1 (C.w (mW 149 rfl)))) (mW 149 rfl) (mW 148 rfl) (mW 55 rfl) (mW 150 rfl) E_o514 (rm_a556 l Z a0 hw o514 o515 o516 k_o515 k_o516 _ n0 X.sz E_o514 F_o514_after F_o514_before A_o516 A_o515 g_o516 ne_o514_o516 ne_o515_o516) (lenOf pd__IJ_V rfl) rfl rfl rfl (fun T v hh X q => ?_)
        obtain ⟨rfl, A_o516, Kc⟩ := q
        have A_ac := A_ac.keep Kc (ninS ne_ac_o516 nin0)
        have E_b2 := E_b2.keep Kc
        have F_b2_value := F_b2_value.keep Kc (ninS ne_b2_o516 nin0)
        have F_o1_most := F_o1_most.keep Kc (ninS ne_o1_o516 nin0)
        have A_o2 := A_o2.keep Kc (ninS ne_o2_o516 nin0)
        have A_o3 := A_o3.keep Kc (ninS ne_o3_o516 nin0)
        have A_o5 := A_o5.keep Kc (ninS ne_o5_o516 nin0)
        have E_o514 := E_o514.keep Kc
        have F_o514_this_0 := F_o514_this_0.keep Kc (ninS ne_o514_o516 nin0)
        have F_o514_after := F_o514_after.keep Kc (ninS ne_o514_o516 nin0)
        have F_o514_before := F_o514_before.keep Kc (ninS ne_o514_o516 nin0)
        have F_o514_bounding := F_o514_bounding.keep Kc (ninS ne_o514_o516 nin0)
        have A_o515 := A_o515.keep Kc (ninS ne_o515_o516 nin0)
        have E_o517 := E_o517.keep Kc
        have F_o517_modCount := F_o517_modCount.keep Kc (ninS (Ne.symm ne_o516_o517) nin0)
        have F_o517_elementData := F_o517_elementData.keep Kc (ninS (Ne.symm ne_o516_o517) nin0)
        have F_o517_size := F_o517_size.keep Kc (ninS (Ne.symm ne_o516_o517) nin0)
        have Od := Od.keep Kc (allS g_o516 all0)
        have A_o543 := A_o543.keep Kc (ninS (Ne.symm ne_o516_o543) nin0)
        refine Run.cast (st' := []) rfl ?_
        refine s_aload 363 C X at_361 rfl rfl ?_
        refine s_callV 366 [] [] 0 C X at_363 (mW 151 rfl) (mW 152 rfl) (notFace_of_selects (args := #[]) (mvT C.2.1 (C.w (mW 154 rfl)))) (mW 154 rfl) (mW 153 rfl) (mW 55 rfl) (mW 155 rfl) E_o514 (rm_a739 l Z a0 hw b2 o1 o2 o3 o4 o5 k_o2 k_o3 y303 y304 y305 y359 y360 y361 o514 o515 o516 o517 k_o515 k_o516 o543 k_o543 _ n0 X.sz E_b2 F_b2_value F_o1_most A_o2 A_o3 A_o5 E_o514 F_o514_this_0 F_o514_after F_o514_before F_o514_bounding A_o515 E_o517 F_o517_modCount F_o517_elementData F_o517_size A_o543 A_o516) (lenOf pd___Lcom_example_dayweave_dayweave_model_Range_ rfl) rfl rfl rfl (fun T v hh X q => ?_)
        obtain ⟨y579, y589, rfl, D580, D590, c169_643, Kc⟩ | ⟨y579, y589, rfl, D580, D590, c169_643, c177_692, Kc⟩ | ⟨y579, y589, o733, ni734, xi735, rfl, D580, D590, c169_643, c177_692, e_ni734, e_xi735, Kc, E_o733, F_o733_min, F_o733_max, sz_o733', g_o733⟩ | ⟨y579, y589, rfl, D580, D590, c169_643, c177_692, c115_624, c137_625, Kc⟩ := q
        · have A_ac := A_ac.keep Kc nin0
          have Od := Od.keep Kc all0
          have t_c169_643 : (y579).toInt = (2305843009213693951 : Int) := cl_eq.mp c169_643
          refine Run.cast (st' := [.null]) rfl ?_
          refine s_astore 368 C X (l' := #[iv x0, iv x1, iv x2, iv x3, iv x4, iv x5, rv o1, iv i1, lv y376, .second, lv y376_385, .second, lv y376_392, .second, lv y376_399, .second, lv y376_406, .second, lv y376_413, .second, iv y475, iv i2, lv y376_392, .second, lv y376, .second, lv y376_406, .second, lv y376_399, .second, lv y376_413, .second, lv y376_385, .second, lv y29, .second, lv y29_512, .second, rv o514, .val .null]) at_366 rfl rfl ?_
          refine s_lload 370 C X at_368 rfl ?_
          refine s_callS 373 [] [(.long y29)] 2 C X at_370 (mW 40 rfl) (mW 41 rfl) (mW 21 rfl) (mW 42 rfl) (rm_a374 l Z a0 hw  _ n0 X.sz ) (lenOf pd___J rfl) rfl rfl rfl (fun T v hh X q => ?_)
          obtain ⟨rfl, Kc⟩ := q
          have Od := Od.keep Kc all0
          refine Run.cast (st' := [(.long jU13), (.long y29)]) rfl ?_
          refine s_lcmp 374 C X at_373 ?_
          refine s_if_eq 386 377 C X at_374 (fun c374_741 => ?_) (fun c374_741 => ?_)
          · have t_c374_741 : (y29).toInt = (1099511627776 : Int) := cl_eq.mp c374_741
            refine s_aload 388 C X at_386 rfl rfl ?_
            refine s_ifnonnullN 391 C X at_388 ?_
            refine s_iconst 392 C X at_391 kc_iconst_1 ?_
            refine s_goto 396 C X at_392 ?_
            refine s_nreturn C X at_396 rfl (by simp) rfl ?_
            rfl
          have t_c374_741 : ¬ ((y29).toInt = (1099511627776 : Int)) := fun q => c374_741 (cl_eq.mpr q)
          refine s_lload 379 C X at_377 rfl ?_
          refine s_callS 382 [] [(.long y29_512)] 2 C X at_379 (mW 40 rfl) (mW 41 rfl) (mW 21 rfl) (mW 42 rfl) (rm_a374 l Z a0 hw  _ n0 X.sz ) (lenOf pd___J rfl) rfl rfl rfl (fun T v hh X q => ?_)
          obtain ⟨rfl, Kc⟩ := q
          have Od := Od.keep Kc all0
          refine Run.cast (st' := [(.long jU13), (.long y29_512)]) rfl ?_
          refine s_lcmp 383 C X at_382 ?_
          refine s_if_ne 397 386 C X at_383 (fun c383_743 => ?_) (fun c383_743 => ?_)
          · have t_c383_743 : ¬ ((y29_512).toInt = (1099511627776 : Int)) := fun q => c383_743 (cl_eq.mpr q)
            refine s_aload 399 C X at_397 rfl rfl ?_
            refine s_ifnullY 431 C X at_399 ?_
            refine s_iconst 432 C X at_431 kc_iconst_0 ?_
            refine s_nreturn C X at_432 rfl (by simp) rfl ?_
            exfalso
            have X01 := own_x W_y34 V_y376
            have X10 := own_x W_y45 V_y376_385
            have X02 := own_x W_y56 V_y376_392
            have X20 := own_x W_y67 V_y376_399
            have X12 := own_x W_y78 V_y376_406
            have X21 := own_x W_y89 V_y376_413
            have Z0 := own_key X02 X01 X12 A_y418_493 D30 hY.2.2.2.1
            have Z1 := own_key X20 X21 X10 A_y418_506 D30_513 hY.2.2.2.2.1
            have la := own_lat Z0 D580
            have ea := own_ear Z1 D590
            have hz := hY.2.2.2.2.2.2.2
            exact own_lf0 Z0 Z1 la ea hz t_c169_643 t_c374_741 t_c383_743
          refine s_aload 388 C X at_386 rfl rfl ?_
          refine s_ifnonnullN 391 C X at_388 ?_
          refine s_iconst 392 C X at_391 kc_iconst_1 ?_
          refine s_goto 396 C X at_392 ?_
          refine s_nreturn C X at_396 rfl (by simp) rfl ?_
          rfl
        · have A_ac := A_ac.keep Kc nin0
          have Od := Od.keep Kc all0
          have t_c169_643 : ¬ ((y579).toInt = (2305843009213693951 : Int)) := fun q => c169_643 (cl_eq.mpr q)
          have t_c177_692 : (y589).toInt = (jUm20).toInt := cl_eq.mp c177_692
          refine Run.cast (st' := [.null]) rfl ?_
          refine s_astore 368 C X (l' := #[iv x0, iv x1, iv x2, iv x3, iv x4, iv x5, rv o1, iv i1, lv y376, .second, lv y376_385, .second, lv y376_392, .second, lv y376_399, .second, lv y376_406, .second, lv y376_413, .second, iv y475, iv i2, lv y376_392, .second, lv y376, .second, lv y376_406, .second, lv y376_399, .second, lv y376_413, .second, lv y376_385, .second, lv y29, .second, lv y29_512, .second, rv o514, .val .null]) at_366 rfl rfl ?_
          refine s_lload 370 C X at_368 rfl ?_
          refine s_callS 373 [] [(.long y29)] 2 C X at_370 (mW 40 rfl) (mW 41 rfl) (mW 21 rfl) (mW 42 rfl) (rm_a374 l Z a0 hw  _ n0 X.sz ) (lenOf pd___J rfl) rfl rfl rfl (fun T v hh X q => ?_)
          obtain ⟨rfl, Kc⟩ := q
          have Od := Od.keep Kc all0
          refine Run.cast (st' := [(.long jU13), (.long y29)]) rfl ?_
          refine s_lcmp 374 C X at_373 ?_
          refine s_if_eq 386 377 C X at_374 (fun c374_745 => ?_) (fun c374_745 => ?_)
          · have t_c374_745 : (y29).toInt = (1099511627776 : Int) := cl_eq.mp c374_745
            refine s_aload 388 C X at_386 rfl rfl ?_
            refine s_ifnonnullN 391 C X at_388 ?_
            refine s_iconst 392 C X at_391 kc_iconst_1 ?_
            refine s_goto 396 C X at_392 ?_
            refine s_nreturn C X at_396 rfl (by simp) rfl ?_
            rfl
          have t_c374_745 : ¬ ((y29).toInt = (1099511627776 : Int)) := fun q => c374_745 (cl_eq.mpr q)
          refine s_lload 379 C X at_377 rfl ?_
          refine s_callS 382 [] [(.long y29_512)] 2 C X at_379 (mW 40 rfl) (mW 41 rfl) (mW 21 rfl) (mW 42 rfl) (rm_a374 l Z a0 hw  _ n0 X.sz ) (lenOf pd___J rfl) rfl rfl rfl (fun T v hh X q => ?_)
          obtain ⟨rfl, Kc⟩ := q
          have Od := Od.keep Kc all0
          refine Run.cast (st' := [(.long jU13), (.long y29_512)]) rfl ?_
          refine s_lcmp 383 C X at_382 ?_
          refine s_if_ne 397 386 C X at_383 (fun c383_747 => ?_) (fun c383_747 => ?_)
          · have t_c383_747 : ¬ ((y29_512).toInt = (1099511627776 : Int)) := fun q => c383_747 (cl_eq.mpr q)
            refine s_aload 399 C X at_397 rfl rfl ?_
            refine s_ifnullY 431 C X at_399 ?_
            refine s_iconst 432 C X at_431 kc_iconst_0 ?_
            refine s_nreturn C X at_432 rfl (by simp) rfl ?_
            exfalso
            have X01 := own_x W_y34 V_y376
            have X10 := own_x W_y45 V_y376_385
            have X02 := own_x W_y56 V_y376_392
            have X20 := own_x W_y67 V_y376_399
            have X12 := own_x W_y78 V_y376_406
            have X21 := own_x W_y89 V_y376_413
            have Z0 := own_key X02 X01 X12 A_y418_493 D30 hY.2.2.2.1
            have Z1 := own_key X20 X21 X10 A_y418_506 D30_513 hY.2.2.2.2.1
            have la := own_lat Z0 D580
            have ea := own_ear Z1 D590
            have hz := hY.2.2.2.2.2.2.2
            exact own_lf1 Z0 Z1 la ea hz t_c169_643 t_c177_692 t_c374_745 t_c383_747
          refine s_aload 388 C X at_386 rfl rfl ?_
          refine s_ifnonnullN 391 C X at_388 ?_
          refine s_iconst 392 C X at_391 kc_iconst_1 ?_
          refine s_goto 396 C X at_392 ?_
          refine s_nreturn C X at_396 rfl (by simp) rfl ?_
          rfl
        · have ne_ac_o733 : ac ≠ o733 := Nat.ne_of_lt (Nat.lt_of_lt_of_le A_ac.lt sz_o733')
          have Od := Od.keep Kc all0
          have t_c169_643 : ¬ ((y579).toInt = (2305843009213693951 : Int)) := fun q => c169_643 (cl_eq.mpr q)
          have t_c177_692 : ¬ ((y589).toInt = (jUm20).toInt) := fun q => c177_692 (cl_eq.mpr q)
          refine Run.cast (st' := [(.ref o733)]) rfl ?_
          refine s_astore 368 C X (l' := #[iv x0, iv x1, iv x2, iv x3, iv x4, iv x5, rv o1, iv i1, lv y376, .second, lv y376_385, .second, lv y376_392, .second, lv y376_399, .second, lv y376_406, .second, lv y376_413, .second, iv y475, iv i2, lv y376_392, .second, lv y376, .second, lv y376_406, .second, lv y376_399, .second, lv y376_413, .second, lv y376_385, .second, lv y29, .second, lv y29_512, .second, rv o514, rv o733]) at_366 rfl rfl ?_
          refine s_lload 370 C X at_368 rfl ?_
          refine s_callS 373 [] [(.long y29)] 2 C X at_370 (mW 40 rfl) (mW 41 rfl) (mW 21 rfl) (mW 42 rfl) (rm_a374 l Z a0 hw  _ n0 X.sz ) (lenOf pd___J rfl) rfl rfl rfl (fun T v hh X q => ?_)
          obtain ⟨rfl, Kc⟩ := q
          have Od := Od.keep Kc all0
          have E_o733 := E_o733.keep Kc
          have F_o733_min := F_o733_min.keep Kc nin0
          have F_o733_max := F_o733_max.keep Kc nin0
          refine Run.cast (st' := [(.long jU13), (.long y29)]) rfl ?_
          refine s_lcmp 374 C X at_373 ?_
          refine s_if_eq 386 377 C X at_374 (fun c374_749 => ?_) (fun c374_749 => ?_)
          · have t_c374_749 : (y29).toInt = (1099511627776 : Int) := cl_eq.mp c374_749
            refine s_aload 388 C X at_386 rfl rfl ?_
            refine s_ifnonnullY 395 C X at_388 ?_
            refine s_iconst 396 C X at_395 kc_iconst_0 ?_
            refine s_nreturn C X at_396 rfl (by simp) rfl ?_
            exfalso
            have X01 := own_x W_y34 V_y376
            have X10 := own_x W_y45 V_y376_385
            have X02 := own_x W_y56 V_y376_392
            have X20 := own_x W_y67 V_y376_399
            have X12 := own_x W_y78 V_y376_406
            have X21 := own_x W_y89 V_y376_413
            have Z0 := own_key X02 X01 X12 A_y418_493 D30 hY.2.2.2.1
            have Z1 := own_key X20 X21 X10 A_y418_506 D30_513 hY.2.2.2.2.1
            have la := own_lat Z0 D580
            have ea := own_ear Z1 D590
            have hz := hY.2.2.2.2.2.2.2
            exact own_lf2 Z0 Z1 la ea hz t_c169_643 t_c177_692 e_ni734 e_xi735 t_c374_749
          have t_c374_749 : ¬ ((y29).toInt = (1099511627776 : Int)) := fun q => c374_749 (cl_eq.mpr q)
          refine s_lload 379 C X at_377 rfl ?_
          refine s_callS 382 [] [(.long y29_512)] 2 C X at_379 (mW 40 rfl) (mW 41 rfl) (mW 21 rfl) (mW 42 rfl) (rm_a374 l Z a0 hw  _ n0 X.sz ) (lenOf pd___J rfl) rfl rfl rfl (fun T v hh X q => ?_)
          obtain ⟨rfl, Kc⟩ := q
          have Od := Od.keep Kc all0
          have E_o733 := E_o733.keep Kc
          have F_o733_min := F_o733_min.keep Kc nin0
          have F_o733_max := F_o733_max.keep Kc nin0
          refine Run.cast (st' := [(.long jU13), (.long y29_512)]) rfl ?_
          refine s_lcmp 383 C X at_382 ?_
          refine s_if_ne 397 386 C X at_383 (fun c383_751 => ?_) (fun c383_751 => ?_)
          · have t_c383_751 : ¬ ((y29_512).toInt = (1099511627776 : Int)) := fun q => c383_751 (cl_eq.mpr q)
            refine s_aload 399 C X at_397 rfl rfl ?_
            refine s_ifnullN 402 C X at_399 ?_
            refine s_aload 404 C X at_402 rfl rfl ?_
            refine s_callV 407 [] [] 0 C X at_404 (mW 238 rfl) (mW 239 rfl) (notFace_of_selects (args := #[]) (mvT C.2.1 (C.w (mW 241 rfl)))) (mW 241 rfl) (mW 240 rfl) (mW 224 rfl) (mW 242 rfl) E_o733 (rm_a752 l Z a0 hw o733 ni734 _ n0 X.sz F_o733_min) (lenOf pd___I rfl) rfl rfl rfl (fun T v hh X q => ?_)
            obtain ⟨rfl, Kc⟩ := q
            have Od := Od.keep Kc all0
            have E_o733 := E_o733.keep Kc
            have F_o733_max := F_o733_max.keep Kc nin0
            refine Run.cast (st' := [(.int ni734)]) rfl ?_
            refine s_i2l 408 C X at_407 ?_
            refine s_lload 410 C X at_408 rfl ?_
            refine s_lneg 411 C X at_410 ?_
            refine s_lcmp 412 C X at_411 ?_
            refine s_if_ne 431 415 C X at_412 (fun c412_753 => ?_) (fun c412_753 => ?_)
            · have t_c412_753 : ¬ (((ni734).toInt64).toInt = ((-y29_512)).toInt) := fun q => c412_753 (cl_eq.mpr q)
              refine s_iconst 432 C X at_431 kc_iconst_0 ?_
              refine s_nreturn C X at_432 rfl (by simp) rfl ?_
              exfalso
              have X01 := own_x W_y34 V_y376
              have X10 := own_x W_y45 V_y376_385
              have X02 := own_x W_y56 V_y376_392
              have X20 := own_x W_y67 V_y376_399
              have X12 := own_x W_y78 V_y376_406
              have X21 := own_x W_y89 V_y376_413
              have Z0 := own_key X02 X01 X12 A_y418_493 D30 hY.2.2.2.1
              have Z1 := own_key X20 X21 X10 A_y418_506 D30_513 hY.2.2.2.2.1
              have la := own_lat Z0 D580
              have ea := own_ear Z1 D590
              have hz := hY.2.2.2.2.2.2.2
              exact own_lf3 Z0 Z1 la ea hz t_c169_643 t_c177_692 e_ni734 e_xi735 t_c374_749 t_c383_751 t_c412_753
            have t_c412_753 : ((ni734).toInt64).toInt = ((-y29_512)).toInt := cl_eq.mp c412_753
            refine s_aload 417 C X at_415 rfl rfl ?_
            refine s_callV 420 [] [] 0 C X at_417 (mW 243 rfl) (mW 244 rfl) (notFace_of_selects (args := #[]) (mvT C.2.1 (C.w (mW 246 rfl)))) (mW 246 rfl) (mW 245 rfl) (mW 224 rfl) (mW 247 rfl) E_o733 (rm_a754 l Z a0 hw o733 xi735 _ n0 X.sz F_o733_max) (lenOf pd___I rfl) rfl rfl rfl (fun T v hh X q => ?_)
            obtain ⟨rfl, Kc⟩ := q
            have Od := Od.keep Kc all0
            refine Run.cast (st' := [(.int xi735)]) rfl ?_
            refine s_i2l 421 C X at_420 ?_
            refine s_lload 423 C X at_421 rfl ?_
            refine s_lcmp 424 C X at_423 ?_
            refine s_if_ne 431 427 C X at_424 (fun c424_755 => ?_) (fun c424_755 => ?_)
            · have t_c424_755 : ¬ (((xi735).toInt64).toInt = (y29).toInt) := fun q => c424_755 (cl_eq.mpr q)
              refine s_iconst 432 C X at_431 kc_iconst_0 ?_
              refine s_nreturn C X at_432 rfl (by simp) rfl ?_
              exfalso
              have X01 := own_x W_y34 V_y376
              have X10 := own_x W_y45 V_y376_385
              have X02 := own_x W_y56 V_y376_392
              have X20 := own_x W_y67 V_y376_399
              have X12 := own_x W_y78 V_y376_406
              have X21 := own_x W_y89 V_y376_413
              have Z0 := own_key X02 X01 X12 A_y418_493 D30 hY.2.2.2.1
              have Z1 := own_key X20 X21 X10 A_y418_506 D30_513 hY.2.2.2.2.1
              have la := own_lat Z0 D580
              have ea := own_ear Z1 D590
              have hz := hY.2.2.2.2.2.2.2
              exact own_lf4 Z0 Z1 la ea hz t_c169_643 t_c177_692 e_ni734 e_xi735 t_c374_749 t_c383_751 t_c412_753 t_c424_755
            refine s_iconst 428 C X at_427 kc_iconst_1 ?_
            refine s_goto 432 C X at_428 ?_
            refine s_nreturn C X at_432 rfl (by simp) rfl ?_
            rfl
          have t_c383_751 : (y29_512).toInt = (1099511627776 : Int) := cl_eq.mp c383_751
          refine s_aload 388 C X at_386 rfl rfl ?_
          refine s_ifnonnullY 395 C X at_388 ?_
          refine s_iconst 396 C X at_395 kc_iconst_0 ?_
          refine s_nreturn C X at_396 rfl (by simp) rfl ?_
          exfalso
          have X01 := own_x W_y34 V_y376
          have X10 := own_x W_y45 V_y376_385
          have X02 := own_x W_y56 V_y376_392
          have X20 := own_x W_y67 V_y376_399
          have X12 := own_x W_y78 V_y376_406
          have X21 := own_x W_y89 V_y376_413
          have Z0 := own_key X02 X01 X12 A_y418_493 D30 hY.2.2.2.1
          have Z1 := own_key X20 X21 X10 A_y418_506 D30_513 hY.2.2.2.2.1
          have la := own_lat Z0 D580
          have ea := own_ear Z1 D590
          have hz := hY.2.2.2.2.2.2.2
          exact own_lf5 Z0 Z1 la ea hz t_c169_643 t_c177_692 e_ni734 e_xi735 t_c374_749 t_c383_751
        · have A_ac := A_ac.keep Kc nin0
          have Od := Od.keep Kc all0
          have t_c169_643 : ¬ ((y579).toInt = (2305843009213693951 : Int)) := fun q => c169_643 (cl_eq.mpr q)
          have t_c177_692 : ¬ ((y589).toInt = (jUm20).toInt) := fun q => c177_692 (cl_eq.mpr q)
          have t_c115_624 : ¬ ((y361).toInt = (2305843009213693951 : Int)) := fun q => c115_624 (cl_eq.mpr q)
          have t_c137_625 : (((j0 + y361) + j0)).toInt < (0 : Int) := cl_lt.mp c137_625
          refine Run.cast (st' := [.null]) rfl ?_
          refine s_astore 368 C X (l' := #[iv x0, iv x1, iv x2, iv x3, iv x4, iv x5, rv o1, iv i1, lv y376, .second, lv y376_385, .second, lv y376_392, .second, lv y376_399, .second, lv y376_406, .second, lv y376_413, .second, iv y475, iv i2, lv y376_392, .second, lv y376, .second, lv y376_406, .second, lv y376_399, .second, lv y376_413, .second, lv y376_385, .second, lv y29, .second, lv y29_512, .second, rv o514, .val .null]) at_366 rfl rfl ?_
          refine s_lload 370 C X at_368 rfl ?_
          refine s_callS 373 [] [(.long y29)] 2 C X at_370 (mW 40 rfl) (mW 41 rfl) (mW 21 rfl) (mW 42 rfl) (rm_a374 l Z a0 hw  _ n0 X.sz ) (lenOf pd___J rfl) rfl rfl rfl (fun T v hh X q => ?_)
          obtain ⟨rfl, Kc⟩ := q
          have Od := Od.keep Kc all0
          refine Run.cast (st' := [(.long jU13), (.long y29)]) rfl ?_
          refine s_lcmp 374 C X at_373 ?_
          refine s_if_eq 386 377 C X at_374 (fun c374_757 => ?_) (fun c374_757 => ?_)
          · have t_c374_757 : (y29).toInt = (1099511627776 : Int) := cl_eq.mp c374_757
            refine s_aload 388 C X at_386 rfl rfl ?_
            refine s_ifnonnullN 391 C X at_388 ?_
            refine s_iconst 392 C X at_391 kc_iconst_1 ?_
            refine s_goto 396 C X at_392 ?_
            refine s_nreturn C X at_396 rfl (by simp) rfl ?_
            rfl
          have t_c374_757 : ¬ ((y29).toInt = (1099511627776 : Int)) := fun q => c374_757 (cl_eq.mpr q)
          refine s_lload 379 C X at_377 rfl ?_
          refine s_callS 382 [] [(.long y29_512)] 2 C X at_379 (mW 40 rfl) (mW 41 rfl) (mW 21 rfl) (mW 42 rfl) (rm_a374 l Z a0 hw  _ n0 X.sz ) (lenOf pd___J rfl) rfl rfl rfl (fun T v hh X q => ?_)
          obtain ⟨rfl, Kc⟩ := q
          have Od := Od.keep Kc all0
          refine Run.cast (st' := [(.long jU13), (.long y29_512)]) rfl ?_
          refine s_lcmp 383 C X at_382 ?_
          refine s_if_ne 397 386 C X at_383 (fun c383_759 => ?_) (fun c383_759 => ?_)
          · have t_c383_759 : ¬ ((y29_512).toInt = (1099511627776 : Int)) := fun q => c383_759 (cl_eq.mpr q)
            refine s_aload 399 C X at_397 rfl rfl ?_
            refine s_ifnullY 431 C X at_399 ?_
            refine s_iconst 432 C X at_431 kc_iconst_0 ?_
            refine s_nreturn C X at_432 rfl (by simp) rfl ?_
            exfalso
            have X01 := own_x W_y34 V_y376
            have X10 := own_x W_y45 V_y376_385
            have X02 := own_x W_y56 V_y376_392
            have X20 := own_x W_y67 V_y376_399
            have X12 := own_x W_y78 V_y376_406
            have X21 := own_x W_y89 V_y376_413
            have Z0 := own_key X02 X01 X12 A_y418_493 D30 hY.2.2.2.1
            have Z1 := own_key X20 X21 X10 A_y418_506 D30_513 hY.2.2.2.2.1
            have la := own_lat Z0 D580
            have ea := own_ear Z1 D590
            have hz := hY.2.2.2.2.2.2.2
            exact own_lf6 Z0 Z1 la ea hz t_c169_643 t_c177_692 t_c115_624 t_c137_625 t_c374_757 t_c383_759
          refine s_aload 388 C X at_386 rfl rfl ?_
          refine s_ifnonnullN 391 C X at_388 ?_
          refine s_iconst 392 C X at_391 kc_iconst_1 ?_
          refine s_goto 396 C X at_392 ?_
          refine s_nreturn C X at_396 rfl (by simp) rfl ?_
          rfl
      refine s_iconst 214 C X at_213 kc_iconst_1 ?_
      refine s_goto 218 C X at_214 ?_
      refine s_istore 220 C X (l' := #[iv x0, iv x1, iv x2, iv x3, iv x4, iv x5, rv o1, iv i1, lv y376, .second, lv y376_385, .second, lv y376_392, .second, lv y376_399, .second, lv y376_406, .second, lv y376_413, .second, iv y475, iv i1, .unset, .unset, .unset, .unset, .unset, .unset, .unset, .unset, .unset, .unset, .unset, .unset, .unset, .unset, .unset, .unset, .unset, .unset]) at_218 rfl ?_
      refine s_iload 222 C X at_220 rfl ?_
      refine s_iconst 223 C X at_222 kc_iconst_1 ?_
      refine s_icmp_ne 231 226 C X at_223 (fun c => absurd (by decide : i1 = i1) c) (fun _ => ?_)
      refine s_lload 228 C X at_226 rfl ?_
      refine s_goto 233 C X at_228 ?_
      refine s_lstore 235 C X (l' := #[iv x0, iv x1, iv x2, iv x3, iv x4, iv x5, rv o1, iv i1, lv y376, .second, lv y376_385, .second, lv y376_392, .second, lv y376_399, .second, lv y376_406, .second, lv y376_413, .second, iv y475, iv i1, lv y376, .second, .unset, .unset, .unset, .unset, .unset, .unset, .unset, .unset, .unset, .unset, .unset, .unset, .unset, .unset, .unset, .unset]) at_233 rfl ?_
      refine s_iload 237 C X at_235 rfl ?_
      refine s_iconst 238 C X at_237 kc_iconst_1 ?_
      refine s_icmp_ne 246 241 C X at_238 (fun c => absurd (by decide : i1 = i1) c) (fun _ => ?_)
      refine s_lload 243 C X at_241 rfl ?_
      refine s_goto 248 C X at_243 ?_
      refine s_lstore 250 C X (l' := #[iv x0, iv x1, iv x2, iv x3, iv x4, iv x5, rv o1, iv i1, lv y376, .second, lv y376_385, .second, lv y376_392, .second, lv y376_399, .second, lv y376_406, .second, lv y376_413, .second, iv y475, iv i1, lv y376, .second, lv y376_392, .second, .unset, .unset, .unset, .unset, .unset, .unset, .unset, .unset, .unset, .unset, .unset, .unset, .unset, .unset]) at_248 rfl ?_
      refine s_iload 252 C X at_250 rfl ?_
      refine s_iconst 253 C X at_252 kc_iconst_1 ?_
      refine s_icmp_ne 261 256 C X at_253 (fun c => absurd (by decide : i1 = i1) c) (fun _ => ?_)
      refine s_lload 258 C X at_256 rfl ?_
      refine s_goto 263 C X at_258 ?_
      refine s_lstore 265 C X (l' := #[iv x0, iv x1, iv x2, iv x3, iv x4, iv x5, rv o1, iv i1, lv y376, .second, lv y376_385, .second, lv y376_392, .second, lv y376_399, .second, lv y376_406, .second, lv y376_413, .second, iv y475, iv i1, lv y376, .second, lv y376_392, .second, lv y376_413, .second, .unset, .unset, .unset, .unset, .unset, .unset, .unset, .unset, .unset, .unset, .unset, .unset]) at_263 rfl ?_
      refine s_iload 267 C X at_265 rfl ?_
      refine s_iconst 268 C X at_267 kc_iconst_1 ?_
      refine s_icmp_ne 276 271 C X at_268 (fun c => absurd (by decide : i1 = i1) c) (fun _ => ?_)
      refine s_lload 273 C X at_271 rfl ?_
      refine s_goto 278 C X at_273 ?_
      refine s_lstore 280 C X (l' := #[iv x0, iv x1, iv x2, iv x3, iv x4, iv x5, rv o1, iv i1, lv y376, .second, lv y376_385, .second, lv y376_392, .second, lv y376_399, .second, lv y376_406, .second, lv y376_413, .second, iv y475, iv i1, lv y376, .second, lv y376_392, .second, lv y376_413, .second, lv y376_385, .second, .unset, .unset, .unset, .unset, .unset, .unset, .unset, .unset, .unset, .unset]) at_278 rfl ?_
      refine s_iload 282 C X at_280 rfl ?_
      refine s_iconst 283 C X at_282 kc_iconst_1 ?_
      refine s_icmp_ne 291 286 C X at_283 (fun c => absurd (by decide : i1 = i1) c) (fun _ => ?_)
      refine s_lload 288 C X at_286 rfl ?_
      refine s_goto 293 C X at_288 ?_
      refine s_lstore 295 C X (l' := #[iv x0, iv x1, iv x2, iv x3, iv x4, iv x5, rv o1, iv i1, lv y376, .second, lv y376_385, .second, lv y376_392, .second, lv y376_399, .second, lv y376_406, .second, lv y376_413, .second, iv y475, iv i1, lv y376, .second, lv y376_392, .second, lv y376_413, .second, lv y376_385, .second, lv y376_406, .second, .unset, .unset, .unset, .unset, .unset, .unset, .unset, .unset]) at_293 rfl ?_
      refine s_iload 297 C X at_295 rfl ?_
      refine s_iconst 298 C X at_297 kc_iconst_1 ?_
      refine s_icmp_ne 306 301 C X at_298 (fun c => absurd (by decide : i1 = i1) c) (fun _ => ?_)
      refine s_lload 303 C X at_301 rfl ?_
      refine s_goto 308 C X at_303 ?_
      refine s_lstore 310 C X (l' := #[iv x0, iv x1, iv x2, iv x3, iv x4, iv x5, rv o1, iv i1, lv y376, .second, lv y376_385, .second, lv y376_392, .second, lv y376_399, .second, lv y376_406, .second, lv y376_413, .second, iv y475, iv i1, lv y376, .second, lv y376_392, .second, lv y376_413, .second, lv y376_385, .second, lv y376_406, .second, lv y376_399, .second, .unset, .unset, .unset, .unset, .unset, .unset]) at_308 rfl ?_
      refine s_lload 312 C X at_310 rfl ?_
      refine s_lload 314 C X at_312 rfl ?_
      refine s_lload 316 C X at_314 rfl ?_
      refine s_callS 319 [(.long y376_392), (.long y376_413)] [(.long y376)] 2 C X at_316 (mW 44 rfl) (mW 45 rfl) (mW 21 rfl) (mW 46 rfl) (rm_a420 l Z a0 hw (y376_392) (y376_413) _ n0 X.sz ) (lenOf pd__JJ_J rfl) rfl rfl rfl (fun T v hh X q => ?_)
      obtain ⟨y418_773, rfl, A_y418_773, Kc⟩ := q
      have Od := Od.keep Kc all0
      have A_ac := A_ac.keep Kc nin0
      have A_de := A_de.keep Kc nin0
      have E_b1 := E_b1.keep Kc
      have F_b1_value := F_b1_value.keep Kc nin0
      have E_o1 := E_o1.keep Kc
      have F_o1_most := F_o1_most.keep Kc nin0
      have A_o2 := A_o2.keep Kc nin0
      have A_o3 := A_o3.keep Kc nin0
      have A_o4 := A_o4.keep Kc nin0
      refine Run.cast (st' := [(.long y418_773), (.long y376)]) rfl ?_
      refine s_callS 322 [(.long y376), (.long y418_773)] [] 0 C X at_319 (mW 47 rfl) (mW 29 rfl) (mW 30 rfl) (mW 31 rfl) (rm_a31 l Z a0 hw (y376) (y418_773) _ n0 X.sz ) (lenOf pd__JJ_J rfl) rfl rfl rfl (fun T v hh X q => ?_)
      obtain ⟨y29, rfl, D30, Kc⟩ := q
      have Od := Od.keep Kc all0
      have A_ac := A_ac.keep Kc nin0
      have A_de := A_de.keep Kc nin0
      have E_b1 := E_b1.keep Kc
      have F_b1_value := F_b1_value.keep Kc nin0
      have E_o1 := E_o1.keep Kc
      have F_o1_most := F_o1_most.keep Kc nin0
      have A_o2 := A_o2.keep Kc nin0
      have A_o3 := A_o3.keep Kc nin0
      have A_o4 := A_o4.keep Kc nin0
      refine Run.cast (st' := [(.long y29)]) rfl ?_
      refine s_lstore 324 C X (l' := #[iv x0, iv x1, iv x2, iv x3, iv x4, iv x5, rv o1, iv i1, lv y376, .second, lv y376_385, .second, lv y376_392, .second, lv y376_399, .second, lv y376_406, .second, lv y376_413, .second, iv y475, iv i1, lv y376, .second, lv y376_392, .second, lv y376_413, .second, lv y376_385, .second, lv y376_406, .second, lv y376_399, .second, lv y29, .second, .unset, .unset, .unset, .unset]) at_322 rfl ?_
      refine s_lload 326 C X at_324 rfl ?_
      refine s_lload 328 C X at_326 rfl ?_
      refine s_lload 330 C X at_328 rfl ?_
      refine s_callS 333 [(.long y376_406), (.long y376_399)] [(.long y376_385)] 2 C X at_330 (mW 44 rfl) (mW 45 rfl) (mW 21 rfl) (mW 46 rfl) (rm_a420 l Z a0 hw (y376_406) (y376_399) _ n0 X.sz ) (lenOf pd__JJ_J rfl) rfl rfl rfl (fun T v hh X q => ?_)
      obtain ⟨y418_786, rfl, A_y418_786, Kc⟩ := q
      have Od := Od.keep Kc all0
      have A_ac := A_ac.keep Kc nin0
      have A_de := A_de.keep Kc nin0
      have E_b1 := E_b1.keep Kc
      have F_b1_value := F_b1_value.keep Kc nin0
      have E_o1 := E_o1.keep Kc
      have F_o1_most := F_o1_most.keep Kc nin0
      have A_o2 := A_o2.keep Kc nin0
      have A_o3 := A_o3.keep Kc nin0
      have A_o4 := A_o4.keep Kc nin0
      refine Run.cast (st' := [(.long y418_786), (.long y376_385)]) rfl ?_
      refine s_callS 336 [(.long y376_385), (.long y418_786)] [] 0 C X at_333 (mW 47 rfl) (mW 29 rfl) (mW 30 rfl) (mW 31 rfl) (rm_a31 l Z a0 hw (y376_385) (y418_786) _ n0 X.sz ) (lenOf pd__JJ_J rfl) rfl rfl rfl (fun T v hh X q => ?_)
      obtain ⟨y29_792, rfl, D30_793, Kc⟩ := q
      have Od := Od.keep Kc all0
      have A_ac := A_ac.keep Kc nin0
      have A_de := A_de.keep Kc nin0
      have E_b1 := E_b1.keep Kc
      have F_b1_value := F_b1_value.keep Kc nin0
      have E_o1 := E_o1.keep Kc
      have F_o1_most := F_o1_most.keep Kc nin0
      have A_o2 := A_o2.keep Kc nin0
      have A_o3 := A_o3.keep Kc nin0
      have A_o4 := A_o4.keep Kc nin0
      refine Run.cast (st' := [(.long y29_792)]) rfl ?_
      refine s_lstore 338 C X (l' := #[iv x0, iv x1, iv x2, iv x3, iv x4, iv x5, rv o1, iv i1, lv y376, .second, lv y376_385, .second, lv y376_392, .second, lv y376_399, .second, lv y376_406, .second, lv y376_413, .second, iv y475, iv i1, lv y376, .second, lv y376_392, .second, lv y376_413, .second, lv y376_385, .second, lv y376_406, .second, lv y376_399, .second, lv y29, .second, lv y29_792, .second, .unset, .unset]) at_336 rfl ?_
      refine s_aload 340 C X at_338 rfl rfl ?_
      refine s_callV 343 [] [] 0 C X at_340 (mW 48 rfl) (mW 49 rfl) (notFace_of_selects (args := #[]) (mvT C.2.1 (C.w (mW 51 rfl)))) (mW 51 rfl) (mW 50 rfl) (mW 2 rfl) (mW 52 rfl) E_o1 (rm_a532 l Z a0 hw de o1 o2 o3 o4 o5 k_o2 _ n0 X.sz Od S_de F_o1_most A_o2) (lenOf pd___Lcom_example_dayweave_dayweave_solve_TemporalNetwork_Newcomer_ rfl) rfl rfl rfl (fun T v hh X q => ?_)
      obtain ⟨o514, o515, o516, o517, k_o515, k_o516, rfl, Kc, E_o514, F_o514_this_0, F_o514_after, F_o514_before, F_o514_bounding, Od, E_o517, F_o517_modCount, F_o517_elementData, F_o517_size, A_o515, A_o516, sz_o514', g_o514, sz_o515', g_o515, sz_o516', g_o516, sz_o517', g_o517, ne_o514_o515, ne_o514_o516, ne_o515_o516, ne_o514_o517, ne_o515_o517, ne_o516_o517⟩ := q
      have ne_ac_o515 : ac ≠ o515 := Nat.ne_of_lt (Nat.lt_of_lt_of_le A_ac.lt sz_o515')
      have ne_de_o515 : de ≠ o515 := Nat.ne_of_lt (Nat.lt_of_lt_of_le A_de.lt sz_o515')
      have ne_b1_o515 : b1 ≠ o515 := Nat.ne_of_lt (Nat.lt_of_lt_of_le E_b1.lt sz_o515')
      have ne_o1_o515 : o1 ≠ o515 := Nat.ne_of_lt (Nat.lt_of_lt_of_le E_o1.lt sz_o515')
      have ne_o2_o515 : o2 ≠ o515 := Nat.ne_of_lt (Nat.lt_of_lt_of_le A_o2.lt sz_o515')
      have ne_o3_o515 : o3 ≠ o515 := Nat.ne_of_lt (Nat.lt_of_lt_of_le A_o3.lt sz_o515')
      have ne_o4_o515 : o4 ≠ o515 := Nat.ne_of_lt (Nat.lt_of_lt_of_le A_o4.lt sz_o515')
      have ne_ac_o516 : ac ≠ o516 := Nat.ne_of_lt (Nat.lt_of_lt_of_le A_ac.lt sz_o516')
      have ne_b1_o516 : b1 ≠ o516 := Nat.ne_of_lt (Nat.lt_of_lt_of_le E_b1.lt sz_o516')
      have ne_o1_o516 : o1 ≠ o516 := Nat.ne_of_lt (Nat.lt_of_lt_of_le E_o1.lt sz_o516')
      have ne_o2_o516 : o2 ≠ o516 := Nat.ne_of_lt (Nat.lt_of_lt_of_le A_o2.lt sz_o516')
      have ne_o3_o516 : o3 ≠ o516 := Nat.ne_of_lt (Nat.lt_of_lt_of_le A_o3.lt sz_o516')
      have ne_o4_o516 : o4 ≠ o516 := Nat.ne_of_lt (Nat.lt_of_lt_of_le A_o4.lt sz_o516')
      have ne_ac_o517 : ac ≠ o517 := Nat.ne_of_lt (Nat.lt_of_lt_of_le A_ac.lt sz_o517')
      have ne_de_o517 : de ≠ o517 := Nat.ne_of_lt (Nat.lt_of_lt_of_le A_de.lt sz_o517')
      have ne_b1_o517 : b1 ≠ o517 := Nat.ne_of_lt (Nat.lt_of_lt_of_le E_b1.lt sz_o517')
      have ne_o1_o517 : o1 ≠ o517 := Nat.ne_of_lt (Nat.lt_of_lt_of_le E_o1.lt sz_o517')
      have ne_o2_o517 : o2 ≠ o517 := Nat.ne_of_lt (Nat.lt_of_lt_of_le A_o2.lt sz_o517')
      have ne_o3_o517 : o3 ≠ o517 := Nat.ne_of_lt (Nat.lt_of_lt_of_le A_o3.lt sz_o517')
      have ne_o4_o517 : o4 ≠ o517 := Nat.ne_of_lt (Nat.lt_of_lt_of_le A_o4.lt sz_o517')
      have A_ac := A_ac.keep Kc nin0
      have A_de := A_de.keep Kc nin0
      have E_b1 := E_b1.keep Kc
      have F_b1_value := F_b1_value.keep Kc nin0
      have F_o1_most := F_o1_most.keep Kc nin0
      have A_o2 := A_o2.keep Kc nin0
      have A_o3 := A_o3.keep Kc nin0
      have A_o4 := A_o4.keep Kc nin0
      refine Run.cast (st' := [(.ref o514)]) rfl ?_
      refine s_astore 345 C X (l' := #[iv x0, iv x1, iv x2, iv x3, iv x4, iv x5, rv o1, iv i1, lv y376, .second, lv y376_385, .second, lv y376_392, .second, lv y376_399, .second, lv y376_406, .second, lv y376_413, .second, iv y475, iv i1, lv y376, .second, lv y376_392, .second, lv y376_413, .second, lv y376_385, .second, lv y376_406, .second, lv y376_399, .second, lv y29, .second, lv y29_792, .second, rv o514, .unset]) at_343 rfl rfl ?_
      refine s_aload 347 C X at_345 rfl rfl ?_
      refine s_iload 349 C X at_347 rfl ?_
      refine s_lconst 350 C X (z := j0) at_349 rfl ?_
      refine s_callV 353 [(.int i1), (.long j0)] [] 0 C X at_350 (mW 95 rfl) (mW 96 rfl) (notFace_of_selects (args := #[]) (mvT C.2.1 (C.w (mW 98 rfl)))) (mW 98 rfl) (mW 97 rfl) (mW 55 rfl) (mW 99 rfl) E_o514 (rm_a831 l Z a0 hw ac k_ac vsC de k_de b1 o514 o515 o516 o517 k_o515 k_o516 _ n0 X.sz S_high S_cache S_de A_ac A_de E_b1 E_o514 F_o514_after F_o514_before F_o514_bounding Od E_o517 F_o517_modCount F_o517_elementData F_o517_size A_o515 A_o516 hv129 ne_ac_o515 ne_de_o515 g_o515 ne_ac_o517 ne_de_o517 g_o517 ne_o514_o515 ne_o515_o516 ne_o514_o517 ne_o515_o517 ne_o516_o517) (lenOf pd__IJ_V rfl) rfl rfl rfl (fun T v hh X q => ?_)
      obtain ⟨o543, k_o543, rfl, A_o515, Kc, E_o517, F_o517_modCount, F_o517_elementData, F_o517_size, Od, E_o543, A_o543, ne_o515_o543, sz_o543', g_o543, ne_o517_o543, O_o543⟩ := q
      have ne_o516_o543 : o516 ≠ o543 := Nat.ne_of_lt (Nat.lt_of_lt_of_le A_o516.lt sz_o543')
      have nn_o514 : o514 ∉ [o515, o517] := (ninS ne_o514_o515 (ninS ne_o514_o517 nin0))
      have A_ac := A_ac.keep Kc (ninS ne_ac_o515 (ninS ne_ac_o517 nin0))
      have E_b1 := E_b1.keep Kc
      have F_b1_value := F_b1_value.keep Kc (ninS ne_b1_o515 (ninS ne_b1_o517 nin0))
      have F_o1_most := F_o1_most.keep Kc (ninS ne_o1_o515 (ninS ne_o1_o517 nin0))
      have A_o2 := A_o2.keep Kc (ninS ne_o2_o515 (ninS ne_o2_o517 nin0))
      have A_o3 := A_o3.keep Kc (ninS ne_o3_o515 (ninS ne_o3_o517 nin0))
      have A_o4 := A_o4.keep Kc (ninS ne_o4_o515 (ninS ne_o4_o517 nin0))
      have E_o514 := E_o514.keep Kc
      have F_o514_this_0 := F_o514_this_0.keep Kc nn_o514
      have F_o514_after := F_o514_after.keep Kc nn_o514
      have F_o514_before := F_o514_before.keep Kc nn_o514
      have F_o514_bounding := F_o514_bounding.keep Kc nn_o514
      have A_o516 := A_o516.keep Kc (ninS (Ne.symm ne_o515_o516) (ninS ne_o516_o517 nin0))
      refine Run.cast (st' := []) rfl ?_
      refine s_aload 355 C X at_353 rfl rfl ?_
      refine s_iload 357 C X at_355 rfl ?_
      refine s_lconst 358 C X (z := j0) at_357 rfl ?_
      refine s_callV 361 [(.int i1), (.long j0)] [] 0 C X at_358 (mW 146 rfl) (mW 147 rfl) (notFace_of_selects (args := #[]) (mvT C.2.1 (C.w (mW 149 rfl)))) (mW 149 rfl) (mW 148 rfl) (mW 55 rfl) (mW 150 rfl) E_o514 (rm_a836 l Z a0 hw o514 o515 o516 k_o515 k_o516 _ n0 X.sz E_o514 F_o514_after F_o514_before A_o516 A_o515 g_o516 ne_o514_o516 ne_o515_o516) (lenOf pd__IJ_V rfl) rfl rfl rfl (fun T v hh X q => ?_)
      obtain ⟨rfl, A_o516, Kc⟩ := q
      have A_ac := A_ac.keep Kc (ninS ne_ac_o516 nin0)
      have E_b1 := E_b1.keep Kc
      have F_b1_value := F_b1_value.keep Kc (ninS ne_b1_o516 nin0)
      have F_o1_most := F_o1_most.keep Kc (ninS ne_o1_o516 nin0)
      have A_o2 := A_o2.keep Kc (ninS ne_o2_o516 nin0)
      have A_o3 := A_o3.keep Kc (ninS ne_o3_o516 nin0)
      have A_o4 := A_o4.keep Kc (ninS ne_o4_o516 nin0)
      have E_o514 := E_o514.keep Kc
      have F_o514_this_0 := F_o514_this_0.keep Kc (ninS ne_o514_o516 nin0)
      have F_o514_after := F_o514_after.keep Kc (ninS ne_o514_o516 nin0)
      have F_o514_before := F_o514_before.keep Kc (ninS ne_o514_o516 nin0)
      have F_o514_bounding := F_o514_bounding.keep Kc (ninS ne_o514_o516 nin0)
      have A_o515 := A_o515.keep Kc (ninS ne_o515_o516 nin0)
      have E_o517 := E_o517.keep Kc
      have F_o517_modCount := F_o517_modCount.keep Kc (ninS (Ne.symm ne_o516_o517) nin0)
      have F_o517_elementData := F_o517_elementData.keep Kc (ninS (Ne.symm ne_o516_o517) nin0)
      have F_o517_size := F_o517_size.keep Kc (ninS (Ne.symm ne_o516_o517) nin0)
      have Od := Od.keep Kc (allS g_o516 all0)
      have A_o543 := A_o543.keep Kc (ninS (Ne.symm ne_o516_o543) nin0)
      refine Run.cast (st' := []) rfl ?_
      refine s_aload 363 C X at_361 rfl rfl ?_
      refine s_callV 366 [] [] 0 C X at_363 (mW 151 rfl) (mW 152 rfl) (notFace_of_selects (args := #[]) (mvT C.2.1 (C.w (mW 154 rfl)))) (mW 154 rfl) (mW 153 rfl) (mW 55 rfl) (mW 155 rfl) E_o514 (rm_a1019 l Z a0 hw b1 o1 o2 o3 o4 o5 k_o2 k_o3 y303 y304 y305 y331 y332 y333 o514 o515 o516 o517 k_o515 k_o516 o543 k_o543 _ n0 X.sz E_b1 F_b1_value F_o1_most A_o2 A_o3 A_o4 E_o514 F_o514_this_0 F_o514_after F_o514_before F_o514_bounding A_o515 E_o517 F_o517_modCount F_o517_elementData F_o517_size A_o543 A_o516) (lenOf pd___Lcom_example_dayweave_dayweave_model_Range_ rfl) rfl rfl rfl (fun T v hh X q => ?_)
      obtain ⟨y859, y869, rfl, D860, D870, c169_923, Kc⟩ | ⟨y859, y869, rfl, D860, D870, c169_923, c177_972, Kc⟩ | ⟨y859, y869, o1013, ni1014, xi1015, rfl, D860, D870, c169_923, c177_972, e_ni1014, e_xi1015, Kc, E_o1013, F_o1013_min, F_o1013_max, sz_o1013', g_o1013⟩ | ⟨y859, y869, rfl, D860, D870, c169_923, c177_972, c115_904, c137_905, Kc⟩ := q
      · have A_ac := A_ac.keep Kc nin0
        have Od := Od.keep Kc all0
        have t_c169_923 : (y859).toInt = (2305843009213693951 : Int) := cl_eq.mp c169_923
        refine Run.cast (st' := [.null]) rfl ?_
        refine s_astore 368 C X (l' := #[iv x0, iv x1, iv x2, iv x3, iv x4, iv x5, rv o1, iv i1, lv y376, .second, lv y376_385, .second, lv y376_392, .second, lv y376_399, .second, lv y376_406, .second, lv y376_413, .second, iv y475, iv i1, lv y376, .second, lv y376_392, .second, lv y376_413, .second, lv y376_385, .second, lv y376_406, .second, lv y376_399, .second, lv y29, .second, lv y29_792, .second, rv o514, .val .null]) at_366 rfl rfl ?_
        refine s_lload 370 C X at_368 rfl ?_
        refine s_callS 373 [] [(.long y29)] 2 C X at_370 (mW 40 rfl) (mW 41 rfl) (mW 21 rfl) (mW 42 rfl) (rm_a374 l Z a0 hw  _ n0 X.sz ) (lenOf pd___J rfl) rfl rfl rfl (fun T v hh X q => ?_)
        obtain ⟨rfl, Kc⟩ := q
        have Od := Od.keep Kc all0
        refine Run.cast (st' := [(.long jU13), (.long y29)]) rfl ?_
        refine s_lcmp 374 C X at_373 ?_
        refine s_if_eq 386 377 C X at_374 (fun c374_1021 => ?_) (fun c374_1021 => ?_)
        · have t_c374_1021 : (y29).toInt = (1099511627776 : Int) := cl_eq.mp c374_1021
          refine s_aload 388 C X at_386 rfl rfl ?_
          refine s_ifnonnullN 391 C X at_388 ?_
          refine s_iconst 392 C X at_391 kc_iconst_1 ?_
          refine s_goto 396 C X at_392 ?_
          refine s_nreturn C X at_396 rfl (by simp) rfl ?_
          rfl
        have t_c374_1021 : ¬ ((y29).toInt = (1099511627776 : Int)) := fun q => c374_1021 (cl_eq.mpr q)
        refine s_lload 379 C X at_377 rfl ?_
        refine s_callS 382 [] [(.long y29_792)] 2 C X at_379 (mW 40 rfl) (mW 41 rfl) (mW 21 rfl) (mW 42 rfl) (rm_a374 l Z a0 hw  _ n0 X.sz ) (lenOf pd___J rfl) rfl rfl rfl (fun T v hh X q => ?_)
        obtain ⟨rfl, Kc⟩ := q
        have Od := Od.keep Kc all0
        refine Run.cast (st' := [(.long jU13), (.long y29_792)]) rfl ?_
        refine s_lcmp 383 C X at_382 ?_
        refine s_if_ne 397 386 C X at_383 (fun c383_1023 => ?_) (fun c383_1023 => ?_)
        · have t_c383_1023 : ¬ ((y29_792).toInt = (1099511627776 : Int)) := fun q => c383_1023 (cl_eq.mpr q)
          refine s_aload 399 C X at_397 rfl rfl ?_
          refine s_ifnullY 431 C X at_399 ?_
          refine s_iconst 432 C X at_431 kc_iconst_0 ?_
          refine s_nreturn C X at_432 rfl (by simp) rfl ?_
          exfalso
          have X01 := own_x W_y34 V_y376
          have X10 := own_x W_y45 V_y376_385
          have X02 := own_x W_y56 V_y376_392
          have X20 := own_x W_y67 V_y376_399
          have X12 := own_x W_y78 V_y376_406
          have X21 := own_x W_y89 V_y376_413
          have Z0 := own_key X01 X02 X21 A_y418_773 D30 hY.2.1
          have Z1 := own_key X10 X12 X20 A_y418_786 D30_793 hY.2.2.1
          have la := own_lat Z0 D860
          have ea := own_ear Z1 D870
          have hz := hY.2.2.2.2.2.2.1
          exact own_lf7 Z0 Z1 la ea hz t_c169_923 t_c374_1021 t_c383_1023
        refine s_aload 388 C X at_386 rfl rfl ?_
        refine s_ifnonnullN 391 C X at_388 ?_
        refine s_iconst 392 C X at_391 kc_iconst_1 ?_
        refine s_goto 396 C X at_392 ?_
        refine s_nreturn C X at_396 rfl (by simp) rfl ?_
        rfl
      · have A_ac := A_ac.keep Kc nin0
        have Od := Od.keep Kc all0
        have t_c169_923 : ¬ ((y859).toInt = (2305843009213693951 : Int)) := fun q => c169_923 (cl_eq.mpr q)
        have t_c177_972 : (y869).toInt = (jUm20).toInt := cl_eq.mp c177_972
        refine Run.cast (st' := [.null]) rfl ?_
        refine s_astore 368 C X (l' := #[iv x0, iv x1, iv x2, iv x3, iv x4, iv x5, rv o1, iv i1, lv y376, .second, lv y376_385, .second, lv y376_392, .second, lv y376_399, .second, lv y376_406, .second, lv y376_413, .second, iv y475, iv i1, lv y376, .second, lv y376_392, .second, lv y376_413, .second, lv y376_385, .second, lv y376_406, .second, lv y376_399, .second, lv y29, .second, lv y29_792, .second, rv o514, .val .null]) at_366 rfl rfl ?_
        refine s_lload 370 C X at_368 rfl ?_
        refine s_callS 373 [] [(.long y29)] 2 C X at_370 (mW 40 rfl) (mW 41 rfl) (mW 21 rfl) (mW 42 rfl) (rm_a374 l Z a0 hw  _ n0 X.sz ) (lenOf pd___J rfl) rfl rfl rfl (fun T v hh X q => ?_)
        obtain ⟨rfl, Kc⟩ := q
        have Od := Od.keep Kc all0
        refine Run.cast (st' := [(.long jU13), (.long y29)]) rfl ?_
        refine s_lcmp 374 C X at_373 ?_
        refine s_if_eq 386 377 C X at_374 (fun c374_1025 => ?_) (fun c374_1025 => ?_)
        · have t_c374_1025 : (y29).toInt = (1099511627776 : Int) := cl_eq.mp c374_1025
          refine s_aload 388 C X at_386 rfl rfl ?_
          refine s_ifnonnullN 391 C X at_388 ?_
          refine s_iconst 392 C X at_391 kc_iconst_1 ?_
          refine s_goto 396 C X at_392 ?_
          refine s_nreturn C X at_396 rfl (by simp) rfl ?_
          rfl
        have t_c374_1025 : ¬ ((y29).toInt = (1099511627776 : Int)) := fun q => c374_1025 (cl_eq.mpr q)
        refine s_lload 379 C X at_377 rfl ?_
        refine s_callS 382 [] [(.long y29_792)] 2 C X at_379 (mW 40 rfl) (mW 41 rfl) (mW 21 rfl) (mW 42 rfl) (rm_a374 l Z a0 hw  _ n0 X.sz ) (lenOf pd___J rfl) rfl rfl rfl (fun T v hh X q => ?_)
        obtain ⟨rfl, Kc⟩ := q
        have Od := Od.keep Kc all0
        refine Run.cast (st' := [(.long jU13), (.long y29_792)]) rfl ?_
        refine s_lcmp 383 C X at_382 ?_
        refine s_if_ne 397 386 C X at_383 (fun c383_1027 => ?_) (fun c383_1027 => ?_)
        · have t_c383_1027 : ¬ ((y29_792).toInt = (1099511627776 : Int)) := fun q => c383_1027 (cl_eq.mpr q)
          refine s_aload 399 C X at_397 rfl rfl ?_
          refine s_ifnullY 431 C X at_399 ?_
          refine s_iconst 432 C X at_431 kc_iconst_0 ?_
          refine s_nreturn C X at_432 rfl (by simp) rfl ?_
          exfalso
          have X01 := own_x W_y34 V_y376
          have X10 := own_x W_y45 V_y376_385
          have X02 := own_x W_y56 V_y376_392
          have X20 := own_x W_y67 V_y376_399
          have X12 := own_x W_y78 V_y376_406
          have X21 := own_x W_y89 V_y376_413
          have Z0 := own_key X01 X02 X21 A_y418_773 D30 hY.2.1
          have Z1 := own_key X10 X12 X20 A_y418_786 D30_793 hY.2.2.1
          have la := own_lat Z0 D860
          have ea := own_ear Z1 D870
          have hz := hY.2.2.2.2.2.2.1
          exact own_lf8 Z0 Z1 la ea hz t_c169_923 t_c177_972 t_c374_1025 t_c383_1027
        refine s_aload 388 C X at_386 rfl rfl ?_
        refine s_ifnonnullN 391 C X at_388 ?_
        refine s_iconst 392 C X at_391 kc_iconst_1 ?_
        refine s_goto 396 C X at_392 ?_
        refine s_nreturn C X at_396 rfl (by simp) rfl ?_
        rfl
      · have ne_ac_o1013 : ac ≠ o1013 := Nat.ne_of_lt (Nat.lt_of_lt_of_le A_ac.lt sz_o1013')
        have Od := Od.keep Kc all0
        have t_c169_923 : ¬ ((y859).toInt = (2305843009213693951 : Int)) := fun q => c169_923 (cl_eq.mpr q)
        have t_c177_972 : ¬ ((y869).toInt = (jUm20).toInt) := fun q => c177_972 (cl_eq.mpr q)
        refine Run.cast (st' := [(.ref o1013)]) rfl ?_
        refine s_astore 368 C X (l' := #[iv x0, iv x1, iv x2, iv x3, iv x4, iv x5, rv o1, iv i1, lv y376, .second, lv y376_385, .second, lv y376_392, .second, lv y376_399, .second, lv y376_406, .second, lv y376_413, .second, iv y475, iv i1, lv y376, .second, lv y376_392, .second, lv y376_413, .second, lv y376_385, .second, lv y376_406, .second, lv y376_399, .second, lv y29, .second, lv y29_792, .second, rv o514, rv o1013]) at_366 rfl rfl ?_
        refine s_lload 370 C X at_368 rfl ?_
        refine s_callS 373 [] [(.long y29)] 2 C X at_370 (mW 40 rfl) (mW 41 rfl) (mW 21 rfl) (mW 42 rfl) (rm_a374 l Z a0 hw  _ n0 X.sz ) (lenOf pd___J rfl) rfl rfl rfl (fun T v hh X q => ?_)
        obtain ⟨rfl, Kc⟩ := q
        have Od := Od.keep Kc all0
        have E_o1013 := E_o1013.keep Kc
        have F_o1013_min := F_o1013_min.keep Kc nin0
        have F_o1013_max := F_o1013_max.keep Kc nin0
        refine Run.cast (st' := [(.long jU13), (.long y29)]) rfl ?_
        refine s_lcmp 374 C X at_373 ?_
        refine s_if_eq 386 377 C X at_374 (fun c374_1029 => ?_) (fun c374_1029 => ?_)
        · have t_c374_1029 : (y29).toInt = (1099511627776 : Int) := cl_eq.mp c374_1029
          refine s_aload 388 C X at_386 rfl rfl ?_
          refine s_ifnonnullY 395 C X at_388 ?_
          refine s_iconst 396 C X at_395 kc_iconst_0 ?_
          refine s_nreturn C X at_396 rfl (by simp) rfl ?_
          exfalso
          have X01 := own_x W_y34 V_y376
          have X10 := own_x W_y45 V_y376_385
          have X02 := own_x W_y56 V_y376_392
          have X20 := own_x W_y67 V_y376_399
          have X12 := own_x W_y78 V_y376_406
          have X21 := own_x W_y89 V_y376_413
          have Z0 := own_key X01 X02 X21 A_y418_773 D30 hY.2.1
          have Z1 := own_key X10 X12 X20 A_y418_786 D30_793 hY.2.2.1
          have la := own_lat Z0 D860
          have ea := own_ear Z1 D870
          have hz := hY.2.2.2.2.2.2.1
          exact own_lf9 Z0 Z1 la ea hz t_c169_923 t_c177_972 e_ni1014 e_xi1015 t_c374_1029
        have t_c374_1029 : ¬ ((y29).toInt = (1099511627776 : Int)) := fun q => c374_1029 (cl_eq.mpr q)
        refine s_lload 379 C X at_377 rfl ?_
        refine s_callS 382 [] [(.long y29_792)] 2 C X at_379 (mW 40 rfl) (mW 41 rfl) (mW 21 rfl) (mW 42 rfl) (rm_a374 l Z a0 hw  _ n0 X.sz ) (lenOf pd___J rfl) rfl rfl rfl (fun T v hh X q => ?_)
        obtain ⟨rfl, Kc⟩ := q
        have Od := Od.keep Kc all0
        have E_o1013 := E_o1013.keep Kc
        have F_o1013_min := F_o1013_min.keep Kc nin0
        have F_o1013_max := F_o1013_max.keep Kc nin0
        refine Run.cast (st' := [(.long jU13), (.long y29_792)]) rfl ?_
        refine s_lcmp 383 C X at_382 ?_
        refine s_if_ne 397 386 C X at_383 (fun c383_1031 => ?_) (fun c383_1031 => ?_)
        · have t_c383_1031 : ¬ ((y29_792).toInt = (1099511627776 : Int)) := fun q => c383_1031 (cl_eq.mpr q)
          refine s_aload 399 C X at_397 rfl rfl ?_
          refine s_ifnullN 402 C X at_399 ?_
          refine s_aload 404 C X at_402 rfl rfl ?_
          refine s_callV 407 [] [] 0 C X at_404 (mW 238 rfl) (mW 239 rfl) (notFace_of_selects (args := #[]) (mvT C.2.1 (C.w (mW 241 rfl)))) (mW 241 rfl) (mW 240 rfl) (mW 224 rfl) (mW 242 rfl) E_o1013 (rm_a1032 l Z a0 hw o1013 ni1014 _ n0 X.sz F_o1013_min) (lenOf pd___I rfl) rfl rfl rfl (fun T v hh X q => ?_)
          obtain ⟨rfl, Kc⟩ := q
          have Od := Od.keep Kc all0
          have E_o1013 := E_o1013.keep Kc
          have F_o1013_max := F_o1013_max.keep Kc nin0
          refine Run.cast (st' := [(.int ni1014)]) rfl ?_
          refine s_i2l 408 C X at_407 ?_
          refine s_lload 410 C X at_408 rfl ?_
          refine s_lneg 411 C X at_410 ?_
          refine s_lcmp 412 C X at_411 ?_
          refine s_if_ne 431 415 C X at_412 (fun c412_1033 => ?_) (fun c412_1033 => ?_)
          · have t_c412_1033 : ¬ (((ni1014).toInt64).toInt = ((-y29_792)).toInt) := fun q => c412_1033 (cl_eq.mpr q)
            refine s_iconst 432 C X at_431 kc_iconst_0 ?_
            refine s_nreturn C X at_432 rfl (by simp) rfl ?_
            exfalso
            have X01 := own_x W_y34 V_y376
            have X10 := own_x W_y45 V_y376_385
            have X02 := own_x W_y56 V_y376_392
            have X20 := own_x W_y67 V_y376_399
            have X12 := own_x W_y78 V_y376_406
            have X21 := own_x W_y89 V_y376_413
            have Z0 := own_key X01 X02 X21 A_y418_773 D30 hY.2.1
            have Z1 := own_key X10 X12 X20 A_y418_786 D30_793 hY.2.2.1
            have la := own_lat Z0 D860
            have ea := own_ear Z1 D870
            have hz := hY.2.2.2.2.2.2.1
            exact own_lf10 Z0 Z1 la ea hz t_c169_923 t_c177_972 e_ni1014 e_xi1015 t_c374_1029 t_c383_1031 t_c412_1033
          have t_c412_1033 : ((ni1014).toInt64).toInt = ((-y29_792)).toInt := cl_eq.mp c412_1033
          refine s_aload 417 C X at_415 rfl rfl ?_
          refine s_callV 420 [] [] 0 C X at_417 (mW 243 rfl) (mW 244 rfl) (notFace_of_selects (args := #[]) (mvT C.2.1 (C.w (mW 246 rfl)))) (mW 246 rfl) (mW 245 rfl) (mW 224 rfl) (mW 247 rfl) E_o1013 (rm_a1034 l Z a0 hw o1013 xi1015 _ n0 X.sz F_o1013_max) (lenOf pd___I rfl) rfl rfl rfl (fun T v hh X q => ?_)
          obtain ⟨rfl, Kc⟩ := q
          have Od := Od.keep Kc all0
          refine Run.cast (st' := [(.int xi1015)]) rfl ?_
          refine s_i2l 421 C X at_420 ?_
          refine s_lload 423 C X at_421 rfl ?_
          refine s_lcmp 424 C X at_423 ?_
          refine s_if_ne 431 427 C X at_424 (fun c424_1035 => ?_) (fun c424_1035 => ?_)
          · have t_c424_1035 : ¬ (((xi1015).toInt64).toInt = (y29).toInt) := fun q => c424_1035 (cl_eq.mpr q)
            refine s_iconst 432 C X at_431 kc_iconst_0 ?_
            refine s_nreturn C X at_432 rfl (by simp) rfl ?_
            exfalso
            have X01 := own_x W_y34 V_y376
            have X10 := own_x W_y45 V_y376_385
            have X02 := own_x W_y56 V_y376_392
            have X20 := own_x W_y67 V_y376_399
            have X12 := own_x W_y78 V_y376_406
            have X21 := own_x W_y89 V_y376_413
            have Z0 := own_key X01 X02 X21 A_y418_773 D30 hY.2.1
            have Z1 := own_key X10 X12 X20 A_y418_786 D30_793 hY.2.2.1
            have la := own_lat Z0 D860
            have ea := own_ear Z1 D870
            have hz := hY.2.2.2.2.2.2.1
            exact own_lf11 Z0 Z1 la ea hz t_c169_923 t_c177_972 e_ni1014 e_xi1015 t_c374_1029 t_c383_1031 t_c412_1033 t_c424_1035
          refine s_iconst 428 C X at_427 kc_iconst_1 ?_
          refine s_goto 432 C X at_428 ?_
          refine s_nreturn C X at_432 rfl (by simp) rfl ?_
          rfl
        have t_c383_1031 : (y29_792).toInt = (1099511627776 : Int) := cl_eq.mp c383_1031
        refine s_aload 388 C X at_386 rfl rfl ?_
        refine s_ifnonnullY 395 C X at_388 ?_
        refine s_iconst 396 C X at_395 kc_iconst_0 ?_
        refine s_nreturn C X at_396 rfl (by simp) rfl ?_
        exfalso
        have X01 := own_x W_y34 V_y376
        have X10 := own_x W_y45 V_y376_385
        have X02 := own_x W_y56 V_y376_392
        have X20 := own_x W_y67 V_y376_399
        have X12 := own_x W_y78 V_y376_406
        have X21 := own_x W_y89 V_y376_413
        have Z0 := own_key X01 X02 X21 A_y418_773 D30 hY.2.1
        have Z1 := own_key X10 X12 X20 A_y418_786 D30_793 hY.2.2.1
        have la := own_lat Z0 D860
        have ea := own_ear Z1 D870
        have hz := hY.2.2.2.2.2.2.1
        exact own_lf12 Z0 Z1 la ea hz t_c169_923 t_c177_972 e_ni1014 e_xi1015 t_c374_1029 t_c383_1031
      · have A_ac := A_ac.keep Kc nin0
        have Od := Od.keep Kc all0
        have t_c169_923 : ¬ ((y859).toInt = (2305843009213693951 : Int)) := fun q => c169_923 (cl_eq.mpr q)
        have t_c177_972 : ¬ ((y869).toInt = (jUm20).toInt) := fun q => c177_972 (cl_eq.mpr q)
        have t_c115_904 : ¬ ((y332).toInt = (2305843009213693951 : Int)) := fun q => c115_904 (cl_eq.mpr q)
        have t_c137_905 : (((j0 + y332) + j0)).toInt < (0 : Int) := cl_lt.mp c137_905
        refine Run.cast (st' := [.null]) rfl ?_
        refine s_astore 368 C X (l' := #[iv x0, iv x1, iv x2, iv x3, iv x4, iv x5, rv o1, iv i1, lv y376, .second, lv y376_385, .second, lv y376_392, .second, lv y376_399, .second, lv y376_406, .second, lv y376_413, .second, iv y475, iv i1, lv y376, .second, lv y376_392, .second, lv y376_413, .second, lv y376_385, .second, lv y376_406, .second, lv y376_399, .second, lv y29, .second, lv y29_792, .second, rv o514, .val .null]) at_366 rfl rfl ?_
        refine s_lload 370 C X at_368 rfl ?_
        refine s_callS 373 [] [(.long y29)] 2 C X at_370 (mW 40 rfl) (mW 41 rfl) (mW 21 rfl) (mW 42 rfl) (rm_a374 l Z a0 hw  _ n0 X.sz ) (lenOf pd___J rfl) rfl rfl rfl (fun T v hh X q => ?_)
        obtain ⟨rfl, Kc⟩ := q
        have Od := Od.keep Kc all0
        refine Run.cast (st' := [(.long jU13), (.long y29)]) rfl ?_
        refine s_lcmp 374 C X at_373 ?_
        refine s_if_eq 386 377 C X at_374 (fun c374_1037 => ?_) (fun c374_1037 => ?_)
        · have t_c374_1037 : (y29).toInt = (1099511627776 : Int) := cl_eq.mp c374_1037
          refine s_aload 388 C X at_386 rfl rfl ?_
          refine s_ifnonnullN 391 C X at_388 ?_
          refine s_iconst 392 C X at_391 kc_iconst_1 ?_
          refine s_goto 396 C X at_392 ?_
          refine s_nreturn C X at_396 rfl (by simp) rfl ?_
          rfl
        have t_c374_1037 : ¬ ((y29).toInt = (1099511627776 : Int)) := fun q => c374_1037 (cl_eq.mpr q)
        refine s_lload 379 C X at_377 rfl ?_
        refine s_callS 382 [] [(.long y29_792)] 2 C X at_379 (mW 40 rfl) (mW 41 rfl) (mW 21 rfl) (mW 42 rfl) (rm_a374 l Z a0 hw  _ n0 X.sz ) (lenOf pd___J rfl) rfl rfl rfl (fun T v hh X q => ?_)
        obtain ⟨rfl, Kc⟩ := q
        have Od := Od.keep Kc all0
        refine Run.cast (st' := [(.long jU13), (.long y29_792)]) rfl ?_
        refine s_lcmp 383 C X at_382 ?_
        refine s_if_ne 397 386 C X at_383 (fun c383_1039 => ?_) (fun c383_1039 => ?_)
        · have t_c383_1039 : ¬ ((y29_792).toInt = (1099511627776 : Int)) := fun q => c383_1039 (cl_eq.mpr q)
          refine s_aload 399 C X at_397 rfl rfl ?_
          refine s_ifnullY 431 C X at_399 ?_
          refine s_iconst 432 C X at_431 kc_iconst_0 ?_
          refine s_nreturn C X at_432 rfl (by simp) rfl ?_
          exfalso
          have X01 := own_x W_y34 V_y376
          have X10 := own_x W_y45 V_y376_385
          have X02 := own_x W_y56 V_y376_392
          have X20 := own_x W_y67 V_y376_399
          have X12 := own_x W_y78 V_y376_406
          have X21 := own_x W_y89 V_y376_413
          have Z0 := own_key X01 X02 X21 A_y418_773 D30 hY.2.1
          have Z1 := own_key X10 X12 X20 A_y418_786 D30_793 hY.2.2.1
          have la := own_lat Z0 D860
          have ea := own_ear Z1 D870
          have hz := hY.2.2.2.2.2.2.1
          exact own_lf13 Z0 Z1 la ea hz t_c169_923 t_c177_972 t_c115_904 t_c137_905 t_c374_1037 t_c383_1039
        refine s_aload 388 C X at_386 rfl rfl ?_
        refine s_ifnonnullN 391 C X at_388 ?_
        refine s_iconst 392 C X at_391 kc_iconst_1 ?_
        refine s_goto 396 C X at_392 ?_
        refine s_nreturn C X at_396 rfl (by simp) rfl ?_
        rfl
    have t_c184_477 : ¬ ((y475).toInt = (0 : Int)) := fun q => c184_477 (Int32.toInt_inj.mp q)
    refine s_iload 189 C X at_187 rfl ?_
    refine s_if_ne 196 192 C X at_189 (fun _ => ?_) (fun c => absurd c (by decide))
    refine s_iconst 197 C X at_196 kc_iconst_0 ?_
    refine s_nreturn C X at_197 rfl (by simp) rfl ?_
    exfalso
    have X01 := own_x W_y34 V_y376
    have X10 := own_x W_y45 V_y376_385
    have X02 := own_x W_y56 V_y376_392
    have X20 := own_x W_y67 V_y376_399
    have X12 := own_x W_y78 V_y376_406
    have X21 := own_x W_y89 V_y376_413
    rcases own_ng14 X01 X10 X02 X20 X12 X21 A_y418 D476 with q | q
    · exact t_c184_477 q.1
    · exact hY.1 q.2
  · have Od := Od.keep Kc (allS g_o3 (allS g_o4 (allS g_o5 all0)))
    refine Run.cast (st' := [(.int i0)]) rfl ?_
    refine s_istore 67 C X (l' := #[iv x0, iv x1, iv x2, iv x3, iv x4, iv x5, rv o1, iv i0, .unset, .unset, .unset, .unset, .unset, .unset, .unset, .unset, .unset, .unset, .unset, .unset, .unset, .unset, .unset, .unset, .unset, .unset, .unset, .unset, .unset, .unset, .unset, .unset, .unset, .unset, .unset, .unset, .unset, .unset, .unset, .unset]) at_65 rfl ?_
    refine s_iloadN 68 C X at_67 rfl ?_
    refine s_callS 71 [(.int x0)] [] 0 C X at_68 (mW 37 rfl) (mW 38 rfl) (mW 21 rfl) (mW 39 rfl) (rm_a378 l Z a0 hw (x0) _ n0 X.sz ) (lenOf pd__I_J rfl) rfl rfl rfl (fun T v hh X q => ?_)
    obtain ⟨y376, rfl, V_y376, Kc⟩ := q
    have Od := Od.keep Kc all0
    refine Run.cast (st' := [(.long y376)]) rfl ?_
    refine s_lstore 73 C X (l' := #[iv x0, iv x1, iv x2, iv x3, iv x4, iv x5, rv o1, iv i0, lv y376, .second, .unset, .unset, .unset, .unset, .unset, .unset, .unset, .unset, .unset, .unset, .unset, .unset, .unset, .unset, .unset, .unset, .unset, .unset, .unset, .unset, .unset, .unset, .unset, .unset, .unset, .unset, .unset, .unset, .unset, .unset]) at_71 rfl ?_
    refine s_iloadN 74 C X at_73 rfl ?_
    refine s_callS 77 [(.int x1)] [] 0 C X at_74 (mW 37 rfl) (mW 38 rfl) (mW 21 rfl) (mW 39 rfl) (rm_a378 l Z a0 hw (x1) _ n0 X.sz ) (lenOf pd__I_J rfl) rfl rfl rfl (fun T v hh X q => ?_)
    obtain ⟨y376_1053, rfl, V_y376_1053, Kc⟩ := q
    have Od := Od.keep Kc all0
    refine Run.cast (st' := [(.long y376_1053)]) rfl ?_
    refine s_lstore 79 C X (l' := #[iv x0, iv x1, iv x2, iv x3, iv x4, iv x5, rv o1, iv i0, lv y376, .second, lv y376_1053, .second, .unset, .unset, .unset, .unset, .unset, .unset, .unset, .unset, .unset, .unset, .unset, .unset, .unset, .unset, .unset, .unset, .unset, .unset, .unset, .unset, .unset, .unset, .unset, .unset, .unset, .unset, .unset, .unset]) at_77 rfl ?_
    refine s_iloadN 80 C X at_79 rfl ?_
    refine s_callS 83 [(.int x2)] [] 0 C X at_80 (mW 37 rfl) (mW 38 rfl) (mW 21 rfl) (mW 39 rfl) (rm_a378 l Z a0 hw (x2) _ n0 X.sz ) (lenOf pd__I_J rfl) rfl rfl rfl (fun T v hh X q => ?_)
    obtain ⟨y376_1060, rfl, V_y376_1060, Kc⟩ := q
    have Od := Od.keep Kc all0
    refine Run.cast (st' := [(.long y376_1060)]) rfl ?_
    refine s_lstore 85 C X (l' := #[iv x0, iv x1, iv x2, iv x3, iv x4, iv x5, rv o1, iv i0, lv y376, .second, lv y376_1053, .second, lv y376_1060, .second, .unset, .unset, .unset, .unset, .unset, .unset, .unset, .unset, .unset, .unset, .unset, .unset, .unset, .unset, .unset, .unset, .unset, .unset, .unset, .unset, .unset, .unset, .unset, .unset, .unset, .unset]) at_83 rfl ?_
    refine s_iloadN 86 C X at_85 rfl ?_
    refine s_callS 89 [(.int x3)] [] 0 C X at_86 (mW 37 rfl) (mW 38 rfl) (mW 21 rfl) (mW 39 rfl) (rm_a378 l Z a0 hw (x3) _ n0 X.sz ) (lenOf pd__I_J rfl) rfl rfl rfl (fun T v hh X q => ?_)
    obtain ⟨y376_1067, rfl, V_y376_1067, Kc⟩ := q
    have Od := Od.keep Kc all0
    refine Run.cast (st' := [(.long y376_1067)]) rfl ?_
    refine s_lstore 91 C X (l' := #[iv x0, iv x1, iv x2, iv x3, iv x4, iv x5, rv o1, iv i0, lv y376, .second, lv y376_1053, .second, lv y376_1060, .second, lv y376_1067, .second, .unset, .unset, .unset, .unset, .unset, .unset, .unset, .unset, .unset, .unset, .unset, .unset, .unset, .unset, .unset, .unset, .unset, .unset, .unset, .unset, .unset, .unset, .unset, .unset]) at_89 rfl ?_
    refine s_iload 93 C X at_91 rfl ?_
    refine s_callS 96 [(.int x4)] [] 0 C X at_93 (mW 37 rfl) (mW 38 rfl) (mW 21 rfl) (mW 39 rfl) (rm_a378 l Z a0 hw (x4) _ n0 X.sz ) (lenOf pd__I_J rfl) rfl rfl rfl (fun T v hh X q => ?_)
    obtain ⟨y376_1074, rfl, V_y376_1074, Kc⟩ := q
    have Od := Od.keep Kc all0
    refine Run.cast (st' := [(.long y376_1074)]) rfl ?_
    refine s_lstore 98 C X (l' := #[iv x0, iv x1, iv x2, iv x3, iv x4, iv x5, rv o1, iv i0, lv y376, .second, lv y376_1053, .second, lv y376_1060, .second, lv y376_1067, .second, lv y376_1074, .second, .unset, .unset, .unset, .unset, .unset, .unset, .unset, .unset, .unset, .unset, .unset, .unset, .unset, .unset, .unset, .unset, .unset, .unset, .unset, .unset, .unset, .unset]) at_96 rfl ?_
    refine s_iload 100 C X at_98 rfl ?_
    refine s_callS 103 [(.int x5)] [] 0 C X at_100 (mW 37 rfl) (mW 38 rfl) (mW 21 rfl) (mW 39 rfl) (rm_a378 l Z a0 hw (x5) _ n0 X.sz ) (lenOf pd__I_J rfl) rfl rfl rfl (fun T v hh X q => ?_)
    obtain ⟨y376_1081, rfl, V_y376_1081, Kc⟩ := q
    have Od := Od.keep Kc all0
    refine Run.cast (st' := [(.long y376_1081)]) rfl ?_
    refine s_lstore 105 C X (l' := #[iv x0, iv x1, iv x2, iv x3, iv x4, iv x5, rv o1, iv i0, lv y376, .second, lv y376_1053, .second, lv y376_1060, .second, lv y376_1067, .second, lv y376_1074, .second, lv y376_1081, .second, .unset, .unset, .unset, .unset, .unset, .unset, .unset, .unset, .unset, .unset, .unset, .unset, .unset, .unset, .unset, .unset, .unset, .unset, .unset, .unset]) at_103 rfl ?_
    refine s_lload 107 C X at_105 rfl ?_
    refine s_lload 109 C X at_107 rfl ?_
    refine s_callS 112 [(.long y376), (.long y376_1053)] [] 0 C X at_109 (mW 44 rfl) (mW 45 rfl) (mW 21 rfl) (mW 46 rfl) (rm_a420 l Z a0 hw (y376) (y376_1053) _ n0 X.sz ) (lenOf pd__JJ_J rfl) rfl rfl rfl (fun T v hh X q => ?_)
    obtain ⟨y418, rfl, A_y418, Kc⟩ := q
    have Od := Od.keep Kc all0
    refine Run.cast (st' := [(.long y418)]) rfl ?_
    refine s_lconst 113 C X (z := j0) at_112 rfl ?_
    refine s_lcmp 114 C X at_113 ?_
    suffices J1144 : ∀ (T : State) (hh : Heap) (y1143 : Int32) (D1144 : (((y418).toInt < (0 : Int)) ∧ y1143 = i1) ∨ (∃ (y418_1097 : Int64), (¬ ((y418).toInt < (0 : Int))) ∧ own_A y376_1060 y376_1067 y418_1097 ∧ ((y418_1097).toInt < (0 : Int)) ∧ y1143 = i1) ∨ (∃ (y418_1097 : Int64) (y418_1106 : Int64), (¬ ((y418).toInt < (0 : Int))) ∧ own_A y376_1060 y376_1067 y418_1097 ∧ (¬ ((y418_1097).toInt < (0 : Int))) ∧ own_A y376_1074 y376_1081 y418_1106 ∧ ((y418_1106).toInt < (0 : Int)) ∧ y1143 = i1) ∨ (∃ (y418_1097 : Int64) (y418_1106 : Int64) (y418_1115 : Int64) (y418_1123 : Int64), (¬ ((y418).toInt < (0 : Int))) ∧ own_A y376_1060 y376_1067 y418_1097 ∧ (¬ ((y418_1097).toInt < (0 : Int))) ∧ own_A y376_1074 y376_1081 y418_1106 ∧ (¬ ((y418_1106).toInt < (0 : Int))) ∧ own_A y376 y376_1074 y418_1115 ∧ own_A y418_1115 y376_1067 y418_1123 ∧ ((y418_1123).toInt < (0 : Int)) ∧ y1143 = i1) ∨ (∃ (y418_1097 : Int64) (y418_1106 : Int64) (y418_1115 : Int64) (y418_1123 : Int64) (y418_1132 : Int64) (y418_1140 : Int64), (¬ ((y418).toInt < (0 : Int))) ∧ own_A y376_1060 y376_1067 y418_1097 ∧ (¬ ((y418_1097).toInt < (0 : Int))) ∧ own_A y376_1074 y376_1081 y418_1106 ∧ (¬ ((y418_1106).toInt < (0 : Int))) ∧ own_A y376 y376_1074 y418_1115 ∧ own_A y418_1115 y376_1067 y418_1123 ∧ (¬ ((y418_1123).toInt < (0 : Int))) ∧ own_A y376_1060 y376_1081 y418_1132 ∧ own_A y418_1132 y376_1053 y418_1140 ∧ (¬ ((y418_1140).toInt < (0 : Int))) ∧ y1143 = i0) ∨ (∃ (y418_1097 : Int64) (y418_1106 : Int64) (y418_1115 : Int64) (y418_1123 : Int64) (y418_1132 : Int64) (y418_1140 : Int64), (¬ ((y418).toInt < (0 : Int))) ∧ own_A y376_1060 y376_1067 y418_1097 ∧ (¬ ((y418_1097).toInt < (0 : Int))) ∧ own_A y376_1074 y376_1081 y418_1106 ∧ (¬ ((y418_1106).toInt < (0 : Int))) ∧ own_A y376 y376_1074 y418_1115 ∧ own_A y418_1115 y376_1067 y418_1123 ∧ (¬ ((y418_1123).toInt < (0 : Int))) ∧ own_A y376_1060 y376_1081 y418_1132 ∧ own_A y418_1132 y376_1053 y418_1140 ∧ ((y418_1140).toInt < (0 : Int)) ∧ y1143 = i1)) (X : St p l e room_1 s m #[(.int x0), (.int x1), (.int x2), (.int x3), (.int x4), (.int x5)] below meth c n0 T hh 5 13), Run p e below n0 (fun (v : Option Value) (h : Heap) => v = some (.int 1)) (fun o t L => FrameEnd s o t L room_1.cells room_1.slots) m T 180 #[iv x0, iv x1, iv x2, iv x3, iv x4, iv x5, rv o1, iv i0, lv y376, .second, lv y376_1053, .second, lv y376_1060, .second, lv y376_1067, .second, lv y376_1074, .second, lv y376_1081, .second, .unset, .unset, .unset, .unset, .unset, .unset, .unset, .unset, .unset, .unset, .unset, .unset, .unset, .unset, .unset, .unset, .unset, .unset, .unset, .unset] [(.int y1143)] by
      refine s_if_lt 175 117 C X at_114 (fun c114_1089 => ?_) (fun c114_1089 => ?_)
      · have t_c114_1089 : (y418).toInt < (0 : Int) := cl_lt.mp c114_1089
        refine s_iconst 176 C X at_175 kc_iconst_1 ?_
        refine s_goto 180 C X at_176 ?_
        exact J1144 T _ (i1) ((Or.inl ⟨t_c114_1089, rfl⟩)) X 
      have t_c114_1089 : ¬ ((y418).toInt < (0 : Int)) := fun q => c114_1089 (cl_lt.mpr q)
      refine s_lload 119 C X at_117 rfl ?_
      refine s_lload 121 C X at_119 rfl ?_
      refine s_callS 124 [(.long y376_1060), (.long y376_1067)] [] 0 C X at_121 (mW 44 rfl) (mW 45 rfl) (mW 21 rfl) (mW 46 rfl) (rm_a420 l Z a0 hw (y376_1060) (y376_1067) _ n0 X.sz ) (lenOf pd__JJ_J rfl) rfl rfl rfl (fun T v hh X q => ?_)
      obtain ⟨y418_1097, rfl, A_y418_1097, Kc⟩ := q
      have Od := Od.keep Kc all0
      refine Run.cast (st' := [(.long y418_1097)]) rfl ?_
      refine s_lconst 125 C X (z := j0) at_124 rfl ?_
      refine s_lcmp 126 C X at_125 ?_
      refine s_if_lt 175 129 C X at_126 (fun c126_1098 => ?_) (fun c126_1098 => ?_)
      · have t_c126_1098 : (y418_1097).toInt < (0 : Int) := cl_lt.mp c126_1098
        refine s_iconst 176 C X at_175 kc_iconst_1 ?_
        refine s_goto 180 C X at_176 ?_
        exact J1144 T _ (i1) (Or.inr (Or.inl ⟨y418_1097, t_c114_1089, A_y418_1097, t_c126_1098, rfl⟩)) X 
      have t_c126_1098 : ¬ ((y418_1097).toInt < (0 : Int)) := fun q => c126_1098 (cl_lt.mpr q)
      refine s_lload 131 C X at_129 rfl ?_
      refine s_lload 133 C X at_131 rfl ?_
      refine s_callS 136 [(.long y376_1074), (.long y376_1081)] [] 0 C X at_133 (mW 44 rfl) (mW 45 rfl) (mW 21 rfl) (mW 46 rfl) (rm_a420 l Z a0 hw (y376_1074) (y376_1081) _ n0 X.sz ) (lenOf pd__JJ_J rfl) rfl rfl rfl (fun T v hh X q => ?_)
      obtain ⟨y418_1106, rfl, A_y418_1106, Kc⟩ := q
      have Od := Od.keep Kc all0
      refine Run.cast (st' := [(.long y418_1106)]) rfl ?_
      refine s_lconst 137 C X (z := j0) at_136 rfl ?_
      refine s_lcmp 138 C X at_137 ?_
      refine s_if_lt 175 141 C X at_138 (fun c138_1107 => ?_) (fun c138_1107 => ?_)
      · have t_c138_1107 : (y418_1106).toInt < (0 : Int) := cl_lt.mp c138_1107
        refine s_iconst 176 C X at_175 kc_iconst_1 ?_
        refine s_goto 180 C X at_176 ?_
        exact J1144 T _ (i1) (Or.inr (Or.inr (Or.inl ⟨y418_1097, y418_1106, t_c114_1089, A_y418_1097, t_c126_1098, A_y418_1106, t_c138_1107, rfl⟩))) X 
      have t_c138_1107 : ¬ ((y418_1106).toInt < (0 : Int)) := fun q => c138_1107 (cl_lt.mpr q)
      refine s_lload 143 C X at_141 rfl ?_
      refine s_lload 145 C X at_143 rfl ?_
      refine s_callS 148 [(.long y376), (.long y376_1074)] [] 0 C X at_145 (mW 44 rfl) (mW 45 rfl) (mW 21 rfl) (mW 46 rfl) (rm_a420 l Z a0 hw (y376) (y376_1074) _ n0 X.sz ) (lenOf pd__JJ_J rfl) rfl rfl rfl (fun T v hh X q => ?_)
      obtain ⟨y418_1115, rfl, A_y418_1115, Kc⟩ := q
      have Od := Od.keep Kc all0
      refine Run.cast (st' := [(.long y418_1115)]) rfl ?_
      refine s_lload 150 C X at_148 rfl ?_
      refine s_callS 153 [(.long y418_1115), (.long y376_1067)] [] 0 C X at_150 (mW 44 rfl) (mW 45 rfl) (mW 21 rfl) (mW 46 rfl) (rm_a420 l Z a0 hw (y418_1115) (y376_1067) _ n0 X.sz ) (lenOf pd__JJ_J rfl) rfl rfl rfl (fun T v hh X q => ?_)
      obtain ⟨y418_1123, rfl, A_y418_1123, Kc⟩ := q
      have Od := Od.keep Kc all0
      refine Run.cast (st' := [(.long y418_1123)]) rfl ?_
      refine s_lconst 154 C X (z := j0) at_153 rfl ?_
      refine s_lcmp 155 C X at_154 ?_
      refine s_if_lt 175 158 C X at_155 (fun c155_1124 => ?_) (fun c155_1124 => ?_)
      · have t_c155_1124 : (y418_1123).toInt < (0 : Int) := cl_lt.mp c155_1124
        refine s_iconst 176 C X at_175 kc_iconst_1 ?_
        refine s_goto 180 C X at_176 ?_
        exact J1144 T _ (i1) (Or.inr (Or.inr (Or.inr (Or.inl ⟨y418_1097, y418_1106, y418_1115, y418_1123, t_c114_1089, A_y418_1097, t_c126_1098, A_y418_1106, t_c138_1107, A_y418_1115, A_y418_1123, t_c155_1124, rfl⟩)))) X 
      have t_c155_1124 : ¬ ((y418_1123).toInt < (0 : Int)) := fun q => c155_1124 (cl_lt.mpr q)
      refine s_lload 160 C X at_158 rfl ?_
      refine s_lload 162 C X at_160 rfl ?_
      refine s_callS 165 [(.long y376_1060), (.long y376_1081)] [] 0 C X at_162 (mW 44 rfl) (mW 45 rfl) (mW 21 rfl) (mW 46 rfl) (rm_a420 l Z a0 hw (y376_1060) (y376_1081) _ n0 X.sz ) (lenOf pd__JJ_J rfl) rfl rfl rfl (fun T v hh X q => ?_)
      obtain ⟨y418_1132, rfl, A_y418_1132, Kc⟩ := q
      have Od := Od.keep Kc all0
      refine Run.cast (st' := [(.long y418_1132)]) rfl ?_
      refine s_lload 167 C X at_165 rfl ?_
      refine s_callS 170 [(.long y418_1132), (.long y376_1053)] [] 0 C X at_167 (mW 44 rfl) (mW 45 rfl) (mW 21 rfl) (mW 46 rfl) (rm_a420 l Z a0 hw (y418_1132) (y376_1053) _ n0 X.sz ) (lenOf pd__JJ_J rfl) rfl rfl rfl (fun T v hh X q => ?_)
      obtain ⟨y418_1140, rfl, A_y418_1140, Kc⟩ := q
      have Od := Od.keep Kc all0
      refine Run.cast (st' := [(.long y418_1140)]) rfl ?_
      refine s_lconst 171 C X (z := j0) at_170 rfl ?_
      refine s_lcmp 172 C X at_171 ?_
      refine s_if_ge 179 175 C X at_172 (fun c172_1141 => ?_) (fun c172_1141 => ?_)
      · have t_c172_1141 : ¬ ((y418_1140).toInt < (0 : Int)) := fun q => c172_1141 (cl_lt.mpr q)
        refine s_iconst 180 C X at_179 kc_iconst_0 ?_
        exact J1144 T _ (i0) (Or.inr (Or.inr (Or.inr (Or.inr (Or.inl ⟨y418_1097, y418_1106, y418_1115, y418_1123, y418_1132, y418_1140, t_c114_1089, A_y418_1097, t_c126_1098, A_y418_1106, t_c138_1107, A_y418_1115, A_y418_1123, t_c155_1124, A_y418_1132, A_y418_1140, t_c172_1141, rfl⟩))))) X 
      have t_c172_1141 : (y418_1140).toInt < (0 : Int) := cl_lt.mp c172_1141
      refine s_iconst 176 C X at_175 kc_iconst_1 ?_
      refine s_goto 180 C X at_176 ?_
      exact J1144 T _ (i1) (Or.inr (Or.inr (Or.inr (Or.inr (Or.inr ⟨y418_1097, y418_1106, y418_1115, y418_1123, y418_1132, y418_1140, t_c114_1089, A_y418_1097, t_c126_1098, A_y418_1106, t_c138_1107, A_y418_1115, A_y418_1123, t_c155_1124, A_y418_1132, A_y418_1140, t_c172_1141, rfl⟩))))) X 
    intro T hh y1143 D1144  X 
    refine s_istore 182 C X (l' := #[iv x0, iv x1, iv x2, iv x3, iv x4, iv x5, rv o1, iv i0, lv y376, .second, lv y376_1053, .second, lv y376_1060, .second, lv y376_1067, .second, lv y376_1074, .second, lv y376_1081, .second, iv y1143, .unset, .unset, .unset, .unset, .unset, .unset, .unset, .unset, .unset, .unset, .unset, .unset, .unset, .unset, .unset, .unset, .unset, .unset, .unset]) at_180 rfl ?_
    refine s_iload 184 C X at_182 rfl ?_
    refine s_if_eq 198 187 C X at_184 (fun c184_1145 => ?_) (fun c184_1145 => ?_)
    · have t_c184_1145 : (y1143).toInt = (0 : Int) := congrArg Int32.toInt c184_1145
      refine s_iload 200 C X at_198 rfl ?_
      refine s_if_ne 205 203 C X at_200 (fun c => absurd (by decide : i0 = i0) c) (fun _ => ?_)
      refine s_iconst 204 C X at_203 kc_iconst_0 ?_
      refine s_nreturn C X at_204 rfl (by simp) rfl ?_
      exfalso
      have X01 := own_x W_y34 V_y376
      have X10 := own_x W_y45 V_y376_1053
      have X02 := own_x W_y56 V_y376_1060
      have X20 := own_x W_y67 V_y376_1067
      have X12 := own_x W_y78 V_y376_1074
      have X21 := own_x W_y89 V_y376_1081
      rcases own_ng15 X01 X10 X02 X20 X12 X21 A_y418 D1144 with q | q
      · exact q.2 hN
      · exact q.1 t_c184_1145
    refine s_iload 189 C X at_187 rfl ?_
    refine s_if_ne 196 192 C X at_189 (fun c => absurd (by decide : i0 = i0) c) (fun _ => ?_)
    refine s_iconst 193 C X at_192 kc_iconst_1 ?_
    refine s_goto 197 C X at_193 ?_
    refine s_nreturn C X at_197 rfl (by simp) rfl ?_
    rfl
theorem comes_1 {Post : Tables → Env → Array Value → State → Outcome → State → Prop} (hpost : ∀ tb e args s v u, (limb_1_1.after args s (.returned v) u = true ∧ limb_1_2.after args s (.returned v) u = true ∧ True) → FrameEnd s (.returned v) u (Jvm.fieldLocs frame_1_writes args s ++ Jvm.arrayLocs frame_1_arrays args s ++ Jvm.staticLocs frame_1_statics s) 40 192 → Post tb e args s (.returned v) u) :
    ArmFor flags0 classFile x code maxLocals ret World_1 tables_1 room_1 Calls_1 rest_1 Pre_1 Post := by
  intro l hfl _ _ p e ha hc hk s m args below hf hA hF happ hP
  obtain ⟨hcalls, hrest, hpre⟩ := hP
  obtain ⟨-, -, -, hnamed, -, -, -, hat⟩ := (Spec.applies_iff hf).mp happ
  obtain ⟨hg, hn⟩ := and_e (Cond.before_iff.mp (show (Jvm.Cond.and given_1 narrow_1).before args s = true from hpre))
  obtain ⟨g0, g1⟩ := and_e hg
  obtain ⟨ga0, gr0⟩ := and_e g1
  obtain ⟨ga1, gr1⟩ := and_e gr0
  obtain ⟨ga2, gr2⟩ := and_e gr1
  obtain ⟨ga3, gr3⟩ := and_e gr2
  obtain ⟨ga4, gr4⟩ := and_e gr3
  obtain ⟨w0, w1, w2, w3, w4, w5, rfl⟩ : ∃ w0 w1 w2 w3 w4 w5 : Value, args = #[w0, w1, w2, w3, w4, w5] := by
    have hs : args.size = 6 := by simpa [Cond.value, given_1] using g0
    obtain ⟨L⟩ := args
    match L, hs with
    | [w0, w1, w2, w3, w4, w5], _ => exact ⟨w0, w1, w2, w3, w4, w5, rfl⟩
  have hw := fun d (hd : d ∈ tables_1) => atoms_spec (ws := Jvm.Cond.code x code maxLocals ret :: tables_1) hat d (List.mem_cons_of_mem _ hd)
  have hfit : Fit s := fun {y c} hc i hi => by
    obtain ⟨ha, rfl⟩ := Array.getElem?_eq_some_iff.mp hc
    have q := List.all_eq_true.mp ((Array.all_eq_true_iff_forall_mem.mp hF) _ (Array.getElem_mem ha)) i (List.mem_range.mpr hi)
    simpa [Array.getElem?_eq_getElem hi] using q
  obtain ⟨i0, e0⟩ := is_v ga0
  obtain rfl : w0 = (.int i0) := Option.some.inj e0
  obtain ⟨i1, e1⟩ := is_v ga1
  obtain rfl : w1 = (.int i1) := Option.some.inj e1
  obtain ⟨i2, e2⟩ := is_v ga2
  obtain rfl : w2 = (.int i2) := Option.some.inj e2
  obtain ⟨i3, e3⟩ := is_v ga3
  obtain rfl : w3 = (.int i3) := Option.some.inj e3
  obtain ⟨i4, e4⟩ := is_v ga4
  obtain rfl : w4 = (.int i4) := Option.some.inj e4
  obtain ⟨i5, e5⟩ := is_v gr4
  obtain rfl : w5 = (.int i5) := Option.some.inj e5
  obtain ⟨hsets, -⟩ := atoms_of jdkStatics_1 (show (jdkStatics_1.foldr Jvm.Cond.and restOwn_1).before _ s = true from hrest)
  have sd2 := hsets _ (mW 2 rfl)
  have sd6 := Cond.before_iff.mp (hsets _ (mW 6 rfl))
  have sd8 := Cond.before_iff.mp (hsets _ (mW 8 rfl))
  have st1 := hsets _ (mW 10 rfl)
  have st2 := hsets _ (mW 11 rfl)
  have st3 := Cond.before_iff.mp (hsets _ (mW 12 rfl))
  have st4 := Cond.before_iff.mp (hsets _ (mW 13 rfl))
  have st6 := Cond.before_iff.mp (hsets _ (mW 15 rfl))
  have st7 := Cond.before_iff.mp (hsets _ (mW 16 rfl))
  have SH := Sta.start (eqv_i (Term.int_eval _) st3) (Or.inl st1)
  obtain ⟨de, ede⟩ := arr_v sd6
  have SD := Sta.start ede (Or.inr ⟨(hw _ (mW 69 rfl)), sd2⟩)
  obtain ⟨cD, AD⟩ := Arr.start ede sd6
  obtain ⟨hld, hlend⟩ := own_lenOf ede (AD.fin (Vm.Alike.refl _)) (eqv_i (Term.int_eval _) sd8)
  obtain ⟨ac, eac⟩ := arr_v st4
  have SC := Sta.start eac (Or.inr ⟨(hw _ (mW 109 rfl)), st2⟩)
  obtain ⟨cA, AA⟩ := Arr.start eac st4
  have LL := eqv_i (Term.int_eval _) st6
  have fin := AA.fin (Vm.Alike.refl _)
  obtain ⟨hl, hlen⟩ := own_lenOf eac fin LL
  have BX := Bxs.start (val := fun j => .int (j - 128)) (fun _ => eac) AA hl hlen (by decide) st7 (fun X j nn h => eqv_i (own_sub nn) h)
  obtain ⟨vsC, AV, HC⟩ := own_arvOf (P := fun j y => Exa s s.heap y "java/lang/Integer" ∧ Fld s s.heap y "java/lang/Integer" "value" "I" (.int (j - 128))) BX.1 BX.2.1 BX.2.2.1 (Or.inr trivial) (fun j hj => BX.2.2.2 j hj) (fun _ => rfl) hl
  obtain ⟨b1, hv1, E1, F1⟩ := HC 129 (by decide)
  obtain ⟨b2, hv2, E2, F2⟩ := HC 130 (by decide)

  obtain ⟨n, o, h1, h2, h3, _, L, rfl, ⟨rfl, N⟩, hq⟩ := rm0 l s _ hw i0 i1 i2 i3 i4 i5 ac _ vsC de _ b1 b2 s.heap s.heap.size (Nat.le_refl _) (Old.start s) SH SC SD AV (own_arv0 AD hld hlend) E1 F1 E2 F2 hv1 hv2 p e ha hc hk s m _ below hf ((Spec.applies_iff_loose hf).mp happ).1 ⟨rfl, State.Warmed39.refl s, rfl⟩ trivial
  exact ⟨n, _, h1, h2, h3, hpost _ _ _ _ _ _ ⟨Cond.after_iff.mpr rfl, Cond.after_iff.mpr (eq_i res_at (Term.int_eval (1)) rfl), trivial⟩ ⟨hq.1, hq.2.1, (hq.2.2.sift fun y hy => Or.inr (N y hy)).mono (by decide) (by decide)⟩⟩
theorem main_1_1 : Claimed_1_1 := comes_1 fun _ _ _ _ _ _ h hF => ⟨h.1, hF⟩
theorem main_1_2 : Claimed_1_2 := comes_1 fun _ _ _ _ _ _ h hF => ⟨h.2.1, hF⟩
end Jvm.Pilot.@@N@@
namespace Jvm.Pilot.@@N@@
open Jvm Jvm.ClassFile Sem Op Lib Jvm.Free Jvm.Stand Jvm.Pilot.@@N@@.Jvm.D
/-! MADE BY PROGRAM (witnessworld.py) out of the Statement's table words and the real class files: 34 classes; the members and pool entries that the words name. The judged class is class 1, her method 5. -/
namespace start1
open Jvm.ClassFile
def u (s : String) : CpInfo := .utf8 (stringToUtf16 s)
/-- a pool by its gaps: so many unusable entries, then the entry; so many at the end -/
def gap : Nat → List CpInfo → List CpInfo
  | 0, r => r
  | n + 1, r => .unusable :: gap n r
def poolList (es : List (Nat × CpInfo)) (last : Nat) : List CpInfo := es.foldr (fun e r => gap e.1 (e.2 :: r)) (gap last [])
def pool (es : List (Nat × CpInfo)) (last : Nat) : Array CpInfo := ⟨poolList es last⟩
def fileOf (pool : Array CpInfo) (this : Nat) (attrs : Array Attribute := #[]) (ms : Array MethodInfo := #[]) (fl : Nat := 33) (sup : Nat := 0) (ifs : Array Nat := #[]) (fds : Array FieldInfo := #[]) : ClassFile where
  minorVersion := 0
  majorVersion := 65
  constantPool := pool
  accessFlags := fl
  thisClass := this
  superClass := sup
  interfaces := ifs
  fields := fds
  methods := ms
  attributes := attrs
def plain (name : String) (sup : Option ClassId) : Class where
  name := name
  kind := .ordinary
  loader := none
  accessFlags := 33
  super := sup
  interfaces := #[]
  cf := none
  fields := #[]
  methods := #[]
  instanceTypes := #[]
  staticTypes := #[]
  resolved := #[]
  callSites := []
  init := .initialized
  statics := none
  mirror := none

def pool0 : Array CpInfo := pool [(5, u "<init>"), (0, u "()V"), (1, .class_ 10), (1, u "java/lang/Object")] 113

def k0c0 : Code := { maxStack := 0, maxLocals := 1, code := object_method_1_code, exceptionTable := #[], attributes := #[] }
def k0m0 : Method := { name := "<init>", desc := "()V", sig := { parameters := [], returnType := none }, accessFlags := 1, code := some k0c0 }
/-- java/lang/Object -/
def k0 : Class := { plain "java/lang/Object" none with
  accessFlags := 33
  interfaces := #[]
  cf := some (fileOf pool0 8 #[] #[{ accessFlags := 1, nameIndex := 5, descriptorIndex := 6, attributes := #[] }] 33 0 #[] #[])
  fields := #[]
  methods := #[k0m0]
  instanceTypes := #[]
  staticTypes := #[]
  resolved := Array.replicate 124 none
  statics := none }

def pool1 : Array CpInfo := pool [(2, .class_ 4), (1, u "java/lang/Object"), (0, u "<init>"), (0, u "()V"), (0, .long 1099511627776), (1, .methodref 10 11), (0, .class_ 12), (0, .nameAndType 13 14), (0, u "com/example/dayweave/dayweave/solve/TemporalNetworkMinimisePinLaw"), (0, u "absent"), (0, u "()J"), (0, .methodref 16 17), (0, .class_ 18), (0, .nameAndType 19 20), (0, u "com/example/dayweave/dayweave/solve/TemporalNetwork"), (0, u "atMost"), (0, u "(IIJ)V"), (0, .methodref 16 22), (0, .nameAndType 5 23), (0, u "(I)V"), (0, .methodref 10 25), (0, .nameAndType 26 27), (0, u "put"), (0, u "(Lcom/example/dayweave/dayweave/solve/TemporalNetwork;III)V"), (0, .methodref 16 29), (0, .nameAndType 30 31), (0, u "minimise"), (0, u "()Z"), (0, .methodref 10 33), (0, .nameAndType 34 35), (0, u "w"), (0, u "(I)J"), (0, .methodref 10 37), (0, .nameAndType 38 39), (0, u "add"), (0, u "(JJ)J"), (0, .methodref 41 42), (0, .class_ 43), (0, .nameAndType 44 39), (0, u "java/lang/Math"), (0, u "min"), (0, .methodref 16 46), (0, .nameAndType 47 48), (0, u "newcomer"), (0, u "()Lcom/example/dayweave/dayweave/solve/TemporalNetwork$Newcomer;"), (0, .methodref 50 51), (0, .class_ 52), (0, .nameAndType 53 54), (0, u "com/example/dayweave/dayweave/solve/TemporalNetwork$Newcomer"), (0, u "atMostAfter"), (0, u "(IJ)V"), (0, .methodref 50 56), (0, .nameAndType 57 54), (0, u "atLeastAfter"), (0, .methodref 50 59), (0, .nameAndType 60 61), (0, u "slots"), (0, u "()Lcom/example/dayweave/dayweave/model/Range;"), (0, .methodref 63 64), (0, .class_ 65), (0, .nameAndType 44 66), (0, u "com/example/dayweave/dayweave/model/Range"), (0, u "()I"), (0, .methodref 63 68), (0, .nameAndType 69 66), (0, u "max"), (3, u "law"), (0, u "(IIIIII)Z")] 4

def k1m0 : Method := { name := "<init>", desc := "()V", sig := { parameters := [], returnType := none }, accessFlags := 1, code := none }
def k1c1 : Code := { maxStack := 2, maxLocals := 0, code := method_2_code, exceptionTable := #[], attributes := #[] }
def k1m1 : Method := { name := "absent", desc := "()J", sig := { parameters := [], returnType := some .long }, accessFlags := 10, code := some k1c1 }
def k1c2 : Code := { maxStack := 2, maxLocals := 1, code := method_3_code, exceptionTable := #[], attributes := #[] }
def k1m2 : Method := { name := "w", desc := "(I)J", sig := { parameters := [.int], returnType := some .long }, accessFlags := 10, code := some k1c2 }
def k1c3 : Code := { maxStack := 4, maxLocals := 6, code := method_4_code, exceptionTable := #[], attributes := #[] }
def k1m3 : Method := { name := "add", desc := "(JJ)J", sig := { parameters := [.long, .long], returnType := some .long }, accessFlags := 10, code := some k1c3 }
def k1c4 : Code := { maxStack := 5, maxLocals := 4, code := method_5_code, exceptionTable := #[], attributes := #[] }
def k1m4 : Method := { name := "put", desc := "(Lcom/example/dayweave/dayweave/solve/TemporalNetwork;III)V", sig := { parameters := [(.object "com/example/dayweave/dayweave/solve/TemporalNetwork"), .int, .int, .int], returnType := none }, accessFlags := 10, code := some k1c4 }
def k1c5 : Code := { maxStack := 6, maxLocals := 40, code := code, exceptionTable := #[], attributes := #[] }
def k1m5 : Method := { name := "law", desc := "(IIIIII)Z", sig := { parameters := [.int, .int, .int, .int, .int, .int], returnType := some .boolean }, accessFlags := 9, code := some k1c5 }
/-- com/example/dayweave/dayweave/solve/TemporalNetworkMinimisePinLaw -/
def k1 : Class := { plain "com/example/dayweave/dayweave/solve/TemporalNetworkMinimisePinLaw" (some 0) with
  accessFlags := 49
  interfaces := #[]
  cf := some (fileOf pool1 10 #[] #[{ accessFlags := 1, nameIndex := 5, descriptorIndex := 6, attributes := #[] }, { accessFlags := 10, nameIndex := 13, descriptorIndex := 14, attributes := #[] }, { accessFlags := 10, nameIndex := 34, descriptorIndex := 35, attributes := #[] }, { accessFlags := 10, nameIndex := 38, descriptorIndex := 39, attributes := #[] }, { accessFlags := 10, nameIndex := 26, descriptorIndex := 27, attributes := #[] }, { accessFlags := 9, nameIndex := 73, descriptorIndex := 74, attributes := #[] }] 49 2 #[] #[])
  fields := #[]
  methods := #[k1m0, k1m1, k1m2, k1m3, k1m4, k1m5]
  instanceTypes := #[]
  staticTypes := #[]
  resolved := Array.replicate 79 none
  statics := none }

def pool2 : Array CpInfo := pool [(3, .methodref 4 5), (0, .class_ 6), (0, .nameAndType 7 8), (0, u "java/lang/Object"), (0, u "<init>"), (0, u "()V"), (0, .class_ 10), (0, u "[[J"), (0, .fieldref 12 13), (0, .class_ 14), (0, .nameAndType 15 10), (0, u "com/example/dayweave/dayweave/solve/TemporalNetwork"), (0, u "most"), (0, .long 2305843009213693951), (1, .methodref 19 20), (0, .class_ 21), (0, .nameAndType 22 23), (0, u "java/util/Arrays"), (0, u "fill"), (0, u "([JJ)V"), (0, .methodref 25 26), (0, .class_ 27), (0, .nameAndType 28 29), (0, u "java/lang/Math"), (0, u "min"), (0, u "(JJ)J"), (2, u "atMost"), (0, u "(IIJ)V"), (14, .class_ 49), (0, u "com/example/dayweave/dayweave/solve/TemporalNetwork$Newcomer"), (0, .methodref 48 51), (0, .nameAndType 7 52), (0, u "(Lcom/example/dayweave/dayweave/solve/TemporalNetwork;)V"), (0, u "UNBOUNDED"), (0, u "J"), (1, u "(I)V"), (4, u "minimise"), (0, u "()Z"), (6, u "newcomer"), (0, u "()Lcom/example/dayweave/dayweave/solve/TemporalNetwork$Newcomer;")] 19

def k2c0 : Code := { maxStack := 4, maxLocals := 3, code := prog_67_method_1_code, exceptionTable := #[], attributes := #[] }
def k2m0 : Method := { name := "<init>", desc := "(I)V", sig := { parameters := [.int], returnType := none }, accessFlags := 0, code := some k2c0 }
def k2c1 : Code := { maxStack := 6, maxLocals := 5, code := prog_67_method_2_code, exceptionTable := #[], attributes := #[] }
def k2m1 : Method := { name := "atMost", desc := "(IIJ)V", sig := { parameters := [.int, .int, .long], returnType := none }, accessFlags := 0, code := some k2c1 }
def k2c2 : Code := { maxStack := 6, maxLocals := 9, code := prog_67_method_4_code, exceptionTable := #[], attributes := #[] }
def k2m2 : Method := { name := "minimise", desc := "()Z", sig := { parameters := [], returnType := some .boolean }, accessFlags := 0, code := some k2c2 }
def k2c3 : Code := { maxStack := 3, maxLocals := 1, code := prog_67_method_6_code, exceptionTable := #[], attributes := #[] }
def k2m3 : Method := { name := "newcomer", desc := "()Lcom/example/dayweave/dayweave/solve/TemporalNetwork$Newcomer;", sig := { parameters := [], returnType := some (.object "com/example/dayweave/dayweave/solve/TemporalNetwork$Newcomer") }, accessFlags := 0, code := some k2c3 }
/-- com/example/dayweave/dayweave/solve/TemporalNetwork -/
def k2 : Class := { plain "com/example/dayweave/dayweave/solve/TemporalNetwork" (some 0) with
  accessFlags := 48
  interfaces := #[]
  cf := some (fileOf pool2 12 #[.nestMembers #[48]] #[{ accessFlags := 0, nameIndex := 7, descriptorIndex := 56, attributes := #[] }, { accessFlags := 0, nameIndex := 32, descriptorIndex := 33, attributes := #[] }, { accessFlags := 0, nameIndex := 61, descriptorIndex := 62, attributes := #[] }, { accessFlags := 0, nameIndex := 69, descriptorIndex := 70, attributes := #[] }] 48 4 #[] #[{ accessFlags := 26, nameIndex := 53, descriptorIndex := 54, attributes := #[] }, { accessFlags := 18, nameIndex := 15, descriptorIndex := 10, attributes := #[] }])
  fields := #[{ name := "UNBOUNDED", type := .long, accessFlags := 26, slot := 0, constantValue := 0 }, { name := "most", type := (.array (.array .long)), accessFlags := 18, slot := 0, constantValue := 0 }]
  methods := #[k2m0, k2m1, k2m2, k2m3]
  instanceTypes := #[(.array (.array .long))]
  staticTypes := #[.long]
  resolved := Array.replicate 48 none ++ #[some (.cls 5), none, some (.method ⟨5, 0⟩)] ++ Array.replicate 39 none
  statics := none }

def pool3 : Array CpInfo := pool [(2, .class_ 4), (1, u "java/lang/Object"), (0, u "<init>"), (0, u "()V"), (7, .class_ 16), (1, u "java/util/Arrays"), (57, .class_ 76), (1, u "java/util/Arrays$NaturalOrder"), (36, .class_ 115), (1, u "java/util/Arrays$LegacyMergeSort"), (1, u "Z"), (257, .class_ 376), (0, u "java/util/Arrays$ArrayList"), (68, u "$assertionsDisabled"), (269, u "MIN_ARRAY_SORT_GRAN"), (0, u "I"), (2, u "INSERTIONSORT_THRESHOLD"), (120, u "fill"), (0, u "([JJ)V"), (133, .class_ 976), (0, u "java/util/Arrays$ArrayItr")] 52

def k3m0 : Method := { name := "<init>", desc := "()V", sig := { parameters := [], returnType := none }, accessFlags := 2, code := none }
def k3c1 : Code := { maxStack := 4, maxLocals := 5, code := jdk_65_method_101_code, exceptionTable := #[], attributes := #[] }
def k3m1 : Method := { name := "fill", desc := "([JJ)V", sig := { parameters := [(.array .long), .long], returnType := none }, accessFlags := 9, code := some k3c1 }
/-- java/util/Arrays -/
def k3 : Class := { plain "java/util/Arrays" (some 0) with
  accessFlags := 49
  interfaces := #[]
  cf := some (fileOf pool3 14 #[.nestMembers #[975, 375, 113, 74]] #[{ accessFlags := 2, nameIndex := 5, descriptorIndex := 6, attributes := #[] }, { accessFlags := 9, nameIndex := 840, descriptorIndex := 841, attributes := #[] }] 49 2 #[] #[{ accessFlags := 26, nameIndex := 715, descriptorIndex := 716, attributes := #[] }, { accessFlags := 26, nameIndex := 719, descriptorIndex := 716, attributes := #[] }, { accessFlags := 4120, nameIndex := 445, descriptorIndex := 117, attributes := #[] }])
  fields := #[{ name := "MIN_ARRAY_SORT_GRAN", type := .int, accessFlags := 26, slot := 0, constantValue := 0 }, { name := "INSERTIONSORT_THRESHOLD", type := .int, accessFlags := 26, slot := 1, constantValue := 0 }, { name := "$assertionsDisabled", type := .boolean, accessFlags := 4120, slot := 2, constantValue := 0 }]
  methods := #[k3m0, k3m1]
  instanceTypes := #[]
  staticTypes := #[.int, .int, .boolean]
  resolved := Array.replicate 1029 none
  statics := none }

def pool4 : Array CpInfo := pool [(1, .class_ 2), (0, u "java/lang/Math"), (1, .class_ 6), (1, u "java/lang/Object"), (0, u "<init>"), (0, u "()V"), (89, .class_ 100), (1, u "java/lang/Math$RandomNumberGeneratorHolder"), (20, u "(JJ)J"), (50, u "negativeZeroFloatBits"), (0, u "J"), (2, u "negativeZeroDoubleBits"), (21, u "max"), (2, u "min"), (43, u "$assertionsDisabled"), (0, u "Z"), (88, u "(II)I"), (2, u "twoToTheDoubleScaleDown"), (0, u "D"), (4, u "twoToTheDoubleScaleUp"), (9, u "E"), (3, u "PI"), (2, u "TAU"), (2, u "DEGREES_TO_RADIANS"), (0, u "RADIANS_TO_DEGREES")] 94

def k4m0 : Method := { name := "<init>", desc := "()V", sig := { parameters := [], returnType := none }, accessFlags := 2, code := none }
def k4c1 : Code := { maxStack := 2, maxLocals := 2, code := jdk_29_method_65_code, exceptionTable := #[], attributes := #[] }
def k4m1 : Method := { name := "max", desc := "(II)I", sig := { parameters := [.int, .int], returnType := some .int }, accessFlags := 9, code := some k4c1 }
def k4c2 : Code := { maxStack := 4, maxLocals := 4, code := jdk_29_method_66_code, exceptionTable := #[], attributes := #[] }
def k4m2 : Method := { name := "max", desc := "(JJ)J", sig := { parameters := [.long, .long], returnType := some .long }, accessFlags := 9, code := some k4c2 }
def k4c3 : Code := { maxStack := 4, maxLocals := 4, code := jdk_29_method_70_code, exceptionTable := #[], attributes := #[] }
def k4m3 : Method := { name := "min", desc := "(JJ)J", sig := { parameters := [.long, .long], returnType := some .long }, accessFlags := 9, code := some k4c3 }
/-- java/lang/Math -/
def k4 : Class := { plain "java/lang/Math" (some 0) with
  accessFlags := 49
  interfaces := #[]
  cf := some (fileOf pool4 1 #[.nestMembers #[98]] #[{ accessFlags := 2, nameIndex := 7, descriptorIndex := 8, attributes := #[] }, { accessFlags := 9, nameIndex := 198, descriptorIndex := 335, attributes := #[] }, { accessFlags := 9, nameIndex := 198, descriptorIndex := 121, attributes := #[] }, { accessFlags := 9, nameIndex := 201, descriptorIndex := 121, attributes := #[] }] 49 4 #[] #[{ accessFlags := 25, nameIndex := 354, descriptorIndex := 339, attributes := #[] }, { accessFlags := 25, nameIndex := 358, descriptorIndex := 339, attributes := #[] }, { accessFlags := 25, nameIndex := 361, descriptorIndex := 339, attributes := #[] }, { accessFlags := 26, nameIndex := 364, descriptorIndex := 339, attributes := #[] }, { accessFlags := 26, nameIndex := 365, descriptorIndex := 339, attributes := #[] }, { accessFlags := 26, nameIndex := 172, descriptorIndex := 173, attributes := #[] }, { accessFlags := 26, nameIndex := 176, descriptorIndex := 173, attributes := #[] }, { accessFlags := 8, nameIndex := 344, descriptorIndex := 339, attributes := #[] }, { accessFlags := 8, nameIndex := 338, descriptorIndex := 339, attributes := #[] }, { accessFlags := 4120, nameIndex := 245, descriptorIndex := 246, attributes := #[] }])
  fields := #[{ name := "E", type := .double, accessFlags := 25, slot := 0, constantValue := 0 }, { name := "PI", type := .double, accessFlags := 25, slot := 1, constantValue := 0 }, { name := "TAU", type := .double, accessFlags := 25, slot := 2, constantValue := 0 }, { name := "DEGREES_TO_RADIANS", type := .double, accessFlags := 26, slot := 3, constantValue := 0 }, { name := "RADIANS_TO_DEGREES", type := .double, accessFlags := 26, slot := 4, constantValue := 0 }, { name := "negativeZeroFloatBits", type := .long, accessFlags := 26, slot := 5, constantValue := 0 }, { name := "negativeZeroDoubleBits", type := .long, accessFlags := 26, slot := 6, constantValue := 0 }, { name := "twoToTheDoubleScaleUp", type := .double, accessFlags := 8, slot := 7, constantValue := 0 }, { name := "twoToTheDoubleScaleDown", type := .double, accessFlags := 8, slot := 8, constantValue := 0 }, { name := "$assertionsDisabled", type := .boolean, accessFlags := 4120, slot := 9, constantValue := 0 }]
  methods := #[k4m0, k4m1, k4m2, k4m3]
  instanceTypes := #[]
  staticTypes := #[.double, .double, .double, .double, .double, .long, .long, .double, .double, .boolean]
  resolved := Array.replicate 460 none
  statics := none }

def pool5 : Array CpInfo := pool [(1, .class_ 2), (0, u "com/example/dayweave/dayweave/solve/TemporalNetwork"), (0, .fieldref 4 5), (0, .class_ 6), (0, .nameAndType 7 8), (0, u "com/example/dayweave/dayweave/solve/TemporalNetwork$Newcomer"), (0, u "this$0"), (0, u "Lcom/example/dayweave/dayweave/solve/TemporalNetwork;"), (0, .methodref 10 11), (0, .class_ 12), (0, .nameAndType 13 14), (0, u "java/lang/Object"), (0, u "<init>"), (0, u "()V"), (0, .fieldref 1 16), (0, .nameAndType 17 18), (0, u "most"), (0, u "[[J"), (0, .fieldref 4 20), (0, .nameAndType 21 22), (0, u "after"), (0, u "[J"), (0, .fieldref 4 24), (0, .nameAndType 25 22), (0, u "before"), (0, .class_ 27), (0, u "java/util/ArrayList"), (0, .methodref 26 11), (0, .fieldref 4 30), (0, .nameAndType 31 32), (0, u "bounding"), (0, u "Ljava/util/List;"), (0, .long 2305843009213693951), (1, .methodref 36 37), (0, .class_ 38), (0, .nameAndType 39 40), (0, u "java/util/Arrays"), (0, u "fill"), (0, u "([JJ)V"), (0, .methodref 4 42), (0, .nameAndType 43 44), (0, u "note"), (0, u "(I)V"), (0, .methodref 46 47), (0, .class_ 48), (0, .nameAndType 49 50), (0, u "java/lang/Math"), (0, u "min"), (0, u "(JJ)J"), (0, .methodref 52 53), (0, .class_ 54), (0, .nameAndType 55 56), (0, u "java/lang/Integer"), (0, u "valueOf"), (0, u "(I)Ljava/lang/Integer;"), (0, .interfaceMethodref 58 59), (0, .class_ 60), (0, .nameAndType 61 62), (0, u "java/util/List"), (0, u "add"), (0, u "(Ljava/lang/Object;)Z"), (0, .long 16140901064495857665), (1, .interfaceMethodref 58 66), (0, .nameAndType 67 68), (0, u "iterator"), (0, u "()Ljava/util/Iterator;"), (0, .interfaceMethodref 70 71), (0, .class_ 72), (0, .nameAndType 73 74), (0, u "java/util/Iterator"), (0, u "hasNext"), (0, u "()Z"), (0, .interfaceMethodref 70 76), (0, .nameAndType 77 78), (0, u "next"), (0, u "()Ljava/lang/Object;"), (0, .methodref 52 80), (0, .nameAndType 81 82), (0, u "intValue"), (0, u "()I"), (0, .methodref 46 84), (0, .nameAndType 85 50), (0, u "max"), (0, .methodref 4 87), (0, .nameAndType 88 74), (0, u "consistent"), (0, .class_ 90), (0, u "com/example/dayweave/dayweave/model/Range"), (0, .methodref 89 92), (0, .nameAndType 13 93), (0, u "(II)V"), (2, u "(Lcom/example/dayweave/dayweave/solve/TemporalNetwork;)V"), (3, u "atMostAfter"), (0, u "(IJ)V"), (0, u "atLeastAfter"), (1, u "slots"), (0, u "()Lcom/example/dayweave/dayweave/model/Range;")] 5

def k5c0 : Code := { maxStack := 3, maxLocals := 2, code := prog_68_method_1_code, exceptionTable := #[], attributes := #[] }
def k5m0 : Method := { name := "<init>", desc := "(Lcom/example/dayweave/dayweave/solve/TemporalNetwork;)V", sig := { parameters := [(.object "com/example/dayweave/dayweave/solve/TemporalNetwork")], returnType := none }, accessFlags := 2, code := some k5c0 }
def k5c1 : Code := { maxStack := 6, maxLocals := 4, code := prog_68_method_2_code, exceptionTable := #[], attributes := #[] }
def k5m1 : Method := { name := "atMostAfter", desc := "(IJ)V", sig := { parameters := [.int, .long], returnType := none }, accessFlags := 0, code := some k5c1 }
def k5c2 : Code := { maxStack := 6, maxLocals := 4, code := prog_68_method_3_code, exceptionTable := #[], attributes := #[] }
def k5m2 : Method := { name := "atLeastAfter", desc := "(IJ)V", sig := { parameters := [.int, .long], returnType := none }, accessFlags := 0, code := some k5c2 }
def k5c3 : Code := { maxStack := 4, maxLocals := 2, code := prog_68_method_4_code, exceptionTable := #[], attributes := #[] }
def k5m3 : Method := { name := "note", desc := "(I)V", sig := { parameters := [.int], returnType := none }, accessFlags := 2, code := some k5c3 }
def k5c4 : Code := { maxStack := 6, maxLocals := 7, code := prog_68_method_5_code, exceptionTable := #[], attributes := #[] }
def k5m4 : Method := { name := "slots", desc := "()Lcom/example/dayweave/dayweave/model/Range;", sig := { parameters := [], returnType := some (.object "com/example/dayweave/dayweave/model/Range") }, accessFlags := 0, code := some k5c4 }
def k5c5 : Code := { maxStack := 4, maxLocals := 7, code := prog_68_method_6_code, exceptionTable := #[], attributes := #[] }
def k5m5 : Method := { name := "consistent", desc := "()Z", sig := { parameters := [], returnType := some .boolean }, accessFlags := 2, code := some k5c5 }
/-- com/example/dayweave/dayweave/solve/TemporalNetwork$Newcomer -/
def k5 : Class := { plain "com/example/dayweave/dayweave/solve/TemporalNetwork$Newcomer" (some 0) with
  accessFlags := 48
  interfaces := #[]
  cf := some (fileOf pool5 4 #[.nestHost 1] #[{ accessFlags := 2, nameIndex := 13, descriptorIndex := 96, attributes := #[] }, { accessFlags := 0, nameIndex := 100, descriptorIndex := 101, attributes := #[] }, { accessFlags := 0, nameIndex := 102, descriptorIndex := 101, attributes := #[] }, { accessFlags := 2, nameIndex := 43, descriptorIndex := 44, attributes := #[] }, { accessFlags := 0, nameIndex := 104, descriptorIndex := 105, attributes := #[] }, { accessFlags := 2, nameIndex := 88, descriptorIndex := 74, attributes := #[] }] 48 10 #[] #[{ accessFlags := 18, nameIndex := 21, descriptorIndex := 22, attributes := #[] }, { accessFlags := 18, nameIndex := 25, descriptorIndex := 22, attributes := #[] }, { accessFlags := 18, nameIndex := 31, descriptorIndex := 32, attributes := #[] }, { accessFlags := 4112, nameIndex := 7, descriptorIndex := 8, attributes := #[] }])
  fields := #[{ name := "after", type := (.array .long), accessFlags := 18, slot := 0, constantValue := 0 }, { name := "before", type := (.array .long), accessFlags := 18, slot := 1, constantValue := 0 }, { name := "bounding", type := (.object "java/util/List"), accessFlags := 18, slot := 2, constantValue := 0 }, { name := "this$0", type := (.object "com/example/dayweave/dayweave/solve/TemporalNetwork"), accessFlags := 4112, slot := 3, constantValue := 0 }]
  methods := #[k5m0, k5m1, k5m2, k5m3, k5m4, k5m5]
  instanceTypes := #[(.array .long), (.array .long), (.object "java/util/List"), (.object "com/example/dayweave/dayweave/solve/TemporalNetwork")]
  staticTypes := #[]
  resolved := Array.replicate 111 none
  statics := none }

def pool6 : Array CpInfo := pool [(8, .class_ 10), (1, u "java/lang/Iterable"), (24, .class_ 36), (0, u "java/lang/Object")] 25

/-- java/lang/Iterable -/
def k6 : Class := { plain "java/lang/Iterable" (some 0) with
  accessFlags := 1537
  interfaces := #[]
  cf := some (fileOf pool6 8 #[] #[] 1537 35 #[] #[])
  fields := #[]
  methods := #[]
  instanceTypes := #[]
  staticTypes := #[]
  resolved := Array.replicate 62 none
  statics := none }

def pool7 : Array CpInfo := pool [(10, .class_ 12), (1, u "java/util/Collection"), (47, .class_ 61), (0, u "java/lang/Object"), (0, .class_ 63), (0, u "java/lang/Iterable")] 51

/-- java/util/Collection -/
def k7 : Class := { plain "java/util/Collection" (some 0) with
  accessFlags := 1537
  interfaces := #[6]
  cf := some (fileOf pool7 10 #[] #[] 1537 60 #[62] #[])
  fields := #[]
  methods := #[]
  instanceTypes := #[]
  staticTypes := #[]
  resolved := Array.replicate 115 none
  statics := none }

def pool8 : Array CpInfo := pool [(1, .methodref 2 3), (0, .class_ 4), (0, .nameAndType 5 6), (0, u "java/lang/Object"), (0, u "<init>"), (0, u "()V"), (1, .class_ 10), (1, u "java/util/AbstractCollection"), (66, .class_ 78), (0, u "java/util/Collection")] 81

def k8c0 : Code := { maxStack := 1, maxLocals := 1, code := jdk_22_method_1_code, exceptionTable := #[], attributes := #[] }
def k8m0 : Method := { name := "<init>", desc := "()V", sig := { parameters := [], returnType := none }, accessFlags := 4, code := some k8c0 }
/-- java/util/AbstractCollection -/
def k8 : Class := { plain "java/util/AbstractCollection" (some 0) with
  accessFlags := 1057
  interfaces := #[7]
  cf := some (fileOf pool8 8 #[] #[{ accessFlags := 4, nameIndex := 5, descriptorIndex := 6, attributes := #[] }] 1057 2 #[77] #[])
  fields := #[]
  methods := #[k8m0]
  instanceTypes := #[]
  staticTypes := #[]
  resolved := Array.replicate 160 none
  statics := none }

def pool9 : Array CpInfo := pool [(8, .class_ 10), (1, u "java/util/SequencedCollection"), (15, .class_ 27), (0, u "java/lang/Object"), (0, .class_ 29), (0, u "java/util/Collection")] 27

/-- java/util/SequencedCollection -/
def k9 : Class := { plain "java/util/SequencedCollection" (some 0) with
  accessFlags := 1537
  interfaces := #[7]
  cf := some (fileOf pool9 8 #[] #[] 1537 26 #[28] #[])
  fields := #[]
  methods := #[]
  instanceTypes := #[]
  staticTypes := #[]
  resolved := Array.replicate 57 none
  statics := none }

def pool10 : Array CpInfo := pool [(8, .class_ 10), (1, u "java/util/List"), (49, u "add"), (3, u "(Ljava/lang/Object;)Z"), (38, .class_ 104), (0, u "java/lang/Object"), (15, .class_ 121), (0, u "java/util/SequencedCollection"), (1, u "iterator"), (0, u "()Ljava/util/Iterator;")] 126

def k10m0 : Method := { name := "iterator", desc := "()Ljava/util/Iterator;", sig := { parameters := [], returnType := some (.object "java/util/Iterator") }, accessFlags := 1025, code := none }
def k10m1 : Method := { name := "add", desc := "(Ljava/lang/Object;)Z", sig := { parameters := [(.object "java/lang/Object")], returnType := some .boolean }, accessFlags := 1025, code := none }
/-- java/util/List -/
def k10 : Class := { plain "java/util/List" (some 0) with
  accessFlags := 1537
  interfaces := #[9]
  cf := some (fileOf pool10 8 #[] #[{ accessFlags := 1025, nameIndex := 123, descriptorIndex := 124, attributes := #[] }, { accessFlags := 1025, nameIndex := 60, descriptorIndex := 64, attributes := #[] }] 1537 103 #[120] #[])
  fields := #[]
  methods := #[k10m0, k10m1]
  instanceTypes := #[]
  staticTypes := #[]
  resolved := Array.replicate 251 none
  statics := none }

def pool11 : Array CpInfo := pool [(1, .methodref 2 3), (0, .class_ 4), (0, .nameAndType 5 6), (0, u "java/util/AbstractCollection"), (0, u "<init>"), (0, u "()V"), (0, .fieldref 8 9), (0, .class_ 10), (0, .nameAndType 11 12), (0, u "java/util/AbstractList"), (0, u "modCount"), (0, u "I"), (64, .class_ 78), (0, u "java/util/AbstractList$Itr"), (3, .class_ 83), (0, u "java/util/AbstractList$ListItr"), (9, .class_ 94), (0, u "java/util/AbstractList$RandomAccessSubList"), (3, .class_ 99), (0, u "java/util/AbstractList$SubList"), (33, .class_ 134), (0, u "java/util/List"), (73, .class_ 209), (0, u "java/util/AbstractList$SubList$1"), (0, .class_ 211), (0, u "java/util/AbstractList$RandomAccessSpliterator")] 6

def k11c0 : Code := { maxStack := 2, maxLocals := 1, code := jdk_39_method_1_code, exceptionTable := #[], attributes := #[] }
def k11m0 : Method := { name := "<init>", desc := "()V", sig := { parameters := [], returnType := none }, accessFlags := 4, code := some k11c0 }
/-- java/util/AbstractList -/
def k11 : Class := { plain "java/util/AbstractList" (some 8) with
  accessFlags := 1057
  interfaces := #[10]
  cf := some (fileOf pool11 8 #[.nestMembers #[93, 98, 208, 210, 82, 77]] #[{ accessFlags := 4, nameIndex := 5, descriptorIndex := 6, attributes := #[] }] 1057 2 #[133] #[{ accessFlags := 132, nameIndex := 11, descriptorIndex := 12, attributes := #[] }])
  fields := #[{ name := "modCount", type := .int, accessFlags := 132, slot := 0, constantValue := 0 }]
  methods := #[k11m0]
  instanceTypes := #[.int]
  staticTypes := #[]
  resolved := Array.replicate 218 none
  statics := none }

def pool12 : Array CpInfo := pool [(1, .class_ 2), (0, u "java/util/RandomAccess"), (0, .class_ 4), (0, u "java/lang/Object")] 2

/-- java/util/RandomAccess -/
def k12 : Class := { plain "java/util/RandomAccess" (some 0) with
  accessFlags := 1537
  interfaces := #[]
  cf := some (fileOf pool12 1 #[] #[] 1537 3 #[] #[])
  fields := #[]
  methods := #[]
  instanceTypes := #[]
  staticTypes := #[]
  resolved := Array.replicate 7 none
  statics := none }

def pool13 : Array CpInfo := pool [(1, .class_ 2), (0, u "java/lang/Cloneable"), (0, .class_ 4), (0, u "java/lang/Object")] 2

/-- java/lang/Cloneable -/
def k13 : Class := { plain "java/lang/Cloneable" (some 0) with
  accessFlags := 1537
  interfaces := #[]
  cf := some (fileOf pool13 1 #[] #[] 1537 3 #[] #[])
  fields := #[]
  methods := #[]
  instanceTypes := #[]
  staticTypes := #[]
  resolved := Array.replicate 7 none
  statics := none }

def pool14 : Array CpInfo := pool [(1, .class_ 2), (0, u "java/io/Serializable"), (0, .class_ 4), (0, u "java/lang/Object")] 2

/-- java/io/Serializable -/
def k14 : Class := { plain "java/io/Serializable" (some 0) with
  accessFlags := 1537
  interfaces := #[]
  cf := some (fileOf pool14 1 #[] #[] 1537 3 #[] #[])
  fields := #[]
  methods := #[]
  instanceTypes := #[]
  staticTypes := #[]
  resolved := Array.replicate 7 none
  statics := none }

def pool15 : Array CpInfo := pool [(1, .methodref 2 3), (0, .class_ 4), (0, .nameAndType 5 6), (0, u "java/util/AbstractList"), (0, u "<init>"), (0, u "()V"), (0, .class_ 8), (0, u "java/lang/Object"), (0, .fieldref 10 11), (0, .class_ 12), (0, .nameAndType 13 14), (0, u "java/util/ArrayList"), (0, u "elementData"), (0, u "[Ljava/lang/Object;"), (2, u "EMPTY_ELEMENTDATA"), (21, .fieldref 10 40), (0, .nameAndType 41 14), (0, u "DEFAULTCAPACITY_EMPTY_ELEMENTDATA"), (5, u "()[Ljava/lang/Object;"), (0, .fieldref 10 49), (0, .nameAndType 50 51), (0, u "size"), (0, u "I"), (11, .fieldref 10 64), (0, .nameAndType 65 51), (0, u "modCount"), (3, .methodref 10 70), (0, .nameAndType 71 72), (0, u "grow"), (0, u "(I)[Ljava/lang/Object;"), (6, .methodref 80 81), (0, .class_ 82), (0, .nameAndType 83 84), (0, u "java/lang/Math"), (0, u "max"), (0, u "(II)I"), (11, u "(Ljava/lang/Object;)Z"), (32, .methodref 10 130), (0, .nameAndType 71 47), (0, .methodref 10 132), (0, .nameAndType 133 134), (0, u "add"), (0, u "(Ljava/lang/Object;[Ljava/lang/Object;I)V"), (13, .class_ 149), (0, u "java/util/List"), (16, u "iterator"), (0, u "()Ljava/util/Iterator;"), (94, .class_ 263), (0, u "java/util/ArrayList$ListItr"), (3, .class_ 268), (0, u "java/util/ArrayList$Itr"), (0, .methodref 267 270), (0, .nameAndType 5 271), (0, u "(Ljava/util/ArrayList;)V"), (4, .class_ 277), (0, u "java/util/ArrayList$SubList"), (12, .class_ 291), (0, u "java/util/ArrayList$ArrayListSpliterator"), (37, .class_ 330), (0, u "java/util/RandomAccess"), (0, .class_ 332), (0, u "java/lang/Cloneable"), (0, .class_ 334), (0, u "java/io/Serializable"), (0, u "serialVersionUID"), (0, u "J"), (3, u "DEFAULT_CAPACITY"), (159, .class_ 501), (0, u "java/util/ArrayList$SubList$2"), (0, .class_ 503), (0, u "java/util/ArrayList$SubList$1")] 5

def k15c0 : Code := { maxStack := 2, maxLocals := 1, code := jdk_38_method_2_code, exceptionTable := #[], attributes := #[] }
def k15m0 : Method := { name := "<init>", desc := "()V", sig := { parameters := [], returnType := none }, accessFlags := 1, code := some k15c0 }
def k15c1 : Code := { maxStack := 4, maxLocals := 4, code := jdk_38_method_6_code, exceptionTable := #[], attributes := #[] }
def k15m1 : Method := { name := "grow", desc := "(I)[Ljava/lang/Object;", sig := { parameters := [.int], returnType := some (.array (.object "java/lang/Object")) }, accessFlags := 2, code := some k15c1 }
def k15c2 : Code := { maxStack := 3, maxLocals := 1, code := jdk_38_method_7_code, exceptionTable := #[], attributes := #[] }
def k15m2 : Method := { name := "grow", desc := "()[Ljava/lang/Object;", sig := { parameters := [], returnType := some (.array (.object "java/lang/Object")) }, accessFlags := 2, code := some k15c2 }
def k15c3 : Code := { maxStack := 3, maxLocals := 4, code := jdk_38_method_24_code, exceptionTable := #[], attributes := #[] }
def k15m3 : Method := { name := "add", desc := "(Ljava/lang/Object;[Ljava/lang/Object;I)V", sig := { parameters := [(.object "java/lang/Object"), (.array (.object "java/lang/Object")), .int], returnType := none }, accessFlags := 2, code := some k15c3 }
def k15c4 : Code := { maxStack := 4, maxLocals := 2, code := jdk_38_method_25_code, exceptionTable := #[], attributes := #[] }
def k15m4 : Method := { name := "add", desc := "(Ljava/lang/Object;)Z", sig := { parameters := [(.object "java/lang/Object")], returnType := some .boolean }, accessFlags := 1, code := some k15c4 }
def k15c5 : Code := { maxStack := 3, maxLocals := 1, code := jdk_38_method_55_code, exceptionTable := #[], attributes := #[] }
def k15m5 : Method := { name := "iterator", desc := "()Ljava/util/Iterator;", sig := { parameters := [], returnType := some (.object "java/util/Iterator") }, accessFlags := 1, code := some k15c5 }
/-- java/util/ArrayList -/
def k15 : Class := { plain "java/util/ArrayList" (some 11) with
  accessFlags := 33
  interfaces := #[10, 12, 13, 14]
  cf := some (fileOf pool15 10 #[.nestMembers #[290, 276, 500, 502, 262, 267]] #[{ accessFlags := 1, nameIndex := 5, descriptorIndex := 6, attributes := #[] }, { accessFlags := 2, nameIndex := 71, descriptorIndex := 72, attributes := #[] }, { accessFlags := 2, nameIndex := 71, descriptorIndex := 47, attributes := #[] }, { accessFlags := 2, nameIndex := 133, descriptorIndex := 134, attributes := #[] }, { accessFlags := 1, nameIndex := 133, descriptorIndex := 96, attributes := #[] }, { accessFlags := 1, nameIndex := 166, descriptorIndex := 167, attributes := #[] }] 33 2 #[148, 329, 331, 333] #[{ accessFlags := 26, nameIndex := 335, descriptorIndex := 336, attributes := #[] }, { accessFlags := 26, nameIndex := 340, descriptorIndex := 51, attributes := #[] }, { accessFlags := 26, nameIndex := 17, descriptorIndex := 14, attributes := #[] }, { accessFlags := 26, nameIndex := 41, descriptorIndex := 14, attributes := #[] }, { accessFlags := 128, nameIndex := 13, descriptorIndex := 14, attributes := #[] }, { accessFlags := 2, nameIndex := 50, descriptorIndex := 51, attributes := #[] }])
  fields := #[{ name := "serialVersionUID", type := .long, accessFlags := 26, slot := 0, constantValue := 0 }, { name := "DEFAULT_CAPACITY", type := .int, accessFlags := 26, slot := 1, constantValue := 0 }, { name := "EMPTY_ELEMENTDATA", type := (.array (.object "java/lang/Object")), accessFlags := 26, slot := 2, constantValue := 0 }, { name := "DEFAULTCAPACITY_EMPTY_ELEMENTDATA", type := (.array (.object "java/lang/Object")), accessFlags := 26, slot := 3, constantValue := 0 }, { name := "elementData", type := (.array (.object "java/lang/Object")), accessFlags := 128, slot := 1, constantValue := 0 }, { name := "size", type := .int, accessFlags := 2, slot := 2, constantValue := 0 }]
  methods := #[k15m0, k15m1, k15m2, k15m3, k15m4, k15m5]
  instanceTypes := #[.int, (.array (.object "java/lang/Object")), .int]
  staticTypes := #[.long, .int, (.array (.object "java/lang/Object")), (.array (.object "java/lang/Object"))]
  resolved := Array.replicate 509 none
  statics := some 0 }

def pool16 : Array CpInfo := pool [(2, .class_ 4), (1, u "java/lang/Object"), (0, u "<init>"), (0, u "()V"), (1, .class_ 10), (1, u "java/lang/Number"), (2, .class_ 14), (0, u "java/io/Serializable"), (0, u "serialVersionUID"), (0, u "J")] 20

def k16m0 : Method := { name := "<init>", desc := "()V", sig := { parameters := [], returnType := none }, accessFlags := 1, code := none }
/-- java/lang/Number -/
def k16 : Class := { plain "java/lang/Number" (some 0) with
  accessFlags := 1057
  interfaces := #[14]
  cf := some (fileOf pool16 8 #[] #[{ accessFlags := 1, nameIndex := 5, descriptorIndex := 6, attributes := #[] }] 1057 2 #[13] #[{ accessFlags := 26, nameIndex := 15, descriptorIndex := 16, attributes := #[] }])
  fields := #[{ name := "serialVersionUID", type := .long, accessFlags := 26, slot := 0, constantValue := 0 }]
  methods := #[k16m0]
  instanceTypes := #[]
  staticTypes := #[.long]
  resolved := Array.replicate 37 none
  statics := none }

def pool17 : Array CpInfo := pool [(1, .class_ 2), (0, u "java/lang/Comparable"), (0, .class_ 4), (0, u "java/lang/Object")] 7

/-- java/lang/Comparable -/
def k17 : Class := { plain "java/lang/Comparable" (some 0) with
  accessFlags := 1537
  interfaces := #[]
  cf := some (fileOf pool17 1 #[] #[] 1537 3 #[] #[])
  fields := #[]
  methods := #[]
  instanceTypes := #[]
  staticTypes := #[]
  resolved := Array.replicate 12 none
  statics := none }

def pool18 : Array CpInfo := pool [(1, .class_ 2), (0, u "java/lang/constant/Constable"), (0, .class_ 4), (0, u "java/lang/Object")] 6

/-- java/lang/constant/Constable -/
def k18 : Class := { plain "java/lang/constant/Constable" (some 0) with
  accessFlags := 1537
  interfaces := #[]
  cf := some (fileOf pool18 1 #[] #[] 1537 3 #[] #[])
  fields := #[]
  methods := #[]
  instanceTypes := #[]
  staticTypes := #[]
  resolved := Array.replicate 11 none
  statics := none }

def pool19 : Array CpInfo := pool [(1, .class_ 2), (0, u "java/lang/constant/ConstantDesc"), (0, .class_ 4), (0, u "java/lang/Object")] 32

/-- java/lang/constant/ConstantDesc -/
def k19 : Class := { plain "java/lang/constant/ConstantDesc" (some 0) with
  accessFlags := 1537
  interfaces := #[]
  cf := some (fileOf pool19 1 #[] #[] 1537 3 #[] #[])
  fields := #[]
  methods := #[]
  instanceTypes := #[]
  staticTypes := #[]
  resolved := Array.replicate 37 none
  statics := none }

def pool20 : Array CpInfo := pool [(1, .class_ 2), (0, u "java/lang/Integer"), (16, u "digits"), (0, u "[C"), (64, u "DigitOnes"), (0, u "[B"), (2, u "DigitTens"), (31, u "()I"), (65, u "valueOf"), (0, u "(I)Ljava/lang/Integer;"), (0, .class_ 190), (0, u "java/lang/Integer$IntegerCache"), (0, .fieldref 189 192), (0, .nameAndType 193 194), (0, u "high"), (0, u "I"), (0, .fieldref 189 196), (0, .nameAndType 197 198), (0, u "cache"), (0, u "[Ljava/lang/Integer;"), (4, .class_ 204), (0, u "java/lang/Number"), (0, .fieldref 1 206), (0, .nameAndType 207 194), (0, u "value"), (5, u "intValue"), (88, u "TYPE"), (0, u "Ljava/lang/Class;"), (0, .class_ 305), (0, u "java/lang/Comparable"), (0, .class_ 307), (0, u "java/lang/constant/Constable"), (0, .class_ 309), (0, u "java/lang/constant/ConstantDesc"), (0, u "MIN_VALUE"), (1, u "MAX_VALUE"), (3, u "SIZE"), (1, u "BYTES"), (1, u "serialVersionUID"), (0, u "J")] 131

def k20c0 : Code := { maxStack := 3, maxLocals := 1, code := jdk_33_method_22_code, exceptionTable := #[], attributes := #[] }
def k20m0 : Method := { name := "valueOf", desc := "(I)Ljava/lang/Integer;", sig := { parameters := [.int], returnType := some (.object "java/lang/Integer") }, accessFlags := 9, code := some k20c0 }
def k20c1 : Code := { maxStack := 1, maxLocals := 1, code := jdk_33_method_27_code, exceptionTable := #[], attributes := #[] }
def k20m1 : Method := { name := "intValue", desc := "()I", sig := { parameters := [], returnType := some .int }, accessFlags := 1, code := some k20c1 }
/-- java/lang/Integer -/
def k20 : Class := { plain "java/lang/Integer" (some 16) with
  accessFlags := 49
  interfaces := #[17, 18, 19]
  cf := some (fileOf pool20 1 #[.nestMembers #[189]] #[{ accessFlags := 9, nameIndex := 187, descriptorIndex := 188, attributes := #[] }, { accessFlags := 1, nameIndex := 213, descriptorIndex := 121, attributes := #[] }] 49 203 #[304, 306, 308] #[{ accessFlags := 25, nameIndex := 310, descriptorIndex := 194, attributes := #[] }, { accessFlags := 25, nameIndex := 312, descriptorIndex := 194, attributes := #[] }, { accessFlags := 25, nameIndex := 302, descriptorIndex := 303, attributes := #[] }, { accessFlags := 24, nameIndex := 19, descriptorIndex := 20, attributes := #[] }, { accessFlags := 24, nameIndex := 89, descriptorIndex := 86, attributes := #[] }, { accessFlags := 24, nameIndex := 85, descriptorIndex := 86, attributes := #[] }, { accessFlags := 18, nameIndex := 207, descriptorIndex := 194, attributes := #[] }, { accessFlags := 25, nameIndex := 316, descriptorIndex := 194, attributes := #[] }, { accessFlags := 25, nameIndex := 318, descriptorIndex := 194, attributes := #[] }, { accessFlags := 26, nameIndex := 320, descriptorIndex := 321, attributes := #[] }])
  fields := #[{ name := "MIN_VALUE", type := .int, accessFlags := 25, slot := 0, constantValue := 0 }, { name := "MAX_VALUE", type := .int, accessFlags := 25, slot := 1, constantValue := 0 }, { name := "TYPE", type := (.object "java/lang/Class"), accessFlags := 25, slot := 2, constantValue := 0 }, { name := "digits", type := (.array .char), accessFlags := 24, slot := 3, constantValue := 0 }, { name := "DigitTens", type := (.array .byte), accessFlags := 24, slot := 4, constantValue := 0 }, { name := "DigitOnes", type := (.array .byte), accessFlags := 24, slot := 5, constantValue := 0 }, { name := "value", type := .int, accessFlags := 18, slot := 0, constantValue := 0 }, { name := "SIZE", type := .int, accessFlags := 25, slot := 6, constantValue := 0 }, { name := "BYTES", type := .int, accessFlags := 25, slot := 7, constantValue := 0 }, { name := "serialVersionUID", type := .long, accessFlags := 26, slot := 8, constantValue := 0 }]
  methods := #[k20m0, k20m1]
  instanceTypes := #[.int]
  staticTypes := #[.int, .int, (.object "java/lang/Class"), (.array .char), (.array .byte), (.array .byte), .int, .int, .long]
  resolved := Array.replicate 453 none
  statics := none }

def pool21 : Array CpInfo := pool [(2, .class_ 4), (1, u "java/lang/Object"), (0, u "<init>"), (0, u "()V"), (0, .class_ 8), (0, u "java/lang/Integer"), (7, .class_ 18), (1, u "java/lang/Integer$IntegerCache"), (0, u "$assertionsDisabled"), (0, u "Z"), (26, u "high"), (0, u "I"), (8, u "archivedCache"), (0, u "[Ljava/lang/Integer;"), (12, u "cache"), (0, u "low")] 27

def k21m0 : Method := { name := "<init>", desc := "()V", sig := { parameters := [], returnType := none }, accessFlags := 2, code := none }
/-- java/lang/Integer$IntegerCache -/
def k21 : Class := { plain "java/lang/Integer$IntegerCache" (some 0) with
  accessFlags := 48
  interfaces := #[]
  cf := some (fileOf pool21 16 #[.nestHost 7] #[{ accessFlags := 2, nameIndex := 5, descriptorIndex := 6, attributes := #[] }] 48 2 #[] #[{ accessFlags := 24, nameIndex := 72, descriptorIndex := 48, attributes := #[] }, { accessFlags := 24, nameIndex := 47, descriptorIndex := 48, attributes := #[] }, { accessFlags := 24, nameIndex := 71, descriptorIndex := 58, attributes := #[] }, { accessFlags := 8, nameIndex := 57, descriptorIndex := 58, attributes := #[] }, { accessFlags := 4120, nameIndex := 19, descriptorIndex := 20, attributes := #[] }])
  fields := #[{ name := "low", type := .int, accessFlags := 24, slot := 0, constantValue := 0 }, { name := "high", type := .int, accessFlags := 24, slot := 1, constantValue := 0 }, { name := "cache", type := (.array (.object "java/lang/Integer")), accessFlags := 24, slot := 2, constantValue := 0 }, { name := "archivedCache", type := (.array (.object "java/lang/Integer")), accessFlags := 8, slot := 3, constantValue := 0 }, { name := "$assertionsDisabled", type := .boolean, accessFlags := 4120, slot := 4, constantValue := 0 }]
  methods := #[k21m0]
  instanceTypes := #[]
  staticTypes := #[.int, .int, (.array (.object "java/lang/Integer")), (.array (.object "java/lang/Integer")), .boolean]
  resolved := Array.replicate 100 none
  statics := some 1 }

def pool22 : Array CpInfo := pool [(16, .class_ 18), (1, u "java/util/Iterator"), (0, u "hasNext"), (0, u "()Z"), (2, u "next"), (0, u "()Ljava/lang/Object;"), (6, .class_ 32), (0, u "java/lang/Object")] 20

def k22m0 : Method := { name := "hasNext", desc := "()Z", sig := { parameters := [], returnType := some .boolean }, accessFlags := 1025, code := none }
def k22m1 : Method := { name := "next", desc := "()Ljava/lang/Object;", sig := { parameters := [], returnType := some (.object "java/lang/Object") }, accessFlags := 1025, code := none }
/-- java/util/Iterator -/
def k22 : Class := { plain "java/util/Iterator" (some 0) with
  accessFlags := 1537
  interfaces := #[]
  cf := some (fileOf pool22 16 #[] #[{ accessFlags := 1025, nameIndex := 19, descriptorIndex := 20, attributes := #[] }, { accessFlags := 1025, nameIndex := 23, descriptorIndex := 24, attributes := #[] }] 1537 31 #[] #[])
  fields := #[]
  methods := #[k22m0, k22m1]
  instanceTypes := #[]
  staticTypes := #[]
  resolved := Array.replicate 53 none
  statics := none }

def pool23 : Array CpInfo := pool [(1, .fieldref 2 3), (0, .class_ 4), (0, .nameAndType 5 6), (0, u "java/util/ArrayList$Itr"), (0, u "this$0"), (0, u "Ljava/util/ArrayList;"), (0, .methodref 8 9), (0, .class_ 10), (0, .nameAndType 11 12), (0, u "java/lang/Object"), (0, u "<init>"), (0, u "()V"), (0, .fieldref 2 14), (0, .nameAndType 15 16), (0, u "lastRet"), (0, u "I"), (0, .fieldref 18 19), (0, .class_ 20), (0, .nameAndType 21 16), (0, u "java/util/ArrayList"), (0, u "modCount"), (0, .fieldref 2 23), (0, .nameAndType 24 16), (0, u "expectedModCount"), (0, .fieldref 2 26), (0, .nameAndType 27 16), (0, u "cursor"), (0, .fieldref 18 29), (0, .nameAndType 30 16), (0, u "size"), (0, .methodref 2 32), (0, .nameAndType 33 12), (0, u "checkForComodification"), (3, .fieldref 18 38), (0, .nameAndType 39 40), (0, u "elementData"), (0, u "[Ljava/lang/Object;"), (28, .class_ 70), (0, u "java/util/Iterator"), (0, u "(Ljava/util/ArrayList;)V"), (8, u "hasNext"), (0, u "()Z"), (1, u "next"), (0, u "()Ljava/lang/Object;")] 19

def k23c0 : Code := { maxStack := 2, maxLocals := 2, code := jdk_49_method_1_code, exceptionTable := #[], attributes := #[] }
def k23m0 : Method := { name := "<init>", desc := "(Ljava/util/ArrayList;)V", sig := { parameters := [(.object "java/util/ArrayList")], returnType := none }, accessFlags := 0, code := some k23c0 }
def k23c1 : Code := { maxStack := 2, maxLocals := 1, code := jdk_49_method_2_code, exceptionTable := #[], attributes := #[] }
def k23m1 : Method := { name := "hasNext", desc := "()Z", sig := { parameters := [], returnType := some .boolean }, accessFlags := 1, code := some k23c1 }
def k23c2 : Code := { maxStack := 4, maxLocals := 3, code := jdk_49_method_3_code, exceptionTable := #[], attributes := #[] }
def k23m2 : Method := { name := "next", desc := "()Ljava/lang/Object;", sig := { parameters := [], returnType := some (.object "java/lang/Object") }, accessFlags := 1, code := some k23c2 }
def k23c3 : Code := { maxStack := 2, maxLocals := 1, code := jdk_49_method_6_code, exceptionTable := #[], attributes := #[] }
def k23m3 : Method := { name := "checkForComodification", desc := "()V", sig := { parameters := [], returnType := none }, accessFlags := 16, code := some k23c3 }
/-- java/util/ArrayList$Itr -/
def k23 : Class := { plain "java/util/ArrayList$Itr" (some 0) with
  accessFlags := 32
  interfaces := #[22]
  cf := some (fileOf pool23 2 #[.nestHost 18] #[{ accessFlags := 0, nameIndex := 11, descriptorIndex := 71, attributes := #[] }, { accessFlags := 1, nameIndex := 80, descriptorIndex := 81, attributes := #[] }, { accessFlags := 1, nameIndex := 83, descriptorIndex := 84, attributes := #[] }, { accessFlags := 16, nameIndex := 33, descriptorIndex := 12, attributes := #[] }] 32 8 #[69] #[{ accessFlags := 0, nameIndex := 27, descriptorIndex := 16, attributes := #[] }, { accessFlags := 0, nameIndex := 15, descriptorIndex := 16, attributes := #[] }, { accessFlags := 0, nameIndex := 24, descriptorIndex := 16, attributes := #[] }, { accessFlags := 4112, nameIndex := 5, descriptorIndex := 6, attributes := #[] }])
  fields := #[{ name := "cursor", type := .int, accessFlags := 0, slot := 0, constantValue := 0 }, { name := "lastRet", type := .int, accessFlags := 0, slot := 1, constantValue := 0 }, { name := "expectedModCount", type := .int, accessFlags := 0, slot := 2, constantValue := 0 }, { name := "this$0", type := (.object "java/util/ArrayList"), accessFlags := 4112, slot := 3, constantValue := 0 }]
  methods := #[k23m0, k23m1, k23m2, k23m3]
  instanceTypes := #[.int, .int, .int, (.object "java/util/ArrayList")]
  staticTypes := #[]
  resolved := Array.replicate 104 none
  statics := none }

def pool24 : Array CpInfo := pool [(1, .methodref 2 3), (0, .class_ 4), (0, .nameAndType 5 6), (0, u "java/lang/Object"), (0, u "<init>"), (0, u "()V"), (0, .class_ 8), (0, u "java/lang/Record")] 13

def k24c0 : Code := { maxStack := 1, maxLocals := 1, code := jdk_30_method_1_code, exceptionTable := #[], attributes := #[] }
def k24m0 : Method := { name := "<init>", desc := "()V", sig := { parameters := [], returnType := none }, accessFlags := 4, code := some k24c0 }
/-- java/lang/Record -/
def k24 : Class := { plain "java/lang/Record" (some 0) with
  accessFlags := 1057
  interfaces := #[]
  cf := some (fileOf pool24 7 #[] #[{ accessFlags := 4, nameIndex := 5, descriptorIndex := 6, attributes := #[] }] 1057 2 #[] #[])
  fields := #[]
  methods := #[k24m0]
  instanceTypes := #[]
  staticTypes := #[]
  resolved := Array.replicate 22 none
  statics := none }

def pool25 : Array CpInfo := pool [(1, .methodref 2 3), (0, .class_ 4), (0, .nameAndType 5 6), (0, u "java/lang/Record"), (0, u "<init>"), (0, u "()V"), (0, .fieldref 8 9), (0, .class_ 10), (0, .nameAndType 11 12), (0, u "com/example/dayweave/dayweave/model/Range"), (0, u "min"), (0, u "I"), (0, .fieldref 8 14), (0, .nameAndType 15 12), (0, u "max"), (12, u "(II)V"), (7, u "()I")] 22

def k25c0 : Code := { maxStack := 2, maxLocals := 3, code := prog_11_method_1_code, exceptionTable := #[], attributes := #[] }
def k25m0 : Method := { name := "<init>", desc := "(II)V", sig := { parameters := [.int, .int], returnType := none }, accessFlags := 1, code := some k25c0 }
def k25c1 : Code := { maxStack := 1, maxLocals := 1, code := prog_11_method_6_code, exceptionTable := #[], attributes := #[] }
def k25m1 : Method := { name := "min", desc := "()I", sig := { parameters := [], returnType := some .int }, accessFlags := 1, code := some k25c1 }
def k25c2 : Code := { maxStack := 1, maxLocals := 1, code := prog_11_method_7_code, exceptionTable := #[], attributes := #[] }
def k25m2 : Method := { name := "max", desc := "()I", sig := { parameters := [], returnType := some .int }, accessFlags := 1, code := some k25c2 }
/-- com/example/dayweave/dayweave/model/Range -/
def k25 : Class := { plain "com/example/dayweave/dayweave/model/Range" (some 24) with
  accessFlags := 49
  interfaces := #[]
  cf := some (fileOf pool25 8 #[] #[{ accessFlags := 1, nameIndex := 5, descriptorIndex := 28, attributes := #[] }, { accessFlags := 1, nameIndex := 11, descriptorIndex := 36, attributes := #[] }, { accessFlags := 1, nameIndex := 15, descriptorIndex := 36, attributes := #[] }] 49 2 #[] #[{ accessFlags := 18, nameIndex := 11, descriptorIndex := 12, attributes := #[] }, { accessFlags := 18, nameIndex := 15, descriptorIndex := 12, attributes := #[] }])
  fields := #[{ name := "min", type := .int, accessFlags := 18, slot := 0, constantValue := 0 }, { name := "max", type := .int, accessFlags := 18, slot := 1, constantValue := 0 }]
  methods := #[k25m0, k25m1, k25m2]
  instanceTypes := #[.int, .int]
  staticTypes := #[]
  resolved := Array.replicate 59 none
  statics := none }

/-- the primitive byte -/
def k26 : Class := { plain "byte" none with kind := .primitive 'B', accessFlags := 0x411 }
/-- [B -/
def k27 : Class := { plain "[B" (some 0) with kind := .array 26 .byte, interfaces := #[13, 14], accessFlags := 1041 }

/-- the primitive int -/
def k28 : Class := { plain "int" none with kind := .primitive 'I', accessFlags := 0x411 }
/-- [I -/
def k29 : Class := { plain "[I" (some 0) with kind := .array 28 .int, interfaces := #[13, 14], accessFlags := 1041 }

/-- the primitive long -/
def k30 : Class := { plain "long" none with kind := .primitive 'J', accessFlags := 0x411 }
/-- [J -/
def k31 : Class := { plain "[J" (some 0) with kind := .array 30 .long, interfaces := #[13, 14], accessFlags := 1041 }

/-- [Ljava/lang/Integer; -/
def k32 : Class := { plain "[Ljava/lang/Integer;" (some 0) with kind := .array 20 (.object "java/lang/Integer"), interfaces := #[13, 14], accessFlags := 1041 }

/-- [Ljava/lang/Object; -/
def k33 : Class := { plain "[Ljava/lang/Object;" (some 0) with kind := .array 0 (.object "java/lang/Object"), interfaces := #[13, 14], accessFlags := 1041 }

def k34 : Class := { plain "[[J" (some 0) with kind := .array 31 (.array .long), interfaces := #[13, 14], accessFlags := 1041 }
def heap : Heap := #[{ cls := 15, slots := #[.long 0, .int 0, .ref 3, .ref 4], vm := .statics 15 },
  { cls := 21, slots := #[.int 0, .int 127, .ref 2, .null, .int 0], vm := .statics 21 },
  { cls := 32, slots := #[.ref 5, .ref 6, .ref 7, .ref 8, .ref 9, .ref 10, .ref 11, .ref 12, .ref 13, .ref 14, .ref 15, .ref 16, .ref 17, .ref 18, .ref 19, .ref 20, .ref 21, .ref 22, .ref 23, .ref 24, .ref 25, .ref 26, .ref 27, .ref 28, .ref 29, .ref 30, .ref 31, .ref 32, .ref 33, .ref 34, .ref 35, .ref 36, .ref 37, .ref 38, .ref 39, .ref 40, .ref 41, .ref 42, .ref 43, .ref 44, .ref 45, .ref 46, .ref 47, .ref 48, .ref 49, .ref 50, .ref 51, .ref 52, .ref 53, .ref 54, .ref 55, .ref 56, .ref 57, .ref 58, .ref 59, .ref 60, .ref 61, .ref 62, .ref 63, .ref 64, .ref 65, .ref 66, .ref 67, .ref 68, .ref 69, .ref 70, .ref 71, .ref 72, .ref 73, .ref 74, .ref 75, .ref 76, .ref 77, .ref 78, .ref 79, .ref 80, .ref 81, .ref 82, .ref 83, .ref 84, .ref 85, .ref 86, .ref 87, .ref 88, .ref 89, .ref 90, .ref 91, .ref 92, .ref 93, .ref 94, .ref 95, .ref 96, .ref 97, .ref 98, .ref 99, .ref 100, .ref 101, .ref 102, .ref 103, .ref 104, .ref 105, .ref 106, .ref 107, .ref 108, .ref 109, .ref 110, .ref 111, .ref 112, .ref 113, .ref 114, .ref 115, .ref 116, .ref 117, .ref 118, .ref 119, .ref 120, .ref 121, .ref 122, .ref 123, .ref 124, .ref 125, .ref 126, .ref 127, .ref 128, .ref 129, .ref 130, .ref 131, .ref 132, .ref 133, .ref 134, .ref 135, .ref 136, .ref 137, .ref 138, .ref 139, .ref 140, .ref 141, .ref 142, .ref 143, .ref 144, .ref 145, .ref 146, .ref 147, .ref 148, .ref 149, .ref 150, .ref 151, .ref 152, .ref 153, .ref 154, .ref 155, .ref 156, .ref 157, .ref 158, .ref 159, .ref 160, .ref 161, .ref 162, .ref 163, .ref 164, .ref 165, .ref 166, .ref 167, .ref 168, .ref 169, .ref 170, .ref 171, .ref 172, .ref 173, .ref 174, .ref 175, .ref 176, .ref 177, .ref 178, .ref 179, .ref 180, .ref 181, .ref 182, .ref 183, .ref 184, .ref 185, .ref 186, .ref 187, .ref 188, .ref 189, .ref 190, .ref 191, .ref 192, .ref 193, .ref 194, .ref 195, .ref 196, .ref 197, .ref 198, .ref 199, .ref 200, .ref 201, .ref 202, .ref 203, .ref 204, .ref 205, .ref 206, .ref 207, .ref 208, .ref 209, .ref 210, .ref 211, .ref 212, .ref 213, .ref 214, .ref 215, .ref 216, .ref 217, .ref 218, .ref 219, .ref 220, .ref 221, .ref 222, .ref 223, .ref 224, .ref 225, .ref 226, .ref 227, .ref 228, .ref 229, .ref 230, .ref 231, .ref 232, .ref 233, .ref 234, .ref 235, .ref 236, .ref 237, .ref 238, .ref 239, .ref 240, .ref 241, .ref 242, .ref 243, .ref 244, .ref 245, .ref 246, .ref 247, .ref 248, .ref 249, .ref 250, .ref 251, .ref 252, .ref 253, .ref 254, .ref 255, .ref 256, .ref 257, .ref 258, .ref 259, .ref 260], vm := .none },
  { cls := 33, slots := #[], vm := .none },
  { cls := 33, slots := #[], vm := .none },
  { cls := 20, slots := #[.int (-128)], vm := .none },
  { cls := 20, slots := #[.int (-127)], vm := .none },
  { cls := 20, slots := #[.int (-126)], vm := .none },
  { cls := 20, slots := #[.int (-125)], vm := .none },
  { cls := 20, slots := #[.int (-124)], vm := .none },
  { cls := 20, slots := #[.int (-123)], vm := .none },
  { cls := 20, slots := #[.int (-122)], vm := .none },
  { cls := 20, slots := #[.int (-121)], vm := .none },
  { cls := 20, slots := #[.int (-120)], vm := .none },
  { cls := 20, slots := #[.int (-119)], vm := .none },
  { cls := 20, slots := #[.int (-118)], vm := .none },
  { cls := 20, slots := #[.int (-117)], vm := .none },
  { cls := 20, slots := #[.int (-116)], vm := .none },
  { cls := 20, slots := #[.int (-115)], vm := .none },
  { cls := 20, slots := #[.int (-114)], vm := .none },
  { cls := 20, slots := #[.int (-113)], vm := .none },
  { cls := 20, slots := #[.int (-112)], vm := .none },
  { cls := 20, slots := #[.int (-111)], vm := .none },
  { cls := 20, slots := #[.int (-110)], vm := .none },
  { cls := 20, slots := #[.int (-109)], vm := .none },
  { cls := 20, slots := #[.int (-108)], vm := .none },
  { cls := 20, slots := #[.int (-107)], vm := .none },
  { cls := 20, slots := #[.int (-106)], vm := .none },
  { cls := 20, slots := #[.int (-105)], vm := .none },
  { cls := 20, slots := #[.int (-104)], vm := .none },
  { cls := 20, slots := #[.int (-103)], vm := .none },
  { cls := 20, slots := #[.int (-102)], vm := .none },
  { cls := 20, slots := #[.int (-101)], vm := .none },
  { cls := 20, slots := #[.int (-100)], vm := .none },
  { cls := 20, slots := #[.int (-99)], vm := .none },
  { cls := 20, slots := #[.int (-98)], vm := .none },
  { cls := 20, slots := #[.int (-97)], vm := .none },
  { cls := 20, slots := #[.int (-96)], vm := .none },
  { cls := 20, slots := #[.int (-95)], vm := .none },
  { cls := 20, slots := #[.int (-94)], vm := .none },
  { cls := 20, slots := #[.int (-93)], vm := .none },
  { cls := 20, slots := #[.int (-92)], vm := .none },
  { cls := 20, slots := #[.int (-91)], vm := .none },
  { cls := 20, slots := #[.int (-90)], vm := .none },
  { cls := 20, slots := #[.int (-89)], vm := .none },
  { cls := 20, slots := #[.int (-88)], vm := .none },
  { cls := 20, slots := #[.int (-87)], vm := .none },
  { cls := 20, slots := #[.int (-86)], vm := .none },
  { cls := 20, slots := #[.int (-85)], vm := .none },
  { cls := 20, slots := #[.int (-84)], vm := .none },
  { cls := 20, slots := #[.int (-83)], vm := .none },
  { cls := 20, slots := #[.int (-82)], vm := .none },
  { cls := 20, slots := #[.int (-81)], vm := .none },
  { cls := 20, slots := #[.int (-80)], vm := .none },
  { cls := 20, slots := #[.int (-79)], vm := .none },
  { cls := 20, slots := #[.int (-78)], vm := .none },
  { cls := 20, slots := #[.int (-77)], vm := .none },
  { cls := 20, slots := #[.int (-76)], vm := .none },
  { cls := 20, slots := #[.int (-75)], vm := .none },
  { cls := 20, slots := #[.int (-74)], vm := .none },
  { cls := 20, slots := #[.int (-73)], vm := .none },
  { cls := 20, slots := #[.int (-72)], vm := .none },
  { cls := 20, slots := #[.int (-71)], vm := .none },
  { cls := 20, slots := #[.int (-70)], vm := .none },
  { cls := 20, slots := #[.int (-69)], vm := .none },
  { cls := 20, slots := #[.int (-68)], vm := .none },
  { cls := 20, slots := #[.int (-67)], vm := .none },
  { cls := 20, slots := #[.int (-66)], vm := .none },
  { cls := 20, slots := #[.int (-65)], vm := .none },
  { cls := 20, slots := #[.int (-64)], vm := .none },
  { cls := 20, slots := #[.int (-63)], vm := .none },
  { cls := 20, slots := #[.int (-62)], vm := .none },
  { cls := 20, slots := #[.int (-61)], vm := .none },
  { cls := 20, slots := #[.int (-60)], vm := .none },
  { cls := 20, slots := #[.int (-59)], vm := .none },
  { cls := 20, slots := #[.int (-58)], vm := .none },
  { cls := 20, slots := #[.int (-57)], vm := .none },
  { cls := 20, slots := #[.int (-56)], vm := .none },
  { cls := 20, slots := #[.int (-55)], vm := .none },
  { cls := 20, slots := #[.int (-54)], vm := .none },
  { cls := 20, slots := #[.int (-53)], vm := .none },
  { cls := 20, slots := #[.int (-52)], vm := .none },
  { cls := 20, slots := #[.int (-51)], vm := .none },
  { cls := 20, slots := #[.int (-50)], vm := .none },
  { cls := 20, slots := #[.int (-49)], vm := .none },
  { cls := 20, slots := #[.int (-48)], vm := .none },
  { cls := 20, slots := #[.int (-47)], vm := .none },
  { cls := 20, slots := #[.int (-46)], vm := .none },
  { cls := 20, slots := #[.int (-45)], vm := .none },
  { cls := 20, slots := #[.int (-44)], vm := .none },
  { cls := 20, slots := #[.int (-43)], vm := .none },
  { cls := 20, slots := #[.int (-42)], vm := .none },
  { cls := 20, slots := #[.int (-41)], vm := .none },
  { cls := 20, slots := #[.int (-40)], vm := .none },
  { cls := 20, slots := #[.int (-39)], vm := .none },
  { cls := 20, slots := #[.int (-38)], vm := .none },
  { cls := 20, slots := #[.int (-37)], vm := .none },
  { cls := 20, slots := #[.int (-36)], vm := .none },
  { cls := 20, slots := #[.int (-35)], vm := .none },
  { cls := 20, slots := #[.int (-34)], vm := .none },
  { cls := 20, slots := #[.int (-33)], vm := .none },
  { cls := 20, slots := #[.int (-32)], vm := .none },
  { cls := 20, slots := #[.int (-31)], vm := .none },
  { cls := 20, slots := #[.int (-30)], vm := .none },
  { cls := 20, slots := #[.int (-29)], vm := .none },
  { cls := 20, slots := #[.int (-28)], vm := .none },
  { cls := 20, slots := #[.int (-27)], vm := .none },
  { cls := 20, slots := #[.int (-26)], vm := .none },
  { cls := 20, slots := #[.int (-25)], vm := .none },
  { cls := 20, slots := #[.int (-24)], vm := .none },
  { cls := 20, slots := #[.int (-23)], vm := .none },
  { cls := 20, slots := #[.int (-22)], vm := .none },
  { cls := 20, slots := #[.int (-21)], vm := .none },
  { cls := 20, slots := #[.int (-20)], vm := .none },
  { cls := 20, slots := #[.int (-19)], vm := .none },
  { cls := 20, slots := #[.int (-18)], vm := .none },
  { cls := 20, slots := #[.int (-17)], vm := .none },
  { cls := 20, slots := #[.int (-16)], vm := .none },
  { cls := 20, slots := #[.int (-15)], vm := .none },
  { cls := 20, slots := #[.int (-14)], vm := .none },
  { cls := 20, slots := #[.int (-13)], vm := .none },
  { cls := 20, slots := #[.int (-12)], vm := .none },
  { cls := 20, slots := #[.int (-11)], vm := .none },
  { cls := 20, slots := #[.int (-10)], vm := .none },
  { cls := 20, slots := #[.int (-9)], vm := .none },
  { cls := 20, slots := #[.int (-8)], vm := .none },
  { cls := 20, slots := #[.int (-7)], vm := .none },
  { cls := 20, slots := #[.int (-6)], vm := .none },
  { cls := 20, slots := #[.int (-5)], vm := .none },
  { cls := 20, slots := #[.int (-4)], vm := .none },
  { cls := 20, slots := #[.int (-3)], vm := .none },
  { cls := 20, slots := #[.int (-2)], vm := .none },
  { cls := 20, slots := #[.int (-1)], vm := .none },
  { cls := 20, slots := #[.int 0], vm := .none },
  { cls := 20, slots := #[.int 1], vm := .none },
  { cls := 20, slots := #[.int 2], vm := .none },
  { cls := 20, slots := #[.int 3], vm := .none },
  { cls := 20, slots := #[.int 4], vm := .none },
  { cls := 20, slots := #[.int 5], vm := .none },
  { cls := 20, slots := #[.int 6], vm := .none },
  { cls := 20, slots := #[.int 7], vm := .none },
  { cls := 20, slots := #[.int 8], vm := .none },
  { cls := 20, slots := #[.int 9], vm := .none },
  { cls := 20, slots := #[.int 10], vm := .none },
  { cls := 20, slots := #[.int 11], vm := .none },
  { cls := 20, slots := #[.int 12], vm := .none },
  { cls := 20, slots := #[.int 13], vm := .none },
  { cls := 20, slots := #[.int 14], vm := .none },
  { cls := 20, slots := #[.int 15], vm := .none },
  { cls := 20, slots := #[.int 16], vm := .none },
  { cls := 20, slots := #[.int 17], vm := .none },
  { cls := 20, slots := #[.int 18], vm := .none },
  { cls := 20, slots := #[.int 19], vm := .none },
  { cls := 20, slots := #[.int 20], vm := .none },
  { cls := 20, slots := #[.int 21], vm := .none },
  { cls := 20, slots := #[.int 22], vm := .none },
  { cls := 20, slots := #[.int 23], vm := .none },
  { cls := 20, slots := #[.int 24], vm := .none },
  { cls := 20, slots := #[.int 25], vm := .none },
  { cls := 20, slots := #[.int 26], vm := .none },
  { cls := 20, slots := #[.int 27], vm := .none },
  { cls := 20, slots := #[.int 28], vm := .none },
  { cls := 20, slots := #[.int 29], vm := .none },
  { cls := 20, slots := #[.int 30], vm := .none },
  { cls := 20, slots := #[.int 31], vm := .none },
  { cls := 20, slots := #[.int 32], vm := .none },
  { cls := 20, slots := #[.int 33], vm := .none },
  { cls := 20, slots := #[.int 34], vm := .none },
  { cls := 20, slots := #[.int 35], vm := .none },
  { cls := 20, slots := #[.int 36], vm := .none },
  { cls := 20, slots := #[.int 37], vm := .none },
  { cls := 20, slots := #[.int 38], vm := .none },
  { cls := 20, slots := #[.int 39], vm := .none },
  { cls := 20, slots := #[.int 40], vm := .none },
  { cls := 20, slots := #[.int 41], vm := .none },
  { cls := 20, slots := #[.int 42], vm := .none },
  { cls := 20, slots := #[.int 43], vm := .none },
  { cls := 20, slots := #[.int 44], vm := .none },
  { cls := 20, slots := #[.int 45], vm := .none },
  { cls := 20, slots := #[.int 46], vm := .none },
  { cls := 20, slots := #[.int 47], vm := .none },
  { cls := 20, slots := #[.int 48], vm := .none },
  { cls := 20, slots := #[.int 49], vm := .none },
  { cls := 20, slots := #[.int 50], vm := .none },
  { cls := 20, slots := #[.int 51], vm := .none },
  { cls := 20, slots := #[.int 52], vm := .none },
  { cls := 20, slots := #[.int 53], vm := .none },
  { cls := 20, slots := #[.int 54], vm := .none },
  { cls := 20, slots := #[.int 55], vm := .none },
  { cls := 20, slots := #[.int 56], vm := .none },
  { cls := 20, slots := #[.int 57], vm := .none },
  { cls := 20, slots := #[.int 58], vm := .none },
  { cls := 20, slots := #[.int 59], vm := .none },
  { cls := 20, slots := #[.int 60], vm := .none },
  { cls := 20, slots := #[.int 61], vm := .none },
  { cls := 20, slots := #[.int 62], vm := .none },
  { cls := 20, slots := #[.int 63], vm := .none },
  { cls := 20, slots := #[.int 64], vm := .none },
  { cls := 20, slots := #[.int 65], vm := .none },
  { cls := 20, slots := #[.int 66], vm := .none },
  { cls := 20, slots := #[.int 67], vm := .none },
  { cls := 20, slots := #[.int 68], vm := .none },
  { cls := 20, slots := #[.int 69], vm := .none },
  { cls := 20, slots := #[.int 70], vm := .none },
  { cls := 20, slots := #[.int 71], vm := .none },
  { cls := 20, slots := #[.int 72], vm := .none },
  { cls := 20, slots := #[.int 73], vm := .none },
  { cls := 20, slots := #[.int 74], vm := .none },
  { cls := 20, slots := #[.int 75], vm := .none },
  { cls := 20, slots := #[.int 76], vm := .none },
  { cls := 20, slots := #[.int 77], vm := .none },
  { cls := 20, slots := #[.int 78], vm := .none },
  { cls := 20, slots := #[.int 79], vm := .none },
  { cls := 20, slots := #[.int 80], vm := .none },
  { cls := 20, slots := #[.int 81], vm := .none },
  { cls := 20, slots := #[.int 82], vm := .none },
  { cls := 20, slots := #[.int 83], vm := .none },
  { cls := 20, slots := #[.int 84], vm := .none },
  { cls := 20, slots := #[.int 85], vm := .none },
  { cls := 20, slots := #[.int 86], vm := .none },
  { cls := 20, slots := #[.int 87], vm := .none },
  { cls := 20, slots := #[.int 88], vm := .none },
  { cls := 20, slots := #[.int 89], vm := .none },
  { cls := 20, slots := #[.int 90], vm := .none },
  { cls := 20, slots := #[.int 91], vm := .none },
  { cls := 20, slots := #[.int 92], vm := .none },
  { cls := 20, slots := #[.int 93], vm := .none },
  { cls := 20, slots := #[.int 94], vm := .none },
  { cls := 20, slots := #[.int 95], vm := .none },
  { cls := 20, slots := #[.int 96], vm := .none },
  { cls := 20, slots := #[.int 97], vm := .none },
  { cls := 20, slots := #[.int 98], vm := .none },
  { cls := 20, slots := #[.int 99], vm := .none },
  { cls := 20, slots := #[.int 100], vm := .none },
  { cls := 20, slots := #[.int 101], vm := .none },
  { cls := 20, slots := #[.int 102], vm := .none },
  { cls := 20, slots := #[.int 103], vm := .none },
  { cls := 20, slots := #[.int 104], vm := .none },
  { cls := 20, slots := #[.int 105], vm := .none },
  { cls := 20, slots := #[.int 106], vm := .none },
  { cls := 20, slots := #[.int 107], vm := .none },
  { cls := 20, slots := #[.int 108], vm := .none },
  { cls := 20, slots := #[.int 109], vm := .none },
  { cls := 20, slots := #[.int 110], vm := .none },
  { cls := 20, slots := #[.int 111], vm := .none },
  { cls := 20, slots := #[.int 112], vm := .none },
  { cls := 20, slots := #[.int 113], vm := .none },
  { cls := 20, slots := #[.int 114], vm := .none },
  { cls := 20, slots := #[.int 115], vm := .none },
  { cls := 20, slots := #[.int 116], vm := .none },
  { cls := 20, slots := #[.int 117], vm := .none },
  { cls := 20, slots := #[.int 118], vm := .none },
  { cls := 20, slots := #[.int 119], vm := .none },
  { cls := 20, slots := #[.int 120], vm := .none },
  { cls := 20, slots := #[.int 121], vm := .none },
  { cls := 20, slots := #[.int 122], vm := .none },
  { cls := 20, slots := #[.int 123], vm := .none },
  { cls := 20, slots := #[.int 124], vm := .none },
  { cls := 20, slots := #[.int 125], vm := .none },
  { cls := 20, slots := #[.int 126], vm := .none },
  { cls := 20, slots := #[.int 127], vm := .none }]
def classes : Array Class := #[k0, k1, k2, k3, k4, k5, k6, k7, k8, k9, k10, k11, k12, k13, k14, k15, k16, k17, k18, k19, k20, k21, k22, k23, k24, k25, k26, k27, k28, k29, k30, k31, k32, k33, k34]
def interned : List (Array UInt16 × Addr) := []
def slotsUsed : Nat := 521
def theMethod : MethodId := ⟨1, 5⟩
def args0 : Array Value := #[.int 9, .int 17, .int 25, .int 33, .int 41, .int 49]
def aboutOver (below : List Frame) : State where
  vm := { classes := classes, interned := interned.toArray }
  heap := heap
  slotsUsed := slotsUsed
  threads := #[{ frames := .invoking theMethod args0 :: below }]
def below0 : List Frame := [.native { method := ⟨0, 0⟩, args := #[] }]
def about1 : State := aboutOver below0
def p0 : Program := .bare "" "" ""
def e0 : Env := launch0.env 0 0 0
theorem w_frames : about1.frames = Frame.invoking theMethod args0 :: below0 := rfl
set_option maxRecDepth 65536 in
theorem w_args : argsFit about1.vm theMethod args0 = true := by decide +kernel
set_option maxRecDepth 65536 in
theorem w_heap : heapFits about1 = true := by decide +kernel
set_option maxRecDepth 65536 in
theorem w_runnable : about1.curStatus? = some .runnable := by decide +kernel
set_option maxRecDepth 65536 in
theorem w_alone : about1.alone = true := by decide +kernel
set_option maxRecDepth 65536 in
theorem w_named : about1.methodNamed? x = some theMethod := by decide +kernel
set_option maxRecDepth 65536 in
theorem w_hears : about1.hears theMethod below0 = true := by decide +kernel
set_option maxRecDepth 65536 in
theorem w_ripe : about1.ripe theMethod args0 below0 = true := by decide +kernel
theorem w_running : about1.status = .running := rfl
set_option maxRecDepth 65536 in
theorem w_room : about1.hasRoom e0.platform room_1 = true :=
  launch0.hasRoom_least _ room_1 (by decide +kernel) (by decide +kernel) (by decide +kernel) (by decide +kernel) (by decide +kernel) (by decide +kernel)
theorem allAtoms_all (ts : List Jvm.Cond) (a : Array Jvm.Value) (st : Jvm.State) : (allAtoms ts).before a st = ts.all (fun c => c.before a st) := by
  induction ts with
  | nil => rfl
  | cons c t ih =>
    show (Jvm.Cond.and c (allAtoms t)).before a st = _
    rw [Jvm.Cond.before_and, ih, List.all_cons]
def words1 : List Jvm.Cond := Jvm.Cond.code x code maxLocals ret :: tables_1
/-- a 'code' word, met by the world's own term for the bytes: nothing is compared byte by byte -/
theorem code_word {y : MethodName} {bytes : ByteArray} {mx : Nat} {rt : Option FieldType} {a : Array Value} {s : State} {m : MethodId} {meth : Method} {c : Code} (h1 : s.methodNamed? y = some m) (h2 : s.vm.method? m = some meth) (h3 : meth.code = some c) (h4 : c.code = bytes)
    (h5 : (c.maxLocals == mx && c.exceptionTable.isEmpty && decide (c.maxStack ≤ mostOperands) && decide (meth.sig.returnType = rt) && !meth.locks && decide (parseMethodDescriptor y.desc = some meth.sig)) = true) : (Jvm.Cond.code y bytes mx rt).before a s = true := by
  simp only [Bool.and_eq_true, beq_iff_eq, Bool.not_eq_true', decide_eq_true_eq] at h5
  obtain ⟨⟨⟨⟨⟨g1, g2⟩, g3⟩, g4⟩, g5⟩, g6⟩ := h5
  simp [Cond.before, Cond.holds, Cond.value, h1, h2, h3, h4, g1, g2, g3, g4, g5, g6]
def isCode : Jvm.Cond → Bool
  | .code _ _ _ _ => true
  | _ => false
theorem all_split {L : List Jvm.Cond} {P : Jvm.Cond → Bool} (h1 : L.all (fun c => isCode c || P c) = true) (h2 : ∀ c ∈ L.filter isCode, P c = true) : L.all P = true := by
  refine List.all_eq_true.mpr fun c hc => ?_
  have h := List.all_eq_true.mp h1 c hc
  rcases Bool.eq_false_or_eq_true (isCode c) with hi | hi
  · exact h2 c (List.mem_filter.mpr ⟨hc, hi⟩)
  · simpa [hi] using h
set_option maxRecDepth 65536 in
theorem w_c0 : (Jvm.Cond.code x code maxLocals ret).before args0 about1 = true := code_word (m := ⟨1, 5⟩) (meth := k1m5) (c := k1c5) (by decide +kernel) rfl rfl rfl (by decide +kernel)
set_option maxRecDepth 65536 in
theorem w_c1 : (Jvm.Cond.code ({ cls := "com/example/dayweave/dayweave/solve/TemporalNetwork", name := "<init>", desc := "(I)V" } : Jvm.MethodName) prog_67_method_1_code (3 : Nat) (Option.none : Option Jvm.ClassFile.FieldType)).before args0 about1 = true := code_word (m := ⟨2, 0⟩) (meth := k2m0) (c := k2c0) (by decide +kernel) rfl rfl rfl (by decide +kernel)
set_option maxRecDepth 65536 in
theorem w_c2 : (Jvm.Cond.code ({ cls := "java/lang/Object", name := "<init>", desc := "()V" } : Jvm.MethodName) object_method_1_code (1 : Nat) (Option.none : Option Jvm.ClassFile.FieldType)).before args0 about1 = true := code_word (m := ⟨0, 0⟩) (meth := k0m0) (c := k0c0) (by decide +kernel) rfl rfl rfl (by decide +kernel)
set_option maxRecDepth 65536 in
theorem w_c3 : (Jvm.Cond.code ({ cls := "java/util/Arrays", name := "fill", desc := "([JJ)V" } : Jvm.MethodName) jdk_65_method_101_code (5 : Nat) (Option.none : Option Jvm.ClassFile.FieldType)).before args0 about1 = true := code_word (m := ⟨3, 1⟩) (meth := k3m1) (c := k3c1) (by decide +kernel) rfl rfl rfl (by decide +kernel)
set_option maxRecDepth 65536 in
theorem w_c4 : (Jvm.Cond.code ({ cls := "com/example/dayweave/dayweave/solve/TemporalNetworkMinimisePinLaw", name := "put", desc := "(Lcom/example/dayweave/dayweave/solve/TemporalNetwork;III)V" } : Jvm.MethodName) method_5_code (4 : Nat) (Option.none : Option Jvm.ClassFile.FieldType)).before args0 about1 = true := code_word (m := ⟨1, 4⟩) (meth := k1m4) (c := k1c4) (by decide +kernel) rfl rfl rfl (by decide +kernel)
set_option maxRecDepth 65536 in
theorem w_c5 : (Jvm.Cond.code ({ cls := "com/example/dayweave/dayweave/solve/TemporalNetwork", name := "atMost", desc := "(IIJ)V" } : Jvm.MethodName) prog_67_method_2_code (5 : Nat) (Option.none : Option Jvm.ClassFile.FieldType)).before args0 about1 = true := code_word (m := ⟨2, 1⟩) (meth := k2m1) (c := k2c1) (by decide +kernel) rfl rfl rfl (by decide +kernel)
set_option maxRecDepth 65536 in
theorem w_c6 : (Jvm.Cond.code ({ cls := "java/lang/Math", name := "min", desc := "(JJ)J" } : Jvm.MethodName) jdk_29_method_70_code (4 : Nat) (Option.some Jvm.ClassFile.FieldType.long)).before args0 about1 = true := code_word (m := ⟨4, 3⟩) (meth := k4m3) (c := k4c3) (by decide +kernel) rfl rfl rfl (by decide +kernel)
set_option maxRecDepth 65536 in
theorem w_c7 : (Jvm.Cond.code ({ cls := "com/example/dayweave/dayweave/solve/TemporalNetwork", name := "minimise", desc := "()Z" } : Jvm.MethodName) prog_67_method_4_code (9 : Nat) (Option.some Jvm.ClassFile.FieldType.boolean)).before args0 about1 = true := code_word (m := ⟨2, 2⟩) (meth := k2m2) (c := k2c2) (by decide +kernel) rfl rfl rfl (by decide +kernel)
set_option maxRecDepth 65536 in
theorem w_c8 : (Jvm.Cond.code ({ cls := "com/example/dayweave/dayweave/solve/TemporalNetworkMinimisePinLaw", name := "w", desc := "(I)J" } : Jvm.MethodName) method_3_code (1 : Nat) (Option.some Jvm.ClassFile.FieldType.long)).before args0 about1 = true := code_word (m := ⟨1, 2⟩) (meth := k1m2) (c := k1c2) (by decide +kernel) rfl rfl rfl (by decide +kernel)
set_option maxRecDepth 65536 in
theorem w_c9 : (Jvm.Cond.code ({ cls := "com/example/dayweave/dayweave/solve/TemporalNetworkMinimisePinLaw", name := "absent", desc := "()J" } : Jvm.MethodName) method_2_code (0 : Nat) (Option.some Jvm.ClassFile.FieldType.long)).before args0 about1 = true := code_word (m := ⟨1, 1⟩) (meth := k1m1) (c := k1c1) (by decide +kernel) rfl rfl rfl (by decide +kernel)
set_option maxRecDepth 65536 in
theorem w_c10 : (Jvm.Cond.code ({ cls := "com/example/dayweave/dayweave/solve/TemporalNetworkMinimisePinLaw", name := "add", desc := "(JJ)J" } : Jvm.MethodName) method_4_code (6 : Nat) (Option.some Jvm.ClassFile.FieldType.long)).before args0 about1 = true := code_word (m := ⟨1, 3⟩) (meth := k1m3) (c := k1c3) (by decide +kernel) rfl rfl rfl (by decide +kernel)
set_option maxRecDepth 65536 in
theorem w_c11 : (Jvm.Cond.code ({ cls := "com/example/dayweave/dayweave/solve/TemporalNetwork", name := "newcomer", desc := "()Lcom/example/dayweave/dayweave/solve/TemporalNetwork$Newcomer;" } : Jvm.MethodName) prog_67_method_6_code (1 : Nat) (Option.some (Jvm.ClassFile.FieldType.object "com/example/dayweave/dayweave/solve/TemporalNetwork$Newcomer"))).before args0 about1 = true := code_word (m := ⟨2, 3⟩) (meth := k2m3) (c := k2c3) (by decide +kernel) rfl rfl rfl (by decide +kernel)
set_option maxRecDepth 65536 in
theorem w_c12 : (Jvm.Cond.code ({ cls := "com/example/dayweave/dayweave/solve/TemporalNetwork$Newcomer", name := "<init>", desc := "(Lcom/example/dayweave/dayweave/solve/TemporalNetwork;)V" } : Jvm.MethodName) prog_68_method_1_code (2 : Nat) (Option.none : Option Jvm.ClassFile.FieldType)).before args0 about1 = true := code_word (m := ⟨5, 0⟩) (meth := k5m0) (c := k5c0) (by decide +kernel) rfl rfl rfl (by decide +kernel)
set_option maxRecDepth 65536 in
theorem w_c13 : (Jvm.Cond.code ({ cls := "java/util/ArrayList", name := "<init>", desc := "()V" } : Jvm.MethodName) jdk_38_method_2_code (1 : Nat) (Option.none : Option Jvm.ClassFile.FieldType)).before args0 about1 = true := code_word (m := ⟨15, 0⟩) (meth := k15m0) (c := k15c0) (by decide +kernel) rfl rfl rfl (by decide +kernel)
set_option maxRecDepth 65536 in
theorem w_c14 : (Jvm.Cond.code ({ cls := "java/util/AbstractList", name := "<init>", desc := "()V" } : Jvm.MethodName) jdk_39_method_1_code (1 : Nat) (Option.none : Option Jvm.ClassFile.FieldType)).before args0 about1 = true := code_word (m := ⟨11, 0⟩) (meth := k11m0) (c := k11c0) (by decide +kernel) rfl rfl rfl (by decide +kernel)
set_option maxRecDepth 65536 in
theorem w_c15 : (Jvm.Cond.code ({ cls := "java/util/AbstractCollection", name := "<init>", desc := "()V" } : Jvm.MethodName) jdk_22_method_1_code (1 : Nat) (Option.none : Option Jvm.ClassFile.FieldType)).before args0 about1 = true := code_word (m := ⟨8, 0⟩) (meth := k8m0) (c := k8c0) (by decide +kernel) rfl rfl rfl (by decide +kernel)
set_option maxRecDepth 65536 in
theorem w_c16 : (Jvm.Cond.code ({ cls := "com/example/dayweave/dayweave/solve/TemporalNetwork$Newcomer", name := "atMostAfter", desc := "(IJ)V" } : Jvm.MethodName) prog_68_method_2_code (4 : Nat) (Option.none : Option Jvm.ClassFile.FieldType)).before args0 about1 = true := code_word (m := ⟨5, 1⟩) (meth := k5m1) (c := k5c1) (by decide +kernel) rfl rfl rfl (by decide +kernel)
set_option maxRecDepth 65536 in
theorem w_c17 : (Jvm.Cond.code ({ cls := "com/example/dayweave/dayweave/solve/TemporalNetwork$Newcomer", name := "note", desc := "(I)V" } : Jvm.MethodName) prog_68_method_4_code (2 : Nat) (Option.none : Option Jvm.ClassFile.FieldType)).before args0 about1 = true := code_word (m := ⟨5, 3⟩) (meth := k5m3) (c := k5c3) (by decide +kernel) rfl rfl rfl (by decide +kernel)
set_option maxRecDepth 65536 in
theorem w_c18 : (Jvm.Cond.code ({ cls := "java/lang/Integer", name := "valueOf", desc := "(I)Ljava/lang/Integer;" } : Jvm.MethodName) jdk_33_method_22_code (1 : Nat) (Option.some (Jvm.ClassFile.FieldType.object "java/lang/Integer"))).before args0 about1 = true := code_word (m := ⟨20, 0⟩) (meth := k20m0) (c := k20c0) (by decide +kernel) rfl rfl rfl (by decide +kernel)
set_option maxRecDepth 65536 in
theorem w_c19 : (Jvm.Cond.code ({ cls := "java/util/ArrayList", name := "add", desc := "(Ljava/lang/Object;)Z" } : Jvm.MethodName) jdk_38_method_25_code (2 : Nat) (Option.some Jvm.ClassFile.FieldType.boolean)).before args0 about1 = true := code_word (m := ⟨15, 4⟩) (meth := k15m4) (c := k15c4) (by decide +kernel) rfl rfl rfl (by decide +kernel)
set_option maxRecDepth 65536 in
theorem w_c20 : (Jvm.Cond.code ({ cls := "java/util/ArrayList", name := "add", desc := "(Ljava/lang/Object;[Ljava/lang/Object;I)V" } : Jvm.MethodName) jdk_38_method_24_code (4 : Nat) (Option.none : Option Jvm.ClassFile.FieldType)).before args0 about1 = true := code_word (m := ⟨15, 3⟩) (meth := k15m3) (c := k15c3) (by decide +kernel) rfl rfl rfl (by decide +kernel)
set_option maxRecDepth 65536 in
theorem w_c21 : (Jvm.Cond.code ({ cls := "java/util/ArrayList", name := "grow", desc := "()[Ljava/lang/Object;" } : Jvm.MethodName) jdk_38_method_7_code (1 : Nat) (Option.some (Jvm.ClassFile.FieldType.array (Jvm.ClassFile.FieldType.object "java/lang/Object")))).before args0 about1 = true := code_word (m := ⟨15, 2⟩) (meth := k15m2) (c := k15c2) (by decide +kernel) rfl rfl rfl (by decide +kernel)
set_option maxRecDepth 65536 in
theorem w_c22 : (Jvm.Cond.code ({ cls := "java/util/ArrayList", name := "grow", desc := "(I)[Ljava/lang/Object;" } : Jvm.MethodName) jdk_38_method_6_code (4 : Nat) (Option.some (Jvm.ClassFile.FieldType.array (Jvm.ClassFile.FieldType.object "java/lang/Object")))).before args0 about1 = true := code_word (m := ⟨15, 1⟩) (meth := k15m1) (c := k15c1) (by decide +kernel) rfl rfl rfl (by decide +kernel)
set_option maxRecDepth 65536 in
theorem w_c23 : (Jvm.Cond.code ({ cls := "java/lang/Math", name := "max", desc := "(II)I" } : Jvm.MethodName) jdk_29_method_65_code (2 : Nat) (Option.some Jvm.ClassFile.FieldType.int)).before args0 about1 = true := code_word (m := ⟨4, 1⟩) (meth := k4m1) (c := k4c1) (by decide +kernel) rfl rfl rfl (by decide +kernel)
set_option maxRecDepth 65536 in
theorem w_c24 : (Jvm.Cond.code ({ cls := "com/example/dayweave/dayweave/solve/TemporalNetwork$Newcomer", name := "atLeastAfter", desc := "(IJ)V" } : Jvm.MethodName) prog_68_method_3_code (4 : Nat) (Option.none : Option Jvm.ClassFile.FieldType)).before args0 about1 = true := code_word (m := ⟨5, 2⟩) (meth := k5m2) (c := k5c2) (by decide +kernel) rfl rfl rfl (by decide +kernel)
set_option maxRecDepth 65536 in
theorem w_c25 : (Jvm.Cond.code ({ cls := "com/example/dayweave/dayweave/solve/TemporalNetwork$Newcomer", name := "slots", desc := "()Lcom/example/dayweave/dayweave/model/Range;" } : Jvm.MethodName) prog_68_method_5_code (7 : Nat) (Option.some (Jvm.ClassFile.FieldType.object "com/example/dayweave/dayweave/model/Range"))).before args0 about1 = true := code_word (m := ⟨5, 4⟩) (meth := k5m4) (c := k5c4) (by decide +kernel) rfl rfl rfl (by decide +kernel)
set_option maxRecDepth 65536 in
theorem w_c26 : (Jvm.Cond.code ({ cls := "java/util/ArrayList", name := "iterator", desc := "()Ljava/util/Iterator;" } : Jvm.MethodName) jdk_38_method_55_code (1 : Nat) (Option.some (Jvm.ClassFile.FieldType.object "java/util/Iterator"))).before args0 about1 = true := code_word (m := ⟨15, 5⟩) (meth := k15m5) (c := k15c5) (by decide +kernel) rfl rfl rfl (by decide +kernel)
set_option maxRecDepth 65536 in
theorem w_c27 : (Jvm.Cond.code ({ cls := "java/util/ArrayList$Itr", name := "<init>", desc := "(Ljava/util/ArrayList;)V" } : Jvm.MethodName) jdk_49_method_1_code (2 : Nat) (Option.none : Option Jvm.ClassFile.FieldType)).before args0 about1 = true := code_word (m := ⟨23, 0⟩) (meth := k23m0) (c := k23c0) (by decide +kernel) rfl rfl rfl (by decide +kernel)
set_option maxRecDepth 65536 in
theorem w_c28 : (Jvm.Cond.code ({ cls := "java/util/ArrayList$Itr", name := "hasNext", desc := "()Z" } : Jvm.MethodName) jdk_49_method_2_code (1 : Nat) (Option.some Jvm.ClassFile.FieldType.boolean)).before args0 about1 = true := code_word (m := ⟨23, 1⟩) (meth := k23m1) (c := k23c1) (by decide +kernel) rfl rfl rfl (by decide +kernel)
set_option maxRecDepth 65536 in
theorem w_c29 : (Jvm.Cond.code ({ cls := "java/util/ArrayList$Itr", name := "next", desc := "()Ljava/lang/Object;" } : Jvm.MethodName) jdk_49_method_3_code (3 : Nat) (Option.some (Jvm.ClassFile.FieldType.object "java/lang/Object"))).before args0 about1 = true := code_word (m := ⟨23, 2⟩) (meth := k23m2) (c := k23c2) (by decide +kernel) rfl rfl rfl (by decide +kernel)
set_option maxRecDepth 65536 in
theorem w_c30 : (Jvm.Cond.code ({ cls := "java/util/ArrayList$Itr", name := "checkForComodification", desc := "()V" } : Jvm.MethodName) jdk_49_method_6_code (1 : Nat) (Option.none : Option Jvm.ClassFile.FieldType)).before args0 about1 = true := code_word (m := ⟨23, 3⟩) (meth := k23m3) (c := k23c3) (by decide +kernel) rfl rfl rfl (by decide +kernel)
set_option maxRecDepth 65536 in
theorem w_c31 : (Jvm.Cond.code ({ cls := "java/lang/Integer", name := "intValue", desc := "()I" } : Jvm.MethodName) jdk_33_method_27_code (1 : Nat) (Option.some Jvm.ClassFile.FieldType.int)).before args0 about1 = true := code_word (m := ⟨20, 1⟩) (meth := k20m1) (c := k20c1) (by decide +kernel) rfl rfl rfl (by decide +kernel)
set_option maxRecDepth 65536 in
theorem w_c32 : (Jvm.Cond.code ({ cls := "java/lang/Math", name := "max", desc := "(JJ)J" } : Jvm.MethodName) jdk_29_method_66_code (4 : Nat) (Option.some Jvm.ClassFile.FieldType.long)).before args0 about1 = true := code_word (m := ⟨4, 2⟩) (meth := k4m2) (c := k4c2) (by decide +kernel) rfl rfl rfl (by decide +kernel)
set_option maxRecDepth 65536 in
theorem w_c33 : (Jvm.Cond.code ({ cls := "com/example/dayweave/dayweave/solve/TemporalNetwork$Newcomer", name := "consistent", desc := "()Z" } : Jvm.MethodName) prog_68_method_6_code (7 : Nat) (Option.some Jvm.ClassFile.FieldType.boolean)).before args0 about1 = true := code_word (m := ⟨5, 5⟩) (meth := k5m5) (c := k5c5) (by decide +kernel) rfl rfl rfl (by decide +kernel)
set_option maxRecDepth 65536 in
theorem w_c34 : (Jvm.Cond.code ({ cls := "com/example/dayweave/dayweave/model/Range", name := "<init>", desc := "(II)V" } : Jvm.MethodName) prog_11_method_1_code (3 : Nat) (Option.none : Option Jvm.ClassFile.FieldType)).before args0 about1 = true := code_word (m := ⟨25, 0⟩) (meth := k25m0) (c := k25c0) (by decide +kernel) rfl rfl rfl (by decide +kernel)
set_option maxRecDepth 65536 in
theorem w_c35 : (Jvm.Cond.code ({ cls := "java/lang/Record", name := "<init>", desc := "()V" } : Jvm.MethodName) jdk_30_method_1_code (1 : Nat) (Option.none : Option Jvm.ClassFile.FieldType)).before args0 about1 = true := code_word (m := ⟨24, 0⟩) (meth := k24m0) (c := k24c0) (by decide +kernel) rfl rfl rfl (by decide +kernel)
set_option maxRecDepth 65536 in
theorem w_c36 : (Jvm.Cond.code ({ cls := "com/example/dayweave/dayweave/model/Range", name := "min", desc := "()I" } : Jvm.MethodName) prog_11_method_6_code (1 : Nat) (Option.some Jvm.ClassFile.FieldType.int)).before args0 about1 = true := code_word (m := ⟨25, 1⟩) (meth := k25m1) (c := k25c1) (by decide +kernel) rfl rfl rfl (by decide +kernel)
set_option maxRecDepth 65536 in
theorem w_c37 : (Jvm.Cond.code ({ cls := "com/example/dayweave/dayweave/model/Range", name := "max", desc := "()I" } : Jvm.MethodName) prog_11_method_7_code (1 : Nat) (Option.some Jvm.ClassFile.FieldType.int)).before args0 about1 = true := code_word (m := ⟨25, 2⟩) (meth := k25m2) (c := k25c2) (by decide +kernel) rfl rfl rfl (by decide +kernel)
def codes1 : List Jvm.Cond := [Jvm.Cond.code x code maxLocals ret, Jvm.Cond.code ({ cls := "com/example/dayweave/dayweave/solve/TemporalNetwork", name := "<init>", desc := "(I)V" } : Jvm.MethodName) prog_67_method_1_code (3 : Nat) (Option.none : Option Jvm.ClassFile.FieldType), Jvm.Cond.code ({ cls := "java/lang/Object", name := "<init>", desc := "()V" } : Jvm.MethodName) object_method_1_code (1 : Nat) (Option.none : Option Jvm.ClassFile.FieldType), Jvm.Cond.code ({ cls := "java/util/Arrays", name := "fill", desc := "([JJ)V" } : Jvm.MethodName) jdk_65_method_101_code (5 : Nat) (Option.none : Option Jvm.ClassFile.FieldType), Jvm.Cond.code ({ cls := "com/example/dayweave/dayweave/solve/TemporalNetworkMinimisePinLaw", name := "put", desc := "(Lcom/example/dayweave/dayweave/solve/TemporalNetwork;III)V" } : Jvm.MethodName) method_5_code (4 : Nat) (Option.none : Option Jvm.ClassFile.FieldType), Jvm.Cond.code ({ cls := "com/example/dayweave/dayweave/solve/TemporalNetwork", name := "atMost", desc := "(IIJ)V" } : Jvm.MethodName) prog_67_method_2_code (5 : Nat) (Option.none : Option Jvm.ClassFile.FieldType), Jvm.Cond.code ({ cls := "java/lang/Math", name := "min", desc := "(JJ)J" } : Jvm.MethodName) jdk_29_method_70_code (4 : Nat) (Option.some Jvm.ClassFile.FieldType.long), Jvm.Cond.code ({ cls := "com/example/dayweave/dayweave/solve/TemporalNetwork", name := "minimise", desc := "()Z" } : Jvm.MethodName) prog_67_method_4_code (9 : Nat) (Option.some Jvm.ClassFile.FieldType.boolean), Jvm.Cond.code ({ cls := "com/example/dayweave/dayweave/solve/TemporalNetworkMinimisePinLaw", name := "w", desc := "(I)J" } : Jvm.MethodName) method_3_code (1 : Nat) (Option.some Jvm.ClassFile.FieldType.long), Jvm.Cond.code ({ cls := "com/example/dayweave/dayweave/solve/TemporalNetworkMinimisePinLaw", name := "absent", desc := "()J" } : Jvm.MethodName) method_2_code (0 : Nat) (Option.some Jvm.ClassFile.FieldType.long), Jvm.Cond.code ({ cls := "com/example/dayweave/dayweave/solve/TemporalNetworkMinimisePinLaw", name := "add", desc := "(JJ)J" } : Jvm.MethodName) method_4_code (6 : Nat) (Option.some Jvm.ClassFile.FieldType.long), Jvm.Cond.code ({ cls := "com/example/dayweave/dayweave/solve/TemporalNetwork", name := "newcomer", desc := "()Lcom/example/dayweave/dayweave/solve/TemporalNetwork$Newcomer;" } : Jvm.MethodName) prog_67_method_6_code (1 : Nat) (Option.some (Jvm.ClassFile.FieldType.object "com/example/dayweave/dayweave/solve/TemporalNetwork$Newcomer")), Jvm.Cond.code ({ cls := "com/example/dayweave/dayweave/solve/TemporalNetwork$Newcomer", name := "<init>", desc := "(Lcom/example/dayweave/dayweave/solve/TemporalNetwork;)V" } : Jvm.MethodName) prog_68_method_1_code (2 : Nat) (Option.none : Option Jvm.ClassFile.FieldType), Jvm.Cond.code ({ cls := "java/util/ArrayList", name := "<init>", desc := "()V" } : Jvm.MethodName) jdk_38_method_2_code (1 : Nat) (Option.none : Option Jvm.ClassFile.FieldType), Jvm.Cond.code ({ cls := "java/util/AbstractList", name := "<init>", desc := "()V" } : Jvm.MethodName) jdk_39_method_1_code (1 : Nat) (Option.none : Option Jvm.ClassFile.FieldType), Jvm.Cond.code ({ cls := "java/util/AbstractCollection", name := "<init>", desc := "()V" } : Jvm.MethodName) jdk_22_method_1_code (1 : Nat) (Option.none : Option Jvm.ClassFile.FieldType), Jvm.Cond.code ({ cls := "com/example/dayweave/dayweave/solve/TemporalNetwork$Newcomer", name := "atMostAfter", desc := "(IJ)V" } : Jvm.MethodName) prog_68_method_2_code (4 : Nat) (Option.none : Option Jvm.ClassFile.FieldType), Jvm.Cond.code ({ cls := "com/example/dayweave/dayweave/solve/TemporalNetwork$Newcomer", name := "note", desc := "(I)V" } : Jvm.MethodName) prog_68_method_4_code (2 : Nat) (Option.none : Option Jvm.ClassFile.FieldType), Jvm.Cond.code ({ cls := "java/lang/Integer", name := "valueOf", desc := "(I)Ljava/lang/Integer;" } : Jvm.MethodName) jdk_33_method_22_code (1 : Nat) (Option.some (Jvm.ClassFile.FieldType.object "java/lang/Integer")), Jvm.Cond.code ({ cls := "java/util/ArrayList", name := "add", desc := "(Ljava/lang/Object;)Z" } : Jvm.MethodName) jdk_38_method_25_code (2 : Nat) (Option.some Jvm.ClassFile.FieldType.boolean), Jvm.Cond.code ({ cls := "java/util/ArrayList", name := "add", desc := "(Ljava/lang/Object;[Ljava/lang/Object;I)V" } : Jvm.MethodName) jdk_38_method_24_code (4 : Nat) (Option.none : Option Jvm.ClassFile.FieldType), Jvm.Cond.code ({ cls := "java/util/ArrayList", name := "grow", desc := "()[Ljava/lang/Object;" } : Jvm.MethodName) jdk_38_method_7_code (1 : Nat) (Option.some (Jvm.ClassFile.FieldType.array (Jvm.ClassFile.FieldType.object "java/lang/Object"))), Jvm.Cond.code ({ cls := "java/util/ArrayList", name := "grow", desc := "(I)[Ljava/lang/Object;" } : Jvm.MethodName) jdk_38_method_6_code (4 : Nat) (Option.some (Jvm.ClassFile.FieldType.array (Jvm.ClassFile.FieldType.object "java/lang/Object"))), Jvm.Cond.code ({ cls := "java/lang/Math", name := "max", desc := "(II)I" } : Jvm.MethodName) jdk_29_method_65_code (2 : Nat) (Option.some Jvm.ClassFile.FieldType.int), Jvm.Cond.code ({ cls := "com/example/dayweave/dayweave/solve/TemporalNetwork$Newcomer", name := "atLeastAfter", desc := "(IJ)V" } : Jvm.MethodName) prog_68_method_3_code (4 : Nat) (Option.none : Option Jvm.ClassFile.FieldType), Jvm.Cond.code ({ cls := "com/example/dayweave/dayweave/solve/TemporalNetwork$Newcomer", name := "slots", desc := "()Lcom/example/dayweave/dayweave/model/Range;" } : Jvm.MethodName) prog_68_method_5_code (7 : Nat) (Option.some (Jvm.ClassFile.FieldType.object "com/example/dayweave/dayweave/model/Range")), Jvm.Cond.code ({ cls := "java/util/ArrayList", name := "iterator", desc := "()Ljava/util/Iterator;" } : Jvm.MethodName) jdk_38_method_55_code (1 : Nat) (Option.some (Jvm.ClassFile.FieldType.object "java/util/Iterator")), Jvm.Cond.code ({ cls := "java/util/ArrayList$Itr", name := "<init>", desc := "(Ljava/util/ArrayList;)V" } : Jvm.MethodName) jdk_49_method_1_code (2 : Nat) (Option.none : Option Jvm.ClassFile.FieldType), Jvm.Cond.code ({ cls := "java/util/ArrayList$Itr", name := "hasNext", desc := "()Z" } : Jvm.MethodName) jdk_49_method_2_code (1 : Nat) (Option.some Jvm.ClassFile.FieldType.boolean), Jvm.Cond.code ({ cls := "java/util/ArrayList$Itr", name := "next", desc := "()Ljava/lang/Object;" } : Jvm.MethodName) jdk_49_method_3_code (3 : Nat) (Option.some (Jvm.ClassFile.FieldType.object "java/lang/Object")), Jvm.Cond.code ({ cls := "java/util/ArrayList$Itr", name := "checkForComodification", desc := "()V" } : Jvm.MethodName) jdk_49_method_6_code (1 : Nat) (Option.none : Option Jvm.ClassFile.FieldType), Jvm.Cond.code ({ cls := "java/lang/Integer", name := "intValue", desc := "()I" } : Jvm.MethodName) jdk_33_method_27_code (1 : Nat) (Option.some Jvm.ClassFile.FieldType.int), Jvm.Cond.code ({ cls := "java/lang/Math", name := "max", desc := "(JJ)J" } : Jvm.MethodName) jdk_29_method_66_code (4 : Nat) (Option.some Jvm.ClassFile.FieldType.long), Jvm.Cond.code ({ cls := "com/example/dayweave/dayweave/solve/TemporalNetwork$Newcomer", name := "consistent", desc := "()Z" } : Jvm.MethodName) prog_68_method_6_code (7 : Nat) (Option.some Jvm.ClassFile.FieldType.boolean), Jvm.Cond.code ({ cls := "com/example/dayweave/dayweave/model/Range", name := "<init>", desc := "(II)V" } : Jvm.MethodName) prog_11_method_1_code (3 : Nat) (Option.none : Option Jvm.ClassFile.FieldType), Jvm.Cond.code ({ cls := "java/lang/Record", name := "<init>", desc := "()V" } : Jvm.MethodName) jdk_30_method_1_code (1 : Nat) (Option.none : Option Jvm.ClassFile.FieldType), Jvm.Cond.code ({ cls := "com/example/dayweave/dayweave/model/Range", name := "min", desc := "()I" } : Jvm.MethodName) prog_11_method_6_code (1 : Nat) (Option.some Jvm.ClassFile.FieldType.int), Jvm.Cond.code ({ cls := "com/example/dayweave/dayweave/model/Range", name := "max", desc := "()I" } : Jvm.MethodName) prog_11_method_7_code (1 : Nat) (Option.some Jvm.ClassFile.FieldType.int)]
set_option maxRecDepth 65536 in
theorem codes_eq : words1.filter isCode = codes1 := rfl
theorem w_codes : ∀ c ∈ words1.filter isCode, c.before args0 about1 = true := by
  rw [codes_eq]
  intro c hc
  simp only [codes1, List.mem_cons, List.not_mem_nil, or_false] at hc
  rcases hc with rfl | rfl | rfl | rfl | rfl | rfl | rfl | rfl | rfl | rfl | rfl | rfl | rfl | rfl | rfl | rfl | rfl | rfl | rfl | rfl | rfl | rfl | rfl | rfl | rfl | rfl | rfl | rfl | rfl | rfl | rfl | rfl | rfl | rfl | rfl | rfl | rfl | rfl
  · exact w_c0
  · exact w_c1
  · exact w_c2
  · exact w_c3
  · exact w_c4
  · exact w_c5
  · exact w_c6
  · exact w_c7
  · exact w_c8
  · exact w_c9
  · exact w_c10
  · exact w_c11
  · exact w_c12
  · exact w_c13
  · exact w_c14
  · exact w_c15
  · exact w_c16
  · exact w_c17
  · exact w_c18
  · exact w_c19
  · exact w_c20
  · exact w_c21
  · exact w_c22
  · exact w_c23
  · exact w_c24
  · exact w_c25
  · exact w_c26
  · exact w_c27
  · exact w_c28
  · exact w_c29
  · exact w_c30
  · exact w_c31
  · exact w_c32
  · exact w_c33
  · exact w_c34
  · exact w_c35
  · exact w_c36
  · exact w_c37
set_option maxRecDepth 65536 in
theorem w_t1 : (words1.take 24).all (fun c => isCode c || c.before args0 about1) = true := by decide +kernel
set_option maxRecDepth 65536 in
theorem w_t2 : ((words1.drop 24).take 24).all (fun c => isCode c || c.before args0 about1) = true := by decide +kernel
set_option maxRecDepth 65536 in
theorem w_t3 : (((words1.drop 24).drop 24).take 24).all (fun c => isCode c || c.before args0 about1) = true := by decide +kernel
set_option maxRecDepth 65536 in
theorem w_t4 : ((((words1.drop 24).drop 24).drop 24).take 24).all (fun c => isCode c || c.before args0 about1) = true := by decide +kernel
set_option maxRecDepth 65536 in
theorem w_t5 : (((((words1.drop 24).drop 24).drop 24).drop 24).take 24).all (fun c => isCode c || c.before args0 about1) = true := by decide +kernel
set_option maxRecDepth 65536 in
theorem w_t6 : ((((((words1.drop 24).drop 24).drop 24).drop 24).drop 24).take 24).all (fun c => isCode c || c.before args0 about1) = true := by decide +kernel
set_option maxRecDepth 65536 in
theorem w_t7 : (((((((words1.drop 24).drop 24).drop 24).drop 24).drop 24).drop 24).take 24).all (fun c => isCode c || c.before args0 about1) = true := by decide +kernel
set_option maxRecDepth 65536 in
theorem w_t8 : ((((((((words1.drop 24).drop 24).drop 24).drop 24).drop 24).drop 24).drop 24).take 24).all (fun c => isCode c || c.before args0 about1) = true := by decide +kernel
set_option maxRecDepth 65536 in
theorem w_t9 : (((((((((words1.drop 24).drop 24).drop 24).drop 24).drop 24).drop 24).drop 24).drop 24).take 24).all (fun c => isCode c || c.before args0 about1) = true := by decide +kernel
set_option maxRecDepth 65536 in
theorem w_t10 : ((((((((((words1.drop 24).drop 24).drop 24).drop 24).drop 24).drop 24).drop 24).drop 24).drop 24).take 24).all (fun c => isCode c || c.before args0 about1) = true := by decide +kernel
set_option maxRecDepth 65536 in
theorem w_t11 : ((((((((((words1.drop 24).drop 24).drop 24).drop 24).drop 24).drop 24).drop 24).drop 24).drop 24).drop 24).all (fun c => isCode c || c.before args0 about1) = true := by decide +kernel
theorem w_tables : (allAtoms (Jvm.Cond.code x code maxLocals ret :: tables_1)).before args0 about1 = true := by
  rw [allAtoms_all]
  show words1.all (fun c => c.before args0 about1) = true
  refine all_split ?_ w_codes
  rw [← List.take_append_drop 24 words1, List.all_append, w_t1, ← List.take_append_drop 24 (words1.drop 24), List.all_append, w_t2, ← List.take_append_drop 24 ((words1.drop 24).drop 24), List.all_append, w_t3, ← List.take_append_drop 24 (((words1.drop 24).drop 24).drop 24), List.all_append, w_t4, ← List.take_append_drop 24 ((((words1.drop 24).drop 24).drop 24).drop 24), List.all_append, w_t5, ← List.take_append_drop 24 (((((words1.drop 24).drop 24).drop 24).drop 24).drop 24), List.all_append, w_t6, ← List.take_append_drop 24 ((((((words1.drop 24).drop 24).drop 24).drop 24).drop 24).drop 24), List.all_append, w_t7, ← List.take_append_drop 24 (((((((words1.drop 24).drop 24).drop 24).drop 24).drop 24).drop 24).drop 24), List.all_append, w_t8, ← List.take_append_drop 24 ((((((((words1.drop 24).drop 24).drop 24).drop 24).drop 24).drop 24).drop 24).drop 24), List.all_append, w_t9, ← List.take_append_drop 24 (((((((((words1.drop 24).drop 24).drop 24).drop 24).drop 24).drop 24).drop 24).drop 24).drop 24), List.all_append, w_t10, w_t11]
  rfl
set_option maxRecDepth 65536 in
theorem w_rest : rest_1_c.before args0 about1 = true := by decide +kernel
set_option maxRecDepth 65536 in
theorem w_case : (Jvm.Cond.and given_1 narrow_1).before args0 about1 = true := by decide +kernel
theorem w_applies : (headSpec (Jvm.Cond.code x code maxLocals ret :: tables_1) room_1).applies x e0.platform about1 = true :=
  (Spec.applies_iff w_frames).mpr ⟨w_running, w_runnable, w_alone, w_named, w_hears, w_ripe, w_room, w_tables⟩
theorem atStart : AtStart classFile x code maxLocals ret World_1 tables_1 room_1 Calls_1 rest_1 Pre_1 launch0 p0 e0 about1 theMethod args0 below0 :=
  ⟨lists_1, trivial, launch0.admits_env _ _ _, launch0.least_env, fairChoices_fair.cas, fairChoices_fair.clock, w_frames, w_args, w_heap, w_applies, trivial, w_rest, w_case⟩
end start1
theorem witness_1 : WitnessClaimed_1 := ⟨start1.p0, start1.e0, start1.about1, start1.theMethod, start1.args0, start1.below0, start1.atStart⟩
end Jvm.Pilot.@@N@@
