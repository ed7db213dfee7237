import JvmDerived
import JvmDerived.Pilot.@@N@@Statement
import JvmDerived.Pilot.@@N@@Code
set_option linter.unusedVariables false
set_option linter.unusedSimpArgs false
namespace Jvm.OwnK
open Jvm Sem ClassFile Op Lib Jvm.Stand Jvm.Free Jvm.LawKit Jvm.RoadKit
section A
variable {tabs : List Jvm.Cond} {a0 : Array Value} {Z : State} {own nm : String} {code : ByteArray} {ml : Nat} {ret : Option FieldType} {p : Program} {l : Launch} {e : Env} {R : Room} {s : State} {m : MethodId} {args : Array Value} {below : List Frame} {meth : Method} {c : Code} {n0 : Nat} {T : State} {h : Heap} {k n : Nat} {Q : Option Value → Heap → Prop} {G : Outcome → State → List Loc → Prop} {pc : Nat} {ls : Array Slot} {st : List Value}
/-- what stands fast through a method's walk -/
def Cx (tabs : List Jvm.Cond) (a0 : Array Value) (Z : State) (own nm : String) (code : ByteArray) (ml : Nat) (ret : Option FieldType) (p : Program) (s : State) (m : MethodId) (meth : Method) (c : Code) : Prop :=
  p.tables.exec = Jvm.exec ∧ Z.Warmed39 s.vm ∧ c.code = code ∧ c.maxLocals = ml ∧ s.vm.findClass own = some m.cls ∧ meth.sig.returnType = ret ∧ meth.locks = false ∧ meth.name = nm ∧ ∀ d ∈ tabs, d.before a0 Z = true
/-- where the walk stands: the heap h, k cells and n slots made so far, nothing below n0 written -/
def St (p : Program) (l : Launch) (e : Env) (R : Room) (s : State) (m : MethodId) (args : Array Value) (below : List Frame) (meth : Method) (c : Code) (n0 : Nat) (T : State) (h : Heap) (k n : Nat) : Prop :=
  ∃ locs, Stand p l e R s m args below meth c T locs k n ∧ T.heap = h ∧ Fr n0 locs ∧ n0 ≤ s.heap.size
/-- from this frame the method ends, and returns what Q says -/
def Run (p : Program) (e : Env) (below : List Frame) (n0 : Nat) (Q : Option Value → Heap → Prop) (G : Outcome → State → List Loc → Prop) (m : MethodId) (T : State) (pc : Nat) (ls : Array Slot) (st : List Value) : Prop :=
  ∃ s₂ o, Steps p.tables e below (T.setTop (mkF m pc ls st)) s₂ ∧ s₂.status = .running ∧ Ended s₂ below o ∧ ∃ v L, o = .returned v ∧ (Q v s₂.heap ∧ Fr n0 L) ∧ G o s₂ L
theorem Run.step {T' : State} {pc' : Nat} {ls' : Array Slot} {st' : List Value} (f : ∀ t, Steps p.tables e below (T'.setTop (mkF m pc' ls' st')) t → Steps p.tables e below (T.setTop (mkF m pc ls st)) t) (r : Run p e below n0 Q G m T' pc' ls' st') : Run p e below n0 Q G m T pc ls st := by
  obtain ⟨s₂, o, h1, h2⟩ := r
  exact ⟨s₂, o, f _ h1, h2⟩
theorem Run.steps {T' : State} {pc' : Nat} {ls' : Array Slot} {st' : List Value} (f : Steps p.tables e below (T.setTop (mkF m pc ls st)) (T'.setTop (mkF m pc' ls' st'))) (r : Run p e below n0 Q G m T' pc' ls' st') : Run p e below n0 Q G m T pc ls st := Run.step (fun _ q => f.trans q) r
theorem Run.cast {st' : List Value} (q : st = st') (r : Run p e below n0 Q G m T pc ls st') : Run p e below n0 Q G m T pc ls st := q ▸ r
theorem St.at' (X : St p l e R s m args below meth c n0 T h k n) : Jvm.At T m c below := by obtain ⟨_, X, -⟩ := X; exact X.here
theorem St.sz (X : St p l e R s m args below meth c n0 T h k n) : n0 ≤ h.size := by
  obtain ⟨_, X, rfl, -, q⟩ := X
  exact Nat.le_trans q X.same.2.1
theorem Cx.d {r : Except DecodeError (Instr × Nat)} (C : Cx tabs a0 Z own nm code ml ret p s m meth c) (q : decode code pc = r) : decode c.code pc = r := hb C.2.2.1 q
theorem Cx.w {d : Jvm.Cond} (C : Cx tabs a0 Z own nm code ml ret p s m meth c) (q : d ∈ tabs) : d.before a0 Z = true := C.2.2.2.2.2.2.2.2 d q
theorem s_iloadN (pc' : Nat) (C : Cx tabs a0 Z own nm code ml ret p s m meth c) (X : St p l e R s m args below meth c n0 T h k n) {i : Fin 4} {v : Int32} (hd : decode code pc = .ok (.iload_n i, 1)) (hl : ls[i.val]? = some (.val (.int v))) (r : Run p e below n0 Q G m T pc' ls (.int v :: st)) (hp : pc + 1 = pc' := by rfl) : Run p e below n0 Q G m T pc ls st := by
  subst hp
  exact Run.step (fun t q => XS.iloadN X.at' C.1 rfl (C.d hd) hl q) r
theorem s_iload (pc' : Nat) (C : Cx tabs a0 Z own nm code ml ret p s m meth c) (X : St p l e R s m args below meth c n0 T h k n) {i : Nat} {v : Int32} (hd : decode code pc = .ok (.iload i, 2)) (hl : ls[i]? = some (.val (.int v))) (r : Run p e below n0 Q G m T pc' ls (.int v :: st)) (hp : pc + 2 = pc' := by rfl) : Run p e below n0 Q G m T pc ls st := by
  subst hp
  exact Run.step (fun t q => XS.iload X.at' C.1 rfl (C.d hd) hl q) r
theorem s_lloadN (pc' : Nat) (C : Cx tabs a0 Z own nm code ml ret p s m meth c) (X : St p l e R s m args below meth c n0 T h k n) {i : Fin 4} {v : Int64} (hd : decode code pc = .ok (.lload_n i, 1)) (hl : ls[i.val]? = some (.val (.long v))) (r : Run p e below n0 Q G m T pc' ls (.long v :: st)) (hp : pc + 1 = pc' := by rfl) : Run p e below n0 Q G m T pc ls st := by
  subst hp
  exact Run.step (fun t q => XT.lloadN X.at' C.1 rfl (C.d hd) hl q) r
theorem s_lload (pc' : Nat) (C : Cx tabs a0 Z own nm code ml ret p s m meth c) (X : St p l e R s m args below meth c n0 T h k n) {i : Nat} {v : Int64} (hd : decode code pc = .ok (.lload i, 2)) (hl : ls[i]? = some (.val (.long v))) (r : Run p e below n0 Q G m T pc' ls (.long v :: st)) (hp : pc + 2 = pc' := by rfl) : Run p e below n0 Q G m T pc ls st := by
  subst hp
  exact Run.step (fun t q => XT.lload X.at' C.1 rfl (C.d hd) hl q) r
theorem s_aloadN (pc' : Nat) (C : Cx tabs a0 Z own nm code ml ret p s m meth c) (X : St p l e R s m args below meth c n0 T h k n) {i : Fin 4} {v : Value} (hd : decode code pc = .ok (.aload_n i, 1)) (hl : ls[i.val]? = some (.val v)) (hv : v.isRef = true) (r : Run p e below n0 Q G m T pc' ls (v :: st)) (hp : pc + 1 = pc' := by rfl) : Run p e below n0 Q G m T pc ls st := by
  subst hp
  exact Run.step (fun t q => XS.aloadN X.at' C.1 rfl (C.d hd) hl hv q) r
theorem s_aload (pc' : Nat) (C : Cx tabs a0 Z own nm code ml ret p s m meth c) (X : St p l e R s m args below meth c n0 T h k n) {i : Nat} {v : Value} (hd : decode code pc = .ok (.aload i, 2)) (hl : ls[i]? = some (.val v)) (hv : v.isRef = true) (r : Run p e below n0 Q G m T pc' ls (v :: st)) (hp : pc + 2 = pc' := by rfl) : Run p e below n0 Q G m T pc ls st := by
  subst hp
  exact Run.step (fun t q => XS.aload X.at' C.1 rfl (C.d hd) hl hv q) r
theorem s_istoreN (pc' : Nat) (C : Cx tabs a0 Z own nm code ml ret p s m meth c) (X : St p l e R s m args below meth c n0 T h k n) {i : Fin 4} {v : Int32} {l' : Array Slot} (hd : decode code pc = .ok (.istore_n i, 1)) (hl : storeLocals ls i.val (.int v) = some l') (r : Run p e below n0 Q G m T pc' l' st) (hp : pc + 1 = pc' := by rfl) : Run p e below n0 Q G m T pc ls (.int v :: st) := by
  subst hp
  exact Run.step (fun t q => XS.istoreN X.at' C.1 rfl (C.d hd) rfl hl q) r
theorem s_istore (pc' : Nat) (C : Cx tabs a0 Z own nm code ml ret p s m meth c) (X : St p l e R s m args below meth c n0 T h k n) {i : Nat} {v : Int32} {l' : Array Slot} (hd : decode code pc = .ok (.istore i, 2)) (hl : storeLocals ls i (.int v) = some l') (r : Run p e below n0 Q G m T pc' l' st) (hp : pc + 2 = pc' := by rfl) : Run p e below n0 Q G m T pc ls (.int v :: st) := by
  subst hp
  exact Run.step (fun t q => XS.istore X.at' C.1 rfl (C.d hd) rfl hl q) r
theorem s_lstore (pc' : Nat) (C : Cx tabs a0 Z own nm code ml ret p s m meth c) (X : St p l e R s m args below meth c n0 T h k n) {i : Nat} {v : Int64} {l' : Array Slot} (hd : decode code pc = .ok (.lstore i, 2)) (hl : storeLocals ls i (.long v) = some l') (r : Run p e below n0 Q G m T pc' l' st) (hp : pc + 2 = pc' := by rfl) : Run p e below n0 Q G m T pc ls (.long v :: st) := by
  subst hp
  exact Run.step (fun t q => XT.lstore X.at' C.1 rfl (C.d hd) rfl hl q) r
theorem s_astoreN (pc' : Nat) (C : Cx tabs a0 Z own nm code ml ret p s m meth c) (X : St p l e R s m args below meth c n0 T h k n) {i : Fin 4} {v : Value} {l' : Array Slot} (hd : decode code pc = .ok (.astore_n i, 1)) (hv : v.isRef = true) (hl : storeLocals ls i.val v = some l') (r : Run p e below n0 Q G m T pc' l' st) (hp : pc + 1 = pc' := by rfl) : Run p e below n0 Q G m T pc ls (v :: st) := by
  subst hp
  exact Run.step (fun t q => XS.astoreN X.at' C.1 rfl (C.d hd) rfl hv hl q) r
theorem s_astore (pc' : Nat) (C : Cx tabs a0 Z own nm code ml ret p s m meth c) (X : St p l e R s m args below meth c n0 T h k n) {i : Nat} {v : Value} {l' : Array Slot} (hd : decode code pc = .ok (.astore i, 2)) (hv : v.isRef = true) (hl : storeLocals ls i v = some l') (r : Run p e below n0 Q G m T pc' l' st) (hp : pc + 2 = pc' := by rfl) : Run p e below n0 Q G m T pc ls (v :: st) := by
  subst hp
  exact Run.step (fun t q => XS.astore X.at' C.1 rfl (C.d hd) rfl hv hl q) r
theorem s_iinc (pc' : Nat) (C : Cx tabs a0 Z own nm code ml ret p s m meth c) (X : St p l e R s m args below meth c n0 T h k n) {i : Nat} {cst : Int} {x z : Int32} {l' : Array Slot} (hd : decode code pc = .ok (.iinc i cst, 3)) (hz : Int32.ofInt cst = z) (hl : ls[i]? = some (.val (.int x))) (hl' : storeLocals ls i (.int (x + z)) = some l') (r : Run p e below n0 Q G m T pc' l' st) (hp : pc + 3 = pc' := by rfl) : Run p e below n0 Q G m T pc ls st := by
  subst hp
  exact Run.step (fun t q => XS.iinc X.at' C.1 rfl (C.d hd) hl (by rw [hz]; exact hl') q) r
theorem s_iconst (pc' : Nat) (C : Cx tabs a0 Z own nm code ml ret p s m meth c) (X : St p l e R s m args below meth c n0 T h k n) {i : Int} {z : Int32} (hd : decode code pc = .ok (.iconst i, 1)) (hz : Int32.ofInt i = z) (r : Run p e below n0 Q G m T pc' ls (.int z :: st)) (hp : pc + 1 = pc' := by rfl) : Run p e below n0 Q G m T pc ls st := by
  subst hp
  exact Run.step (fun t q => XS.iconst X.at' C.1 rfl (C.d hd) (by rw [hz]; exact q)) r
theorem s_bipush (pc' : Nat) (C : Cx tabs a0 Z own nm code ml ret p s m meth c) (X : St p l e R s m args below meth c n0 T h k n) {i : Int} {z : Int32} (hd : decode code pc = .ok (.bipush i, 2)) (hz : (Int8.ofInt i).toInt32 = z) (r : Run p e below n0 Q G m T pc' ls (.int z :: st)) (hp : pc + 2 = pc' := by rfl) : Run p e below n0 Q G m T pc ls st := by
  subst hp
  exact Run.step (fun t q => XS.bipush X.at' C.1 rfl (C.d hd) (by rw [hz]; exact q)) r
theorem s_sipush (pc' : Nat) (C : Cx tabs a0 Z own nm code ml ret p s m meth c) (X : St p l e R s m args below meth c n0 T h k n) {i : Int} {z : Int32} (hd : decode code pc = .ok (.sipush i, 3)) (hz : (Int16.ofInt i).toInt32 = z) (r : Run p e below n0 Q G m T pc' ls (.int z :: st)) (hp : pc + 3 = pc' := by rfl) : Run p e below n0 Q G m T pc ls st := by
  subst hp
  exact Run.step (fun t q => XS.sipush X.at' C.1 rfl (C.d hd) (by rw [hz]; exact q)) r
theorem s_aconstNull (pc' : Nat) (C : Cx tabs a0 Z own nm code ml ret p s m meth c) (X : St p l e R s m args below meth c n0 T h k n) (hd : decode code pc = .ok (.aconst_null, 1)) (r : Run p e below n0 Q G m T pc' ls (.null :: st)) (hp : pc + 1 = pc' := by rfl) : Run p e below n0 Q G m T pc ls st := by
  subst hp
  exact Run.step (fun t q => XS.aconstNull X.at' C.1 rfl (C.d hd) q) r
theorem s_isub (pc' : Nat) (C : Cx tabs a0 Z own nm code ml ret p s m meth c) (X : St p l e R s m args below meth c n0 T h k n) {x y : Int32} (hd : decode code pc = .ok (.isub, 1)) (r : Run p e below n0 Q G m T pc' ls (.int (x - y) :: st)) (hp : pc + 1 = pc' := by rfl) : Run p e below n0 Q G m T pc ls (.int y :: .int x :: st) := by
  subst hp
  exact Run.step (fun t q => XS.isub X.at' C.1 rfl (C.d hd) rfl q) r
theorem s_iand (pc' : Nat) (C : Cx tabs a0 Z own nm code ml ret p s m meth c) (X : St p l e R s m args below meth c n0 T h k n) {x y : Int32} (hd : decode code pc = .ok (.iand, 1)) (r : Run p e below n0 Q G m T pc' ls (.int (x &&& y) :: st)) (hp : pc + 1 = pc' := by rfl) : Run p e below n0 Q G m T pc ls (.int y :: .int x :: st) := by
  subst hp
  exact Run.step (fun t q => XS.iand X.at' C.1 rfl (C.d hd) rfl q) r
theorem s_iushr (pc' : Nat) (C : Cx tabs a0 Z own nm code ml ret p s m meth c) (X : St p l e R s m args below meth c n0 T h k n) {x y : Int32} (hd : decode code pc = .ok (.iushr, 1)) (r : Run p e below n0 Q G m T pc' ls (.int ((x.toUInt32 >>> (y &&& 31).toUInt32).toInt32) :: st)) (hp : pc + 1 = pc' := by rfl) : Run p e below n0 Q G m T pc ls (.int y :: .int x :: st) := by
  subst hp
  exact Run.step (fun t q => XT.iushr X.at' C.1 rfl (C.d hd) rfl q) r
theorem s_irem (pc' : Nat) (C : Cx tabs a0 Z own nm code ml ret p s m meth c) (X : St p l e R s m args below meth c n0 T h k n) {x y : Int32} (hd : decode code pc = .ok (.irem, 1)) (hy : y ≠ 0) (r : Run p e below n0 Q G m T pc' ls (.int (x % y) :: st)) (hp : pc + 1 = pc' := by rfl) : Run p e below n0 Q G m T pc ls (.int y :: .int x :: st) := by
  subst hp
  exact Run.step (fun t q => XS.irem X.at' C.1 rfl (C.d hd) rfl hy (by rw [show x - x / y * y = x % y from irem_eq_mod x y]; exact q)) r
theorem s_i2b (pc' : Nat) (C : Cx tabs a0 Z own nm code ml ret p s m meth c) (X : St p l e R s m args below meth c n0 T h k n) {x : Int32} (hd : decode code pc = .ok (.i2b, 1)) (r : Run p e below n0 Q G m T pc' ls (.int x.toInt8.toInt32 :: st)) (hp : pc + 1 = pc' := by rfl) : Run p e below n0 Q G m T pc ls (.int x :: st) := by
  subst hp
  exact Run.step (fun t q => XT.i2b X.at' C.1 rfl (C.d hd) rfl q) r
theorem s_i2c (pc' : Nat) (C : Cx tabs a0 Z own nm code ml ret p s m meth c) (X : St p l e R s m args below meth c n0 T h k n) {x : Int32} (hd : decode code pc = .ok (.i2c, 1)) (r : Run p e below n0 Q G m T pc' ls (.int x.toUInt32.toUInt16.toUInt32.toInt32 :: st)) (hp : pc + 1 = pc' := by rfl) : Run p e below n0 Q G m T pc ls (.int x :: st) := by
  subst hp
  exact Run.step (fun t q => XT.i2c X.at' C.1 rfl (C.d hd) rfl q) r
theorem s_lcmp (pc' : Nat) (C : Cx tabs a0 Z own nm code ml ret p s m meth c) (X : St p l e R s m args below meth c n0 T h k n) {x y : Int64} (hd : decode code pc = .ok (.lcmp, 1)) (r : Run p e below n0 Q G m T pc' ls (.int (XT.cmpL x y) :: st)) (hp : pc + 1 = pc' := by rfl) : Run p e below n0 Q G m T pc ls (.long y :: .long x :: st) := by
  subst hp
  exact Run.step (fun t q => XT.lcmp X.at' C.1 rfl (C.d hd) rfl q) r
theorem s_dup (pc' : Nat) (C : Cx tabs a0 Z own nm code ml ret p s m meth c) (X : St p l e R s m args below meth c n0 T h k n) {v : Value} (hd : decode code pc = .ok (.dup, 1)) (hc : v.category = 1) (r : Run p e below n0 Q G m T pc' ls (v :: v :: st)) (hp : pc + 1 = pc' := by rfl) : Run p e below n0 Q G m T pc ls (v :: st) := by
  subst hp
  exact Run.step (fun t q => XS.dup X.at' C.1 rfl (C.d hd) rfl hc q) r
theorem s_goto (pc' : Nat) (C : Cx tabs a0 Z own nm code ml ret p s m meth c) (X : St p l e R s m args below meth c n0 T h k n) {o : Int} (hd : decode code pc = .ok (.goto o, 3)) (r : Run p e below n0 Q G m T pc' ls st) (hp : 0 ≤ (pc : Int) + o ∧ ((pc : Int) + o).toNat = pc' := by decide) : Run p e below n0 Q G m T pc ls st := by
  exact Run.step (fun t q => XS.goto X.at' C.1 rfl rfl (C.d hd) hp.1 hp.2 q) r
theorem s_icmp_lt (pY pN : Nat) (C : Cx tabs a0 Z own nm code ml ret p s m meth c) (X : St p l e R s m args below meth c n0 T h k n) {x y : Int32} {o : Int} (hd : decode code pc = .ok (.if_icmp .lt o, 3)) (ry : x < y → Run p e below n0 Q G m T pY ls st) (rn : ¬ x < y → Run p e below n0 Q G m T pN ls st) (hp : 0 ≤ (pc : Int) + o ∧ ((pc : Int) + o).toNat = pY ∧ pc + 3 = pN := by decide) : Run p e below n0 Q G m T pc ls (.int y :: .int x :: st) := by
  by_cases g : x < y
  · exact Run.step (fun t q => XS.icmpYes X.at' C.1 rfl rfl (C.d hd) rfl (tlt g).1 hp.1 hp.2.1 q) (ry g)
  · obtain rfl := hp.2.2
    exact Run.step (fun t q => XS.icmpNo X.at' C.1 rfl (C.d hd) rfl (flt g).1 q) (rn g)
theorem s_icmp_ge (pY pN : Nat) (C : Cx tabs a0 Z own nm code ml ret p s m meth c) (X : St p l e R s m args below meth c n0 T h k n) {x y : Int32} {o : Int} (hd : decode code pc = .ok (.if_icmp .ge o, 3)) (ry : ¬ x < y → Run p e below n0 Q G m T pY ls st) (rn : x < y → Run p e below n0 Q G m T pN ls st) (hp : 0 ≤ (pc : Int) + o ∧ ((pc : Int) + o).toNat = pY ∧ pc + 3 = pN := by decide) : Run p e below n0 Q G m T pc ls (.int y :: .int x :: st) := by
  by_cases g : x < y
  · obtain rfl := hp.2.2
    exact Run.step (fun t q => XS.icmpNo X.at' C.1 rfl (C.d hd) rfl (tlt g).2.1 q) (rn g)
  · exact Run.step (fun t q => XS.icmpYes X.at' C.1 rfl rfl (C.d hd) rfl (flt g).2.1 hp.1 hp.2.1 q) (ry g)
theorem s_icmp_le (pY pN : Nat) (C : Cx tabs a0 Z own nm code ml ret p s m meth c) (X : St p l e R s m args below meth c n0 T h k n) {x y : Int32} {o : Int} (hd : decode code pc = .ok (.if_icmp .le o, 3)) (ry : ¬ y < x → Run p e below n0 Q G m T pY ls st) (rn : y < x → Run p e below n0 Q G m T pN ls st) (hp : 0 ≤ (pc : Int) + o ∧ ((pc : Int) + o).toNat = pY ∧ pc + 3 = pN := by decide) : Run p e below n0 Q G m T pc ls (.int y :: .int x :: st) := by
  by_cases g : y < x
  · obtain rfl := hp.2.2
    exact Run.step (fun t q => XS.icmpNo X.at' C.1 rfl (C.d hd) rfl (tlt g).2.2.2 q) (rn g)
  · exact Run.step (fun t q => XS.icmpYes X.at' C.1 rfl rfl (C.d hd) rfl (flt g).2.2.2 hp.1 hp.2.1 q) (ry g)
theorem s_icmp_eq (pY pN : Nat) (C : Cx tabs a0 Z own nm code ml ret p s m meth c) (X : St p l e R s m args below meth c n0 T h k n) {x y : Int32} {o : Int} (hd : decode code pc = .ok (.if_icmp .eq o, 3)) (ry : x = y → Run p e below n0 Q G m T pY ls st) (rn : ¬ x = y → Run p e below n0 Q G m T pN ls st) (hp : 0 ≤ (pc : Int) + o ∧ ((pc : Int) + o).toNat = pY ∧ pc + 3 = pN := by decide) : Run p e below n0 Q G m T pc ls (.int y :: .int x :: st) := by
  by_cases g : x = y
  · exact Run.step (fun t q => XS.icmpYes X.at' C.1 rfl rfl (C.d hd) rfl (teq g).1 hp.1 hp.2.1 q) (ry g)
  · obtain rfl := hp.2.2
    exact Run.step (fun t q => XS.icmpNo X.at' C.1 rfl (C.d hd) rfl (feq g).1 q) (rn g)
theorem s_if_eq (pY pN : Nat) (C : Cx tabs a0 Z own nm code ml ret p s m meth c) (X : St p l e R s m args below meth c n0 T h k n) {x : Int32} {o : Int} (hd : decode code pc = .ok (.ifCond .eq o, 3)) (ry : x = (0 : Int32) → Run p e below n0 Q G m T pY ls st) (rn : ¬ x = (0 : Int32) → Run p e below n0 Q G m T pN ls st) (hp : 0 ≤ (pc : Int) + o ∧ ((pc : Int) + o).toNat = pY ∧ pc + 3 = pN := by decide) : Run p e below n0 Q G m T pc ls (.int x :: st) := by
  by_cases g : x = (0 : Int32)
  · exact Run.step (fun t q => XS.ifYes X.at' C.1 rfl rfl (C.d hd) rfl ((if0 _ _).trans (teq g).1) hp.1 hp.2.1 q) (ry g)
  · obtain rfl := hp.2.2
    exact Run.step (fun t q => XS.ifNo X.at' C.1 rfl (C.d hd) rfl ((if0 _ _).trans (feq g).1) q) (rn g)
theorem s_icmp_ne (pY pN : Nat) (C : Cx tabs a0 Z own nm code ml ret p s m meth c) (X : St p l e R s m args below meth c n0 T h k n) {x y : Int32} {o : Int} (hd : decode code pc = .ok (.if_icmp .ne o, 3)) (ry : ¬ x = y → Run p e below n0 Q G m T pY ls st) (rn : x = y → Run p e below n0 Q G m T pN ls st) (hp : 0 ≤ (pc : Int) + o ∧ ((pc : Int) + o).toNat = pY ∧ pc + 3 = pN := by decide) : Run p e below n0 Q G m T pc ls (.int y :: .int x :: st) := by
  by_cases g : x = y
  · obtain rfl := hp.2.2
    exact Run.step (fun t q => XS.icmpNo X.at' C.1 rfl (C.d hd) rfl (teq g).2 q) (rn g)
  · exact Run.step (fun t q => XS.icmpYes X.at' C.1 rfl rfl (C.d hd) rfl (feq g).2 hp.1 hp.2.1 q) (ry g)
theorem s_if_ne (pY pN : Nat) (C : Cx tabs a0 Z own nm code ml ret p s m meth c) (X : St p l e R s m args below meth c n0 T h k n) {x : Int32} {o : Int} (hd : decode code pc = .ok (.ifCond .ne o, 3)) (ry : ¬ x = (0 : Int32) → Run p e below n0 Q G m T pY ls st) (rn : x = (0 : Int32) → Run p e below n0 Q G m T pN ls st) (hp : 0 ≤ (pc : Int) + o ∧ ((pc : Int) + o).toNat = pY ∧ pc + 3 = pN := by decide) : Run p e below n0 Q G m T pc ls (.int x :: st) := by
  by_cases g : x = (0 : Int32)
  · obtain rfl := hp.2.2
    exact Run.step (fun t q => XS.ifNo X.at' C.1 rfl (C.d hd) rfl ((if0 _ _).trans (teq g).2) q) (rn g)
  · exact Run.step (fun t q => XS.ifYes X.at' C.1 rfl rfl (C.d hd) rfl ((if0 _ _).trans (feq g).2) hp.1 hp.2.1 q) (ry g)
theorem s_acmp_ne (pY pN : Nat) (C : Cx tabs a0 Z own nm code ml ret p s m meth c) (X : St p l e R s m args below meth c n0 T h k n) {v w : Value} {o : Int} (hd : decode code pc = .ok (.if_acmp .ne o, 3)) (hv : v.isRef = true) (hw : w.isRef = true) (ry : ¬ v = w → Run p e below n0 Q G m T pY ls st) (rn : v = w → Run p e below n0 Q G m T pN ls st) (hp : 0 ≤ (pc : Int) + o ∧ ((pc : Int) + o).toNat = pY ∧ pc + 3 = pN := by decide) : Run p e below n0 Q G m T pc ls (w :: v :: st) := by
  by_cases g : v = w
  · obtain rfl := hp.2.2; exact Run.step (fun t q => XT.acmpNo X.at' C.1 rfl (C.d hd) rfl hv hw (by simp [XT.acmp, g]) q) (rn g)
  · exact Run.step (fun t q => XT.acmpYes X.at' C.1 rfl rfl (C.d hd) rfl hv hw (by simp [XT.acmp, g]) hp.1 hp.2.1 q) (ry g)
theorem cl_eq {x y : Int64} : XT.cmpL x y = 0 ↔ x.toInt = y.toInt := by
  rw [Int64.toInt_inj]; exact lw_eq x y
theorem FE_mono {kc ks : Nat} (hk : k ≤ kc) (hn : n ≤ ks) : ∀ (v : Option Value) (t : State) (L : List Loc), t.heap = h → FrameEnd s (.returned v) t L k n → FrameEnd s (.returned v) t L kc ks := fun v t L _ h => ⟨h.1, h.2.1, h.2.2.mono hk hn⟩
theorem Run.done (C : Cx tabs a0 Z own nm code ml ret p s m meth c) (X : St p l e R s m args below meth c n0 T h k n) {v : Option Value} (hv : ret = none → v = none) (hG : ∀ (v : Option Value) (t : State) (L : List Loc), t.heap = h → FrameEnd s (.returned v) t L k n → G (.returned v) t L) (q : Q v h) (f : ∀ locs fs, Stand p l e R s m args below meth c T locs k n → (∀ (f : JFrame) (acts : List Action), f.method = m → f.locked = none → f.entered = [] → (doReturn e (T.setTop f) acts v).1 = T.setFrames fs) → Steps p.tables e below (T.setTop (mkF m pc ls st)) (T.setFrames fs)) : Run p e below n0 Q G m T pc ls st := by
  obtain ⟨locs, Y, rfl, N, -⟩ := X
  obtain ⟨fs, hr, hrun, hended, hW, hsame⟩ := Y.leave (v := v) (by rw [C.2.2.2.2.2.1]; exact hv) C.2.2.2.2.2.2.1
  exact ⟨_, _, f locs fs Y hr, hrun, hended, _, _, rfl, ⟨q, N⟩, hG _ _ _ rfl ⟨⟨_, rfl⟩, hW, hsame⟩⟩
theorem s_return (C : Cx tabs a0 Z own nm code ml ret p s m meth c) (X : St p l e R s m args below meth c n0 T h k n) (hd : decode code pc = .ok (.return_, 1)) (hr : ret = none) (q : Q none h) (hG : ∀ (v : Option Value) (t : State) (L : List Loc), t.heap = h → FrameEnd s (.returned v) t L k n → G (.returned v) t L := by exact FE_mono (by decide) (by decide)) : Run p e below n0 Q G m T pc ls [] := by
  subst hr
  exact Run.done C X (fun _ => rfl) hG q (fun locs fs Y hr => Y.returnOut C.1 C.2.2.2.2.2.1 (C.d hd) hr)
theorem s_ireturn (C : Cx tabs a0 Z own nm code ml ret p s m meth c) (X : St p l e R s m args below meth c n0 T h k n) {z : Int32} (hd : decode code pc = .ok (.ireturn, 1)) (hr : ret = some .int) (q : Q (some (.int z)) h) (hG : ∀ (v : Option Value) (t : State) (L : List Loc), t.heap = h → FrameEnd s (.returned v) t L k n → G (.returned v) t L := by exact FE_mono (by decide) (by decide)) : Run p e below n0 Q G m T pc ls (.int z :: st) := by
  subst hr
  refine Run.done C X (fun w => by cases w) hG q (fun locs fs Y hr => ?_)
  exact retOut Y C.1 C.2.2.2.2.2.1 (t := .int) rfl (Or.inl ⟨rfl, Or.inl rfl, _, rfl⟩) (C.d hd) hr
theorem s_nreturn (C : Cx tabs a0 Z own nm code ml ret p s m meth c) (X : St p l e R s m args below meth c n0 T h k n) {z z' : Int32} {t : FieldType} (hd : decode code pc = .ok (.ireturn, 1)) (hr : ret = some t) (ht : t = .boolean ∨ t = .byte ∨ t = .char ∨ t = .short) (hz : nar t z = z') (q : Q (some (.int z')) h) (hG : ∀ (v : Option Value) (t : State) (L : List Loc), t.heap = h → FrameEnd s (.returned v) t L k n → G (.returned v) t L := by exact FE_mono (by decide) (by decide)) : Run p e below n0 Q G m T pc ls (.int z :: st) := by
  subst hr hz
  refine Run.done C X (fun w => by cases w) hG q (fun locs fs Y hr => ?_)
  exact retN Y C.1 C.2.2.2.2.2.1 ht (C.d hd) hr
theorem s_areturn (C : Cx tabs a0 Z own nm code ml ret p s m meth c) (X : St p l e R s m args below meth c n0 T h k n) {v : Value} {t : FieldType} (hd : decode code pc = .ok (.areturn, 1)) (hr : ret = some t) (ht : t.isReference = true) (hv : v.isRef = true) (q : Q (some v) h) (hG : ∀ (v : Option Value) (t : State) (L : List Loc), t.heap = h → FrameEnd s (.returned v) t L k n → G (.returned v) t L := by exact FE_mono (by decide) (by decide)) : Run p e below n0 Q G m T pc ls (v :: st) := by
  subst hr
  refine Run.done C X (fun w => by cases w) hG q (fun locs fs Y hr => ?_)
  exact retOut Y C.1 C.2.2.2.2.2.1 (t := t) (by rcases ref_cases hv with rfl | ⟨_, rfl⟩ <;> cases t <;> first | rfl | simp [FieldType.isReference] at ht) (Or.inr (Or.inr (Or.inr (Or.inr ⟨rfl, ht, hv⟩)))) (C.d hd) hr
theorem s_getfield (pc' : Nat) (C : Cx tabs a0 Z own nm code ml ret p s m meth c) (X : St p l e R s m args below meth c n0 T h k n) {R0 O fn d host : String} {idx : Nat} {a : Addr} {v : Value} (hd : decode code pc = .ok (.getfield idx, 3)) (w : Jvm.Cond.fieldLink own idx R0 fn d ∈ tabs ∨ Jvm.Cond.fieldLinkNest own idx R0 fn d host ∈ tabs) (via : Via Z R0 O fn d) (F : Fld Z h a O fn d v) (r : ∀ T', St p l e R s m args below meth c n0 T' h k n → Run p e below n0 Q G m T' pc' ls (v :: st)) (hp : pc + 3 = pc' := by rfl) : Run p e below n0 Q G m T pc ls (.ref a :: st) := by
  subst hp
  obtain ⟨locs, Y, eT, N, q⟩ := X
  obtain ⟨T', Y', e', f⟩ := getF (host := host) Y C.1 C.2.1 C.2.2.2.2.1 (w.imp C.w C.w) via eT F (g := mkF m pc ls (.ref a :: st)) rfl rfl (C.d hd)
  exact Run.step f (r T' ⟨locs, Y', e', N, q⟩)
theorem s_getstatic (pc' : Nat) (C : Cx tabs a0 Z own nm code ml ret p s m meth c) (X : St p l e R s m args below meth c n0 T h k n) {R0 O fn d host : String} {idx : Nat} {v : Value} (hd : decode code pc = .ok (.getstatic idx, 3)) (w : Jvm.Cond.fieldLink own idx R0 fn d ∈ tabs ∨ Jvm.Cond.fieldLinkNest own idx R0 fn d host ∈ tabs) (via : Via Z R0 O fn d) (F : Sta Z h O fn d v) (r : ∀ T', St p l e R s m args below meth c n0 T' h k n → Run p e below n0 Q G m T' pc' ls (v :: st)) (hp : pc + 3 = pc' := by rfl) : Run p e below n0 Q G m T pc ls st := by
  subst hp
  obtain ⟨locs, Y, eT, N, q⟩ := X
  obtain ⟨T', Y', e', f⟩ := getS2 (host := host) Y C.1 C.2.1 C.2.2.2.2.1 (w.imp C.w C.w) via eT F (g := mkF m pc ls st) rfl (C.d hd)
  exact Run.step f (r T' ⟨locs, Y', e', N, q⟩)
theorem s_putfield (pc' : Nat) (C : Cx tabs a0 Z own nm code ml ret p s m meth c) (X : St p l e R s m args below meth c n0 T h k n) {R0 O fn d host K : String} {idx kk : Nat} {ty : FieldType} {a : Addr} {v old : Value} (hd : decode code pc = .ok (.putfield idx, 3)) (w : Jvm.Cond.fieldLink own idx R0 fn d ∈ tabs ∨ Jvm.Cond.fieldLinkNest own idx R0 fn d host ∈ tabs) (via : Via Z R0 O fn d) (F : Fld Z h a O fn d old) (E : Exa Z h a K) (L : Jvm.Cond.lays K O fn d ∈ tabs ∨ (Jvm.Cond.laysFinal K O fn d ∈ tabs ∧ own = O ∧ nm = "<init>")) (wi : Jvm.Cond.instantiable K kk ∈ tabs) (hty : parseFieldDescriptor d = some ty) (hn : narrow ty v = v) (hf : fits ty v = true) (ge : n0 ≤ a)
    (r : ∀ T' h', St p l e R s m args below meth c n0 T' h' k n → Wr h h' a (RoadKit.slotOf Z O fn d) v → Run p e below n0 Q G m T' pc' ls st) (hp : pc + 3 = pc' := by rfl) : Run p e below n0 Q G m T pc ls (v :: .ref a :: st) := by
  subst hp
  obtain ⟨locs, Y, eT, N, q⟩ := X
  obtain ⟨T', h', Y', e', W, f⟩ := putF (host := host) Y C.1 C.2.1 C.2.2.2.2.1 (w.imp C.w C.w) via eT F E (L.imp C.w fun z => ⟨C.w z.1, z.2.1, C.2.2.2.2.2.2.2.1.trans z.2.2⟩) (C.w wi) hty hn hf (g := mkF m pc ls (v :: .ref a :: st)) rfl rfl (C.d hd)
  exact Run.step f (r T' h' ⟨_, Y', e', Fr.snoc Y' N ge, q⟩ W)
theorem s_putfieldN (pc' : Nat) (C : Cx tabs a0 Z own nm code ml ret p s m meth c) (X : St p l e R s m args below meth c n0 T h k n) {R0 O fn d K : String} {idx kk : Nat} {ty : FieldType} {a : Addr} {v v' old : Value} (hd : decode code pc = .ok (.putfield idx, 3)) (w : Jvm.Cond.fieldLink own idx R0 fn d ∈ tabs) (via : Via Z R0 O fn d) (F : Fld Z h a O fn d old) (E : Exa Z h a K) (L : Jvm.Cond.lays K O fn d ∈ tabs ∨ (Jvm.Cond.laysFinal K O fn d ∈ tabs ∧ own = O ∧ nm = "<init>")) (wi : Jvm.Cond.instantiable K kk ∈ tabs) (hty : parseFieldDescriptor d = some ty) (hn : narrow ty v = v') (hf : fits ty v' = true) (ge : n0 ≤ a)
    (r : ∀ T' h', St p l e R s m args below meth c n0 T' h' k n → Wr h h' a (RoadKit.slotOf Z O fn d) v' → Run p e below n0 Q G m T' pc' ls st) (hp : pc + 3 = pc' := by rfl) : Run p e below n0 Q G m T pc ls (v :: .ref a :: st) := by
  subst hp
  obtain ⟨locs, Y, eT, N, q⟩ := X
  obtain ⟨T', h', Y', e', W, f⟩ := putFN Y C.1 C.2.1 C.2.2.2.2.1 (C.w w) via eT F E (L.imp C.w fun z => ⟨C.w z.1, z.2.1, C.2.2.2.2.2.2.2.1.trans z.2.2⟩) (C.w wi) hty hn hf (g := mkF m pc ls (v :: .ref a :: st)) rfl rfl (C.d hd)
  exact Run.step f (r T' h' ⟨_, Y', e', Fr.snoc Y' N ge, q⟩ W)
theorem s_new (pc' : Nat) (C : Cx tabs a0 Z own nm code ml ret p s m meth c) (X : St p l e R s m args below meth c n0 T h k n) {K : String} {idx nn : Nat} (hd : decode code pc = .ok (.new idx, 3)) (w1 : Jvm.Cond.classLink own idx K ∈ tabs) (w2 : Jvm.Cond.instantiable K nn ∈ tabs) (w3 : Jvm.Cond.initialized K ∈ tabs)
    (r : ∀ T' h' b, h.size = b → St p l e R s m args below meth c n0 T' h' (k + 1) (n + nn) → Ext h h' → Exa Z h' b K → (∀ {O fn d : String} {ty : FieldType}, Laid Z a0 K O fn d → parseFieldDescriptor d = some ty → Fld Z h' b O fn d (defaultValue ty)) → n0 ≤ b → Run p e below n0 Q G m T' pc' ls (.ref b :: st)) (hp : pc + 3 = pc' := by rfl) (hc : k + 1 ≤ R.cells ∧ n + nn ≤ R.slots := by decide) : Run p e below n0 Q G m T pc ls st := by
  subst hp
  have hz := X.sz
  obtain ⟨locs, Y, eT, N, q⟩ := X
  obtain ⟨T', h', Y', e', E, A, D, -, f⟩ := newO Y C.1 C.2.1 C.2.2.2.2.1 (C.w w1) (C.w w2) (C.w w3) eT (g := mkF m pc ls st) rfl (C.d hd) hc.1 hc.2
  exact Run.step f (r T' h' _ rfl ⟨locs, Y', e', N, q⟩ E A D hz)
theorem s_objInit (pc' : Nat) (C : Cx tabs a0 Z own nm code ml ret p s m meth c) (X : St p l e R s m args below meth c n0 T h k n) {idx W : Nat} {a : Addr} (hd : decode code pc = .ok (.invokespecial idx, 3)) (w1 : Jvm.Cond.methodLink own idx Lib.objectInit ∈ tabs) (w2 : Jvm.Cond.instanceMethod Lib.objectInit ∈ tabs) (w3 : Jvm.Cond.code Lib.objectInit ⟨#[0xb1]⟩ 1 none ∈ tabs) (hsz : ls.size = ml) (hW : (st.map fun v => v.category).sum = W) (hf : 1 ≤ R.frames ∧ W + 12 ≤ R.locals)
    (r : ∀ T', St p l e R s m args below meth c n0 T' h k n → Run p e below n0 Q G m T' pc' ls st) (hp : pc + 3 = pc' := by rfl) : Run p e below n0 Q G m T pc ls (.ref a :: st) := by
  subst hp
  obtain ⟨locs, Y, eT, N, q⟩ := X
  obtain ⟨T', Y', e', f⟩ := initO Y C.1 C.2.1 C.2.2.2.2.1 (C.w w1) (C.w w2) (C.w w3) eT (g := mkF m pc ls (.ref a :: st)) rfl (hsz.trans C.2.2.2.1.symm) rfl (C.d hd) hf.1 (W := W) (by show 2 * 0 + _ ≤ _; rw [hW]; omega) hf.2
  exact Run.step f (r T' ⟨locs, Y', e', N, q⟩)
theorem s_instY (pc' : Nat) (C : Cx tabs a0 Z own nm code ml ret p s m meth c) (X : St p l e R s m args below meth c n0 T h k n) {K : String} {idx : Nat} {a : Addr} (hd : decode code pc = .ok (.instanceof idx, 3)) (w : Jvm.Cond.classLink own idx K ∈ tabs) (F : Ins Z h a K true) (r : ∀ T', St p l e R s m args below meth c n0 T' h k n → Run p e below n0 Q G m T' pc' ls (.int 1 :: st)) (hp : pc + 3 = pc' := by rfl) : Run p e below n0 Q G m T pc ls (.ref a :: st) := by
  subst hp
  obtain ⟨locs, Y, eT, N, q⟩ := X
  obtain ⟨T', Y', e', f⟩ := instY Y C.1 C.2.1 C.2.2.2.2.1 (C.w w) eT F (g := mkF m pc ls (.ref a :: st)) rfl rfl (C.d hd)
  exact Run.step f (r T' ⟨locs, Y', e', N, q⟩)
theorem s_instN (pc' : Nat) (C : Cx tabs a0 Z own nm code ml ret p s m meth c) (X : St p l e R s m args below meth c n0 T h k n) {K K0 : String} {idx : Nat} {a : Addr} (hd : decode code pc = .ok (.instanceof idx, 3)) (w : Jvm.Cond.classLink own idx K ∈ tabs) (E : Exa Z h a K0) (F : ∃ c t, Z.vm.findClass K0 = some c ∧ Z.vm.findClass K = some t ∧ Z.vm.assignable c t = false) (r : ∀ T', St p l e R s m args below meth c n0 T' h k n → Run p e below n0 Q G m T' pc' ls (.int 0 :: st)) (hp : pc + 3 = pc' := by rfl) : Run p e below n0 Q G m T pc ls (.ref a :: st) := by
  subst hp
  obtain ⟨locs, Y, eT, N, q⟩ := X
  obtain ⟨T', Y', e', f⟩ := instNo Y C.1 C.2.1 C.2.2.2.2.1 (C.w w) eT E F (g := mkF m pc ls (.ref a :: st)) rfl rfl (C.d hd)
  exact Run.step f (r T' ⟨locs, Y', e', N, q⟩)
theorem s_instNull (pc' : Nat) (C : Cx tabs a0 Z own nm code ml ret p s m meth c) (X : St p l e R s m args below meth c n0 T h k n) {idx : Nat} (hd : decode code pc = .ok (.instanceof idx, 3)) (r : Run p e below n0 Q G m T pc' ls (.int 0 :: st)) (hp : pc + 3 = pc' := by rfl) : Run p e below n0 Q G m T pc ls (.null :: st) := by
  subst hp
  obtain ⟨locs, Y, eT, N, q⟩ := X
  exact Run.step (Y.instanceofNull C.1 (g := mkF m pc ls (.null :: st)) rfl rfl (C.d hd)) r
theorem s_castY (pc' : Nat) (C : Cx tabs a0 Z own nm code ml ret p s m meth c) (X : St p l e R s m args below meth c n0 T h k n) {K : String} {idx : Nat} {a : Addr} (hd : decode code pc = .ok (.checkcast idx, 3)) (w : Jvm.Cond.classLink own idx K ∈ tabs) (F : Ins Z h a K true) (r : ∀ T', St p l e R s m args below meth c n0 T' h k n → Run p e below n0 Q G m T' pc' ls (.ref a :: st)) (hp : pc + 3 = pc' := by rfl) : Run p e below n0 Q G m T pc ls (.ref a :: st) := by
  subst hp
  obtain ⟨locs, Y, eT, N, q⟩ := X
  obtain ⟨T', Y', e', f⟩ := castY Y C.1 C.2.1 C.2.2.2.2.1 (C.w w) eT F (g := mkF m pc ls (.ref a :: st)) rfl rfl (C.d hd)
  exact Run.step f (r T' ⟨locs, Y', e', N, q⟩)
theorem s_newarray (pc' : Nat) (cap : Nat) (C : Cx tabs a0 Z own nm code ml ret p s m meth c) (X : St p l e R s m args below meth c n0 T h k n) {aty : ArrayType} {z : Int32} (hd : decode code pc = .ok (.newarray aty, 2)) (w : Jvm.Cond.arrayClass (newarray.typeOf aty) ∈ tabs) (hz : ¬ z < 0) (hcap : z.toNatClampNeg ≤ cap)
    (r : ∀ T' h' b kA, h.size = b → St p l e R s m args below meth c n0 T' h' (k + 1) (n + cap) → Ext h h' → Arv Z h' b kA (newarray.typeOf aty) z [] (defaultValue (newarray.typeOf aty)) → n0 ≤ b → Run p e below n0 Q G m T' pc' ls (.ref b :: st)) (hp : pc + 2 = pc' := by rfl) (hc : cap * 8 ≤ 536870912 ∧ k + 1 ≤ R.cells ∧ n + cap ≤ R.slots := by decide) : Run p e below n0 Q G m T pc ls (.int z :: st) := by
  subst hp
  have hs := X.sz
  obtain ⟨locs, Y, eT, N, q⟩ := X
  obtain ⟨T', h', kA, Y', e', E, A, f⟩ := newP Y C.1 C.2.1 (C.w w) eT (g := mkF m pc ls (.int z :: st)) rfl (C.d hd) rfl hz hcap hc.1 hc.2.1 hc.2.2
  exact Run.step f (r T' h' _ kA rfl ⟨locs, Y', e', N, q⟩ E (Arv.new A hz) hs)
theorem s_castore (pc' : Nat) (i : Nat) (C : Cx tabs a0 Z own nm code ml ret p s m meth c) (X : St p l e R s m args below meth c n0 T h k n) {a : Addr} {kA : ClassId} {z j : Int32} {x : Int32} {vs : List Value} {dv : Value} (hd : decode code pc = .ok (.castore, 1)) (F : Arv Z h a kA .char z vs dv) (ge : n0 ≤ a) (hj : ¬ j < 0 ∧ j < z) (hi : j.toNatClampNeg = i) (hl : i < vs.length)
    (r : ∀ T' h', St p l e R s m args below meth c n0 T' h' k n → Wr h h' a j.toNatClampNeg (.int (nar .char x)) → Arv Z h' a kA .char z (vs.set i (.int (nar .char x))) dv → Run p e below n0 Q G m T' pc' ls st) (hp : pc + 1 = pc' := by rfl) : Run p e below n0 Q G m T pc ls (.int x :: .int j :: .ref a :: st) := by
  subst hp
  obtain ⟨locs, Y, eT, N, q⟩ := X
  obtain ⟨cl, A, q1, S, q3, H, G⟩ := F
  obtain ⟨T', h', Y', e', W, f⟩ := stC Y C.1 C.2.1 eT A (j := j) (inb_of S hj) (g := mkF m pc ls (.int x :: .int j :: .ref a :: st)) rfl rfl (C.d hd)
  exact Run.step f (r T' h' ⟨_, Y', e', Fr.snoc Y' N ge, q⟩ W (Arv.set A q1 S q3 H G (fits_nar_char x) W i hi hl))
theorem s_bastore (pc' : Nat) (i : Nat) (C : Cx tabs a0 Z own nm code ml ret p s m meth c) (X : St p l e R s m args below meth c n0 T h k n) {a : Addr} {kA : ClassId} {z j : Int32} {x : Int32} {vs : List Value} {dv : Value} (hd : decode code pc = .ok (.bastore, 1)) (F : Arv Z h a kA .byte z vs dv) (ge : n0 ≤ a) (hj : ¬ j < 0 ∧ j < z) (hi : j.toNatClampNeg = i) (hl : i < vs.length)
    (r : ∀ T' h', St p l e R s m args below meth c n0 T' h' k n → Wr h h' a j.toNatClampNeg (.int (nar .byte x)) → Arv Z h' a kA .byte z (vs.set i (.int (nar .byte x))) dv → Run p e below n0 Q G m T' pc' ls st) (hp : pc + 1 = pc' := by rfl) : Run p e below n0 Q G m T pc ls (.int x :: .int j :: .ref a :: st) := by
  subst hp
  obtain ⟨locs, Y, eT, N, q⟩ := X
  obtain ⟨cl, A, q1, S, q3, H, G⟩ := F
  obtain ⟨T', h', Y', e', W, f⟩ := stB Y C.1 C.2.1 eT A (j := j) (inb_of S hj) (g := mkF m pc ls (.int x :: .int j :: .ref a :: st)) rfl rfl (C.d hd)
  exact Run.step f (r T' h' ⟨_, Y', e', Fr.snoc Y' N ge, q⟩ W (Arv.set A q1 S q3 H G (fits_nar_byte x) W i hi hl))
theorem s_caload (pc' : Nat) (C : Cx tabs a0 Z own nm code ml ret p s m meth c) (X : St p l e R s m args below meth c n0 T h k n) {a : Addr} {kA : ClassId} {z j : Int32} {v : Value} {vs : List Value} {dv : Value} (hd : decode code pc = .ok (.caload, 1)) (F : Arv Z h a kA .char z vs dv) (hj : ¬ j < 0 ∧ j < z) (hv : vs.getD j.toNatClampNeg dv = v)
    (r : Run p e below n0 Q G m T pc' ls (v :: st)) (hp : pc + 1 = pc' := by rfl) : Run p e below n0 Q G m T pc ls (.int j :: .ref a :: st) := by
  subst hp
  obtain ⟨locs, Y, eT, N, q⟩ := X
  obtain ⟨cl, A, q1, S, q3, H, G⟩ := F
  exact Run.step (fun t q => Y.caload C.1 (j := j) (v := v) (by rw [eT]; exact A.1) (State.isArrayOf_alike C.2.1.alike A.2.1) A.2.2 (inb_of S hj) (H.at (inb_of S hj) hv) (g := mkF m pc ls (.int j :: .ref a :: st)) rfl rfl (C.d hd) t q) r
theorem s_baload (pc' : Nat) (C : Cx tabs a0 Z own nm code ml ret p s m meth c) (X : St p l e R s m args below meth c n0 T h k n) {a : Addr} {kA : ClassId} {z j : Int32} {v : Value} {vs : List Value} {dv : Value} (hd : decode code pc = .ok (.baload, 1)) (F : Arv Z h a kA .byte z vs dv) (hj : ¬ j < 0 ∧ j < z) (hv : vs.getD j.toNatClampNeg dv = v)
    (r : Run p e below n0 Q G m T pc' ls (v :: st)) (hp : pc + 1 = pc' := by rfl) : Run p e below n0 Q G m T pc ls (.int j :: .ref a :: st) := by
  subst hp
  obtain ⟨locs, Y, eT, N, q⟩ := X
  obtain ⟨cl, A, q1, S, q3, H, G⟩ := F
  exact Run.step (fun t q => Y.baloadBytes C.1 (j := j) (v := v) (by rw [eT]; exact A.1) (State.isArrayOf_alike C.2.1.alike A.2.1) A.2.2 (inb_of S hj) (H.at (inb_of S hj) hv) (g := mkF m pc ls (.int j :: .ref a :: st)) rfl rfl (C.d hd) t q) r
theorem s_arraylength (pc' : Nat) (C : Cx tabs a0 Z own nm code ml ret p s m meth c) (X : St p l e R s m args below meth c n0 T h k n) {a : Addr} {kA : ClassId} {z : Int32} {ty : FieldType} {vs : List Value} {dv : Value} (hd : decode code pc = .ok (.arraylength, 1)) (F : Arv Z h a kA ty z vs dv)
    (r : Run p e below n0 Q G m T pc' ls (.int z :: st)) (hp : pc + 1 = pc' := by rfl) : Run p e below n0 Q G m T pc ls (.ref a :: st) := by
  subst hp
  obtain ⟨locs, Y, eT, N, q⟩ := X
  obtain ⟨cl, A, q1, S, q3, H, G⟩ := F
  rw [← len_of S q3] at r
  exact Run.step (fun t q => Y.arraylength C.1 (by rw [eT]; exact A.1) (State.isArrayOf_alike C.2.1.alike A.2.1) (g := mkF m pc ls (.ref a :: st)) rfl rfl (C.d hd) t q) r
/-- a method's contract at given arguments and a given heap -/
def Met (l : Launch) (Z : State) (y : MethodName) (bytes : ByteArray) (ml : Nat) (ret : Option FieldType) (rm : Room) (ws : List Jvm.Cond) (as : Array Value) (h : Heap) (n0 : Nat) (Q : Option Value → Heap → Prop) : Prop :=
  MetFree l y (head1 (Jvm.Cond.code y bytes ml ret :: ws) rm) (fun a U => a = as ∧ Z.Warmed39 U.vm ∧ U.heap = h) (fun _ _ _ _ _ => True) (fun _ U o U' => ∃ v L, o = .returned v ∧ (Q v U'.heap ∧ Fr n0 L) ∧ FrameEnd U o U' L rm.cells rm.slots)
theorem Met.mk {y : MethodName} {rm : Room} {ws : List Jvm.Cond} {as : Array Value} {ls0 : Array Slot} (hpl : plainFor y = true) (hw : ∀ d ∈ tabs, d.before a0 Z = true) (hn : n0 ≤ h.size) (hef : ∀ m, entryFrame m as ml = mkF m 0 ls0 [])
    (body : ∀ p e s m below meth c T, Cx tabs a0 Z y.cls y.name code ml ret p s m meth c → St p l e rm s m as below meth c n0 T h 0 0 → Run p e below n0 Q (fun o t L => FrameEnd s o t L rm.cells rm.slots) m T 0 ls0 []) : Met l Z y code ml ret rm ws as h n0 Q := by
  refine MetFree.of_bodySF hpl hisR ?_
  intro p e s m args below meth c s₁ Bd hml0 hP hK
  obtain ⟨rfl, hZ, rfl⟩ := hP
  have X0 : Stand p l e rm s m args below meth c s₁ [] 0 0 := Stand.of_body Bd
  have e0 : s₁.heap = s.heap := by rw [Bd.state]; rfl
  have r := body p e s m below meth c s₁ ⟨Bd.exec, hZ, Bd.bytes, hml0, findClass_of_methodNamed Bd.named, Bd.returns, Bd.notSynchronized, (name_of_methodNamed Bd.named Bd.method).1, hw⟩ ⟨[], X0, e0, Fr.nil n0, hn⟩
  obtain ⟨s₂, o, h1, h2⟩ := r
  exact ⟨s₂, o, castTop (hef m) h1, h2⟩
theorem s_callS (pc' : Nat) (argsL rest : List Value) (W : Nat) (C : Cx tabs a0 Z own nm code ml ret p s m meth c) (X : St p l e R s m args below meth c n0 T h k n) {idx : Nat} {y : MethodName} {bytes : ByteArray} {maxL : Nat} {rt : Option FieldType} {rm : Room} {stk : List Value} {Q1 : Option Value → Heap → Prop} (hd : decode code pc = .ok (.invokestatic idx, 3)) (w1 : Jvm.Cond.methodLink own idx y ∈ tabs) (w2 : Jvm.Cond.static y ∈ tabs) (w3 : Jvm.Cond.initialized y.cls ∈ tabs) (w4 : Jvm.Cond.code y bytes maxL rt ∈ tabs)
    (M : Met l Z y bytes maxL rt rm [] argsL.toArray h n0 Q1) (hlen : ∀ sig, parseMethodDescriptor y.desc = some sig → argsL.length = sig.parameters.length) (hs : stk = argsL.reverse ++ rest) (hsz : ls.size = ml) (hW : (rest.map fun v => v.category).sum = W)
    (r : ∀ T' v h', St p l e R s m args below meth c n0 T' h' (k + rm.cells) (n + rm.slots) → Q1 v h' → Run p e below n0 Q G m T' pc' ls (v.toList ++ rest)) (hp : pc + 3 = pc' := by rfl) (hr : rm.frames + 1 ≤ R.frames ∧ W + (maxL + 11) + rm.locals ≤ R.locals ∧ k + rm.cells ≤ R.cells ∧ n + rm.slots ≤ R.slots := by decide) (hy : y.cls ≠ "java/lang/invoke/MethodHandle" ∧ y.cls ≠ "java/lang/invoke/VarHandle" := by decide) : Run p e below n0 Q G m T pc ls stk := by
  subst hp hs
  obtain ⟨locs, Y, eT, N, q⟩ := X
  obtain ⟨v, _, ⟨T1, L1, k1, n1⟩, -, Y', ⟨Lc, hQ, l1, y1, z1⟩, f⟩ := Jvm.LawKit.callS Y C.1 C.2.2.2.2.1 (mvT C.2.1 (C.w w1)) (mvT C.2.1 (C.w w2)) (mvT C.2.1 (C.w w3)) (mvT C.2.1 (C.w w4)) hy (backOf (W := W) (Q := fun v h L => Q1 v h ∧ Fr n0 L) M C.2.1 (C.w w4) (C.w w3) hr.1 hr.2.1) (g := mkF m pc ls (argsL.reverse ++ rest)) rfl (hsz.trans C.2.2.2.1.symm) (argsL := argsL) (rest := rest) hlen rfl (by show 2 * 0 + _ ≤ _; rw [hW]; omega) (C.d hd) (fun _ _ => ⟨rfl, eT, hr.2.2.1, hr.2.2.2⟩)
  dsimp only [Pt.U, Pt.locs, Pt.cells, Pt.slots] at Y' l1 y1 z1 f hQ
  subst l1 y1 z1
  exact Run.step f (r T1 v _ ⟨_, Y', rfl, Fr.app N hQ.2, q⟩ hQ.1)
theorem s_callC (pc' : Nat) (argsL rest : List Value) (W : Nat) (C : Cx tabs a0 Z own nm code ml ret p s m meth c) (X : St p l e R s m args below meth c n0 T h k n) {idx : Nat} {y : MethodName} {bytes : ByteArray} {maxL : Nat} {rm : Room} {stk : List Value} {Q1 : Option Value → Heap → Prop} {a : Addr} (hd : decode code pc = .ok (.invokespecial idx, 3)) (hi : y.name = "<init>") (w1 : Jvm.Cond.methodLink own idx y ∈ tabs) (w2 : Jvm.Cond.instanceMethod y ∈ tabs) (w3 : Jvm.Cond.initialized y.cls ∈ tabs) (w4 : Jvm.Cond.code y bytes maxL none ∈ tabs)
    (M : Met l Z y bytes maxL none rm [] (.ref a :: argsL).toArray h n0 Q1) (hlen : ∀ sig, parseMethodDescriptor y.desc = some sig → argsL.length = sig.parameters.length) (hs : stk = argsL.reverse ++ .ref a :: rest) (hsz : ls.size = ml) (hW : (rest.map fun v => v.category).sum = W)
    (r : ∀ T' v h', St p l e R s m args below meth c n0 T' h' (k + rm.cells) (n + rm.slots) → Q1 v h' → Run p e below n0 Q G m T' pc' ls (v.toList ++ rest)) (hp : pc + 3 = pc' := by rfl) (hr : rm.frames + 1 ≤ R.frames ∧ W + (maxL + 11) + rm.locals ≤ R.locals ∧ k + rm.cells ≤ R.cells ∧ n + rm.slots ≤ R.slots := by decide) (hy : y.cls ≠ "java/lang/invoke/MethodHandle" ∧ y.cls ≠ "java/lang/invoke/VarHandle" := by decide) : Run p e below n0 Q G m T pc ls stk := by
  subst hp hs
  obtain ⟨locs, Y, eT, N, q⟩ := X
  obtain ⟨v, _, ⟨T1, L1, k1, n1⟩, -, Y', ⟨Lc, hQ, l1, y1, z1⟩, f⟩ := Y.specialBack C.1 (y := y) hi C.2.2.2.2.1 (mvT C.2.1 (C.w w1)) (mvT C.2.1 (C.w w2)) (mvT C.2.1 (C.w w4)) hy (backOf (W := W) (Q := fun v h L => Q1 v h ∧ Fr n0 L) M C.2.1 (C.w w4) (C.w w3) hr.1 hr.2.1) (g := mkF m pc ls (argsL.reverse ++ .ref a :: rest)) rfl (hsz.trans C.2.2.2.1.symm) (Steps.refl _) (a := a) (argsL := argsL) (rest := rest) hlen rfl (by show 2 * 0 + _ ≤ _; rw [hW]; omega) (C.d hd) (fun _ _ => ⟨rfl, eT, hr.2.2.1, hr.2.2.2⟩)
  dsimp only [Pt.U, Pt.locs, Pt.cells, Pt.slots] at Y' l1 y1 z1 f hQ
  subst l1 y1 z1
  exact Run.steps f (r T1 v _ ⟨_, Y', rfl, Fr.app N hQ.2, q⟩ hQ.1)
theorem s_callV (pc' : Nat) (argsL rest : List Value) (W : Nat) (C : Cx tabs a0 Z own nm code ml ret p s m meth c) (X : St p l e R s m args below meth c n0 T h k n) {idx : Nat} {y : MethodName} {bytes : ByteArray} {maxL : Nat} {rt : Option FieldType} {rm : Room} {stk : List Value} {Q1 : Option Value → Heap → Prop} {y0 : MethodName} {K : String} {a : Addr} (hd : decode code pc = .ok (.invokevirtual idx, 3)) (w1 : Jvm.Cond.methodLink own idx y0 ∈ tabs) (w2 : Jvm.Cond.declares y0 ∈ tabs) (hnf : NotFace s y0) (w5 : Jvm.Cond.selects K y0 y ∈ tabs) (w6 : Jvm.Cond.instanceMethod y ∈ tabs) (w3 : Jvm.Cond.initialized y.cls ∈ tabs) (w4 : Jvm.Cond.code y bytes maxL rt ∈ tabs)
    (E : Exa Z h a K) (M : Met l Z y bytes maxL rt rm [] (.ref a :: argsL).toArray h n0 Q1) (hlen : ∀ sig, parseMethodDescriptor y0.desc = some sig → argsL.length = sig.parameters.length) (hs : stk = argsL.reverse ++ .ref a :: rest) (hsz : ls.size = ml) (hW : (rest.map fun v => v.category).sum = W)
    (r : ∀ T' v h', St p l e R s m args below meth c n0 T' h' (k + rm.cells) (n + rm.slots) → Q1 v h' → Run p e below n0 Q G m T' pc' ls (v.toList ++ rest)) (hp : pc + 3 = pc' := by rfl) (hr : rm.frames + 1 ≤ R.frames ∧ W + (maxL + 11) + rm.locals ≤ R.locals ∧ k + rm.cells ≤ R.cells ∧ n + rm.slots ≤ R.slots := by decide) (hy : y0.cls ≠ "java/lang/invoke/MethodHandle" ∧ y0.cls ≠ "java/lang/invoke/VarHandle" := by decide) : Run p e below n0 Q G m T pc ls stk := by
  subst hp hs
  obtain ⟨locs, Y, eT, N, q⟩ := X
  obtain ⟨cq, kq, qa, qb, qc⟩ := isOf C.2.1 eT E
  obtain ⟨v, _, ⟨T1, L1, k1, n1⟩, -, Y', ⟨Lc, hQ, l1, y1, z1⟩, f⟩ := Y.virtualBack C.1 (y := y0) (z := y) C.2.2.2.2.1 (mvT C.2.1 (C.w w1)) (mvT C.2.1 (C.w w2)) hnf (mvT C.2.1 (C.w w5)) (mvT C.2.1 (C.w w6)) hy (backOf (W := W) (Q := fun v h L => Q1 v h ∧ Fr n0 L) M C.2.1 (C.w w4) (C.w w3) hr.1 hr.2.1) qa qc (g := mkF m pc ls (argsL.reverse ++ .ref a :: rest)) rfl (hsz.trans C.2.2.2.1.symm) (Steps.refl _) (argsL := argsL) (rest := rest) hlen rfl (by show 2 * 0 + _ ≤ _; rw [hW]; omega) (C.d hd) (fun _ _ => ⟨rfl, eT, hr.2.2.1, hr.2.2.2⟩)
  dsimp only [Pt.U, Pt.locs, Pt.cells, Pt.slots] at Y' l1 y1 z1 f hQ
  subst l1 y1 z1
  exact Run.steps f (r T1 v _ ⟨_, Y', rfl, Fr.app N hQ.2, q⟩ hQ.1)
theorem Met.mkQ {y : MethodName} {rm : Room} {ws : List Jvm.Cond} {as : Array Value} {ls0 : Array Slot} (hpl : plainFor y = true) (hw : ∀ d ∈ tabs, d.before a0 Z = true) (hn : n0 ≤ h.size) (hef : ∀ m, entryFrame m as ml = mkF m 0 ls0 [])
    (body : ∀ p e s m below meth c T (Q' : Option Value → Heap → Prop) (G' : Outcome → State → List Loc → Prop), (∀ v h', Q v h' → Q' v h') → (∀ v t L, FrameEnd s (.returned v) t L rm.cells rm.slots → G' (.returned v) t L) → Cx tabs a0 Z y.cls y.name code ml ret p s m meth c → St p l e rm s m as below meth c n0 T h 0 0 → Run p e below n0 Q' G' m T 0 ls0 []) : Met l Z y code ml ret rm ws as h n0 Q :=
  Met.mk hpl hw hn hef (fun p e s m below meth c T C X => body p e s m below meth c T Q _ (fun _ _ q => q) (fun _ _ _ q => q) C X)
theorem FG {kc ks : Nat} {G' : Outcome → State → List Loc → Prop} (hG : ∀ v t L, FrameEnd s (.returned v) t L kc ks → G' (.returned v) t L) (hk : k ≤ kc) (hn : n ≤ ks) : ∀ (v : Option Value) (t : State) (L : List Loc), t.heap = h → FrameEnd s (.returned v) t L k n → G' (.returned v) t L := fun v t L _ q => hG v t L ⟨q.1, q.2.1, q.2.2.mono hk hn⟩
theorem mW {α : Type} {l : List α} {a : α} (i : Nat) (h : l[i]? = some a) : a ∈ l := List.mem_of_getElem? h
theorem oth {Z : State} {h h' : Heap} {a b : Addr} {v w : Value} {a0 : Array Value} {K C n d O' n' d' : String} (F : Fld Z h b C n d w) (W : Wr h h' a (Jvm.RoadKit.slotOf Z O' n' d') v) (L : Laid Z a0 K C n d) (L' : Laid Z a0 K O' n' d') (q : (n != n' && (parseFieldDescriptor d).isSome && (parseFieldDescriptor d').isSome) = true) : Fld Z h' b C n d w := by
  simp only [Bool.and_eq_true, bne_iff_ne, Option.isSome_iff_exists] at q
  obtain ⟨⟨q1, t, q2⟩, t', q3⟩ := q
  exact F.other W (Or.inr (slot_ne L L' q1 q2 q3))
variable {EL : List (String × Nat)} {so : List Addr} {vm : Vm} {k1 : Nat}
/-- the contract of a method that may intern texts, where what is held goes on -/
def MetH (l : Launch) (Z : State) (EL : List (String × Nat)) (so : List Addr) (y : MethodName) (bytes : ByteArray) (ml : Nat) (ret : Option FieldType) (rm : Room) (ws : List Jvm.Cond) (as : Array Value) (h : Heap) (n0 : Nat) (Q : Option Value → Heap → Prop) : Prop :=
  MetFree l y (head1 (Jvm.Cond.code y bytes ml ret :: ws) rm) (fun a U => a = as ∧ Z.Warmed39 U.vm ∧ U.heap = h ∧ CHv Z EL U.vm h ∧ ∀ x ∈ so, Safe Z EL U.vm h x) (fun _ _ _ _ _ => True) (fun _ U o U' => ∃ v L, o = .returned v ∧ (Q v U'.heap ∧ Fr n0 L) ∧ CHr Z EL U.vm U.heap U'.vm U'.heap ∧ ReturnedEndW U o U' L rm.cells rm.slots)
theorem Cx.since (C : Cx tabs a0 Z own nm code ml ret p (s.setVm vm) m meth c) {vm' : Vm} {k2 : Nat} (hS : (s.setVm vm).Since vm' k2) : Cx tabs a0 Z own nm code ml ret p (s.setVm vm') m meth c :=
  ⟨C.1, State.Warmed39.trans (t := s.setVm vm) C.2.1 hS.1, C.2.2.1, C.2.2.2.1, (by rw [show (s.setVm vm').vm = vm' from rfl, hS.1.alike.findClass]; exact C.2.2.2.2.1), C.2.2.2.2.2⟩
theorem St.mono {k' n' : Nat} (X : St p l e R s m args below meth c n0 T h k n) (hk : k ≤ k') (hn : n ≤ n') : St p l e R s m args below meth c n0 T h k' n' := by
  obtain ⟨locs, Y, r⟩ := X
  exact ⟨locs, Y.mono hk hn, r⟩
theorem MetH.mkQ {y : MethodName} {rm : Room} {ws : List Jvm.Cond} {as : Array Value} {ls0 : Array Slot} (hpl : plainFor y = true) (hw : ∀ d ∈ tabs, d.before a0 Z = true) (hn : n0 ≤ h.size) (hef : ∀ m, entryFrame m as ml = mkF m 0 ls0 [])
    (body : ∀ p e s m below meth c T (Q' : Option Value → Heap → Prop) (G' : Outcome → State → List Loc → Prop) (vm : Vm) (k1 : Nat), (∀ v h', Q v h' → Q' v h') → (∀ v t L, CHr Z EL s.vm h t.vm t.heap → ReturnedEndW s (.returned v) t L rm.cells rm.slots → G' (.returned v) t L) → Cx tabs a0 Z y.cls y.name code ml ret p (s.setVm vm) m meth c → St p l e rm (s.setVm vm) m as below meth c n0 T h 0 0 → s.Since vm k1 → k1 ≤ h.size → CHr Z EL s.vm h vm h → (∀ x ∈ so, Safe Z EL vm h x) → Run p e below n0 Q' G' m T 0 ls0 []) : MetH l Z EL so y code ml ret rm ws as h n0 Q := by
  refine MetFree.of_bodySF hpl hisR ?_
  intro p e s m args below meth c s₁ Bd hml0 hP hK
  obtain ⟨rfl, hZ, rfl, hC, hso⟩ := hP
  have X0 : Stand p l e rm s m args below meth c s₁ [] 0 0 := Stand.of_body Bd
  have e0 : s₁.heap = s.heap := by rw [Bd.state]; rfl
  have r := body p e s m below meth c s₁ Q (fun o t L => CHr Z EL s.vm s.heap t.vm t.heap ∧ ReturnedEndW s o t L rm.cells rm.slots) s.vm 0 (fun _ _ q => q) (fun _ _ _ a b => ⟨a, b⟩) ⟨Bd.exec, hZ, Bd.bytes, hml0, findClass_of_methodNamed Bd.named, Bd.returns, Bd.notSynchronized, (name_of_methodNamed Bd.named Bd.method).1, hw⟩ ⟨[], X0, e0, Fr.nil n0, hn⟩ ((State.WarmedH.refl s).since 0) (Nat.zero_le _) (CHr.refl hC) hso
  obtain ⟨s₂, o, h1, h2⟩ := r
  exact ⟨s₂, o, castTop (hef m) h1, h2⟩
theorem CHw (hZ : Z.Warmed39 vm) (hEL : EW Z a0 EL) {vm' : Vm} (hW : (s.setVm vm).WarmedH vm') (H : CHv Z EL vm h) : CHr Z EL vm h vm' h := by
  have q := CHv.later (h' := h) hZ (hW := (show (Wst Z vm h).Warmed39 vm' from hW.wide)) hEL ⟨Nat.le_refl _, fun _ _ q => q⟩ (Or.inl hW.interned_eq) H
  exact ⟨q.1, Nat.le_refl _, q.2⟩
theorem FGH {h0 : Heap} {kc ks : Nat} {G' : Outcome → State → List Loc → Prop} (hG : ∀ v t L, CHr Z EL s.vm h0 t.vm t.heap → ReturnedEndW s (.returned v) t L kc ks → G' (.returned v) t L) (hS : s.Since vm k1) (Nk : k1 ≤ h.size) (Rc : CHr Z EL s.vm h0 vm h) (C : Cx tabs a0 Z own nm code ml ret p (s.setVm vm) m meth c) (hEL : EW Z a0 EL) (hk : k ≤ kc) (hn : n ≤ ks) : ∀ (v : Option Value) (t : State) (L : List Loc), t.heap = h → FrameEnd (s.setVm vm) (.returned v) t L k n → G' (.returned v) t L := fun v t L e q =>
  hG v t L (by rw [e]; exact Rc.trans (CHw C.2.1 hEL q.2.1 Rc.1)) (by
    have z := hS.ended q.2.1 (by rw [e]; exact Nk) q.2.2
    exact ⟨⟨_, rfl⟩, z.1, z.2.1, z.2.2.mono hk hn⟩)
theorem backH {y : MethodName} {bytes : ByteArray} {maxL : Nat} {rt : Option FieldType} {rm : Room} {len W : Nat} {as' : Array Value} {Q1 : Option Value → Heap → Prop}
    (M : MetH l Z EL so y bytes maxL rt rm [] as' h n0 Q1) (hZ : Z.Warmed39 vm) (wc : (Jvm.Cond.code y bytes maxL rt).before a0 Z = true) (wz : (Jvm.Cond.initialized y.cls).before a0 Z = true) (hf : rm.frames + 1 ≤ R.frames) (hl : W + (maxL + 11) + rm.locals ≤ R.locals) (hEL : EW Z a0 EL) (H : CHv Z EL vm h) (hso : ∀ x ∈ so, x < h.size ∧ Safe Z EL vm h x) :
    BackS l R p e below (s.setVm vm) args y len W (fun A a => a = as' ∧ A.U.heap = h ∧ A.cells + rm.cells ≤ R.cells ∧ A.slots + rm.slots ≤ R.slots)
      (fun A _ v B => ∃ L, (Q1 v B.U.heap ∧ Fr n0 L) ∧ B.locs = A.locs ++ L ∧ B.cells = A.cells + rm.cells ∧ B.slots = A.slots + rm.slots ∧ CHr Z EL vm h B.U.vm B.U.heap) :=
  BackS.of_freeW (bytes := bytes) (maxL := maxL) (ret := rt) (E := fun _ first o t L k n => k = rm.cells ∧ n = rm.slots ∧ (∃ v, o = .returned v ∧ Q1 v t.heap ∧ Fr n0 L) ∧ CHr Z EL first.vm first.heap t.vm t.heap) M hf hl
    (fun m meth c A a Y hp => have hU : Z.Warmed39 A.U.vm := wtrans (s := s.setVm vm) hZ Y.warmed
      ⟨by show (Jvm.Cond.and _ .tt).before a A.U = true; rw [Cond.before_and, mv hU wc]; rfl, mv hU wc, mv hU wz, hp.2.2.1, hp.2.2.2⟩)
    (fun m meth c A a g mk Y hp => have q := CHw hZ hEL Y.warmed H; ⟨hp.1, wtrans (s := s.setVm vm) hZ Y.warmed, hp.2.1, q.1, fun x hx => q.safe (hso x hx).1 (hso x hx).2⟩)
    (fun _ _ _ _ _ _ _ _ _ => trivial)
    (fun _ _ _ _ ⟨v, L, h1, h2, h3, h4⟩ => ⟨L, _, _, h4, rfl, rfl, ⟨v, h1, h2⟩, h3⟩)
    (fun m meth c A a g mk v t L k n Y hp _ _ ⟨e1, e2, ⟨v', e3, e4⟩, e5⟩ => by
      cases e3; subst e1 e2
      refine ⟨L, e4, rfl, rfl, rfl, (CHw hZ hEL Y.warmed H).trans ?_⟩
      rw [← hp.2.1]; exact e5)
theorem soS {P : Addr → Prop} {a : Addr} {ws : List Addr} (n : P a) (r : ∀ x ∈ ws, P x) : ∀ x ∈ a :: ws, P x := fun x q => by
  rcases List.mem_cons.mp q with rfl | q
  · exact n
  · exact r x q
theorem so0 {P : Addr → Prop} : ∀ x ∈ ([] : List Addr), P x := fun _ q => nomatch q
theorem s_hcallS (pc' : Nat) (argsL rest : List Value) (W : Nat) (C : Cx tabs a0 Z own nm code ml ret p (s.setVm vm) m meth c) (X : St p l e R (s.setVm vm) m args below meth c n0 T h k n) (hS : s.Since vm k1) (Nk : k1 ≤ h.size) (hEL : EW Z a0 EL) (H : CHv Z EL vm h) {idx : Nat} {y : MethodName} {bytes : ByteArray} {maxL : Nat} {rt : Option FieldType} {rm : Room} {stk : List Value} {Q1 : Option Value → Heap → Prop} (hd : decode code pc = .ok (.invokestatic idx, 3)) (w1 : Jvm.Cond.methodLink own idx y ∈ tabs) (w2 : Jvm.Cond.static y ∈ tabs) (w3 : Jvm.Cond.initialized y.cls ∈ tabs) (w4 : Jvm.Cond.code y bytes maxL rt ∈ tabs)
    (M : MetH l Z EL so y bytes maxL rt rm [] argsL.toArray h n0 Q1) (hlen : ∀ sig, parseMethodDescriptor y.desc = some sig → argsL.length = sig.parameters.length) (hs : stk = argsL.reverse ++ rest) (hsz : ls.size = ml) (hW : (rest.map fun v => v.category).sum = W)
    (hso : ∀ x ∈ so, x < h.size ∧ Safe Z EL vm h x) (r : ∀ T' v h' vm' k2, Cx tabs a0 Z own nm code ml ret p (s.setVm vm') m meth c → St p l e R (s.setVm vm') m args below meth c n0 T' h' (k + rm.cells) (n + rm.slots) → s.Since vm' k2 → k2 ≤ h'.size → CHr Z EL vm h vm' h' → Q1 v h' → Run p e below n0 Q G m T' pc' ls (v.toList ++ rest)) (hp : pc + 3 = pc' := by rfl) (hr : rm.frames + 1 ≤ R.frames ∧ W + (maxL + 11) + rm.locals ≤ R.locals ∧ k + rm.cells ≤ R.cells ∧ n + rm.slots ≤ R.slots := by decide) (hy : y.cls ≠ "java/lang/invoke/MethodHandle" ∧ y.cls ≠ "java/lang/invoke/VarHandle" := by decide) : Run p e below n0 Q G m T pc ls stk := by
  subst hp hs
  obtain ⟨locs, Y, eT, N, q⟩ := X
  obtain ⟨v, _, ⟨T1, L1, kk1, n1⟩, -, Y', hS2, hgr, ⟨Lc, hQ, l1, y1, z1, hR⟩, f⟩ := Jvm.RoadKit.callSS Y C.1 C.2.2.2.2.1 (mvT C.2.1 (C.w w1)) (mvT C.2.1 (C.w w2)) (mvT C.2.1 (C.w w3)) (mvT C.2.1 (C.w w4)) hy (backH (W := W) M C.2.1 (C.w w4) (C.w w3) hr.1 hr.2.1 hEL H hso) (g := mkF m pc ls (argsL.reverse ++ rest)) rfl (hsz.trans C.2.2.2.1.symm) (argsL := argsL) (rest := rest) hlen rfl (by show 2 * 0 + _ ≤ _; rw [hW]; omega) (C.d hd) (fun _ _ => ⟨rfl, eT, hr.2.2.1, hr.2.2.2⟩)
  dsimp only [Pt.U, Pt.locs, Pt.cells, Pt.slots] at Y' hS2 hgr l1 y1 z1 hR f hQ
  subst l1 y1 z1
  exact Run.steps f (r T1 v _ T1.vm _ (C.since hS2) ⟨_, Y', rfl, Fr.app N hQ.2, q⟩ (foldS hS (by rw [eT]; exact Nk) hS2 hgr) (Nat.le_refl _) hR hQ.1)
theorem s_hcallC (pc' : Nat) (argsL rest : List Value) (W : Nat) (C : Cx tabs a0 Z own nm code ml ret p (s.setVm vm) m meth c) (X : St p l e R (s.setVm vm) m args below meth c n0 T h k n) (hS : s.Since vm k1) (Nk : k1 ≤ h.size) (hEL : EW Z a0 EL) (H : CHv Z EL vm h) {idx : Nat} {y : MethodName} {bytes : ByteArray} {maxL : Nat} {rm : Room} {stk : List Value} {Q1 : Option Value → Heap → Prop} {a : Addr} (hd : decode code pc = .ok (.invokespecial idx, 3)) (hi : y.name = "<init>") (w1 : Jvm.Cond.methodLink own idx y ∈ tabs) (w2 : Jvm.Cond.instanceMethod y ∈ tabs) (w3 : Jvm.Cond.initialized y.cls ∈ tabs) (w4 : Jvm.Cond.code y bytes maxL none ∈ tabs)
    (M : MetH l Z EL so y bytes maxL none rm [] (.ref a :: argsL).toArray h n0 Q1) (hlen : ∀ sig, parseMethodDescriptor y.desc = some sig → argsL.length = sig.parameters.length) (hs : stk = argsL.reverse ++ .ref a :: rest) (hsz : ls.size = ml) (hW : (rest.map fun v => v.category).sum = W)
    (hso : ∀ x ∈ so, x < h.size ∧ Safe Z EL vm h x) (r : ∀ T' v h' vm' k2, Cx tabs a0 Z own nm code ml ret p (s.setVm vm') m meth c → St p l e R (s.setVm vm') m args below meth c n0 T' h' (k + rm.cells) (n + rm.slots) → s.Since vm' k2 → k2 ≤ h'.size → CHr Z EL vm h vm' h' → Q1 v h' → Run p e below n0 Q G m T' pc' ls (v.toList ++ rest)) (hp : pc + 3 = pc' := by rfl) (hr : rm.frames + 1 ≤ R.frames ∧ W + (maxL + 11) + rm.locals ≤ R.locals ∧ k + rm.cells ≤ R.cells ∧ n + rm.slots ≤ R.slots := by decide) (hy : y.cls ≠ "java/lang/invoke/MethodHandle" ∧ y.cls ≠ "java/lang/invoke/VarHandle" := by decide) : Run p e below n0 Q G m T pc ls stk := by
  subst hp hs
  obtain ⟨locs, Y, eT, N, q⟩ := X
  obtain ⟨v, _, ⟨T1, L1, kk1, n1⟩, -, Y', hS2, hgr, ⟨Lc, hQ, l1, y1, z1, hR⟩, f⟩ := Y.specialBackS C.1 (y := y) hi C.2.2.2.2.1 (mvT C.2.1 (C.w w1)) (mvT C.2.1 (C.w w2)) (mvT C.2.1 (C.w w4)) hy (backH (W := W) M C.2.1 (C.w w4) (C.w w3) hr.1 hr.2.1 hEL H hso) (g := mkF m pc ls (argsL.reverse ++ .ref a :: rest)) rfl (hsz.trans C.2.2.2.1.symm) (Steps.refl _) (a := a) (argsL := argsL) (rest := rest) hlen rfl (by show 2 * 0 + _ ≤ _; rw [hW]; omega) (C.d hd) (fun _ _ => ⟨rfl, eT, hr.2.2.1, hr.2.2.2⟩)
  dsimp only [Pt.U, Pt.locs, Pt.cells, Pt.slots] at Y' hS2 hgr l1 y1 z1 hR f hQ
  subst l1 y1 z1
  exact Run.steps f (r T1 v _ T1.vm _ (C.since hS2) ⟨_, Y', rfl, Fr.app N hQ.2, q⟩ (foldS hS (by rw [eT]; exact Nk) hS2 hgr) (Nat.le_refl _) hR hQ.1)
theorem s_ldcH (pc' : Nat) (nn : Nat) (C : Cx tabs a0 Z own nm code ml ret p (s.setVm vm) m meth c) (X : St p l e R (s.setVm vm) m args below meth c n0 T h k n) (hS : s.Since vm k1) (Nk : k1 ≤ h.size) (hEL : EW Z a0 EL) (H : CHv Z EL vm h) {idx : Nat} {text : String} {vs : List Value} {z : Int32} (hd : decode code pc = .ok (.ldc idx, 2)) (w : Jvm.Cond.stringLink own idx text ∈ tabs) (wS : ∀ a ∈ Bundle.stringAtoms, a.before a0 Z = true) (hmem : (own, idx) ∈ EL) (ht : (∀ c ∈ text.toList, c.toNat < 256) ∧ text.toList.map (fun c => Value.int (Jvm.Lit.byteI c.toNat.toUInt16)) = vs) (hz : ¬ z < 0) (hl : z.toNatClampNeg = vs.length)
    (r : ∀ T' h' a b kb vm' k2, Cx tabs a0 Z own nm code ml ret p (s.setVm vm') m meth c → St p l e R (s.setVm vm') m args below meth c n0 T' h' (k + 2) (n + (nn + 4)) → Ext h h' → s.Since vm' k2 → k2 ≤ h'.size → CHr Z EL vm h vm' h' → Exa Z h' a "java/lang/String" → Fld Z h' a "java/lang/String" "coder" "B" (.int 0) → Fld Z h' a "java/lang/String" "value" "[B" (.ref b) → Arv Z h' b kb .byte z vs (.int 0) → (∀ x, Safe Z EL vm' h' x → x ≠ a ∧ x ≠ b) → Run p e below n0 Q G m T' pc' ls (.ref a :: st)) (hp : pc + 2 = pc' := by rfl) (hc : 4 * text.toList.length ≤ nn ∧ nn ≤ 536870912 ∧ k + 2 ≤ R.cells ∧ n + (nn + 4) ≤ R.slots := by decide) : Run p e below n0 Q G m T pc ls st := by
  subst hp
  obtain ⟨locs, Y, eT, N, q⟩ := X
  obtain ⟨a, T', h', k2, b, kb, Y2, e', E, hS', hk, hZ, ho, q1, q2, q3, q4, -, -, hR, -, nS, f⟩ := ldcCH Y C.1 C.2.1 C.2.2.2.2.1 (C.w w) wS eT hS Nk hEL hmem H ht hz hl (g := mkF m pc ls st) rfl (C.d hd) hc.1 hc.2.1 hc.2.2.1 hc.2.2.2
  exact Run.step f (r T' h' a b kb T'.vm k2 ⟨C.1, hZ, C.2.2.1, C.2.2.2.1, ho, C.2.2.2.2.2⟩ ⟨locs, Y2, e', N, q⟩ E hS' hk hR q1 q2 q3 q4 nS)
end A
end Jvm.OwnK
namespace Jvm.Pilot.@@N@@
open Jvm Jvm.ClassFile Sem Op Lib Jvm.Free Jvm.Stand Jvm.LawKit Jvm.RoadKit Bundle Jvm.OwnK Jvm.Pilot.@@N@@.Jvm.D
theorem pn_com_example_libring_libring_core_RingPointEqualsPinLaw : plainName "com/example/libring/libring/core/RingPointEqualsPinLaw" = true := by first | (simp [plainName, overriddenIn]; done) | decide +kernel
theorem kc_iconst_1 : Int32.ofInt 1 = (1 : Int32) := by decide +kernel
theorem kc_iconst_3 : Int32.ofInt 3 = (3 : Int32) := by decide +kernel
theorem kc_sipush_255 : (Int16.ofInt 255).toInt32 = (255 : Int32) := by decide +kernel
theorem kc_bipush_8 : (Int8.ofInt 8).toInt32 = (8 : Int32) := by decide +kernel
theorem kc_iconst_0 : Int32.ofInt 0 = (0 : Int32) := by decide +kernel
theorem kc_iconst_4 : Int32.ofInt 4 = (4 : Int32) := by decide +kernel
theorem d1_0 : decode method_2_code 0 = .ok (.iload_n 0, 1) := by decide +kernel
theorem d1_1 : decode method_2_code 1 = .ok (.ifCond .ne 14, 3) := by decide +kernel
theorem d1_15 : decode method_2_code 15 = .ok (.iload_n 0, 1) := by decide +kernel
theorem d1_16 : decode method_2_code 16 = .ok (.iconst 1, 1) := by decide +kernel
theorem d1_17 : decode method_2_code 17 = .ok (.if_icmp .ne 19, 3) := by decide +kernel
theorem d1_36 : decode method_2_code 36 = .ok (.new 7, 3) := by decide +kernel
theorem d1_39 : decode method_2_code 39 = .ok (.dup, 1) := by decide +kernel
theorem d1_40 : decode method_2_code 40 = .ok (.iconst 2, 1) := by decide +kernel
theorem kc_iconst_2 : Int32.ofInt 2 = (2 : Int32) := by decide +kernel
theorem d1_41 : decode method_2_code 41 = .ok (.newarray .char, 2) := by decide +kernel
theorem d1_43 : decode method_2_code 43 = .ok (.dup, 1) := by decide +kernel
theorem d1_44 : decode method_2_code 44 = .ok (.iconst 0, 1) := by decide +kernel
theorem d1_45 : decode method_2_code 45 = .ok (.iload_n 1, 1) := by decide +kernel
theorem d1_46 : decode method_2_code 46 = .ok (.i2c, 1) := by decide +kernel
theorem d1_47 : decode method_2_code 47 = .ok (.castore, 1) := by decide +kernel
theorem d1_48 : decode method_2_code 48 = .ok (.dup, 1) := by decide +kernel
theorem d1_49 : decode method_2_code 49 = .ok (.iconst 1, 1) := by decide +kernel
theorem d1_50 : decode method_2_code 50 = .ok (.iload_n 2, 1) := by decide +kernel
theorem d1_51 : decode method_2_code 51 = .ok (.i2c, 1) := by decide +kernel
theorem d1_52 : decode method_2_code 52 = .ok (.castore, 1) := by decide +kernel
theorem d1_53 : decode method_2_code 53 = .ok (.invokespecial 9, 3) := by decide +kernel
theorem d2_0 : decode jdk_42_method_3_code 0 = .ok (.aload_n 0, 1) := by decide +kernel
theorem d2_1 : decode jdk_42_method_3_code 1 = .ok (.aload_n 1, 1) := by decide +kernel
theorem d2_2 : decode jdk_42_method_3_code 2 = .ok (.iconst 0, 1) := by decide +kernel
theorem d2_3 : decode jdk_42_method_3_code 3 = .ok (.aload_n 1, 1) := by decide +kernel
theorem d2_4 : decode jdk_42_method_3_code 4 = .ok (.arraylength, 1) := by decide +kernel
theorem d2_5 : decode jdk_42_method_3_code 5 = .ok (.aconst_null, 1) := by decide +kernel
theorem d2_6 : decode jdk_42_method_3_code 6 = .ok (.invokespecial 27, 3) := by decide +kernel
theorem d3_0 : decode jdk_42_method_149_code 0 = .ok (.aload_n 0, 1) := by decide +kernel
theorem d3_1 : decode jdk_42_method_149_code 1 = .ok (.invokespecial 1, 3) := by decide +kernel
theorem d3_4 : decode jdk_42_method_149_code 4 = .ok (.iload_n 3, 1) := by decide +kernel
theorem d3_5 : decode jdk_42_method_149_code 5 = .ok (.ifCond .ne 22, 3) := by decide +kernel
theorem d3_27 : decode jdk_42_method_149_code 27 = .ok (.getstatic 38, 3) := by decide +kernel
theorem d3_30 : decode jdk_42_method_149_code 30 = .ok (.ifCond .eq 28, 3) := by decide +kernel
theorem d3_33 : decode jdk_42_method_149_code 33 = .ok (.aload_n 1, 1) := by decide +kernel
theorem d3_34 : decode jdk_42_method_149_code 34 = .ok (.iload_n 2, 1) := by decide +kernel
theorem d3_35 : decode jdk_42_method_149_code 35 = .ok (.iload_n 3, 1) := by decide +kernel
theorem d3_36 : decode jdk_42_method_149_code 36 = .ok (.invokestatic 177, 3) := by decide +kernel
theorem d8_0 : decode jdk_52_method_16_code 0 = .ok (.iload_n 2, 1) := by decide +kernel
theorem d8_1 : decode jdk_52_method_16_code 1 = .ok (.newarray .byte, 2) := by decide +kernel
theorem d8_3 : decode jdk_52_method_16_code 3 = .ok (.astore_n 3, 1) := by decide +kernel
theorem d8_4 : decode jdk_52_method_16_code 4 = .ok (.aload_n 0, 1) := by decide +kernel
theorem d8_5 : decode jdk_52_method_16_code 5 = .ok (.iload_n 1, 1) := by decide +kernel
theorem d8_6 : decode jdk_52_method_16_code 6 = .ok (.aload_n 3, 1) := by decide +kernel
theorem d8_7 : decode jdk_52_method_16_code 7 = .ok (.iconst 0, 1) := by decide +kernel
theorem d8_8 : decode jdk_52_method_16_code 8 = .ok (.iload_n 2, 1) := by decide +kernel
theorem d8_9 : decode jdk_52_method_16_code 9 = .ok (.invokestatic 115, 3) := by decide +kernel
theorem d9_0 : decode jdk_52_method_21_code 0 = .ok (.iconst 0, 1) := by decide +kernel
theorem d9_1 : decode jdk_52_method_21_code 1 = .ok (.istore 5, 2) := by decide +kernel
theorem d9_3 : decode jdk_52_method_21_code 3 = .ok (.iload 5, 2) := by decide +kernel
theorem d9_5 : decode jdk_52_method_21_code 5 = .ok (.iload 4, 2) := by decide +kernel
theorem d9_7 : decode jdk_52_method_21_code 7 = .ok (.if_icmp .ge 37, 3) := by decide +kernel
theorem d9_10 : decode jdk_52_method_21_code 10 = .ok (.aload_n 0, 1) := by decide +kernel
theorem d9_11 : decode jdk_52_method_21_code 11 = .ok (.iload_n 1, 1) := by decide +kernel
theorem d9_12 : decode jdk_52_method_21_code 12 = .ok (.caload, 1) := by decide +kernel
theorem d9_13 : decode jdk_52_method_21_code 13 = .ok (.istore 6, 2) := by decide +kernel
theorem d9_15 : decode jdk_52_method_21_code 15 = .ok (.iload 6, 2) := by decide +kernel
theorem d9_17 : decode jdk_52_method_21_code 17 = .ok (.sipush 255, 3) := by decide +kernel
theorem d9_20 : decode jdk_52_method_21_code 20 = .ok (.if_icmp .le 6, 3) := by decide +kernel
theorem d9_26 : decode jdk_52_method_21_code 26 = .ok (.aload_n 2, 1) := by decide +kernel
theorem d9_27 : decode jdk_52_method_21_code 27 = .ok (.iload_n 3, 1) := by decide +kernel
theorem d9_28 : decode jdk_52_method_21_code 28 = .ok (.iload 6, 2) := by decide +kernel
theorem d9_30 : decode jdk_52_method_21_code 30 = .ok (.i2b, 1) := by decide +kernel
theorem d9_31 : decode jdk_52_method_21_code 31 = .ok (.bastore, 1) := by decide +kernel
theorem d9_32 : decode jdk_52_method_21_code 32 = .ok (.iinc 1 1, 3) := by decide +kernel
theorem d9_35 : decode jdk_52_method_21_code 35 = .ok (.iinc 3 1, 3) := by decide +kernel
theorem d9_38 : decode jdk_52_method_21_code 38 = .ok (.iinc 5 1, 3) := by decide +kernel
theorem d9_41 : decode jdk_52_method_21_code 41 = .ok (.goto (-38), 3) := by decide +kernel
theorem d9_44 : decode jdk_52_method_21_code 44 = .ok (.iload 4, 2) := by decide +kernel
theorem d9_46 : decode jdk_52_method_21_code 46 = .ok (.ireturn, 1) := by decide +kernel
theorem pn_java_lang_StringUTF16 : plainName "java/lang/StringUTF16" = true := by first | (simp [plainName, overriddenIn]; done) | decide +kernel
theorem pd___CI_BII_I : parseMethodDescriptor "([CI[BII)I" = some ⟨[(.array .char), .int, (.array .byte), .int, .int], some .int⟩ := by decide +kernel
theorem d8_12 : decode jdk_52_method_16_code 12 = .ok (.istore 4, 2) := by decide +kernel
theorem d8_14 : decode jdk_52_method_16_code 14 = .ok (.iload 4, 2) := by decide +kernel
theorem d8_16 : decode jdk_52_method_16_code 16 = .ok (.iload_n 2, 1) := by decide +kernel
theorem d8_17 : decode jdk_52_method_16_code 17 = .ok (.if_icmp .eq 40, 3) := by decide +kernel
theorem d8_57 : decode jdk_52_method_16_code 57 = .ok (.aload_n 3, 1) := by decide +kernel
theorem d8_58 : decode jdk_52_method_16_code 58 = .ok (.areturn, 1) := by decide +kernel
theorem pd___CII__B : parseMethodDescriptor "([CII)[B" = some ⟨[(.array .char), .int, .int], some (.array .byte)⟩ := by decide +kernel
theorem d3_39 : decode jdk_42_method_149_code 39 = .ok (.astore 5, 2) := by decide +kernel
theorem d3_41 : decode jdk_42_method_149_code 41 = .ok (.aload_n 0, 1) := by decide +kernel
theorem d3_42 : decode jdk_42_method_149_code 42 = .ok (.aload 5, 2) := by decide +kernel
theorem d3_44 : decode jdk_42_method_149_code 44 = .ok (.iload_n 3, 1) := by decide +kernel
theorem d3_45 : decode jdk_42_method_149_code 45 = .ok (.invokestatic 47, 3) := by decide +kernel
theorem d10_0 : decode jdk_52_method_15_code 0 = .ok (.iload_n 1, 1) := by decide +kernel
theorem d10_1 : decode jdk_52_method_15_code 1 = .ok (.aload_n 0, 1) := by decide +kernel
theorem d10_2 : decode jdk_52_method_15_code 2 = .ok (.arraylength, 1) := by decide +kernel
theorem d10_3 : decode jdk_52_method_15_code 3 = .ok (.isub, 1) := by decide +kernel
theorem kf_0 : ((2 : Int32) - (2 : Int32)) = (0 : Int32) := by decide +kernel
theorem d10_4 : decode jdk_52_method_15_code 4 = .ok (.bipush 31, 2) := by decide +kernel
theorem kc_bipush_31 : (Int8.ofInt 31).toInt32 = (31 : Int32) := by decide +kernel
theorem d10_6 : decode jdk_52_method_15_code 6 = .ok (.iushr, 1) := by decide +kernel
theorem kf_1 : (((0 : Int32)).toUInt32 >>> ((31 : Int32) &&& 31).toUInt32).toInt32 = (0 : Int32) := by decide +kernel
theorem d10_7 : decode jdk_52_method_15_code 7 = .ok (.i2b, 1) := by decide +kernel
theorem kf_2 : ((0 : Int32)).toInt8.toInt32 = (0 : Int32) := by decide +kernel
theorem d10_8 : decode jdk_52_method_15_code 8 = .ok (.ireturn, 1) := by decide +kernel
theorem pd___BI_B : parseMethodDescriptor "([BI)B" = some ⟨[(.array .byte), .int], some .byte⟩ := by decide +kernel
theorem d3_48 : decode jdk_42_method_149_code 48 = .ok (.putfield 15, 3) := by decide +kernel
theorem d3_51 : decode jdk_42_method_149_code 51 = .ok (.aload_n 0, 1) := by decide +kernel
theorem d3_52 : decode jdk_42_method_149_code 52 = .ok (.aload 5, 2) := by decide +kernel
theorem d3_54 : decode jdk_42_method_149_code 54 = .ok (.putfield 9, 3) := by decide +kernel
theorem d3_57 : decode jdk_42_method_149_code 57 = .ok (.return_, 1) := by decide +kernel
theorem pn_java_lang_String : plainName "java/lang/String" = true := by first | (simp [plainName, overriddenIn]; done) | decide +kernel
theorem pd___CIILjava_lang_Void__V : parseMethodDescriptor "([CIILjava/lang/Void;)V" = some ⟨[(.array .char), .int, .int, (.object "java/lang/Void")], none⟩ := by decide +kernel
theorem d2_9 : decode jdk_42_method_3_code 9 = .ok (.return_, 1) := by decide +kernel
theorem pd___C_V : parseMethodDescriptor "([C)V" = some ⟨[(.array .char)], none⟩ := by decide +kernel
theorem d1_56 : decode method_2_code 56 = .ok (.areturn, 1) := by decide +kernel
theorem d1_20 : decode method_2_code 20 = .ok (.new 7, 3) := by decide +kernel
theorem d1_23 : decode method_2_code 23 = .ok (.dup, 1) := by decide +kernel
theorem d1_24 : decode method_2_code 24 = .ok (.iconst 1, 1) := by decide +kernel
theorem d1_25 : decode method_2_code 25 = .ok (.newarray .char, 2) := by decide +kernel
theorem d1_27 : decode method_2_code 27 = .ok (.dup, 1) := by decide +kernel
theorem d1_28 : decode method_2_code 28 = .ok (.iconst 0, 1) := by decide +kernel
theorem d1_29 : decode method_2_code 29 = .ok (.iload_n 1, 1) := by decide +kernel
theorem d1_30 : decode method_2_code 30 = .ok (.i2c, 1) := by decide +kernel
theorem d1_31 : decode method_2_code 31 = .ok (.castore, 1) := by decide +kernel
theorem d1_32 : decode method_2_code 32 = .ok (.invokespecial 9, 3) := by decide +kernel
theorem kf_3 : ((1 : Int32) - (1 : Int32)) = (0 : Int32) := by decide +kernel
theorem d1_35 : decode method_2_code 35 = .ok (.areturn, 1) := by decide +kernel
theorem d1_4 : decode method_2_code 4 = .ok (.new 7, 3) := by decide +kernel
theorem d1_7 : decode method_2_code 7 = .ok (.dup, 1) := by decide +kernel
theorem d1_8 : decode method_2_code 8 = .ok (.iconst 0, 1) := by decide +kernel
theorem d1_9 : decode method_2_code 9 = .ok (.newarray .char, 2) := by decide +kernel
theorem d1_11 : decode method_2_code 11 = .ok (.invokespecial 9, 3) := by decide +kernel
theorem d3_8 : decode jdk_42_method_149_code 8 = .ok (.aload_n 0, 1) := by decide +kernel
theorem d3_9 : decode jdk_42_method_149_code 9 = .ok (.ldc 7, 2) := by decide +kernel
theorem d3_11 : decode jdk_42_method_149_code 11 = .ok (.getfield 9, 3) := by decide +kernel
theorem d3_14 : decode jdk_42_method_149_code 14 = .ok (.putfield 9, 3) := by decide +kernel
theorem d3_17 : decode jdk_42_method_149_code 17 = .ok (.aload_n 0, 1) := by decide +kernel
theorem d3_18 : decode jdk_42_method_149_code 18 = .ok (.ldc 7, 2) := by decide +kernel
theorem d3_20 : decode jdk_42_method_149_code 20 = .ok (.getfield 15, 3) := by decide +kernel
theorem d3_23 : decode jdk_42_method_149_code 23 = .ok (.putfield 15, 3) := by decide +kernel
theorem d3_26 : decode jdk_42_method_149_code 26 = .ok (.return_, 1) := by decide +kernel
theorem d1_14 : decode method_2_code 14 = .ok (.areturn, 1) := by decide +kernel
theorem pd__III_Ljava_lang_String_ : parseMethodDescriptor "(III)Ljava/lang/String;" = some ⟨[.int, .int, .int], some (.object "java/lang/String")⟩ := by decide +kernel
theorem d5_0 : decode prog_9_method_1_code 0 = .ok (.aload_n 0, 1) := by decide +kernel
theorem d5_1 : decode prog_9_method_1_code 1 = .ok (.invokespecial 1, 3) := by decide +kernel
theorem d5_4 : decode prog_9_method_1_code 4 = .ok (.aload_n 0, 1) := by decide +kernel
theorem d5_5 : decode prog_9_method_1_code 5 = .ok (.lload_n 1, 1) := by decide +kernel
theorem d5_6 : decode prog_9_method_1_code 6 = .ok (.putfield 7, 3) := by decide +kernel
theorem d5_9 : decode prog_9_method_1_code 9 = .ok (.aload_n 0, 1) := by decide +kernel
theorem d5_10 : decode prog_9_method_1_code 10 = .ok (.aload_n 3, 1) := by decide +kernel
theorem d5_11 : decode prog_9_method_1_code 11 = .ok (.putfield 13, 3) := by decide +kernel
theorem d5_14 : decode prog_9_method_1_code 14 = .ok (.return_, 1) := by decide +kernel
theorem pn_com_example_libring_libring_core_RingPoint : plainName "com/example/libring/libring/core/RingPoint" = true := by first | (simp [plainName, overriddenIn]; done) | decide +kernel
theorem pd__JLjava_lang_String__V : parseMethodDescriptor "(JLjava/lang/String;)V" = some ⟨[.long, (.object "java/lang/String")], none⟩ := by decide +kernel
theorem d6_0 : decode prog_9_method_4_code 0 = .ok (.aload_n 1, 1) := by decide +kernel
theorem d6_1 : decode prog_9_method_4_code 1 = .ok (.instanceof 8, 3) := by decide +kernel
theorem d6_4 : decode prog_9_method_4_code 4 = .ok (.ifCond .ne 5, 3) := by decide +kernel
theorem d6_9 : decode prog_9_method_4_code 9 = .ok (.aload_n 1, 1) := by decide +kernel
theorem d6_10 : decode prog_9_method_4_code 10 = .ok (.checkcast 8, 3) := by decide +kernel
theorem d6_13 : decode prog_9_method_4_code 13 = .ok (.astore_n 2, 1) := by decide +kernel
theorem d6_14 : decode prog_9_method_4_code 14 = .ok (.aload_n 0, 1) := by decide +kernel
theorem d6_15 : decode prog_9_method_4_code 15 = .ok (.getfield 7, 3) := by decide +kernel
theorem d6_18 : decode prog_9_method_4_code 18 = .ok (.aload_n 2, 1) := by decide +kernel
theorem d6_19 : decode prog_9_method_4_code 19 = .ok (.getfield 7, 3) := by decide +kernel
theorem d6_22 : decode prog_9_method_4_code 22 = .ok (.lcmp, 1) := by decide +kernel
theorem d6_23 : decode prog_9_method_4_code 23 = .ok (.ifCond .ne 21, 3) := by decide +kernel
theorem d6_44 : decode prog_9_method_4_code 44 = .ok (.iconst 0, 1) := by decide +kernel
theorem d6_45 : decode prog_9_method_4_code 45 = .ok (.ireturn, 1) := by decide +kernel
theorem d6_26 : decode prog_9_method_4_code 26 = .ok (.aload_n 0, 1) := by decide +kernel
theorem d6_27 : decode prog_9_method_4_code 27 = .ok (.getfield 13, 3) := by decide +kernel
theorem d6_30 : decode prog_9_method_4_code 30 = .ok (.aload_n 2, 1) := by decide +kernel
theorem d6_31 : decode prog_9_method_4_code 31 = .ok (.getfield 13, 3) := by decide +kernel
theorem d6_34 : decode prog_9_method_4_code 34 = .ok (.invokevirtual 17, 3) := by decide +kernel
theorem d7_0 : decode jdk_42_method_66_code 0 = .ok (.aload_n 0, 1) := by decide +kernel
theorem d7_1 : decode jdk_42_method_66_code 1 = .ok (.aload_n 1, 1) := by decide +kernel
theorem d7_2 : decode jdk_42_method_66_code 2 = .ok (.if_acmp .ne 5, 3) := by decide +kernel
theorem d7_7 : decode jdk_42_method_66_code 7 = .ok (.aload_n 1, 1) := by decide +kernel
theorem d7_8 : decode jdk_42_method_66_code 8 = .ok (.instanceof 10, 3) := by decide +kernel
theorem d7_11 : decode jdk_42_method_66_code 11 = .ok (.ifCond .eq 43, 3) := by decide +kernel
theorem d7_14 : decode jdk_42_method_66_code 14 = .ok (.aload_n 1, 1) := by decide +kernel
theorem d7_15 : decode jdk_42_method_66_code 15 = .ok (.checkcast 10, 3) := by decide +kernel
theorem d7_18 : decode jdk_42_method_66_code 18 = .ok (.astore_n 2, 1) := by decide +kernel
theorem d7_19 : decode jdk_42_method_66_code 19 = .ok (.getstatic 38, 3) := by decide +kernel
theorem d7_22 : decode jdk_42_method_66_code 22 = .ok (.ifCond .eq 14, 3) := by decide +kernel
theorem d7_25 : decode jdk_42_method_66_code 25 = .ok (.aload_n 0, 1) := by decide +kernel
theorem d7_26 : decode jdk_42_method_66_code 26 = .ok (.getfield 15, 3) := by decide +kernel
theorem d7_29 : decode jdk_42_method_66_code 29 = .ok (.aload_n 2, 1) := by decide +kernel
theorem d7_30 : decode jdk_42_method_66_code 30 = .ok (.getfield 15, 3) := by decide +kernel
theorem d7_33 : decode jdk_42_method_66_code 33 = .ok (.if_icmp .ne 21, 3) := by decide +kernel
theorem d7_36 : decode jdk_42_method_66_code 36 = .ok (.aload_n 0, 1) := by decide +kernel
theorem d7_37 : decode jdk_42_method_66_code 37 = .ok (.getfield 9, 3) := by decide +kernel
theorem d7_40 : decode jdk_42_method_66_code 40 = .ok (.aload_n 2, 1) := by decide +kernel
theorem d7_41 : decode jdk_42_method_66_code 41 = .ok (.getfield 9, 3) := by decide +kernel
theorem d7_44 : decode jdk_42_method_66_code 44 = .ok (.invokestatic 541, 3) := by decide +kernel
theorem d11_0 : decode jdk_43_method_13_code 0 = .ok (.aload_n 0, 1) := by decide +kernel
theorem d11_1 : decode jdk_43_method_13_code 1 = .ok (.arraylength, 1) := by decide +kernel
theorem d11_2 : decode jdk_43_method_13_code 2 = .ok (.aload_n 1, 1) := by decide +kernel
theorem d11_3 : decode jdk_43_method_13_code 3 = .ok (.arraylength, 1) := by decide +kernel
theorem d11_4 : decode jdk_43_method_13_code 4 = .ok (.if_icmp .ne 30, 3) := by decide +kernel
theorem d11_7 : decode jdk_43_method_13_code 7 = .ok (.iconst 0, 1) := by decide +kernel
theorem d11_8 : decode jdk_43_method_13_code 8 = .ok (.istore_n 2, 1) := by decide +kernel
theorem d11_9 : decode jdk_43_method_13_code 9 = .ok (.iload_n 2, 1) := by decide +kernel
theorem d11_10 : decode jdk_43_method_13_code 10 = .ok (.aload_n 0, 1) := by decide +kernel
theorem d11_11 : decode jdk_43_method_13_code 11 = .ok (.arraylength, 1) := by decide +kernel
theorem d11_12 : decode jdk_43_method_13_code 12 = .ok (.if_icmp .ge 20, 3) := by decide +kernel
theorem d11_15 : decode jdk_43_method_13_code 15 = .ok (.aload_n 0, 1) := by decide +kernel
theorem d11_16 : decode jdk_43_method_13_code 16 = .ok (.iload_n 2, 1) := by decide +kernel
theorem d11_17 : decode jdk_43_method_13_code 17 = .ok (.baload, 1) := by decide +kernel
theorem d11_18 : decode jdk_43_method_13_code 18 = .ok (.aload_n 1, 1) := by decide +kernel
theorem d11_19 : decode jdk_43_method_13_code 19 = .ok (.iload_n 2, 1) := by decide +kernel
theorem d11_20 : decode jdk_43_method_13_code 20 = .ok (.baload, 1) := by decide +kernel
theorem d11_21 : decode jdk_43_method_13_code 21 = .ok (.if_icmp .eq 5, 3) := by decide +kernel
theorem d11_26 : decode jdk_43_method_13_code 26 = .ok (.iinc 2 1, 3) := by decide +kernel
theorem d11_29 : decode jdk_43_method_13_code 29 = .ok (.goto (-20), 3) := by decide +kernel
theorem d11_32 : decode jdk_43_method_13_code 32 = .ok (.iconst 1, 1) := by decide +kernel
theorem d11_33 : decode jdk_43_method_13_code 33 = .ok (.ireturn, 1) := by decide +kernel
theorem d11_24 : decode jdk_43_method_13_code 24 = .ok (.iconst 0, 1) := by decide +kernel
theorem d11_25 : decode jdk_43_method_13_code 25 = .ok (.ireturn, 1) := by decide +kernel
theorem pn_java_lang_StringLatin1 : plainName "java/lang/StringLatin1" = true := by first | (simp [plainName, overriddenIn]; done) | decide +kernel
theorem pd___B_B_Z : parseMethodDescriptor "([B[B)Z" = some ⟨[(.array .byte), (.array .byte)], some .boolean⟩ := by decide +kernel
theorem d7_47 : decode jdk_42_method_66_code 47 = .ok (.ifCond .eq 7, 3) := by decide +kernel
theorem d7_50 : decode jdk_42_method_66_code 50 = .ok (.iconst 1, 1) := by decide +kernel
theorem d7_51 : decode jdk_42_method_66_code 51 = .ok (.goto 4, 3) := by decide +kernel
theorem d7_55 : decode jdk_42_method_66_code 55 = .ok (.ireturn, 1) := by decide +kernel
theorem d7_54 : decode jdk_42_method_66_code 54 = .ok (.iconst 0, 1) := by decide +kernel
theorem pd__Ljava_lang_Object__Z : parseMethodDescriptor "(Ljava/lang/Object;)Z" = some ⟨[(.object "java/lang/Object")], some .boolean⟩ := by decide +kernel
theorem d6_37 : decode prog_9_method_4_code 37 = .ok (.ifCond .eq 7, 3) := by decide +kernel
theorem d6_40 : decode prog_9_method_4_code 40 = .ok (.iconst 1, 1) := by decide +kernel
theorem d6_41 : decode prog_9_method_4_code 41 = .ok (.goto 4, 3) := by decide +kernel
theorem d7_5 : decode jdk_42_method_66_code 5 = .ok (.iconst 1, 1) := by decide +kernel
theorem d7_6 : decode jdk_42_method_66_code 6 = .ok (.ireturn, 1) := by decide +kernel
theorem d6_7 : decode prog_9_method_4_code 7 = .ok (.iconst 0, 1) := by decide +kernel
theorem d6_8 : decode prog_9_method_4_code 8 = .ok (.ireturn, 1) := by decide +kernel
theorem d11_34 : decode jdk_43_method_13_code 34 = .ok (.iconst 0, 1) := by decide +kernel
theorem d11_35 : decode jdk_43_method_13_code 35 = .ok (.ireturn, 1) := by decide +kernel
theorem own_root {Z : State} {a0 : Array Value} {O K : String} {n : Nat} (w : (Jvm.Cond.noSuperclass O).before a0 Z = true) (wk : (Jvm.Cond.instantiable K n).before a0 Z = true) (hn : O ≠ K) : NS Z O K := by
  obtain ⟨c, k, h1, h2, h3, -, -⟩ := Cond.noSuperclass_spec w
  obtain ⟨t, kt, g1, -⟩ := Cond.instantiable_spec wk
  have ne := ids_ne h1 g1 hn
  refine ⟨c, t, h1, g1, fun fuel => ?_⟩
  cases fuel with
  | zero => rfl
  | succ f => simp [Vm.isSubclassAux, ne, h2, h3]
theorem own_nsno {Z : State} {a0 : Array Value} {D S K : String} {n : Nat} (w : (Jvm.Cond.superclass D S).before a0 Z = true) (wk : (Jvm.Cond.instantiable K n).before a0 Z = true) (q : NS Z D K) (hn : D ≠ K) : ∃ c t, Z.vm.findClass D = some c ∧ Z.vm.findClass K = some t ∧ Z.vm.assignable c t = false := by
  obtain ⟨c, t, h0, g0, n3⟩ := q
  obtain ⟨p, k, kp, h1, h2, h3, h4, h5, -, h7⟩ := Cond.superclass_spec h0 w
  obtain ⟨t', k', g1, g2, g5, g7, -⟩ := Cond.instantiable_spec wk
  cases g0.symm.trans g1
  have ne := ids_ne h0 g0 hn
  have g8 : k'.isInterface = false := (Bool.or_eq_false_iff.mp g7).1
  refine ⟨c, t, h0, g0, ?_⟩
  show Z.vm.assignableAux (255 + 1) c t = false
  simp [Vm.assignableAux, ne, h2, g2, h5, g5, g8, Vm.isSubclass, n3]
def EL1 : List (String × Nat) := [("java/lang/String", 7)]
theorem own_EL {Z : State} {a0 : Array Value} (hw : ∀ d ∈ tables_1, d.before a0 Z = true) : EW Z a0 EL1 :=
  EW.cons (hw _ (List.mem_of_getElem? (i := 18) rfl)) (by decide) (EW.nil)
theorem own_wS {Z : State} {a0 : Array Value} (hw : ∀ d ∈ tables_1, d.before a0 Z = true) : ∀ a ∈ Bundle.stringAtoms, a.before a0 Z = true := by
  intro a ha
  simp only [Bundle.stringAtoms, List.mem_cons, List.not_mem_nil, or_false] at ha
  rcases ha with rfl | rfl | rfl | rfl | rfl | rfl | rfl
  · exact (hw _ (List.mem_of_getElem? (i := 6) rfl))
  · exact (hw _ (List.mem_of_getElem? (i := 5) rfl))
  · exact (hw _ (List.mem_of_getElem? (i := 19) rfl))
  · exact (hw _ (List.mem_of_getElem? (i := 20) rfl))
  · exact (hw _ (List.mem_of_getElem? (i := 21) rfl))
  · exact (hw _ (List.mem_of_getElem? (i := 22) rfl))
  · exact (hw _ (List.mem_of_getElem? (i := 23) rfl))
theorem own_no {Z : State} {a0 : Array Value} {n : Nat} (w1 : (Jvm.Cond.superclass "java/lang/String" "java/lang/Object").before a0 Z = true) (w3 : (Jvm.Cond.noSuperclass "java/lang/Object").before a0 Z = true) (w4 : (Jvm.Cond.instantiable "com/example/libring/libring/core/RingPoint" n).before a0 Z = true) :
    ∃ c t, Z.vm.findClass "java/lang/String" = some c ∧ Z.vm.findClass "com/example/libring/libring/core/RingPoint" = some t ∧ Z.vm.assignable c t = false :=
  own_nsno w1 w4 (NS.step w1 (own_root w3 w4 (by decide)) (by decide)) (by decide)
def own_B (x : Int32) : Prop := 0 ≤ x.toInt ∧ x.toInt ≤ 255
def bv (x : Int32) : Int32 := nar .byte x.toInt8.toInt32
theorem own_and (x : Int32) : own_B (x &&& (255 : Int32)) := c_and x 255 (by decide)
theorem own_i2c {x : Int32} (h : own_B x) : x.toUInt32.toUInt16.toUInt32.toInt32 = x := by
  obtain ⟨h1, h2⟩ := h
  have c := c_i2c x
  exact Int32.toInt_inj.mp (by omega)
theorem own_nc {x : Int32} (h : own_B x) : nar .char x = x := own_i2c h
theorem own_le {x : Int32} (h : own_B x) : ¬ (255 : Int32) < x := fun q => by
  have := Int32.lt_iff_toInt_lt.mp q
  have k : (255 : Int32).toInt = 255 := by decide
  have := h.2
  omega
theorem own_bv {x y : Int32} (hx : own_B x) (hy : own_B y) (q : (bv x).toInt = (bv y).toInt) : x.toInt = y.toInt := by
  have e : ∀ z : Int32, bv z = z.toInt8.toInt32 := fun z => by simp [bv, nar]
  rw [e x, e y] at q
  have a := c_i2b x
  have b := c_i2b y
  obtain ⟨_, _⟩ := hx
  obtain ⟨_, _⟩ := hy
  omega
theorem own_bv2 {x y : Int32} (q : x.toInt = y.toInt) : (bv x).toInt = (bv y).toInt := by rw [Int32.toInt_inj.mp q]
def own_L (x : Int32) : Prop := x.toInt = 0 ∨ x.toInt = 1 ∨ x.toInt = 2
theorem own_len (x : Int32) : own_L ((x &&& (3 : Int32)) % (3 : Int32)) := by
  have h := c_and x 3 (by decide)
  have k3 : (3 : Int32).toInt = 3 := by decide
  have q := (c_iremV (x &&& (3 : Int32)) 3).1 h.1 (by decide)
  unfold own_L
  omega
theorem own_pB {P R : Prop} {x y z : Int32} (hx : own_B x) (hz : own_B z) (D : (P ∧ y = x) ∨ (R ∧ y = z)) : own_B y := by
  rcases D with ⟨-, rfl⟩ | ⟨-, rfl⟩
  · exact hx
  · exact hz
theorem own_pL {P R : Prop} {x y z : Int32} (hx : own_L x) (hz : own_L z) (D : (P ∧ y = x) ∨ (R ∧ y = z)) : own_L y := by
  rcases D with ⟨-, rfl⟩ | ⟨-, rfl⟩
  · exact hx
  · exact hz
theorem own_cmp0 (x : Int64) : XT.cmpL x x = 0 := by simp [XT.cmpL]
set_option maxRecDepth 65536
set_option maxHeartbeats 40000000
abbrev i2 : Int32 := 2
abbrev i0 : Int32 := 0
abbrev i1 : Int32 := 1
abbrev i3 : Int32 := 3
abbrev i255 : Int32 := 255
abbrev i8 : Int32 := 8
abbrev i4 : Int32 := 4
abbrev j0 : Int64 := 0
abbrev rv (a : Addr) : Slot := .val (.ref a)
abbrev iv (a : Int32) : Slot := .val (.int a)
abbrev lv (a : Int64) : Slot := .val (.long a)
theorem rm_a36 (l : Launch) (Z : State) (a0 : Array Value) (hw : ∀ d ∈ tables_1, d.before a0 Z = true) (ca6 : Int32) (cb7 : Int32) (o27 : Addr) (k_o27 : ClassId) (o30 : Addr) (k_o30 : ClassId) (h0 : Heap) (n0 : Nat) (Z0 : n0 ≤ h0.size) (A_o27 : Arv Z h0 o27 k_o27 .char i2 [(.int ca6), (.int cb7)] (.int i0)) (A_o30 : Arv Z h0 o30 k_o30 .byte i2 [(.int i0), (.int i0)] (.int i0)) (hv_ca6 : own_B ca6) (hv_cb7 : own_B cb7) (ne_o27_o30 : o27 ≠ o30) (g_o30 : n0 ≤ o30) :
    Met l Z (⟨"java/lang/StringUTF16", "compress", "([CI[BII)I"⟩ : MethodName) jdk_52_method_21_code 7 (some .int) { frames := 0, cells := 0, slots := 0, locals := 0 } [] #[(.ref o27), (.int i0), (.ref o30), (.int i0), (.int i2)] h0 n0 (fun v h => v = some (.int i2) ∧ Arv Z h o30 k_o30 .byte i2 [(.int (bv ca6)), (.int (bv cb7))] (.int i0) ∧ Keep h0 h [o30]) := by
  refine Met.mkQ (tabs := tables_1) (a0 := a0) (ls0 := #[rv o27, iv i0, rv o30, iv i0, iv i2, .unset, .unset]) (plainFor_of_name pn_java_lang_StringUTF16) hw Z0 (fun m => by first | (simp [entryFrame, mkF, argsToLocals, Value.category]; done) | rfl) ?_
  intro p e s m below meth c T Q' G' hQ hG C X
  have Kp : Keep h0 h0 [o30] := Keep.refl _ _
  refine s_iconst 1 C X d9_0 kc_iconst_0 ?_
  refine s_istore 3 C X (l' := #[rv o27, iv i0, rv o30, iv i0, iv i2, iv i0, .unset]) d9_1 rfl ?_
  refine s_iload 5 C X d9_3 rfl ?_
  refine s_iload 7 C X d9_5 rfl ?_
  refine s_icmp_ge 44 10 C X d9_7 (fun c => absurd (by decide : i0 < i2) c) (fun _ => ?_)
  refine s_aloadN 11 C X d9_10 rfl rfl ?_
  refine s_iloadN 12 C X d9_11 rfl ?_
  refine s_caload 13 C X d9_12 A_o27 ⟨by decide, by decide⟩ (v := (.int ca6)) rfl ?_
  refine s_istore 15 C X (l' := #[rv o27, iv i0, rv o30, iv i0, iv i2, iv i0, iv ca6]) d9_13 rfl ?_
  refine s_iload 17 C X d9_15 rfl ?_
  refine s_sipush 20 C X d9_17 kc_sipush_255 ?_
  refine s_icmp_le 26 23 C X d9_20 (fun c20_32 => ?_) (fun c => absurd c (own_le hv_ca6))
  refine s_aloadN 27 C X d9_26 rfl rfl ?_
  refine s_iloadN 28 C X d9_27 rfl ?_
  refine s_iload 30 C X d9_28 rfl ?_
  refine s_i2b 31 C X d9_30 ?_
  refine s_bastore 32 0 C X d9_31 A_o30 g_o30 ⟨by decide, by decide⟩ rfl (Nat.le_of_ble_eq_true rfl) (fun T hh X W A_o30 => ?_)
  have A_o30 : Arv Z _ o30 k_o30 .byte i2 [(.int (nar .byte (ca6).toInt8.toInt32)), (.int i0)] (.int i0) := A_o30
  have A_o27 := A_o27.other W ne_o27_o30
  have Kp := Kp.wr W (Or.inl (by simp))
  have A_o30 : Arv Z _ o30 k_o30 .byte i2 [(.int (bv ca6)), (.int i0)] (.int i0) := A_o30
  refine s_iinc 35 C X (l' := #[rv o27, iv i1, rv o30, iv i0, iv i2, iv i0, iv ca6]) d9_32 kc_iconst_1 rfl rfl ?_
  refine s_iinc 38 C X (l' := #[rv o27, iv i1, rv o30, iv i1, iv i2, iv i0, iv ca6]) d9_35 kc_iconst_1 rfl rfl ?_
  refine s_iinc 41 C X (l' := #[rv o27, iv i1, rv o30, iv i1, iv i2, iv i1, iv ca6]) d9_38 kc_iconst_1 rfl rfl ?_
  refine s_goto 3 C X d9_41 ?_
  refine s_iload 5 C X d9_3 rfl ?_
  refine s_iload 7 C X d9_5 rfl ?_
  refine s_icmp_ge 44 10 C X d9_7 (fun c => absurd (by decide : i1 < i2) c) (fun _ => ?_)
  refine s_aloadN 11 C X d9_10 rfl rfl ?_
  refine s_iloadN 12 C X d9_11 rfl ?_
  refine s_caload 13 C X d9_12 A_o27 ⟨by decide, by decide⟩ (v := (.int cb7)) rfl ?_
  refine s_istore 15 C X (l' := #[rv o27, iv i1, rv o30, iv i1, iv i2, iv i1, iv cb7]) d9_13 rfl ?_
  refine s_iload 17 C X d9_15 rfl ?_
  refine s_sipush 20 C X d9_17 kc_sipush_255 ?_
  refine s_icmp_le 26 23 C X d9_20 (fun c20_34 => ?_) (fun c => absurd c (own_le hv_cb7))
  refine s_aloadN 27 C X d9_26 rfl rfl ?_
  refine s_iloadN 28 C X d9_27 rfl ?_
  refine s_iload 30 C X d9_28 rfl ?_
  refine s_i2b 31 C X d9_30 ?_
  refine s_bastore 32 1 C X d9_31 A_o30 g_o30 ⟨by decide, by decide⟩ rfl (Nat.le_of_ble_eq_true rfl) (fun T hh X W A_o30 => ?_)
  have A_o30 : Arv Z _ o30 k_o30 .byte i2 [(.int (bv ca6)), (.int (nar .byte (cb7).toInt8.toInt32))] (.int i0) := A_o30
  have Kp := Kp.wr W (Or.inl (by simp))
  have A_o30 : Arv Z _ o30 k_o30 .byte i2 [(.int (bv ca6)), (.int (bv cb7))] (.int i0) := A_o30
  refine s_iinc 35 C X (l' := #[rv o27, iv i2, rv o30, iv i1, iv i2, iv i1, iv cb7]) d9_32 kc_iconst_1 rfl rfl ?_
  refine s_iinc 38 C X (l' := #[rv o27, iv i2, rv o30, iv i2, iv i2, iv i1, iv cb7]) d9_35 kc_iconst_1 rfl rfl ?_
  refine s_iinc 41 C X (l' := #[rv o27, iv i2, rv o30, iv i2, iv i2, iv i2, iv cb7]) d9_38 kc_iconst_1 rfl rfl ?_
  refine s_goto 3 C X d9_41 ?_
  refine s_iload 5 C X d9_3 rfl ?_
  refine s_iload 7 C X d9_5 rfl ?_
  refine s_icmp_ge 44 10 C X d9_7 (fun _ => ?_) (fun c => absurd c (by decide))
  refine s_iload 46 C X d9_44 rfl ?_
  refine s_ireturn C X d9_46 rfl ?_ (FG hG (by decide) (by decide))
  exact hQ _ _ ⟨rfl, A_o30, Kp⟩
theorem rm_a38 (l : Launch) (Z : State) (a0 : Array Value) (hw : ∀ d ∈ tables_1, d.before a0 Z = true) (ca6 : Int32) (cb7 : Int32) (o27 : Addr) (k_o27 : ClassId) (h0 : Heap) (n0 : Nat) (Z0 : n0 ≤ h0.size) (A_o27 : Arv Z h0 o27 k_o27 .char i2 [(.int ca6), (.int cb7)] (.int i0)) (hv_ca6 : own_B ca6) (hv_cb7 : own_B cb7) :
    Met l Z (⟨"java/lang/StringUTF16", "compress", "([CII)[B"⟩ : MethodName) jdk_52_method_16_code 6 (some (.array .byte)) { frames := 1, cells := 1, slots := 2, locals := 18 } [] #[(.ref o27), (.int i0), (.int i2)] h0 n0 (fun v h => ∃ (o30 : Addr) (k_o30 : ClassId), v = some (.ref o30) ∧ Keep h0 h [] ∧ Arv Z h o30 k_o30 .byte i2 [(.int (bv ca6)), (.int (bv cb7))] (.int i0) ∧ h0.size ≤ o30 ∧ n0 ≤ o30) := by
  refine Met.mkQ (tabs := tables_1) (a0 := a0) (ls0 := #[rv o27, iv i0, iv i2, .unset, .unset, .unset]) (plainFor_of_name pn_java_lang_StringUTF16) hw Z0 (fun m => by first | (simp [entryFrame, mkF, argsToLocals, Value.category]; done) | rfl) ?_
  intro p e s m below meth c T Q' G' hQ hG C X
  have Kp : Keep h0 h0 [] := Keep.refl _ _
  refine s_iloadN 1 C X d8_0 rfl ?_
  refine s_newarray 3 2 C X d8_1 (mW 19 rfl) (by decide) (by decide) (fun T hh o30 k_o30 hb_o30 X E A_o30 g_o30 => ?_)
  have ne_o27_o30 : o27 ≠ o30 := Nat.ne_of_lt (Nat.lt_of_lt_of_le A_o27.lt (Nat.le_of_eq hb_o30))
  have sz_o30 : h0.size ≤ o30 := Nat.le_trans Kp.1 (Nat.le_of_eq hb_o30)
  have A_o27 := A_o27.ext E
  have Kp := Kp.ext E
  have A_o30 : Arv Z _ o30 k_o30 .byte i2 [(.int i0), (.int i0)] (.int i0) := A_o30.pad (pad_rep [] _ 2)
  refine s_astoreN 4 C X (l' := #[rv o27, iv i0, iv i2, rv o30, .unset, .unset]) d8_3 rfl rfl ?_
  refine s_aloadN 5 C X d8_4 rfl rfl ?_
  refine s_iloadN 6 C X d8_5 rfl ?_
  refine s_aloadN 7 C X d8_6 rfl rfl ?_
  refine s_iconst 8 C X d8_7 kc_iconst_0 ?_
  refine s_iloadN 9 C X d8_8 rfl ?_
  refine s_callS 12 [(.ref o27), (.int i0), (.ref o30), (.int i0), (.int i2)] [] 0 C X d8_9 (mW 56 rfl) (mW 57 rfl) (mW 54 rfl) (mW 58 rfl) (rm_a36 l Z a0 hw ca6 cb7 o27 k_o27 o30 k_o30 _ n0 X.sz A_o27 A_o30 hv_ca6 hv_cb7 ne_o27_o30 g_o30) (lenOf pd___CI_BII_I rfl) rfl rfl rfl (fun T v hh X q => ?_)
  obtain ⟨rfl, A_o30, Kc⟩ := q
  have Kp := Kp.trans Kc (allS (Or.inr sz_o30) all0)
  refine Run.cast (st' := [(.int i2)]) rfl ?_
  refine s_istore 14 C X (l' := #[rv o27, iv i0, iv i2, rv o30, iv i2, .unset]) d8_12 rfl ?_
  refine s_iload 16 C X d8_14 rfl ?_
  refine s_iloadN 17 C X d8_16 rfl ?_
  refine s_icmp_eq 57 20 C X d8_17 (fun _ => ?_) (fun c => absurd (by decide : i2 = i2) c)
  refine s_aloadN 58 C X d8_57 rfl rfl ?_
  refine s_areturn C X d8_58 rfl rfl rfl ?_ (FG hG (by decide) (by decide))
  exact hQ _ _ ⟨o30, k_o30, rfl, Kp, A_o30, sz_o30, g_o30⟩
theorem rm_a39 (l : Launch) (Z : State) (a0 : Array Value) (hw : ∀ d ∈ tables_1, d.before a0 Z = true) (ca6 : Int32) (cb7 : Int32) (o30 : Addr) (k_o30 : ClassId) (h0 : Heap) (n0 : Nat) (Z0 : n0 ≤ h0.size) (A_o30 : Arv Z h0 o30 k_o30 .byte i2 [(.int (bv ca6)), (.int (bv cb7))] (.int i0)) :
    Met l Z (⟨"java/lang/StringUTF16", "coderFromArrayLen", "([BI)B"⟩ : MethodName) jdk_52_method_15_code 2 (some .byte) { frames := 0, cells := 0, slots := 0, locals := 0 } [] #[(.ref o30), (.int i2)] h0 n0 (fun v h => v = some (.int i0) ∧ Keep h0 h []) := by
  refine Met.mkQ (tabs := tables_1) (a0 := a0) (ls0 := #[rv o30, iv i2]) (plainFor_of_name pn_java_lang_StringUTF16) hw Z0 (fun m => by first | (simp [entryFrame, mkF, argsToLocals, Value.category]; done) | rfl) ?_
  intro p e s m below meth c T Q' G' hQ hG C X
  have Kp : Keep h0 h0 [] := Keep.refl _ _
  refine s_iloadN 1 C X d10_0 rfl ?_
  refine s_aloadN 2 C X d10_1 rfl rfl ?_
  refine s_arraylength 3 C X d10_2 A_o30 ?_
  refine s_isub 4 C X d10_3 ?_
  refine Run.cast (st' := [(.int i0)]) (by rw [kf_0]) ?_
  refine s_bipush 6 C X d10_4 kc_bipush_31 ?_
  refine s_iushr 7 C X d10_6 ?_
  refine Run.cast (st' := [(.int i0)]) (by rw [kf_1]) ?_
  refine s_i2b 8 C X d10_7 ?_
  refine Run.cast (st' := [(.int i0)]) (by rw [kf_2]) ?_
  refine s_nreturn C X d10_8 rfl (by simp) rfl ?_ (FG hG (by decide) (by decide))
  exact hQ _ _ ⟨rfl, Kp⟩
theorem rm_a40 (l : Launch) (Z : State) (a0 : Array Value) (hw : ∀ d ∈ tables_1, d.before a0 Z = true) (cs : Int32) (ca6 : Int32) (cb7 : Int32) (o26 : Addr) (o27 : Addr) (k_o27 : ClassId) (h0 : Heap) (n0 : Nat) (Z0 : n0 ≤ h0.size) (Od : Old Z n0 h0) (S_cs : Sta Z Z.heap "java/lang/String" "COMPACT_STRINGS" "Z" (.int cs)) (E_o26 : Exa Z h0 o26 "java/lang/String") (F_o26_value : Fld Z h0 o26 "java/lang/String" "value" "[B" .null) (F_o26_coder : Fld Z h0 o26 "java/lang/String" "coder" "B" (.int i0)) (A_o27 : Arv Z h0 o27 k_o27 .char i2 [(.int ca6), (.int cb7)] (.int i0)) (hv_cs : ¬ cs = i0) (hv_ca6 : own_B ca6) (hv_cb7 : own_B cb7) (g_o26 : n0 ≤ o26) (ne_o26_o27 : o26 ≠ o27) :
    MetH l Z EL1 [o26] (⟨"java/lang/String", "<init>", "([CIILjava/lang/Void;)V"⟩ : MethodName) jdk_42_method_149_code 6 none { frames := 2, cells := 1, slots := 2, locals := 35 } [] #[(.ref o26), (.ref o27), (.int i0), (.int i2), .null] h0 n0 (fun v h => ∃ (o30 : Addr) (k_o30 : ClassId), v = none ∧ Old Z n0 h ∧ Exa Z h o26 "java/lang/String" ∧ Fld Z h o26 "java/lang/String" "value" "[B" (.ref o30) ∧ Fld Z h o26 "java/lang/String" "coder" "B" (.int i0) ∧ Keep h0 h [o26] ∧ Arv Z h o30 k_o30 .byte i2 [(.int (bv ca6)), (.int (bv cb7))] (.int i0) ∧ o26 ≠ o30 ∧ h0.size ≤ o30 ∧ n0 ≤ o30) := by
  refine MetH.mkQ (tabs := tables_1) (a0 := a0) (ls0 := #[rv o26, rv o27, iv i0, iv i2, .val .null, .unset]) (plainFor_of_name pn_java_lang_String) hw Z0 (fun m => by first | (simp [entryFrame, mkF, argsToLocals, Value.category]; done) | rfl) ?_
  intro p e s m below meth c T Q' G' vm k1 hQ hG C X hS Nk Rc hso
  have Kp : Keep h0 h0 [o26] := Keep.refl _ _
  have H_o26 : Safe Z EL1 vm h0 o26 := hso _ (by simp)
  refine s_aloadN 1 C X d3_0 rfl rfl ?_
  refine s_objInit 4 C X d3_1 (mW 15 rfl) (mW 16 rfl) (mW 17 rfl) rfl (W := 0) rfl (by decide) (fun T X => ?_)
  refine s_iloadN 5 C X d3_4 rfl ?_
  refine s_if_ne 27 8 C X d3_5 (fun _ => ?_) (fun c => absurd c (by decide))
  refine s_getstatic 30 C X (host := "") d3_27 (Or.inl (mW 51 rfl)) Via.refl (S_cs.ext Od.2) (fun T X => ?_)
  refine s_if_eq 58 33 C X d3_30 (fun c => absurd c hv_cs) (fun c30_29 => ?_)
  refine s_aloadN 34 C X d3_33 rfl rfl ?_
  refine s_iloadN 35 C X d3_34 rfl ?_
  refine s_iloadN 36 C X d3_35 rfl ?_
  refine s_callS 39 [(.ref o27), (.int i0), (.int i2)] [] 0 C X d3_36 (mW 52 rfl) (mW 53 rfl) (mW 54 rfl) (mW 55 rfl) (rm_a38 l Z a0 hw ca6 cb7 o27 k_o27 _ n0 X.sz A_o27 hv_ca6 hv_cb7) (lenOf pd___CII__B rfl) rfl rfl rfl (fun T v hh X q => ?_)
  obtain ⟨o30, k_o30, rfl, Kc, A_o30, sz_o30', g_o30⟩ := q
  have ne_o26_o30 : o26 ≠ o30 := Nat.ne_of_lt (Nat.lt_of_lt_of_le E_o26.lt sz_o30')
  have sz_o30 : h0.size ≤ o30 := Nat.le_trans Kp.1 sz_o30'
  have H_o26 := Safe.keep Kc so0 Rc.1 H_o26
  have Rc := Rc.trans (CHr.keep Kc so0 Rc.1)
  have Nk := Nat.le_trans Nk Kc.1
  have Od := Od.keep Kc all0
  have E_o26 := E_o26.keep Kc
  have F_o26_value := F_o26_value.keep Kc nin0
  have F_o26_coder := F_o26_coder.keep Kc nin0
  have Kp := Kp.trans Kc all0
  refine Run.cast (st' := [(.ref o30)]) rfl ?_
  refine s_astore 41 C X (l' := #[rv o26, rv o27, iv i0, iv i2, .val .null, rv o30]) d3_39 rfl rfl ?_
  refine s_aloadN 42 C X d3_41 rfl rfl ?_
  refine s_aload 44 C X d3_42 rfl rfl ?_
  refine s_iloadN 45 C X d3_44 rfl ?_
  refine s_callS 48 [(.ref o30), (.int i2)] [(.ref o26)] 1 C X d3_45 (mW 59 rfl) (mW 60 rfl) (mW 54 rfl) (mW 61 rfl) (rm_a39 l Z a0 hw ca6 cb7 o30 k_o30 _ n0 X.sz A_o30) (lenOf pd___BI_B rfl) rfl rfl rfl (fun T v hh X q => ?_)
  obtain ⟨rfl, Kc⟩ := q
  have H_o26 := Safe.keep Kc so0 Rc.1 H_o26
  have Rc := Rc.trans (CHr.keep Kc so0 Rc.1)
  have Nk := Nat.le_trans Nk Kc.1
  have Od := Od.keep Kc all0
  have E_o26 := E_o26.keep Kc
  have F_o26_value := F_o26_value.keep Kc nin0
  have F_o26_coder := F_o26_coder.keep Kc nin0
  have Kp := Kp.trans Kc all0
  have A_o30 := A_o30.keep Kc nin0
  refine Run.cast (st' := [(.int i0), (.ref o26)]) rfl ?_
  refine s_putfieldN 51 C X d3_48 (mW 25 rfl) Via.refl F_o26_coder E_o26 (Or.inr ⟨(mW 21 rfl), rfl, rfl⟩) (mW 5 rfl) (ty := .byte) (by decide) rfl rfl g_o26 (fun T hh X W => ?_)
  have Sf : Safe Z EL1 vm _ o26 := H_o26
  have H_o26 := Safe.wr W Sf Rc.1 H_o26
  have Rc := Rc.trans (CHr.wr W Sf Rc.1)
  have Nk := Nat.le_trans Nk (Nat.le_of_eq W.size.symm)
  have Od := Od.wr W g_o26
  have E_o26 := E_o26.wr W
  have F_o26_value := oth F_o26_value W (Or.inr (hw _ (mW 20 rfl))) (Or.inr (hw _ (mW 21 rfl))) (by decide)
  have F_o26_coder := F_o26_coder.same W
  have Kp := Kp.wr W (Or.inl (by simp))
  have A_o30 := A_o30.other W (Ne.symm ne_o26_o30)
  refine s_aloadN 52 C X d3_51 rfl rfl ?_
  refine s_aload 54 C X d3_52 rfl rfl ?_
  refine s_putfield 57 C X (host := "") d3_54 (Or.inl (mW 24 rfl)) Via.refl F_o26_value E_o26 (Or.inr ⟨(mW 20 rfl), rfl, rfl⟩) (mW 5 rfl) (ty := (.array .byte)) (by decide) rfl rfl g_o26 (fun T hh X W => ?_)
  have Sf : Safe Z EL1 vm _ o26 := H_o26
  have H_o26 := Safe.wr W Sf Rc.1 H_o26
  have Rc := Rc.trans (CHr.wr W Sf Rc.1)
  have Nk := Nat.le_trans Nk (Nat.le_of_eq W.size.symm)
  have Od := Od.wr W g_o26
  have E_o26 := E_o26.wr W
  have F_o26_value := F_o26_value.same W
  have F_o26_coder := oth F_o26_coder W (Or.inr (hw _ (mW 21 rfl))) (Or.inr (hw _ (mW 20 rfl))) (by decide)
  have Kp := Kp.wr W (Or.inl (by simp))
  have A_o30 := A_o30.other W (Ne.symm ne_o26_o30)
  refine s_return C X d3_57 rfl ?_ (FGH hG hS Nk Rc C (own_EL hw) (by decide) (by decide))
  exact hQ _ _ ⟨o30, k_o30, rfl, Od, E_o26, F_o26_value, F_o26_coder, Kp, A_o30, ne_o26_o30, sz_o30, g_o30⟩
theorem rm_a41 (l : Launch) (Z : State) (a0 : Array Value) (hw : ∀ d ∈ tables_1, d.before a0 Z = true) (cs : Int32) (ca6 : Int32) (cb7 : Int32) (o26 : Addr) (o27 : Addr) (k_o27 : ClassId) (h0 : Heap) (n0 : Nat) (Z0 : n0 ≤ h0.size) (Od : Old Z n0 h0) (S_cs : Sta Z Z.heap "java/lang/String" "COMPACT_STRINGS" "Z" (.int cs)) (E_o26 : Exa Z h0 o26 "java/lang/String") (F_o26_value : Fld Z h0 o26 "java/lang/String" "value" "[B" .null) (F_o26_coder : Fld Z h0 o26 "java/lang/String" "coder" "B" (.int i0)) (A_o27 : Arv Z h0 o27 k_o27 .char i2 [(.int ca6), (.int cb7)] (.int i0)) (hv_cs : ¬ cs = i0) (hv_ca6 : own_B ca6) (hv_cb7 : own_B cb7) (g_o26 : n0 ≤ o26) (ne_o26_o27 : o26 ≠ o27) :
    MetH l Z EL1 [o26] (⟨"java/lang/String", "<init>", "([C)V"⟩ : MethodName) jdk_42_method_3_code 2 none { frames := 3, cells := 1, slots := 2, locals := 52 } [] #[(.ref o26), (.ref o27)] h0 n0 (fun v h => ∃ (o30 : Addr) (k_o30 : ClassId), v = none ∧ Keep h0 h [o26] ∧ Old Z n0 h ∧ Exa Z h o26 "java/lang/String" ∧ Fld Z h o26 "java/lang/String" "value" "[B" (.ref o30) ∧ Fld Z h o26 "java/lang/String" "coder" "B" (.int i0) ∧ Arv Z h o30 k_o30 .byte i2 [(.int (bv ca6)), (.int (bv cb7))] (.int i0) ∧ h0.size ≤ o30 ∧ n0 ≤ o30 ∧ o26 ≠ o30) := by
  refine MetH.mkQ (tabs := tables_1) (a0 := a0) (ls0 := #[rv o26, rv o27]) (plainFor_of_name pn_java_lang_String) hw Z0 (fun m => by first | (simp [entryFrame, mkF, argsToLocals, Value.category]; done) | rfl) ?_
  intro p e s m below meth c T Q' G' vm k1 hQ hG C X hS Nk Rc hso
  have Kp : Keep h0 h0 [o26] := Keep.refl _ _
  have H_o26 : Safe Z EL1 vm h0 o26 := hso _ (by simp)
  refine s_aloadN 1 C X d2_0 rfl rfl ?_
  refine s_aloadN 2 C X d2_1 rfl rfl ?_
  refine s_iconst 3 C X d2_2 kc_iconst_0 ?_
  refine s_aloadN 4 C X d2_3 rfl rfl ?_
  refine s_arraylength 5 C X d2_4 A_o27 ?_
  refine s_aconstNull 6 C X d2_5 ?_
  refine s_hcallC 9 [(.ref o27), (.int i0), (.int i2), .null] [] 0 C X hS Nk (own_EL hw) Rc.1 d2_6 rfl (mW 11 rfl) (mW 12 rfl) (mW 6 rfl) (mW 14 rfl) (rm_a40 l Z a0 hw cs ca6 cb7 o26 o27 k_o27 _ n0 X.sz Od S_cs E_o26 F_o26_value F_o26_coder A_o27 hv_cs hv_ca6 hv_cb7 g_o26 ne_o26_o27) (lenOf pd___CIILjava_lang_Void__V rfl) rfl rfl rfl (soS ⟨E_o26.lt, H_o26⟩ so0) (fun T v hh vm k1 C X hS Nk Rn q => ?_)
  obtain ⟨o30, k_o30, rfl, Od, E_o26, F_o26_value, F_o26_coder, Kc, A_o30, ne_o26_o30, sz_o30', g_o30⟩ := q
  have sz_o30 : h0.size ≤ o30 := Nat.le_trans Kp.1 sz_o30'
  have Rc := Rc.trans Rn
  have Kp := Kp.trans Kc (allS (Or.inl (by simp)) all0)
  refine Run.cast (st' := []) rfl ?_
  refine s_return C X d2_9 rfl ?_ (FGH hG hS Nk Rc C (own_EL hw) (by decide) (by decide))
  exact hQ _ _ ⟨o30, k_o30, rfl, Kp, Od, E_o26, F_o26_value, F_o26_coder, A_o30, sz_o30, g_o30, ne_o26_o30⟩
theorem rm_a50 (l : Launch) (Z : State) (a0 : Array Value) (hw : ∀ d ∈ tables_1, d.before a0 Z = true) (ca6 : Int32) (o43 : Addr) (k_o43 : ClassId) (o46 : Addr) (k_o46 : ClassId) (h0 : Heap) (n0 : Nat) (Z0 : n0 ≤ h0.size) (A_o43 : Arv Z h0 o43 k_o43 .char i1 [(.int ca6)] (.int i0)) (A_o46 : Arv Z h0 o46 k_o46 .byte i1 [(.int i0)] (.int i0)) (hv_ca6 : own_B ca6) (ne_o43_o46 : o43 ≠ o46) (g_o46 : n0 ≤ o46) :
    Met l Z (⟨"java/lang/StringUTF16", "compress", "([CI[BII)I"⟩ : MethodName) jdk_52_method_21_code 7 (some .int) { frames := 0, cells := 0, slots := 0, locals := 0 } [] #[(.ref o43), (.int i0), (.ref o46), (.int i0), (.int i1)] h0 n0 (fun v h => v = some (.int i1) ∧ Arv Z h o46 k_o46 .byte i1 [(.int (bv ca6))] (.int i0) ∧ Keep h0 h [o46]) := by
  refine Met.mkQ (tabs := tables_1) (a0 := a0) (ls0 := #[rv o43, iv i0, rv o46, iv i0, iv i1, .unset, .unset]) (plainFor_of_name pn_java_lang_StringUTF16) hw Z0 (fun m => by first | (simp [entryFrame, mkF, argsToLocals, Value.category]; done) | rfl) ?_
  intro p e s m below meth c T Q' G' hQ hG C X
  have Kp : Keep h0 h0 [o46] := Keep.refl _ _
  refine s_iconst 1 C X d9_0 kc_iconst_0 ?_
  refine s_istore 3 C X (l' := #[rv o43, iv i0, rv o46, iv i0, iv i1, iv i0, .unset]) d9_1 rfl ?_
  refine s_iload 5 C X d9_3 rfl ?_
  refine s_iload 7 C X d9_5 rfl ?_
  refine s_icmp_ge 44 10 C X d9_7 (fun c => absurd (by decide : i0 < i1) c) (fun _ => ?_)
  refine s_aloadN 11 C X d9_10 rfl rfl ?_
  refine s_iloadN 12 C X d9_11 rfl ?_
  refine s_caload 13 C X d9_12 A_o43 ⟨by decide, by decide⟩ (v := (.int ca6)) rfl ?_
  refine s_istore 15 C X (l' := #[rv o43, iv i0, rv o46, iv i0, iv i1, iv i0, iv ca6]) d9_13 rfl ?_
  refine s_iload 17 C X d9_15 rfl ?_
  refine s_sipush 20 C X d9_17 kc_sipush_255 ?_
  refine s_icmp_le 26 23 C X d9_20 (fun c20_48 => ?_) (fun c => absurd c (own_le hv_ca6))
  refine s_aloadN 27 C X d9_26 rfl rfl ?_
  refine s_iloadN 28 C X d9_27 rfl ?_
  refine s_iload 30 C X d9_28 rfl ?_
  refine s_i2b 31 C X d9_30 ?_
  refine s_bastore 32 0 C X d9_31 A_o46 g_o46 ⟨by decide, by decide⟩ rfl (Nat.le_of_ble_eq_true rfl) (fun T hh X W A_o46 => ?_)
  have A_o46 : Arv Z _ o46 k_o46 .byte i1 [(.int (nar .byte (ca6).toInt8.toInt32))] (.int i0) := A_o46
  have Kp := Kp.wr W (Or.inl (by simp))
  have A_o46 : Arv Z _ o46 k_o46 .byte i1 [(.int (bv ca6))] (.int i0) := A_o46
  refine s_iinc 35 C X (l' := #[rv o43, iv i1, rv o46, iv i0, iv i1, iv i0, iv ca6]) d9_32 kc_iconst_1 rfl rfl ?_
  refine s_iinc 38 C X (l' := #[rv o43, iv i1, rv o46, iv i1, iv i1, iv i0, iv ca6]) d9_35 kc_iconst_1 rfl rfl ?_
  refine s_iinc 41 C X (l' := #[rv o43, iv i1, rv o46, iv i1, iv i1, iv i1, iv ca6]) d9_38 kc_iconst_1 rfl rfl ?_
  refine s_goto 3 C X d9_41 ?_
  refine s_iload 5 C X d9_3 rfl ?_
  refine s_iload 7 C X d9_5 rfl ?_
  refine s_icmp_ge 44 10 C X d9_7 (fun _ => ?_) (fun c => absurd c (by decide))
  refine s_iload 46 C X d9_44 rfl ?_
  refine s_ireturn C X d9_46 rfl ?_ (FG hG (by decide) (by decide))
  exact hQ _ _ ⟨rfl, A_o46, Kp⟩
theorem rm_a52 (l : Launch) (Z : State) (a0 : Array Value) (hw : ∀ d ∈ tables_1, d.before a0 Z = true) (ca6 : Int32) (o43 : Addr) (k_o43 : ClassId) (h0 : Heap) (n0 : Nat) (Z0 : n0 ≤ h0.size) (A_o43 : Arv Z h0 o43 k_o43 .char i1 [(.int ca6)] (.int i0)) (hv_ca6 : own_B ca6) :
    Met l Z (⟨"java/lang/StringUTF16", "compress", "([CII)[B"⟩ : MethodName) jdk_52_method_16_code 6 (some (.array .byte)) { frames := 1, cells := 1, slots := 1, locals := 18 } [] #[(.ref o43), (.int i0), (.int i1)] h0 n0 (fun v h => ∃ (o46 : Addr) (k_o46 : ClassId), v = some (.ref o46) ∧ Keep h0 h [] ∧ Arv Z h o46 k_o46 .byte i1 [(.int (bv ca6))] (.int i0) ∧ h0.size ≤ o46 ∧ n0 ≤ o46) := by
  refine Met.mkQ (tabs := tables_1) (a0 := a0) (ls0 := #[rv o43, iv i0, iv i1, .unset, .unset, .unset]) (plainFor_of_name pn_java_lang_StringUTF16) hw Z0 (fun m => by first | (simp [entryFrame, mkF, argsToLocals, Value.category]; done) | rfl) ?_
  intro p e s m below meth c T Q' G' hQ hG C X
  have Kp : Keep h0 h0 [] := Keep.refl _ _
  refine s_iloadN 1 C X d8_0 rfl ?_
  refine s_newarray 3 1 C X d8_1 (mW 19 rfl) (by decide) (by decide) (fun T hh o46 k_o46 hb_o46 X E A_o46 g_o46 => ?_)
  have ne_o43_o46 : o43 ≠ o46 := Nat.ne_of_lt (Nat.lt_of_lt_of_le A_o43.lt (Nat.le_of_eq hb_o46))
  have sz_o46 : h0.size ≤ o46 := Nat.le_trans Kp.1 (Nat.le_of_eq hb_o46)
  have A_o43 := A_o43.ext E
  have Kp := Kp.ext E
  have A_o46 : Arv Z _ o46 k_o46 .byte i1 [(.int i0)] (.int i0) := A_o46.pad (pad_rep [] _ 1)
  refine s_astoreN 4 C X (l' := #[rv o43, iv i0, iv i1, rv o46, .unset, .unset]) d8_3 rfl rfl ?_
  refine s_aloadN 5 C X d8_4 rfl rfl ?_
  refine s_iloadN 6 C X d8_5 rfl ?_
  refine s_aloadN 7 C X d8_6 rfl rfl ?_
  refine s_iconst 8 C X d8_7 kc_iconst_0 ?_
  refine s_iloadN 9 C X d8_8 rfl ?_
  refine s_callS 12 [(.ref o43), (.int i0), (.ref o46), (.int i0), (.int i1)] [] 0 C X d8_9 (mW 56 rfl) (mW 57 rfl) (mW 54 rfl) (mW 58 rfl) (rm_a50 l Z a0 hw ca6 o43 k_o43 o46 k_o46 _ n0 X.sz A_o43 A_o46 hv_ca6 ne_o43_o46 g_o46) (lenOf pd___CI_BII_I rfl) rfl rfl rfl (fun T v hh X q => ?_)
  obtain ⟨rfl, A_o46, Kc⟩ := q
  have Kp := Kp.trans Kc (allS (Or.inr sz_o46) all0)
  refine Run.cast (st' := [(.int i1)]) rfl ?_
  refine s_istore 14 C X (l' := #[rv o43, iv i0, iv i1, rv o46, iv i1, .unset]) d8_12 rfl ?_
  refine s_iload 16 C X d8_14 rfl ?_
  refine s_iloadN 17 C X d8_16 rfl ?_
  refine s_icmp_eq 57 20 C X d8_17 (fun _ => ?_) (fun c => absurd (by decide : i1 = i1) c)
  refine s_aloadN 58 C X d8_57 rfl rfl ?_
  refine s_areturn C X d8_58 rfl rfl rfl ?_ (FG hG (by decide) (by decide))
  exact hQ _ _ ⟨o46, k_o46, rfl, Kp, A_o46, sz_o46, g_o46⟩
theorem rm_a53 (l : Launch) (Z : State) (a0 : Array Value) (hw : ∀ d ∈ tables_1, d.before a0 Z = true) (ca6 : Int32) (o46 : Addr) (k_o46 : ClassId) (h0 : Heap) (n0 : Nat) (Z0 : n0 ≤ h0.size) (A_o46 : Arv Z h0 o46 k_o46 .byte i1 [(.int (bv ca6))] (.int i0)) :
    Met l Z (⟨"java/lang/StringUTF16", "coderFromArrayLen", "([BI)B"⟩ : MethodName) jdk_52_method_15_code 2 (some .byte) { frames := 0, cells := 0, slots := 0, locals := 0 } [] #[(.ref o46), (.int i1)] h0 n0 (fun v h => v = some (.int i0) ∧ Keep h0 h []) := by
  refine Met.mkQ (tabs := tables_1) (a0 := a0) (ls0 := #[rv o46, iv i1]) (plainFor_of_name pn_java_lang_StringUTF16) hw Z0 (fun m => by first | (simp [entryFrame, mkF, argsToLocals, Value.category]; done) | rfl) ?_
  intro p e s m below meth c T Q' G' hQ hG C X
  have Kp : Keep h0 h0 [] := Keep.refl _ _
  refine s_iloadN 1 C X d10_0 rfl ?_
  refine s_aloadN 2 C X d10_1 rfl rfl ?_
  refine s_arraylength 3 C X d10_2 A_o46 ?_
  refine s_isub 4 C X d10_3 ?_
  refine Run.cast (st' := [(.int i0)]) (by rw [kf_3]) ?_
  refine s_bipush 6 C X d10_4 kc_bipush_31 ?_
  refine s_iushr 7 C X d10_6 ?_
  refine Run.cast (st' := [(.int i0)]) (by rw [kf_1]) ?_
  refine s_i2b 8 C X d10_7 ?_
  refine Run.cast (st' := [(.int i0)]) (by rw [kf_2]) ?_
  refine s_nreturn C X d10_8 rfl (by simp) rfl ?_ (FG hG (by decide) (by decide))
  exact hQ _ _ ⟨rfl, Kp⟩
theorem rm_a54 (l : Launch) (Z : State) (a0 : Array Value) (hw : ∀ d ∈ tables_1, d.before a0 Z = true) (cs : Int32) (ca6 : Int32) (o42 : Addr) (o43 : Addr) (k_o43 : ClassId) (h0 : Heap) (n0 : Nat) (Z0 : n0 ≤ h0.size) (Od : Old Z n0 h0) (S_cs : Sta Z Z.heap "java/lang/String" "COMPACT_STRINGS" "Z" (.int cs)) (E_o42 : Exa Z h0 o42 "java/lang/String") (F_o42_value : Fld Z h0 o42 "java/lang/String" "value" "[B" .null) (F_o42_coder : Fld Z h0 o42 "java/lang/String" "coder" "B" (.int i0)) (A_o43 : Arv Z h0 o43 k_o43 .char i1 [(.int ca6)] (.int i0)) (hv_cs : ¬ cs = i0) (hv_ca6 : own_B ca6) (g_o42 : n0 ≤ o42) (ne_o42_o43 : o42 ≠ o43) :
    MetH l Z EL1 [o42] (⟨"java/lang/String", "<init>", "([CIILjava/lang/Void;)V"⟩ : MethodName) jdk_42_method_149_code 6 none { frames := 2, cells := 1, slots := 1, locals := 35 } [] #[(.ref o42), (.ref o43), (.int i0), (.int i1), .null] h0 n0 (fun v h => ∃ (o46 : Addr) (k_o46 : ClassId), v = none ∧ Old Z n0 h ∧ Exa Z h o42 "java/lang/String" ∧ Fld Z h o42 "java/lang/String" "value" "[B" (.ref o46) ∧ Fld Z h o42 "java/lang/String" "coder" "B" (.int i0) ∧ Keep h0 h [o42] ∧ Arv Z h o46 k_o46 .byte i1 [(.int (bv ca6))] (.int i0) ∧ o42 ≠ o46 ∧ h0.size ≤ o46 ∧ n0 ≤ o46) := by
  refine MetH.mkQ (tabs := tables_1) (a0 := a0) (ls0 := #[rv o42, rv o43, iv i0, iv i1, .val .null, .unset]) (plainFor_of_name pn_java_lang_String) hw Z0 (fun m => by first | (simp [entryFrame, mkF, argsToLocals, Value.category]; done) | rfl) ?_
  intro p e s m below meth c T Q' G' vm k1 hQ hG C X hS Nk Rc hso
  have Kp : Keep h0 h0 [o42] := Keep.refl _ _
  have H_o42 : Safe Z EL1 vm h0 o42 := hso _ (by simp)
  refine s_aloadN 1 C X d3_0 rfl rfl ?_
  refine s_objInit 4 C X d3_1 (mW 15 rfl) (mW 16 rfl) (mW 17 rfl) rfl (W := 0) rfl (by decide) (fun T X => ?_)
  refine s_iloadN 5 C X d3_4 rfl ?_
  refine s_if_ne 27 8 C X d3_5 (fun _ => ?_) (fun c => absurd c (by decide))
  refine s_getstatic 30 C X (host := "") d3_27 (Or.inl (mW 51 rfl)) Via.refl (S_cs.ext Od.2) (fun T X => ?_)
  refine s_if_eq 58 33 C X d3_30 (fun c => absurd c hv_cs) (fun c30_45 => ?_)
  refine s_aloadN 34 C X d3_33 rfl rfl ?_
  refine s_iloadN 35 C X d3_34 rfl ?_
  refine s_iloadN 36 C X d3_35 rfl ?_
  refine s_callS 39 [(.ref o43), (.int i0), (.int i1)] [] 0 C X d3_36 (mW 52 rfl) (mW 53 rfl) (mW 54 rfl) (mW 55 rfl) (rm_a52 l Z a0 hw ca6 o43 k_o43 _ n0 X.sz A_o43 hv_ca6) (lenOf pd___CII__B rfl) rfl rfl rfl (fun T v hh X q => ?_)
  obtain ⟨o46, k_o46, rfl, Kc, A_o46, sz_o46', g_o46⟩ := q
  have ne_o42_o46 : o42 ≠ o46 := Nat.ne_of_lt (Nat.lt_of_lt_of_le E_o42.lt sz_o46')
  have sz_o46 : h0.size ≤ o46 := Nat.le_trans Kp.1 sz_o46'
  have H_o42 := Safe.keep Kc so0 Rc.1 H_o42
  have Rc := Rc.trans (CHr.keep Kc so0 Rc.1)
  have Nk := Nat.le_trans Nk Kc.1
  have Od := Od.keep Kc all0
  have E_o42 := E_o42.keep Kc
  have F_o42_value := F_o42_value.keep Kc nin0
  have F_o42_coder := F_o42_coder.keep Kc nin0
  have Kp := Kp.trans Kc all0
  refine Run.cast (st' := [(.ref o46)]) rfl ?_
  refine s_astore 41 C X (l' := #[rv o42, rv o43, iv i0, iv i1, .val .null, rv o46]) d3_39 rfl rfl ?_
  refine s_aloadN 42 C X d3_41 rfl rfl ?_
  refine s_aload 44 C X d3_42 rfl rfl ?_
  refine s_iloadN 45 C X d3_44 rfl ?_
  refine s_callS 48 [(.ref o46), (.int i1)] [(.ref o42)] 1 C X d3_45 (mW 59 rfl) (mW 60 rfl) (mW 54 rfl) (mW 61 rfl) (rm_a53 l Z a0 hw ca6 o46 k_o46 _ n0 X.sz A_o46) (lenOf pd___BI_B rfl) rfl rfl rfl (fun T v hh X q => ?_)
  obtain ⟨rfl, Kc⟩ := q
  have H_o42 := Safe.keep Kc so0 Rc.1 H_o42
  have Rc := Rc.trans (CHr.keep Kc so0 Rc.1)
  have Nk := Nat.le_trans Nk Kc.1
  have Od := Od.keep Kc all0
  have E_o42 := E_o42.keep Kc
  have F_o42_value := F_o42_value.keep Kc nin0
  have F_o42_coder := F_o42_coder.keep Kc nin0
  have Kp := Kp.trans Kc all0
  have A_o46 := A_o46.keep Kc nin0
  refine Run.cast (st' := [(.int i0), (.ref o42)]) rfl ?_
  refine s_putfieldN 51 C X d3_48 (mW 25 rfl) Via.refl F_o42_coder E_o42 (Or.inr ⟨(mW 21 rfl), rfl, rfl⟩) (mW 5 rfl) (ty := .byte) (by decide) rfl rfl g_o42 (fun T hh X W => ?_)
  have Sf : Safe Z EL1 vm _ o42 := H_o42
  have H_o42 := Safe.wr W Sf Rc.1 H_o42
  have Rc := Rc.trans (CHr.wr W Sf Rc.1)
  have Nk := Nat.le_trans Nk (Nat.le_of_eq W.size.symm)
  have Od := Od.wr W g_o42
  have E_o42 := E_o42.wr W
  have F_o42_value := oth F_o42_value W (Or.inr (hw _ (mW 20 rfl))) (Or.inr (hw _ (mW 21 rfl))) (by decide)
  have F_o42_coder := F_o42_coder.same W
  have Kp := Kp.wr W (Or.inl (by simp))
  have A_o46 := A_o46.other W (Ne.symm ne_o42_o46)
  refine s_aloadN 52 C X d3_51 rfl rfl ?_
  refine s_aload 54 C X d3_52 rfl rfl ?_
  refine s_putfield 57 C X (host := "") d3_54 (Or.inl (mW 24 rfl)) Via.refl F_o42_value E_o42 (Or.inr ⟨(mW 20 rfl), rfl, rfl⟩) (mW 5 rfl) (ty := (.array .byte)) (by decide) rfl rfl g_o42 (fun T hh X W => ?_)
  have Sf : Safe Z EL1 vm _ o42 := H_o42
  have H_o42 := Safe.wr W Sf Rc.1 H_o42
  have Rc := Rc.trans (CHr.wr W Sf Rc.1)
  have Nk := Nat.le_trans Nk (Nat.le_of_eq W.size.symm)
  have Od := Od.wr W g_o42
  have E_o42 := E_o42.wr W
  have F_o42_value := F_o42_value.same W
  have F_o42_coder := oth F_o42_coder W (Or.inr (hw _ (mW 21 rfl))) (Or.inr (hw _ (mW 20 rfl))) (by decide)
  have Kp := Kp.wr W (Or.inl (by simp))
  have A_o46 := A_o46.other W (Ne.symm ne_o42_o46)
  refine s_return C X d3_57 rfl ?_ (FGH hG hS Nk Rc C (own_EL hw) (by decide) (by decide))
  exact hQ _ _ ⟨o46, k_o46, rfl, Od, E_o42, F_o42_value, F_o42_coder, Kp, A_o46, ne_o42_o46, sz_o46, g_o46⟩
theorem rm_a55 (l : Launch) (Z : State) (a0 : Array Value) (hw : ∀ d ∈ tables_1, d.before a0 Z = true) (cs : Int32) (ca6 : Int32) (o42 : Addr) (o43 : Addr) (k_o43 : ClassId) (h0 : Heap) (n0 : Nat) (Z0 : n0 ≤ h0.size) (Od : Old Z n0 h0) (S_cs : Sta Z Z.heap "java/lang/String" "COMPACT_STRINGS" "Z" (.int cs)) (E_o42 : Exa Z h0 o42 "java/lang/String") (F_o42_value : Fld Z h0 o42 "java/lang/String" "value" "[B" .null) (F_o42_coder : Fld Z h0 o42 "java/lang/String" "coder" "B" (.int i0)) (A_o43 : Arv Z h0 o43 k_o43 .char i1 [(.int ca6)] (.int i0)) (hv_cs : ¬ cs = i0) (hv_ca6 : own_B ca6) (g_o42 : n0 ≤ o42) (ne_o42_o43 : o42 ≠ o43) :
    MetH l Z EL1 [o42] (⟨"java/lang/String", "<init>", "([C)V"⟩ : MethodName) jdk_42_method_3_code 2 none { frames := 3, cells := 1, slots := 1, locals := 52 } [] #[(.ref o42), (.ref o43)] h0 n0 (fun v h => ∃ (o46 : Addr) (k_o46 : ClassId), v = none ∧ Keep h0 h [o42] ∧ Old Z n0 h ∧ Exa Z h o42 "java/lang/String" ∧ Fld Z h o42 "java/lang/String" "value" "[B" (.ref o46) ∧ Fld Z h o42 "java/lang/String" "coder" "B" (.int i0) ∧ Arv Z h o46 k_o46 .byte i1 [(.int (bv ca6))] (.int i0) ∧ h0.size ≤ o46 ∧ n0 ≤ o46 ∧ o42 ≠ o46) := by
  refine MetH.mkQ (tabs := tables_1) (a0 := a0) (ls0 := #[rv o42, rv o43]) (plainFor_of_name pn_java_lang_String) hw Z0 (fun m => by first | (simp [entryFrame, mkF, argsToLocals, Value.category]; done) | rfl) ?_
  intro p e s m below meth c T Q' G' vm k1 hQ hG C X hS Nk Rc hso
  have Kp : Keep h0 h0 [o42] := Keep.refl _ _
  have H_o42 : Safe Z EL1 vm h0 o42 := hso _ (by simp)
  refine s_aloadN 1 C X d2_0 rfl rfl ?_
  refine s_aloadN 2 C X d2_1 rfl rfl ?_
  refine s_iconst 3 C X d2_2 kc_iconst_0 ?_
  refine s_aloadN 4 C X d2_3 rfl rfl ?_
  refine s_arraylength 5 C X d2_4 A_o43 ?_
  refine s_aconstNull 6 C X d2_5 ?_
  refine s_hcallC 9 [(.ref o43), (.int i0), (.int i1), .null] [] 0 C X hS Nk (own_EL hw) Rc.1 d2_6 rfl (mW 11 rfl) (mW 12 rfl) (mW 6 rfl) (mW 14 rfl) (rm_a54 l Z a0 hw cs ca6 o42 o43 k_o43 _ n0 X.sz Od S_cs E_o42 F_o42_value F_o42_coder A_o43 hv_cs hv_ca6 g_o42 ne_o42_o43) (lenOf pd___CIILjava_lang_Void__V rfl) rfl rfl rfl (soS ⟨E_o42.lt, H_o42⟩ so0) (fun T v hh vm k1 C X hS Nk Rn q => ?_)
  obtain ⟨o46, k_o46, rfl, Od, E_o42, F_o42_value, F_o42_coder, Kc, A_o46, ne_o42_o46, sz_o46', g_o46⟩ := q
  have sz_o46 : h0.size ≤ o46 := Nat.le_trans Kp.1 sz_o46'
  have Rc := Rc.trans Rn
  have Kp := Kp.trans Kc (allS (Or.inl (by simp)) all0)
  refine Run.cast (st' := []) rfl ?_
  refine s_return C X d2_9 rfl ?_ (FGH hG hS Nk Rc C (own_EL hw) (by decide) (by decide))
  exact hQ _ _ ⟨o46, k_o46, rfl, Kp, Od, E_o42, F_o42_value, F_o42_coder, A_o46, sz_o46, g_o46, ne_o42_o46⟩
theorem rm_a63 (l : Launch) (Z : State) (a0 : Array Value) (hw : ∀ d ∈ tables_1, d.before a0 Z = true) (o56 : Addr) (o57 : Addr) (h0 : Heap) (n0 : Nat) (Z0 : n0 ≤ h0.size) (E_o56 : Exa Z h0 o56 "java/lang/String") (F_o56_value : Fld Z h0 o56 "java/lang/String" "value" "[B" .null) (F_o56_coder : Fld Z h0 o56 "java/lang/String" "coder" "B" (.int i0)) (g_o56 : n0 ≤ o56) :
    MetH l Z EL1 [o56] (⟨"java/lang/String", "<init>", "([CIILjava/lang/Void;)V"⟩ : MethodName) jdk_42_method_149_code 6 none { frames := 1, cells := 4, slots := 8, locals := 12 } [] #[(.ref o56), (.ref o57), (.int i0), (.int i0), .null] h0 n0 (fun v h => ∃ (b60 : Addr) (k_b60 : ClassId), v = none ∧ Exa Z h o56 "java/lang/String" ∧ Fld Z h o56 "java/lang/String" "value" "[B" (.ref b60) ∧ Fld Z h o56 "java/lang/String" "coder" "B" (.int i0) ∧ Keep h0 h [o56] ∧ Arv Z h b60 k_b60 .byte i0 [] (.int i0) ∧ o56 ≠ b60) := by
  refine MetH.mkQ (tabs := tables_1) (a0 := a0) (ls0 := #[rv o56, rv o57, iv i0, iv i0, .val .null, .unset]) (plainFor_of_name pn_java_lang_String) hw Z0 (fun m => by first | (simp [entryFrame, mkF, argsToLocals, Value.category]; done) | rfl) ?_
  intro p e s m below meth c T Q' G' vm k1 hQ hG C X hS Nk Rc hso
  have Kp : Keep h0 h0 [o56] := Keep.refl _ _
  have H_o56 : Safe Z EL1 vm h0 o56 := hso _ (by simp)
  refine s_aloadN 1 C X d3_0 rfl rfl ?_
  refine s_objInit 4 C X d3_1 (mW 15 rfl) (mW 16 rfl) (mW 17 rfl) rfl (W := 0) rfl (by decide) (fun T X => ?_)
  refine s_iloadN 5 C X d3_4 rfl ?_
  refine s_if_ne 27 8 C X d3_5 (fun c => absurd (by decide : i0 = i0) c) (fun _ => ?_)
  refine s_aloadN 9 C X d3_8 rfl rfl ?_
  refine s_ldcH 11 0 C X hS Nk (own_EL hw) Rc.1 d3_9 (mW 18 rfl) (own_wS hw) (vs := []) (z := i0) (by decide) ⟨by decide, rfl⟩ (by decide) rfl (fun T hh t59 b60 k_b60 vm k1 C X E hS Nk Rn E_t59 F_t59_coder F_t59_value A_b60 nS => ?_)
  have H_o56 := Rn.safe E_o56.lt H_o56
  have Rc := Rc.trans Rn
  have E_o56 := E_o56.ext E
  have F_o56_value := F_o56_value.ext E
  have F_o56_coder := F_o56_coder.ext E
  have Kp := Kp.ext E
  have ne_o56_b60 : o56 ≠ b60 := (nS o56 H_o56).2
  refine s_getfield 14 C X (host := "") d3_11 (Or.inl (mW 24 rfl)) Via.refl F_t59_value (fun T X => ?_)
  refine s_putfield 17 C X (host := "") d3_14 (Or.inl (mW 24 rfl)) Via.refl F_o56_value E_o56 (Or.inr ⟨(mW 20 rfl), rfl, rfl⟩) (mW 5 rfl) (ty := (.array .byte)) (by decide) rfl rfl g_o56 (fun T hh X W => ?_)
  have Sf : Safe Z EL1 vm _ o56 := H_o56
  have H_o56 := Safe.wr W Sf Rc.1 H_o56
  have Rc := Rc.trans (CHr.wr W Sf Rc.1)
  have Nk := Nat.le_trans Nk (Nat.le_of_eq W.size.symm)
  have E_o56 := E_o56.wr W
  have F_o56_value := F_o56_value.same W
  have F_o56_coder := oth F_o56_coder W (Or.inr (hw _ (mW 21 rfl))) (Or.inr (hw _ (mW 20 rfl))) (by decide)
  have Kp := Kp.wr W (Or.inl (by simp))
  have A_b60 := A_b60.other W (Ne.symm ne_o56_b60)
  refine s_aloadN 18 C X d3_17 rfl rfl ?_
  refine s_ldcH 20 0 C X hS Nk (own_EL hw) Rc.1 d3_18 (mW 18 rfl) (own_wS hw) (vs := []) (z := i0) (by decide) ⟨by decide, rfl⟩ (by decide) rfl (fun T hh t61 b62 k_b62 vm k1 C X E hS Nk Rn E_t61 F_t61_coder F_t61_value A_b62 nS => ?_)
  have H_o56 := Rn.safe E_o56.lt H_o56
  have Rc := Rc.trans Rn
  have E_o56 := E_o56.ext E
  have F_o56_value := F_o56_value.ext E
  have F_o56_coder := F_o56_coder.ext E
  have Kp := Kp.ext E
  have A_b60 := A_b60.ext E
  refine s_getfield 23 C X (host := "") d3_20 (Or.inl (mW 25 rfl)) Via.refl F_t61_coder (fun T X => ?_)
  refine s_putfieldN 26 C X d3_23 (mW 25 rfl) Via.refl F_o56_coder E_o56 (Or.inr ⟨(mW 21 rfl), rfl, rfl⟩) (mW 5 rfl) (ty := .byte) (by decide) rfl rfl g_o56 (fun T hh X W => ?_)
  have Sf : Safe Z EL1 vm _ o56 := H_o56
  have H_o56 := Safe.wr W Sf Rc.1 H_o56
  have Rc := Rc.trans (CHr.wr W Sf Rc.1)
  have Nk := Nat.le_trans Nk (Nat.le_of_eq W.size.symm)
  have E_o56 := E_o56.wr W
  have F_o56_value := oth F_o56_value W (Or.inr (hw _ (mW 20 rfl))) (Or.inr (hw _ (mW 21 rfl))) (by decide)
  have F_o56_coder := F_o56_coder.same W
  have Kp := Kp.wr W (Or.inl (by simp))
  have A_b60 := A_b60.other W (Ne.symm ne_o56_b60)
  refine s_return C X d3_26 rfl ?_ (FGH hG hS Nk Rc C (own_EL hw) (by decide) (by decide))
  exact hQ _ _ ⟨b60, k_b60, rfl, E_o56, F_o56_value, F_o56_coder, Kp, A_b60, ne_o56_b60⟩
theorem rm_a64 (l : Launch) (Z : State) (a0 : Array Value) (hw : ∀ d ∈ tables_1, d.before a0 Z = true) (o56 : Addr) (o57 : Addr) (k_o57 : ClassId) (h0 : Heap) (n0 : Nat) (Z0 : n0 ≤ h0.size) (E_o56 : Exa Z h0 o56 "java/lang/String") (F_o56_value : Fld Z h0 o56 "java/lang/String" "value" "[B" .null) (F_o56_coder : Fld Z h0 o56 "java/lang/String" "coder" "B" (.int i0)) (A_o57 : Arv Z h0 o57 k_o57 .char i0 [] (.int i0)) (g_o56 : n0 ≤ o56) (ne_o56_o57 : o56 ≠ o57) :
    MetH l Z EL1 [o56] (⟨"java/lang/String", "<init>", "([C)V"⟩ : MethodName) jdk_42_method_3_code 2 none { frames := 2, cells := 4, slots := 8, locals := 29 } [] #[(.ref o56), (.ref o57)] h0 n0 (fun v h => ∃ (b60 : Addr) (k_b60 : ClassId), v = none ∧ Keep h0 h [o56] ∧ Exa Z h o56 "java/lang/String" ∧ Fld Z h o56 "java/lang/String" "value" "[B" (.ref b60) ∧ Fld Z h o56 "java/lang/String" "coder" "B" (.int i0) ∧ Arv Z h b60 k_b60 .byte i0 [] (.int i0) ∧ o56 ≠ b60) := by
  refine MetH.mkQ (tabs := tables_1) (a0 := a0) (ls0 := #[rv o56, rv o57]) (plainFor_of_name pn_java_lang_String) hw Z0 (fun m => by first | (simp [entryFrame, mkF, argsToLocals, Value.category]; done) | rfl) ?_
  intro p e s m below meth c T Q' G' vm k1 hQ hG C X hS Nk Rc hso
  have Kp : Keep h0 h0 [o56] := Keep.refl _ _
  have H_o56 : Safe Z EL1 vm h0 o56 := hso _ (by simp)
  refine s_aloadN 1 C X d2_0 rfl rfl ?_
  refine s_aloadN 2 C X d2_1 rfl rfl ?_
  refine s_iconst 3 C X d2_2 kc_iconst_0 ?_
  refine s_aloadN 4 C X d2_3 rfl rfl ?_
  refine s_arraylength 5 C X d2_4 A_o57 ?_
  refine s_aconstNull 6 C X d2_5 ?_
  refine s_hcallC 9 [(.ref o57), (.int i0), (.int i0), .null] [] 0 C X hS Nk (own_EL hw) Rc.1 d2_6 rfl (mW 11 rfl) (mW 12 rfl) (mW 6 rfl) (mW 14 rfl) (rm_a63 l Z a0 hw o56 o57 _ n0 X.sz E_o56 F_o56_value F_o56_coder g_o56) (lenOf pd___CIILjava_lang_Void__V rfl) rfl rfl rfl (soS ⟨E_o56.lt, H_o56⟩ so0) (fun T v hh vm k1 C X hS Nk Rn q => ?_)
  obtain ⟨b60, k_b60, rfl, E_o56, F_o56_value, F_o56_coder, Kc, A_b60, ne_o56_b60⟩ := q
  have Rc := Rc.trans Rn
  have Kp := Kp.trans Kc (allS (Or.inl (by simp)) all0)
  refine Run.cast (st' := []) rfl ?_
  refine s_return C X d2_9 rfl ?_ (FGH hG hS Nk Rc C (own_EL hw) (by decide) (by decide))
  exact hQ _ _ ⟨b60, k_b60, rfl, Kp, E_o56, F_o56_value, F_o56_coder, A_b60, ne_o56_b60⟩
theorem rm_a65 (l : Launch) (Z : State) (a0 : Array Value) (hw : ∀ d ∈ tables_1, d.before a0 Z = true) (cs : Int32) (la5 : Int32) (ca6 : Int32) (cb7 : Int32) (h0 : Heap) (n0 : Nat) (Z0 : n0 ≤ h0.size) (Od : Old Z n0 h0) (S_cs : Sta Z Z.heap "java/lang/String" "COMPACT_STRINGS" "Z" (.int cs)) (hv_cs : ¬ cs = i0) (hv_ca6 : own_B ca6) (hv_cb7 : own_B cb7) :
    MetH l Z EL1 [] (⟨"com/example/libring/libring/core/RingPointEqualsPinLaw", "mk", "(III)Ljava/lang/String;"⟩ : MethodName) method_2_code 3 (some (.object "java/lang/String")) { frames := 4, cells := 6, slots := 12, locals := 66 } [] #[(.int la5), (.int ca6), (.int cb7)] h0 n0 (fun v h => (∃ (o26 : Addr) (o30 : Addr) (k_o30 : ClassId), v = some (.ref o26) ∧ ¬ la5 = i0 ∧ ¬ la5 = i1 ∧ Keep h0 h [] ∧ Old Z n0 h ∧ Exa Z h o26 "java/lang/String" ∧ Fld Z h o26 "java/lang/String" "value" "[B" (.ref o30) ∧ Fld Z h o26 "java/lang/String" "coder" "B" (.int i0) ∧ Arv Z h o30 k_o30 .byte i2 [(.int (bv ca6)), (.int (bv cb7))] (.int i0) ∧ h0.size ≤ o26 ∧ n0 ≤ o26 ∧ h0.size ≤ o30 ∧ n0 ≤ o30 ∧ o26 ≠ o30) ∨ (∃ (o42 : Addr) (o46 : Addr) (k_o46 : ClassId), v = some (.ref o42) ∧ ¬ la5 = i0 ∧ la5 = i1 ∧ Keep h0 h [] ∧ Old Z n0 h ∧ Exa Z h o42 "java/lang/String" ∧ Fld Z h o42 "java/lang/String" "value" "[B" (.ref o46) ∧ Fld Z h o42 "java/lang/String" "coder" "B" (.int i0) ∧ Arv Z h o46 k_o46 .byte i1 [(.int (bv ca6))] (.int i0) ∧ h0.size ≤ o42 ∧ n0 ≤ o42 ∧ h0.size ≤ o46 ∧ n0 ≤ o46 ∧ o42 ≠ o46) ∨ (∃ (o56 : Addr) (b60 : Addr) (k_b60 : ClassId), v = some (.ref o56) ∧ la5 = i0 ∧ Old Z n0 h ∧ Keep h0 h [] ∧ Exa Z h o56 "java/lang/String" ∧ Fld Z h o56 "java/lang/String" "value" "[B" (.ref b60) ∧ Fld Z h o56 "java/lang/String" "coder" "B" (.int i0) ∧ Arv Z h b60 k_b60 .byte i0 [] (.int i0) ∧ h0.size ≤ o56 ∧ n0 ≤ o56 ∧ o56 ≠ b60)) := by
  refine MetH.mkQ (tabs := tables_1) (a0 := a0) (ls0 := #[iv la5, iv ca6, iv cb7]) (plainFor_of_name pn_com_example_libring_libring_core_RingPointEqualsPinLaw) hw Z0 (fun m => by first | (simp [entryFrame, mkF, argsToLocals, Value.category]; done) | rfl) ?_
  intro p e s m below meth c T Q' G' vm k1 hQ hG C X hS Nk Rc hso
  have Kp : Keep h0 h0 [] := Keep.refl _ _
  refine s_iloadN 1 C X d1_0 rfl ?_
  refine s_if_ne 15 4 C X d1_1 (fun c1_24 => ?_) (fun c1_24 => ?_)
  · have t_c1_24 : ¬ ((la5).toInt = (0 : Int)) := fun q => c1_24 (Int32.toInt_inj.mp q)
    refine s_iloadN 16 C X d1_15 rfl ?_
    refine s_iconst 17 C X d1_16 kc_iconst_1 ?_
    refine s_icmp_ne 36 20 C X d1_17 (fun c17_25 => ?_) (fun c17_25 => ?_)
    · have t_c17_25 : ¬ ((la5).toInt = (1 : Int)) := fun q => c17_25 (Int32.toInt_inj.mp q)
      refine s_new 39 C X d1_36 (mW 4 rfl) (mW 5 rfl) (mW 6 rfl) (fun T hh o26 hb_o26 X E E_o26 D g_o26 => ?_)
      have H_o26 : Safe Z EL1 vm _ o26 := Safe.ext E Rc.1 (Safe.new (Nat.le_of_eq hb_o26))
      have Rc := Rc.trans (CHr.ext E Rc.1)
      have Nk := Nat.le_trans Nk E.1
      have sz_o26 : h0.size ≤ o26 := Nat.le_trans Kp.1 (Nat.le_of_eq hb_o26)
      have Od := Od.ext E
      have Kp := Kp.ext E
      have F_o26_value : Fld Z _ o26 "java/lang/String" "value" "[B" .null := D (Or.inr (hw _ (mW 20 rfl))) (ty := (.array .byte)) (by decide)
      have F_o26_coder : Fld Z _ o26 "java/lang/String" "coder" "B" (.int i0) := D (Or.inr (hw _ (mW 21 rfl))) (ty := .byte) (by decide)
      refine s_dup 40 C X d1_39 rfl ?_
      refine s_iconst 41 C X d1_40 kc_iconst_2 ?_
      refine s_newarray 43 2 C X d1_41 (mW 7 rfl) (by decide) (by decide) (fun T hh o27 k_o27 hb_o27 X E A_o27 g_o27 => ?_)
      have H_o26 := Safe.ext E Rc.1 H_o26
      have H_o27 : Safe Z EL1 vm _ o27 := Safe.ext E Rc.1 (Safe.new (Nat.le_of_eq hb_o27))
      have Rc := Rc.trans (CHr.ext E Rc.1)
      have Nk := Nat.le_trans Nk E.1
      have sz_o27 : h0.size ≤ o27 := Nat.le_trans Kp.1 (Nat.le_of_eq hb_o27)
      have ne_o26_o27 : o26 ≠ o27 := Nat.ne_of_lt (Nat.lt_of_lt_of_le E_o26.lt (Nat.le_of_eq hb_o27))
      have Od := Od.ext E
      have Kp := Kp.ext E
      have E_o26 := E_o26.ext E
      have F_o26_value := F_o26_value.ext E
      have F_o26_coder := F_o26_coder.ext E
      have A_o27 : Arv Z _ o27 k_o27 .char i2 [(.int i0), (.int i0)] (.int i0) := A_o27.pad (pad_rep [] _ 2)
      refine s_dup 44 C X d1_43 rfl ?_
      refine s_iconst 45 C X d1_44 kc_iconst_0 ?_
      refine s_iloadN 46 C X d1_45 rfl ?_
      refine s_i2c 47 C X d1_46 ?_
      refine Run.cast (st' := [(.int ca6), (.int i0), (.ref o27), (.ref o27), (.ref o26), (.ref o26)]) (by rw [own_i2c hv_ca6]) ?_
      have Sf : Safe Z EL1 vm _ o27 := H_o27
      refine s_castore 48 0 C X d1_47 A_o27 g_o27 ⟨by decide, by decide⟩ rfl (Nat.le_of_ble_eq_true rfl) (fun T hh X W A_o27 => ?_)
      have A_o27 : Arv Z _ o27 k_o27 .char i2 [(.int (nar .char ca6)), (.int i0)] (.int i0) := A_o27
      have H_o26 := Safe.wr W Sf Rc.1 H_o26
      have H_o27 := Safe.wr W Sf Rc.1 H_o27
      have Rc := Rc.trans (CHr.wr W Sf Rc.1)
      have Nk := Nat.le_trans Nk (Nat.le_of_eq W.size.symm)
      have Od := Od.wr W g_o27
      have Kp := Kp.wr W (Or.inr sz_o27)
      have E_o26 := E_o26.wr W
      have F_o26_value := F_o26_value.other W (Or.inl ne_o26_o27)
      have F_o26_coder := F_o26_coder.other W (Or.inl ne_o26_o27)
      rw [own_nc hv_ca6] at A_o27
      refine s_dup 49 C X d1_48 rfl ?_
      refine s_iconst 50 C X d1_49 kc_iconst_1 ?_
      refine s_iloadN 51 C X d1_50 rfl ?_
      refine s_i2c 52 C X d1_51 ?_
      refine Run.cast (st' := [(.int cb7), (.int i1), (.ref o27), (.ref o27), (.ref o26), (.ref o26)]) (by rw [own_i2c hv_cb7]) ?_
      have Sf : Safe Z EL1 vm _ o27 := H_o27
      refine s_castore 53 1 C X d1_52 A_o27 g_o27 ⟨by decide, by decide⟩ rfl (Nat.le_of_ble_eq_true rfl) (fun T hh X W A_o27 => ?_)
      have A_o27 : Arv Z _ o27 k_o27 .char i2 [(.int ca6), (.int (nar .char cb7))] (.int i0) := A_o27
      have H_o26 := Safe.wr W Sf Rc.1 H_o26
      have H_o27 := Safe.wr W Sf Rc.1 H_o27
      have Rc := Rc.trans (CHr.wr W Sf Rc.1)
      have Nk := Nat.le_trans Nk (Nat.le_of_eq W.size.symm)
      have Od := Od.wr W g_o27
      have Kp := Kp.wr W (Or.inr sz_o27)
      have E_o26 := E_o26.wr W
      have F_o26_value := F_o26_value.other W (Or.inl ne_o26_o27)
      have F_o26_coder := F_o26_coder.other W (Or.inl ne_o26_o27)
      rw [own_nc hv_cb7] at A_o27
      refine s_hcallC 56 [(.ref o27)] [(.ref o26)] 1 C X hS Nk (own_EL hw) Rc.1 d1_53 rfl (mW 8 rfl) (mW 9 rfl) (mW 6 rfl) (mW 10 rfl) (rm_a41 l Z a0 hw cs ca6 cb7 o26 o27 k_o27 _ n0 X.sz Od S_cs E_o26 F_o26_value F_o26_coder A_o27 hv_cs hv_ca6 hv_cb7 g_o26 ne_o26_o27) (lenOf pd___C_V rfl) rfl rfl rfl (soS ⟨E_o26.lt, H_o26⟩ so0) (fun T v hh vm k1 C X hS Nk Rn q => ?_)
      obtain ⟨o30, k_o30, rfl, Kc, Od, E_o26, F_o26_value, F_o26_coder, A_o30, sz_o30', g_o30, ne_o26_o30⟩ := q
      have sz_o30 : h0.size ≤ o30 := Nat.le_trans Kp.1 sz_o30'
      have H_o27 := Rn.safe A_o27.lt H_o27
      have Rc := Rc.trans Rn
      have Kp := Kp.trans Kc (allS (Or.inr sz_o26) all0)
      refine Run.cast (st' := [(.ref o26)]) rfl ?_
      refine s_areturn C X d1_56 rfl rfl rfl ?_ (FGH hG hS Nk Rc C (own_EL hw) (by decide) (by decide))
      exact hQ _ _ (Or.inl ⟨o26, o30, k_o30, rfl, c1_24, c17_25, Kp, Od, E_o26, F_o26_value, F_o26_coder, A_o30, sz_o26, g_o26, sz_o30, g_o30, ne_o26_o30⟩)
    refine s_new 23 C X d1_20 (mW 4 rfl) (mW 5 rfl) (mW 6 rfl) (fun T hh o42 hb_o42 X E E_o42 D g_o42 => ?_)
    have H_o42 : Safe Z EL1 vm _ o42 := Safe.ext E Rc.1 (Safe.new (Nat.le_of_eq hb_o42))
    have Rc := Rc.trans (CHr.ext E Rc.1)
    have Nk := Nat.le_trans Nk E.1
    have sz_o42 : h0.size ≤ o42 := Nat.le_trans Kp.1 (Nat.le_of_eq hb_o42)
    have Od := Od.ext E
    have Kp := Kp.ext E
    have F_o42_value : Fld Z _ o42 "java/lang/String" "value" "[B" .null := D (Or.inr (hw _ (mW 20 rfl))) (ty := (.array .byte)) (by decide)
    have F_o42_coder : Fld Z _ o42 "java/lang/String" "coder" "B" (.int i0) := D (Or.inr (hw _ (mW 21 rfl))) (ty := .byte) (by decide)
    refine s_dup 24 C X d1_23 rfl ?_
    refine s_iconst 25 C X d1_24 kc_iconst_1 ?_
    refine s_newarray 27 1 C X d1_25 (mW 7 rfl) (by decide) (by decide) (fun T hh o43 k_o43 hb_o43 X E A_o43 g_o43 => ?_)
    have H_o42 := Safe.ext E Rc.1 H_o42
    have H_o43 : Safe Z EL1 vm _ o43 := Safe.ext E Rc.1 (Safe.new (Nat.le_of_eq hb_o43))
    have Rc := Rc.trans (CHr.ext E Rc.1)
    have Nk := Nat.le_trans Nk E.1
    have sz_o43 : h0.size ≤ o43 := Nat.le_trans Kp.1 (Nat.le_of_eq hb_o43)
    have ne_o42_o43 : o42 ≠ o43 := Nat.ne_of_lt (Nat.lt_of_lt_of_le E_o42.lt (Nat.le_of_eq hb_o43))
    have Od := Od.ext E
    have Kp := Kp.ext E
    have E_o42 := E_o42.ext E
    have F_o42_value := F_o42_value.ext E
    have F_o42_coder := F_o42_coder.ext E
    have A_o43 : Arv Z _ o43 k_o43 .char i1 [(.int i0)] (.int i0) := A_o43.pad (pad_rep [] _ 1)
    refine s_dup 28 C X d1_27 rfl ?_
    refine s_iconst 29 C X d1_28 kc_iconst_0 ?_
    refine s_iloadN 30 C X d1_29 rfl ?_
    refine s_i2c 31 C X d1_30 ?_
    refine Run.cast (st' := [(.int ca6), (.int i0), (.ref o43), (.ref o43), (.ref o42), (.ref o42)]) (by rw [own_i2c hv_ca6]) ?_
    have Sf : Safe Z EL1 vm _ o43 := H_o43
    refine s_castore 32 0 C X d1_31 A_o43 g_o43 ⟨by decide, by decide⟩ rfl (Nat.le_of_ble_eq_true rfl) (fun T hh X W A_o43 => ?_)
    have A_o43 : Arv Z _ o43 k_o43 .char i1 [(.int (nar .char ca6))] (.int i0) := A_o43
    have H_o42 := Safe.wr W Sf Rc.1 H_o42
    have H_o43 := Safe.wr W Sf Rc.1 H_o43
    have Rc := Rc.trans (CHr.wr W Sf Rc.1)
    have Nk := Nat.le_trans Nk (Nat.le_of_eq W.size.symm)
    have Od := Od.wr W g_o43
    have Kp := Kp.wr W (Or.inr sz_o43)
    have E_o42 := E_o42.wr W
    have F_o42_value := F_o42_value.other W (Or.inl ne_o42_o43)
    have F_o42_coder := F_o42_coder.other W (Or.inl ne_o42_o43)
    rw [own_nc hv_ca6] at A_o43
    refine s_hcallC 35 [(.ref o43)] [(.ref o42)] 1 C X hS Nk (own_EL hw) Rc.1 d1_32 rfl (mW 8 rfl) (mW 9 rfl) (mW 6 rfl) (mW 10 rfl) (rm_a55 l Z a0 hw cs ca6 o42 o43 k_o43 _ n0 X.sz Od S_cs E_o42 F_o42_value F_o42_coder A_o43 hv_cs hv_ca6 g_o42 ne_o42_o43) (lenOf pd___C_V rfl) rfl rfl rfl (soS ⟨E_o42.lt, H_o42⟩ so0) (fun T v hh vm k1 C X hS Nk Rn q => ?_)
    obtain ⟨o46, k_o46, rfl, Kc, Od, E_o42, F_o42_value, F_o42_coder, A_o46, sz_o46', g_o46, ne_o42_o46⟩ := q
    have sz_o46 : h0.size ≤ o46 := Nat.le_trans Kp.1 sz_o46'
    have H_o43 := Rn.safe A_o43.lt H_o43
    have Rc := Rc.trans Rn
    have Kp := Kp.trans Kc (allS (Or.inr sz_o42) all0)
    refine Run.cast (st' := [(.ref o42)]) rfl ?_
    refine s_areturn C X d1_35 rfl rfl rfl ?_ (FGH hG hS Nk Rc C (own_EL hw) (by decide) (by decide))
    exact hQ _ _ (Or.inr (Or.inl ⟨o42, o46, k_o46, rfl, c1_24, c17_25, Kp, Od, E_o42, F_o42_value, F_o42_coder, A_o46, sz_o42, g_o42, sz_o46, g_o46, ne_o42_o46⟩))
  refine s_new 7 C X d1_4 (mW 4 rfl) (mW 5 rfl) (mW 6 rfl) (fun T hh o56 hb_o56 X E E_o56 D g_o56 => ?_)
  have H_o56 : Safe Z EL1 vm _ o56 := Safe.ext E Rc.1 (Safe.new (Nat.le_of_eq hb_o56))
  have Rc := Rc.trans (CHr.ext E Rc.1)
  have Nk := Nat.le_trans Nk E.1
  have sz_o56 : h0.size ≤ o56 := Nat.le_trans Kp.1 (Nat.le_of_eq hb_o56)
  have Od := Od.ext E
  have Kp := Kp.ext E
  have F_o56_value : Fld Z _ o56 "java/lang/String" "value" "[B" .null := D (Or.inr (hw _ (mW 20 rfl))) (ty := (.array .byte)) (by decide)
  have F_o56_coder : Fld Z _ o56 "java/lang/String" "coder" "B" (.int i0) := D (Or.inr (hw _ (mW 21 rfl))) (ty := .byte) (by decide)
  refine s_dup 8 C X d1_7 rfl ?_
  refine s_iconst 9 C X d1_8 kc_iconst_0 ?_
  refine s_newarray 11 0 C X d1_9 (mW 7 rfl) (by decide) (by decide) (fun T hh o57 k_o57 hb_o57 X E A_o57 g_o57 => ?_)
  have H_o56 := Safe.ext E Rc.1 H_o56
  have H_o57 : Safe Z EL1 vm _ o57 := Safe.ext E Rc.1 (Safe.new (Nat.le_of_eq hb_o57))
  have Rc := Rc.trans (CHr.ext E Rc.1)
  have Nk := Nat.le_trans Nk E.1
  have ne_o56_o57 : o56 ≠ o57 := Nat.ne_of_lt (Nat.lt_of_lt_of_le E_o56.lt (Nat.le_of_eq hb_o57))
  have Od := Od.ext E
  have Kp := Kp.ext E
  have E_o56 := E_o56.ext E
  have F_o56_value := F_o56_value.ext E
  have F_o56_coder := F_o56_coder.ext E
  have A_o57 : Arv Z _ o57 k_o57 .char i0 [] (.int i0) := A_o57.pad (pad_rep [] _ 0)
  refine s_hcallC 14 [(.ref o57)] [(.ref o56)] 1 C X hS Nk (own_EL hw) Rc.1 d1_11 rfl (mW 8 rfl) (mW 9 rfl) (mW 6 rfl) (mW 10 rfl) (rm_a64 l Z a0 hw o56 o57 k_o57 _ n0 X.sz E_o56 F_o56_value F_o56_coder A_o57 g_o56 ne_o56_o57) (lenOf pd___C_V rfl) rfl rfl rfl (soS ⟨E_o56.lt, H_o56⟩ so0) (fun T v hh vm k1 C X hS Nk Rn q => ?_)
  obtain ⟨b60, k_b60, rfl, Kc, E_o56, F_o56_value, F_o56_coder, A_b60, ne_o56_b60⟩ := q
  have H_o57 := Rn.safe A_o57.lt H_o57
  have Rc := Rc.trans Rn
  have Od := Od.keep Kc (allS g_o56 all0)
  have Kp := Kp.trans Kc (allS (Or.inr sz_o56) all0)
  refine Run.cast (st' := [(.ref o56)]) rfl ?_
  refine s_areturn C X d1_14 rfl rfl rfl ?_ (FGH hG hS Nk Rc C (own_EL hw) (by decide) (by decide))
  exact hQ _ _ (Or.inr (Or.inr ⟨o56, b60, k_b60, rfl, c1_24, Od, Kp, E_o56, F_o56_value, F_o56_coder, A_b60, sz_o56, g_o56, ne_o56_b60⟩))
theorem rm_a78 (l : Launch) (Z : State) (a0 : Array Value) (hw : ∀ d ∈ tables_1, d.before a0 Z = true) (y18 : Int32) (y22 : Int32) (o69 : Addr) (k_o69 : ClassId) (o72 : Addr) (k_o72 : ClassId) (h0 : Heap) (n0 : Nat) (Z0 : n0 ≤ h0.size) (A_o69 : Arv Z h0 o69 k_o69 .char i2 [(.int y18), (.int y22)] (.int i0)) (A_o72 : Arv Z h0 o72 k_o72 .byte i2 [(.int i0), (.int i0)] (.int i0)) (hv_y18 : own_B y18) (hv_y22 : own_B y22) (ne_o69_o72 : o69 ≠ o72) (g_o72 : n0 ≤ o72) :
    Met l Z (⟨"java/lang/StringUTF16", "compress", "([CI[BII)I"⟩ : MethodName) jdk_52_method_21_code 7 (some .int) { frames := 0, cells := 0, slots := 0, locals := 0 } [] #[(.ref o69), (.int i0), (.ref o72), (.int i0), (.int i2)] h0 n0 (fun v h => v = some (.int i2) ∧ Arv Z h o72 k_o72 .byte i2 [(.int (bv y18)), (.int (bv y22))] (.int i0) ∧ Keep h0 h [o72]) := by
  refine Met.mkQ (tabs := tables_1) (a0 := a0) (ls0 := #[rv o69, iv i0, rv o72, iv i0, iv i2, .unset, .unset]) (plainFor_of_name pn_java_lang_StringUTF16) hw Z0 (fun m => by first | (simp [entryFrame, mkF, argsToLocals, Value.category]; done) | rfl) ?_
  intro p e s m below meth c T Q' G' hQ hG C X
  have Kp : Keep h0 h0 [o72] := Keep.refl _ _
  refine s_iconst 1 C X d9_0 kc_iconst_0 ?_
  refine s_istore 3 C X (l' := #[rv o69, iv i0, rv o72, iv i0, iv i2, iv i0, .unset]) d9_1 rfl ?_
  refine s_iload 5 C X d9_3 rfl ?_
  refine s_iload 7 C X d9_5 rfl ?_
  refine s_icmp_ge 44 10 C X d9_7 (fun c => absurd (by decide : i0 < i2) c) (fun _ => ?_)
  refine s_aloadN 11 C X d9_10 rfl rfl ?_
  refine s_iloadN 12 C X d9_11 rfl ?_
  refine s_caload 13 C X d9_12 A_o69 ⟨by decide, by decide⟩ (v := (.int y18)) rfl ?_
  refine s_istore 15 C X (l' := #[rv o69, iv i0, rv o72, iv i0, iv i2, iv i0, iv y18]) d9_13 rfl ?_
  refine s_iload 17 C X d9_15 rfl ?_
  refine s_sipush 20 C X d9_17 kc_sipush_255 ?_
  refine s_icmp_le 26 23 C X d9_20 (fun c20_74 => ?_) (fun c => absurd c (own_le hv_y18))
  refine s_aloadN 27 C X d9_26 rfl rfl ?_
  refine s_iloadN 28 C X d9_27 rfl ?_
  refine s_iload 30 C X d9_28 rfl ?_
  refine s_i2b 31 C X d9_30 ?_
  refine s_bastore 32 0 C X d9_31 A_o72 g_o72 ⟨by decide, by decide⟩ rfl (Nat.le_of_ble_eq_true rfl) (fun T hh X W A_o72 => ?_)
  have A_o72 : Arv Z _ o72 k_o72 .byte i2 [(.int (nar .byte (y18).toInt8.toInt32)), (.int i0)] (.int i0) := A_o72
  have A_o69 := A_o69.other W ne_o69_o72
  have Kp := Kp.wr W (Or.inl (by simp))
  have A_o72 : Arv Z _ o72 k_o72 .byte i2 [(.int (bv y18)), (.int i0)] (.int i0) := A_o72
  refine s_iinc 35 C X (l' := #[rv o69, iv i1, rv o72, iv i0, iv i2, iv i0, iv y18]) d9_32 kc_iconst_1 rfl rfl ?_
  refine s_iinc 38 C X (l' := #[rv o69, iv i1, rv o72, iv i1, iv i2, iv i0, iv y18]) d9_35 kc_iconst_1 rfl rfl ?_
  refine s_iinc 41 C X (l' := #[rv o69, iv i1, rv o72, iv i1, iv i2, iv i1, iv y18]) d9_38 kc_iconst_1 rfl rfl ?_
  refine s_goto 3 C X d9_41 ?_
  refine s_iload 5 C X d9_3 rfl ?_
  refine s_iload 7 C X d9_5 rfl ?_
  refine s_icmp_ge 44 10 C X d9_7 (fun c => absurd (by decide : i1 < i2) c) (fun _ => ?_)
  refine s_aloadN 11 C X d9_10 rfl rfl ?_
  refine s_iloadN 12 C X d9_11 rfl ?_
  refine s_caload 13 C X d9_12 A_o69 ⟨by decide, by decide⟩ (v := (.int y22)) rfl ?_
  refine s_istore 15 C X (l' := #[rv o69, iv i1, rv o72, iv i1, iv i2, iv i1, iv y22]) d9_13 rfl ?_
  refine s_iload 17 C X d9_15 rfl ?_
  refine s_sipush 20 C X d9_17 kc_sipush_255 ?_
  refine s_icmp_le 26 23 C X d9_20 (fun c20_76 => ?_) (fun c => absurd c (own_le hv_y22))
  refine s_aloadN 27 C X d9_26 rfl rfl ?_
  refine s_iloadN 28 C X d9_27 rfl ?_
  refine s_iload 30 C X d9_28 rfl ?_
  refine s_i2b 31 C X d9_30 ?_
  refine s_bastore 32 1 C X d9_31 A_o72 g_o72 ⟨by decide, by decide⟩ rfl (Nat.le_of_ble_eq_true rfl) (fun T hh X W A_o72 => ?_)
  have A_o72 : Arv Z _ o72 k_o72 .byte i2 [(.int (bv y18)), (.int (nar .byte (y22).toInt8.toInt32))] (.int i0) := A_o72
  have Kp := Kp.wr W (Or.inl (by simp))
  have A_o72 : Arv Z _ o72 k_o72 .byte i2 [(.int (bv y18)), (.int (bv y22))] (.int i0) := A_o72
  refine s_iinc 35 C X (l' := #[rv o69, iv i2, rv o72, iv i1, iv i2, iv i1, iv y22]) d9_32 kc_iconst_1 rfl rfl ?_
  refine s_iinc 38 C X (l' := #[rv o69, iv i2, rv o72, iv i2, iv i2, iv i1, iv y22]) d9_35 kc_iconst_1 rfl rfl ?_
  refine s_iinc 41 C X (l' := #[rv o69, iv i2, rv o72, iv i2, iv i2, iv i2, iv y22]) d9_38 kc_iconst_1 rfl rfl ?_
  refine s_goto 3 C X d9_41 ?_
  refine s_iload 5 C X d9_3 rfl ?_
  refine s_iload 7 C X d9_5 rfl ?_
  refine s_icmp_ge 44 10 C X d9_7 (fun _ => ?_) (fun c => absurd c (by decide))
  refine s_iload 46 C X d9_44 rfl ?_
  refine s_ireturn C X d9_46 rfl ?_ (FG hG (by decide) (by decide))
  exact hQ _ _ ⟨rfl, A_o72, Kp⟩
theorem rm_a80 (l : Launch) (Z : State) (a0 : Array Value) (hw : ∀ d ∈ tables_1, d.before a0 Z = true) (y18 : Int32) (y22 : Int32) (o69 : Addr) (k_o69 : ClassId) (h0 : Heap) (n0 : Nat) (Z0 : n0 ≤ h0.size) (A_o69 : Arv Z h0 o69 k_o69 .char i2 [(.int y18), (.int y22)] (.int i0)) (hv_y18 : own_B y18) (hv_y22 : own_B y22) :
    Met l Z (⟨"java/lang/StringUTF16", "compress", "([CII)[B"⟩ : MethodName) jdk_52_method_16_code 6 (some (.array .byte)) { frames := 1, cells := 1, slots := 2, locals := 18 } [] #[(.ref o69), (.int i0), (.int i2)] h0 n0 (fun v h => ∃ (o72 : Addr) (k_o72 : ClassId), v = some (.ref o72) ∧ Keep h0 h [] ∧ Arv Z h o72 k_o72 .byte i2 [(.int (bv y18)), (.int (bv y22))] (.int i0) ∧ h0.size ≤ o72 ∧ n0 ≤ o72) := by
  refine Met.mkQ (tabs := tables_1) (a0 := a0) (ls0 := #[rv o69, iv i0, iv i2, .unset, .unset, .unset]) (plainFor_of_name pn_java_lang_StringUTF16) hw Z0 (fun m => by first | (simp [entryFrame, mkF, argsToLocals, Value.category]; done) | rfl) ?_
  intro p e s m below meth c T Q' G' hQ hG C X
  have Kp : Keep h0 h0 [] := Keep.refl _ _
  refine s_iloadN 1 C X d8_0 rfl ?_
  refine s_newarray 3 2 C X d8_1 (mW 19 rfl) (by decide) (by decide) (fun T hh o72 k_o72 hb_o72 X E A_o72 g_o72 => ?_)
  have ne_o69_o72 : o69 ≠ o72 := Nat.ne_of_lt (Nat.lt_of_lt_of_le A_o69.lt (Nat.le_of_eq hb_o72))
  have sz_o72 : h0.size ≤ o72 := Nat.le_trans Kp.1 (Nat.le_of_eq hb_o72)
  have A_o69 := A_o69.ext E
  have Kp := Kp.ext E
  have A_o72 : Arv Z _ o72 k_o72 .byte i2 [(.int i0), (.int i0)] (.int i0) := A_o72.pad (pad_rep [] _ 2)
  refine s_astoreN 4 C X (l' := #[rv o69, iv i0, iv i2, rv o72, .unset, .unset]) d8_3 rfl rfl ?_
  refine s_aloadN 5 C X d8_4 rfl rfl ?_
  refine s_iloadN 6 C X d8_5 rfl ?_
  refine s_aloadN 7 C X d8_6 rfl rfl ?_
  refine s_iconst 8 C X d8_7 kc_iconst_0 ?_
  refine s_iloadN 9 C X d8_8 rfl ?_
  refine s_callS 12 [(.ref o69), (.int i0), (.ref o72), (.int i0), (.int i2)] [] 0 C X d8_9 (mW 56 rfl) (mW 57 rfl) (mW 54 rfl) (mW 58 rfl) (rm_a78 l Z a0 hw y18 y22 o69 k_o69 o72 k_o72 _ n0 X.sz A_o69 A_o72 hv_y18 hv_y22 ne_o69_o72 g_o72) (lenOf pd___CI_BII_I rfl) rfl rfl rfl (fun T v hh X q => ?_)
  obtain ⟨rfl, A_o72, Kc⟩ := q
  have Kp := Kp.trans Kc (allS (Or.inr sz_o72) all0)
  refine Run.cast (st' := [(.int i2)]) rfl ?_
  refine s_istore 14 C X (l' := #[rv o69, iv i0, iv i2, rv o72, iv i2, .unset]) d8_12 rfl ?_
  refine s_iload 16 C X d8_14 rfl ?_
  refine s_iloadN 17 C X d8_16 rfl ?_
  refine s_icmp_eq 57 20 C X d8_17 (fun _ => ?_) (fun c => absurd (by decide : i2 = i2) c)
  refine s_aloadN 58 C X d8_57 rfl rfl ?_
  refine s_areturn C X d8_58 rfl rfl rfl ?_ (FG hG (by decide) (by decide))
  exact hQ _ _ ⟨o72, k_o72, rfl, Kp, A_o72, sz_o72, g_o72⟩
theorem rm_a81 (l : Launch) (Z : State) (a0 : Array Value) (hw : ∀ d ∈ tables_1, d.before a0 Z = true) (y18 : Int32) (y22 : Int32) (o72 : Addr) (k_o72 : ClassId) (h0 : Heap) (n0 : Nat) (Z0 : n0 ≤ h0.size) (A_o72 : Arv Z h0 o72 k_o72 .byte i2 [(.int (bv y18)), (.int (bv y22))] (.int i0)) :
    Met l Z (⟨"java/lang/StringUTF16", "coderFromArrayLen", "([BI)B"⟩ : MethodName) jdk_52_method_15_code 2 (some .byte) { frames := 0, cells := 0, slots := 0, locals := 0 } [] #[(.ref o72), (.int i2)] h0 n0 (fun v h => v = some (.int i0) ∧ Keep h0 h []) := by
  refine Met.mkQ (tabs := tables_1) (a0 := a0) (ls0 := #[rv o72, iv i2]) (plainFor_of_name pn_java_lang_StringUTF16) hw Z0 (fun m => by first | (simp [entryFrame, mkF, argsToLocals, Value.category]; done) | rfl) ?_
  intro p e s m below meth c T Q' G' hQ hG C X
  have Kp : Keep h0 h0 [] := Keep.refl _ _
  refine s_iloadN 1 C X d10_0 rfl ?_
  refine s_aloadN 2 C X d10_1 rfl rfl ?_
  refine s_arraylength 3 C X d10_2 A_o72 ?_
  refine s_isub 4 C X d10_3 ?_
  refine Run.cast (st' := [(.int i0)]) (by rw [kf_0]) ?_
  refine s_bipush 6 C X d10_4 kc_bipush_31 ?_
  refine s_iushr 7 C X d10_6 ?_
  refine Run.cast (st' := [(.int i0)]) (by rw [kf_1]) ?_
  refine s_i2b 8 C X d10_7 ?_
  refine Run.cast (st' := [(.int i0)]) (by rw [kf_2]) ?_
  refine s_nreturn C X d10_8 rfl (by simp) rfl ?_ (FG hG (by decide) (by decide))
  exact hQ _ _ ⟨rfl, Kp⟩
theorem rm_a82 (l : Launch) (Z : State) (a0 : Array Value) (hw : ∀ d ∈ tables_1, d.before a0 Z = true) (cs : Int32) (y18 : Int32) (y22 : Int32) (o68 : Addr) (o69 : Addr) (k_o69 : ClassId) (h0 : Heap) (n0 : Nat) (Z0 : n0 ≤ h0.size) (S_cs : Sta Z Z.heap "java/lang/String" "COMPACT_STRINGS" "Z" (.int cs)) (Od : Old Z n0 h0) (E_o68 : Exa Z h0 o68 "java/lang/String") (F_o68_value : Fld Z h0 o68 "java/lang/String" "value" "[B" .null) (F_o68_coder : Fld Z h0 o68 "java/lang/String" "coder" "B" (.int i0)) (A_o69 : Arv Z h0 o69 k_o69 .char i2 [(.int y18), (.int y22)] (.int i0)) (hv_cs : ¬ cs = i0) (hv_y18 : own_B y18) (hv_y22 : own_B y22) (g_o68 : n0 ≤ o68) (ne_o68_o69 : o68 ≠ o69) :
    MetH l Z EL1 [o68] (⟨"java/lang/String", "<init>", "([CIILjava/lang/Void;)V"⟩ : MethodName) jdk_42_method_149_code 6 none { frames := 2, cells := 1, slots := 2, locals := 35 } [] #[(.ref o68), (.ref o69), (.int i0), (.int i2), .null] h0 n0 (fun v h => ∃ (o72 : Addr) (k_o72 : ClassId), v = none ∧ Old Z n0 h ∧ Exa Z h o68 "java/lang/String" ∧ Fld Z h o68 "java/lang/String" "value" "[B" (.ref o72) ∧ Fld Z h o68 "java/lang/String" "coder" "B" (.int i0) ∧ Keep h0 h [o68] ∧ Arv Z h o72 k_o72 .byte i2 [(.int (bv y18)), (.int (bv y22))] (.int i0) ∧ o68 ≠ o72 ∧ h0.size ≤ o72 ∧ n0 ≤ o72) := by
  refine MetH.mkQ (tabs := tables_1) (a0 := a0) (ls0 := #[rv o68, rv o69, iv i0, iv i2, .val .null, .unset]) (plainFor_of_name pn_java_lang_String) hw Z0 (fun m => by first | (simp [entryFrame, mkF, argsToLocals, Value.category]; done) | rfl) ?_
  intro p e s m below meth c T Q' G' vm k1 hQ hG C X hS Nk Rc hso
  have Kp : Keep h0 h0 [o68] := Keep.refl _ _
  have H_o68 : Safe Z EL1 vm h0 o68 := hso _ (by simp)
  refine s_aloadN 1 C X d3_0 rfl rfl ?_
  refine s_objInit 4 C X d3_1 (mW 15 rfl) (mW 16 rfl) (mW 17 rfl) rfl (W := 0) rfl (by decide) (fun T X => ?_)
  refine s_iloadN 5 C X d3_4 rfl ?_
  refine s_if_ne 27 8 C X d3_5 (fun _ => ?_) (fun c => absurd c (by decide))
  refine s_getstatic 30 C X (host := "") d3_27 (Or.inl (mW 51 rfl)) Via.refl (S_cs.ext Od.2) (fun T X => ?_)
  refine s_if_eq 58 33 C X d3_30 (fun c => absurd c hv_cs) (fun c30_71 => ?_)
  refine s_aloadN 34 C X d3_33 rfl rfl ?_
  refine s_iloadN 35 C X d3_34 rfl ?_
  refine s_iloadN 36 C X d3_35 rfl ?_
  refine s_callS 39 [(.ref o69), (.int i0), (.int i2)] [] 0 C X d3_36 (mW 52 rfl) (mW 53 rfl) (mW 54 rfl) (mW 55 rfl) (rm_a80 l Z a0 hw y18 y22 o69 k_o69 _ n0 X.sz A_o69 hv_y18 hv_y22) (lenOf pd___CII__B rfl) rfl rfl rfl (fun T v hh X q => ?_)
  obtain ⟨o72, k_o72, rfl, Kc, A_o72, sz_o72', g_o72⟩ := q
  have ne_o68_o72 : o68 ≠ o72 := Nat.ne_of_lt (Nat.lt_of_lt_of_le E_o68.lt sz_o72')
  have sz_o72 : h0.size ≤ o72 := Nat.le_trans Kp.1 sz_o72'
  have H_o68 := Safe.keep Kc so0 Rc.1 H_o68
  have Rc := Rc.trans (CHr.keep Kc so0 Rc.1)
  have Nk := Nat.le_trans Nk Kc.1
  have Od := Od.keep Kc all0
  have E_o68 := E_o68.keep Kc
  have F_o68_value := F_o68_value.keep Kc nin0
  have F_o68_coder := F_o68_coder.keep Kc nin0
  have Kp := Kp.trans Kc all0
  refine Run.cast (st' := [(.ref o72)]) rfl ?_
  refine s_astore 41 C X (l' := #[rv o68, rv o69, iv i0, iv i2, .val .null, rv o72]) d3_39 rfl rfl ?_
  refine s_aloadN 42 C X d3_41 rfl rfl ?_
  refine s_aload 44 C X d3_42 rfl rfl ?_
  refine s_iloadN 45 C X d3_44 rfl ?_
  refine s_callS 48 [(.ref o72), (.int i2)] [(.ref o68)] 1 C X d3_45 (mW 59 rfl) (mW 60 rfl) (mW 54 rfl) (mW 61 rfl) (rm_a81 l Z a0 hw y18 y22 o72 k_o72 _ n0 X.sz A_o72) (lenOf pd___BI_B rfl) rfl rfl rfl (fun T v hh X q => ?_)
  obtain ⟨rfl, Kc⟩ := q
  have H_o68 := Safe.keep Kc so0 Rc.1 H_o68
  have Rc := Rc.trans (CHr.keep Kc so0 Rc.1)
  have Nk := Nat.le_trans Nk Kc.1
  have Od := Od.keep Kc all0
  have E_o68 := E_o68.keep Kc
  have F_o68_value := F_o68_value.keep Kc nin0
  have F_o68_coder := F_o68_coder.keep Kc nin0
  have Kp := Kp.trans Kc all0
  have A_o72 := A_o72.keep Kc nin0
  refine Run.cast (st' := [(.int i0), (.ref o68)]) rfl ?_
  refine s_putfieldN 51 C X d3_48 (mW 25 rfl) Via.refl F_o68_coder E_o68 (Or.inr ⟨(mW 21 rfl), rfl, rfl⟩) (mW 5 rfl) (ty := .byte) (by decide) rfl rfl g_o68 (fun T hh X W => ?_)
  have Sf : Safe Z EL1 vm _ o68 := H_o68
  have H_o68 := Safe.wr W Sf Rc.1 H_o68
  have Rc := Rc.trans (CHr.wr W Sf Rc.1)
  have Nk := Nat.le_trans Nk (Nat.le_of_eq W.size.symm)
  have Od := Od.wr W g_o68
  have E_o68 := E_o68.wr W
  have F_o68_value := oth F_o68_value W (Or.inr (hw _ (mW 20 rfl))) (Or.inr (hw _ (mW 21 rfl))) (by decide)
  have F_o68_coder := F_o68_coder.same W
  have Kp := Kp.wr W (Or.inl (by simp))
  have A_o72 := A_o72.other W (Ne.symm ne_o68_o72)
  refine s_aloadN 52 C X d3_51 rfl rfl ?_
  refine s_aload 54 C X d3_52 rfl rfl ?_
  refine s_putfield 57 C X (host := "") d3_54 (Or.inl (mW 24 rfl)) Via.refl F_o68_value E_o68 (Or.inr ⟨(mW 20 rfl), rfl, rfl⟩) (mW 5 rfl) (ty := (.array .byte)) (by decide) rfl rfl g_o68 (fun T hh X W => ?_)
  have Sf : Safe Z EL1 vm _ o68 := H_o68
  have H_o68 := Safe.wr W Sf Rc.1 H_o68
  have Rc := Rc.trans (CHr.wr W Sf Rc.1)
  have Nk := Nat.le_trans Nk (Nat.le_of_eq W.size.symm)
  have Od := Od.wr W g_o68
  have E_o68 := E_o68.wr W
  have F_o68_value := F_o68_value.same W
  have F_o68_coder := oth F_o68_coder W (Or.inr (hw _ (mW 21 rfl))) (Or.inr (hw _ (mW 20 rfl))) (by decide)
  have Kp := Kp.wr W (Or.inl (by simp))
  have A_o72 := A_o72.other W (Ne.symm ne_o68_o72)
  refine s_return C X d3_57 rfl ?_ (FGH hG hS Nk Rc C (own_EL hw) (by decide) (by decide))
  exact hQ _ _ ⟨o72, k_o72, rfl, Od, E_o68, F_o68_value, F_o68_coder, Kp, A_o72, ne_o68_o72, sz_o72, g_o72⟩
theorem rm_a83 (l : Launch) (Z : State) (a0 : Array Value) (hw : ∀ d ∈ tables_1, d.before a0 Z = true) (cs : Int32) (y18 : Int32) (y22 : Int32) (o68 : Addr) (o69 : Addr) (k_o69 : ClassId) (h0 : Heap) (n0 : Nat) (Z0 : n0 ≤ h0.size) (S_cs : Sta Z Z.heap "java/lang/String" "COMPACT_STRINGS" "Z" (.int cs)) (Od : Old Z n0 h0) (E_o68 : Exa Z h0 o68 "java/lang/String") (F_o68_value : Fld Z h0 o68 "java/lang/String" "value" "[B" .null) (F_o68_coder : Fld Z h0 o68 "java/lang/String" "coder" "B" (.int i0)) (A_o69 : Arv Z h0 o69 k_o69 .char i2 [(.int y18), (.int y22)] (.int i0)) (hv_cs : ¬ cs = i0) (hv_y18 : own_B y18) (hv_y22 : own_B y22) (g_o68 : n0 ≤ o68) (ne_o68_o69 : o68 ≠ o69) :
    MetH l Z EL1 [o68] (⟨"java/lang/String", "<init>", "([C)V"⟩ : MethodName) jdk_42_method_3_code 2 none { frames := 3, cells := 1, slots := 2, locals := 52 } [] #[(.ref o68), (.ref o69)] h0 n0 (fun v h => ∃ (o72 : Addr) (k_o72 : ClassId), v = none ∧ Keep h0 h [o68] ∧ Old Z n0 h ∧ Exa Z h o68 "java/lang/String" ∧ Fld Z h o68 "java/lang/String" "value" "[B" (.ref o72) ∧ Fld Z h o68 "java/lang/String" "coder" "B" (.int i0) ∧ Arv Z h o72 k_o72 .byte i2 [(.int (bv y18)), (.int (bv y22))] (.int i0) ∧ h0.size ≤ o72 ∧ n0 ≤ o72 ∧ o68 ≠ o72) := by
  refine MetH.mkQ (tabs := tables_1) (a0 := a0) (ls0 := #[rv o68, rv o69]) (plainFor_of_name pn_java_lang_String) hw Z0 (fun m => by first | (simp [entryFrame, mkF, argsToLocals, Value.category]; done) | rfl) ?_
  intro p e s m below meth c T Q' G' vm k1 hQ hG C X hS Nk Rc hso
  have Kp : Keep h0 h0 [o68] := Keep.refl _ _
  have H_o68 : Safe Z EL1 vm h0 o68 := hso _ (by simp)
  refine s_aloadN 1 C X d2_0 rfl rfl ?_
  refine s_aloadN 2 C X d2_1 rfl rfl ?_
  refine s_iconst 3 C X d2_2 kc_iconst_0 ?_
  refine s_aloadN 4 C X d2_3 rfl rfl ?_
  refine s_arraylength 5 C X d2_4 A_o69 ?_
  refine s_aconstNull 6 C X d2_5 ?_
  refine s_hcallC 9 [(.ref o69), (.int i0), (.int i2), .null] [] 0 C X hS Nk (own_EL hw) Rc.1 d2_6 rfl (mW 11 rfl) (mW 12 rfl) (mW 6 rfl) (mW 14 rfl) (rm_a82 l Z a0 hw cs y18 y22 o68 o69 k_o69 _ n0 X.sz S_cs Od E_o68 F_o68_value F_o68_coder A_o69 hv_cs hv_y18 hv_y22 g_o68 ne_o68_o69) (lenOf pd___CIILjava_lang_Void__V rfl) rfl rfl rfl (soS ⟨E_o68.lt, H_o68⟩ so0) (fun T v hh vm k1 C X hS Nk Rn q => ?_)
  obtain ⟨o72, k_o72, rfl, Od, E_o68, F_o68_value, F_o68_coder, Kc, A_o72, ne_o68_o72, sz_o72', g_o72⟩ := q
  have sz_o72 : h0.size ≤ o72 := Nat.le_trans Kp.1 sz_o72'
  have Rc := Rc.trans Rn
  have Kp := Kp.trans Kc (allS (Or.inl (by simp)) all0)
  refine Run.cast (st' := []) rfl ?_
  refine s_return C X d2_9 rfl ?_ (FGH hG hS Nk Rc C (own_EL hw) (by decide) (by decide))
  exact hQ _ _ ⟨o72, k_o72, rfl, Kp, Od, E_o68, F_o68_value, F_o68_coder, A_o72, sz_o72, g_o72, ne_o68_o72⟩
theorem rm_a92 (l : Launch) (Z : State) (a0 : Array Value) (hw : ∀ d ∈ tables_1, d.before a0 Z = true) (y18 : Int32) (o85 : Addr) (k_o85 : ClassId) (o88 : Addr) (k_o88 : ClassId) (h0 : Heap) (n0 : Nat) (Z0 : n0 ≤ h0.size) (A_o85 : Arv Z h0 o85 k_o85 .char i1 [(.int y18)] (.int i0)) (A_o88 : Arv Z h0 o88 k_o88 .byte i1 [(.int i0)] (.int i0)) (hv_y18 : own_B y18) (ne_o85_o88 : o85 ≠ o88) (g_o88 : n0 ≤ o88) :
    Met l Z (⟨"java/lang/StringUTF16", "compress", "([CI[BII)I"⟩ : MethodName) jdk_52_method_21_code 7 (some .int) { frames := 0, cells := 0, slots := 0, locals := 0 } [] #[(.ref o85), (.int i0), (.ref o88), (.int i0), (.int i1)] h0 n0 (fun v h => v = some (.int i1) ∧ Arv Z h o88 k_o88 .byte i1 [(.int (bv y18))] (.int i0) ∧ Keep h0 h [o88]) := by
  refine Met.mkQ (tabs := tables_1) (a0 := a0) (ls0 := #[rv o85, iv i0, rv o88, iv i0, iv i1, .unset, .unset]) (plainFor_of_name pn_java_lang_StringUTF16) hw Z0 (fun m => by first | (simp [entryFrame, mkF, argsToLocals, Value.category]; done) | rfl) ?_
  intro p e s m below meth c T Q' G' hQ hG C X
  have Kp : Keep h0 h0 [o88] := Keep.refl _ _
  refine s_iconst 1 C X d9_0 kc_iconst_0 ?_
  refine s_istore 3 C X (l' := #[rv o85, iv i0, rv o88, iv i0, iv i1, iv i0, .unset]) d9_1 rfl ?_
  refine s_iload 5 C X d9_3 rfl ?_
  refine s_iload 7 C X d9_5 rfl ?_
  refine s_icmp_ge 44 10 C X d9_7 (fun c => absurd (by decide : i0 < i1) c) (fun _ => ?_)
  refine s_aloadN 11 C X d9_10 rfl rfl ?_
  refine s_iloadN 12 C X d9_11 rfl ?_
  refine s_caload 13 C X d9_12 A_o85 ⟨by decide, by decide⟩ (v := (.int y18)) rfl ?_
  refine s_istore 15 C X (l' := #[rv o85, iv i0, rv o88, iv i0, iv i1, iv i0, iv y18]) d9_13 rfl ?_
  refine s_iload 17 C X d9_15 rfl ?_
  refine s_sipush 20 C X d9_17 kc_sipush_255 ?_
  refine s_icmp_le 26 23 C X d9_20 (fun c20_90 => ?_) (fun c => absurd c (own_le hv_y18))
  refine s_aloadN 27 C X d9_26 rfl rfl ?_
  refine s_iloadN 28 C X d9_27 rfl ?_
  refine s_iload 30 C X d9_28 rfl ?_
  refine s_i2b 31 C X d9_30 ?_
  refine s_bastore 32 0 C X d9_31 A_o88 g_o88 ⟨by decide, by decide⟩ rfl (Nat.le_of_ble_eq_true rfl) (fun T hh X W A_o88 => ?_)
  have A_o88 : Arv Z _ o88 k_o88 .byte i1 [(.int (nar .byte (y18).toInt8.toInt32))] (.int i0) := A_o88
  have Kp := Kp.wr W (Or.inl (by simp))
  have A_o88 : Arv Z _ o88 k_o88 .byte i1 [(.int (bv y18))] (.int i0) := A_o88
  refine s_iinc 35 C X (l' := #[rv o85, iv i1, rv o88, iv i0, iv i1, iv i0, iv y18]) d9_32 kc_iconst_1 rfl rfl ?_
  refine s_iinc 38 C X (l' := #[rv o85, iv i1, rv o88, iv i1, iv i1, iv i0, iv y18]) d9_35 kc_iconst_1 rfl rfl ?_
  refine s_iinc 41 C X (l' := #[rv o85, iv i1, rv o88, iv i1, iv i1, iv i1, iv y18]) d9_38 kc_iconst_1 rfl rfl ?_
  refine s_goto 3 C X d9_41 ?_
  refine s_iload 5 C X d9_3 rfl ?_
  refine s_iload 7 C X d9_5 rfl ?_
  refine s_icmp_ge 44 10 C X d9_7 (fun _ => ?_) (fun c => absurd c (by decide))
  refine s_iload 46 C X d9_44 rfl ?_
  refine s_ireturn C X d9_46 rfl ?_ (FG hG (by decide) (by decide))
  exact hQ _ _ ⟨rfl, A_o88, Kp⟩
theorem rm_a94 (l : Launch) (Z : State) (a0 : Array Value) (hw : ∀ d ∈ tables_1, d.before a0 Z = true) (y18 : Int32) (o85 : Addr) (k_o85 : ClassId) (h0 : Heap) (n0 : Nat) (Z0 : n0 ≤ h0.size) (A_o85 : Arv Z h0 o85 k_o85 .char i1 [(.int y18)] (.int i0)) (hv_y18 : own_B y18) :
    Met l Z (⟨"java/lang/StringUTF16", "compress", "([CII)[B"⟩ : MethodName) jdk_52_method_16_code 6 (some (.array .byte)) { frames := 1, cells := 1, slots := 1, locals := 18 } [] #[(.ref o85), (.int i0), (.int i1)] h0 n0 (fun v h => ∃ (o88 : Addr) (k_o88 : ClassId), v = some (.ref o88) ∧ Keep h0 h [] ∧ Arv Z h o88 k_o88 .byte i1 [(.int (bv y18))] (.int i0) ∧ h0.size ≤ o88 ∧ n0 ≤ o88) := by
  refine Met.mkQ (tabs := tables_1) (a0 := a0) (ls0 := #[rv o85, iv i0, iv i1, .unset, .unset, .unset]) (plainFor_of_name pn_java_lang_StringUTF16) hw Z0 (fun m => by first | (simp [entryFrame, mkF, argsToLocals, Value.category]; done) | rfl) ?_
  intro p e s m below meth c T Q' G' hQ hG C X
  have Kp : Keep h0 h0 [] := Keep.refl _ _
  refine s_iloadN 1 C X d8_0 rfl ?_
  refine s_newarray 3 1 C X d8_1 (mW 19 rfl) (by decide) (by decide) (fun T hh o88 k_o88 hb_o88 X E A_o88 g_o88 => ?_)
  have ne_o85_o88 : o85 ≠ o88 := Nat.ne_of_lt (Nat.lt_of_lt_of_le A_o85.lt (Nat.le_of_eq hb_o88))
  have sz_o88 : h0.size ≤ o88 := Nat.le_trans Kp.1 (Nat.le_of_eq hb_o88)
  have A_o85 := A_o85.ext E
  have Kp := Kp.ext E
  have A_o88 : Arv Z _ o88 k_o88 .byte i1 [(.int i0)] (.int i0) := A_o88.pad (pad_rep [] _ 1)
  refine s_astoreN 4 C X (l' := #[rv o85, iv i0, iv i1, rv o88, .unset, .unset]) d8_3 rfl rfl ?_
  refine s_aloadN 5 C X d8_4 rfl rfl ?_
  refine s_iloadN 6 C X d8_5 rfl ?_
  refine s_aloadN 7 C X d8_6 rfl rfl ?_
  refine s_iconst 8 C X d8_7 kc_iconst_0 ?_
  refine s_iloadN 9 C X d8_8 rfl ?_
  refine s_callS 12 [(.ref o85), (.int i0), (.ref o88), (.int i0), (.int i1)] [] 0 C X d8_9 (mW 56 rfl) (mW 57 rfl) (mW 54 rfl) (mW 58 rfl) (rm_a92 l Z a0 hw y18 o85 k_o85 o88 k_o88 _ n0 X.sz A_o85 A_o88 hv_y18 ne_o85_o88 g_o88) (lenOf pd___CI_BII_I rfl) rfl rfl rfl (fun T v hh X q => ?_)
  obtain ⟨rfl, A_o88, Kc⟩ := q
  have Kp := Kp.trans Kc (allS (Or.inr sz_o88) all0)
  refine Run.cast (st' := [(.int i1)]) rfl ?_
  refine s_istore 14 C X (l' := #[rv o85, iv i0, iv i1, rv o88, iv i1, .unset]) d8_12 rfl ?_
  refine s_iload 16 C X d8_14 rfl ?_
  refine s_iloadN 17 C X d8_16 rfl ?_
  refine s_icmp_eq 57 20 C X d8_17 (fun _ => ?_) (fun c => absurd (by decide : i1 = i1) c)
  refine s_aloadN 58 C X d8_57 rfl rfl ?_
  refine s_areturn C X d8_58 rfl rfl rfl ?_ (FG hG (by decide) (by decide))
  exact hQ _ _ ⟨o88, k_o88, rfl, Kp, A_o88, sz_o88, g_o88⟩
theorem rm_a95 (l : Launch) (Z : State) (a0 : Array Value) (hw : ∀ d ∈ tables_1, d.before a0 Z = true) (y18 : Int32) (o88 : Addr) (k_o88 : ClassId) (h0 : Heap) (n0 : Nat) (Z0 : n0 ≤ h0.size) (A_o88 : Arv Z h0 o88 k_o88 .byte i1 [(.int (bv y18))] (.int i0)) :
    Met l Z (⟨"java/lang/StringUTF16", "coderFromArrayLen", "([BI)B"⟩ : MethodName) jdk_52_method_15_code 2 (some .byte) { frames := 0, cells := 0, slots := 0, locals := 0 } [] #[(.ref o88), (.int i1)] h0 n0 (fun v h => v = some (.int i0) ∧ Keep h0 h []) := by
  refine Met.mkQ (tabs := tables_1) (a0 := a0) (ls0 := #[rv o88, iv i1]) (plainFor_of_name pn_java_lang_StringUTF16) hw Z0 (fun m => by first | (simp [entryFrame, mkF, argsToLocals, Value.category]; done) | rfl) ?_
  intro p e s m below meth c T Q' G' hQ hG C X
  have Kp : Keep h0 h0 [] := Keep.refl _ _
  refine s_iloadN 1 C X d10_0 rfl ?_
  refine s_aloadN 2 C X d10_1 rfl rfl ?_
  refine s_arraylength 3 C X d10_2 A_o88 ?_
  refine s_isub 4 C X d10_3 ?_
  refine Run.cast (st' := [(.int i0)]) (by rw [kf_3]) ?_
  refine s_bipush 6 C X d10_4 kc_bipush_31 ?_
  refine s_iushr 7 C X d10_6 ?_
  refine Run.cast (st' := [(.int i0)]) (by rw [kf_1]) ?_
  refine s_i2b 8 C X d10_7 ?_
  refine Run.cast (st' := [(.int i0)]) (by rw [kf_2]) ?_
  refine s_nreturn C X d10_8 rfl (by simp) rfl ?_ (FG hG (by decide) (by decide))
  exact hQ _ _ ⟨rfl, Kp⟩
theorem rm_a96 (l : Launch) (Z : State) (a0 : Array Value) (hw : ∀ d ∈ tables_1, d.before a0 Z = true) (cs : Int32) (y18 : Int32) (o84 : Addr) (o85 : Addr) (k_o85 : ClassId) (h0 : Heap) (n0 : Nat) (Z0 : n0 ≤ h0.size) (S_cs : Sta Z Z.heap "java/lang/String" "COMPACT_STRINGS" "Z" (.int cs)) (Od : Old Z n0 h0) (E_o84 : Exa Z h0 o84 "java/lang/String") (F_o84_value : Fld Z h0 o84 "java/lang/String" "value" "[B" .null) (F_o84_coder : Fld Z h0 o84 "java/lang/String" "coder" "B" (.int i0)) (A_o85 : Arv Z h0 o85 k_o85 .char i1 [(.int y18)] (.int i0)) (hv_cs : ¬ cs = i0) (hv_y18 : own_B y18) (g_o84 : n0 ≤ o84) (ne_o84_o85 : o84 ≠ o85) :
    MetH l Z EL1 [o84] (⟨"java/lang/String", "<init>", "([CIILjava/lang/Void;)V"⟩ : MethodName) jdk_42_method_149_code 6 none { frames := 2, cells := 1, slots := 1, locals := 35 } [] #[(.ref o84), (.ref o85), (.int i0), (.int i1), .null] h0 n0 (fun v h => ∃ (o88 : Addr) (k_o88 : ClassId), v = none ∧ Old Z n0 h ∧ Exa Z h o84 "java/lang/String" ∧ Fld Z h o84 "java/lang/String" "value" "[B" (.ref o88) ∧ Fld Z h o84 "java/lang/String" "coder" "B" (.int i0) ∧ Keep h0 h [o84] ∧ Arv Z h o88 k_o88 .byte i1 [(.int (bv y18))] (.int i0) ∧ o84 ≠ o88 ∧ h0.size ≤ o88 ∧ n0 ≤ o88) := by
  refine MetH.mkQ (tabs := tables_1) (a0 := a0) (ls0 := #[rv o84, rv o85, iv i0, iv i1, .val .null, .unset]) (plainFor_of_name pn_java_lang_String) hw Z0 (fun m => by first | (simp [entryFrame, mkF, argsToLocals, Value.category]; done) | rfl) ?_
  intro p e s m below meth c T Q' G' vm k1 hQ hG C X hS Nk Rc hso
  have Kp : Keep h0 h0 [o84] := Keep.refl _ _
  have H_o84 : Safe Z EL1 vm h0 o84 := hso _ (by simp)
  refine s_aloadN 1 C X d3_0 rfl rfl ?_
  refine s_objInit 4 C X d3_1 (mW 15 rfl) (mW 16 rfl) (mW 17 rfl) rfl (W := 0) rfl (by decide) (fun T X => ?_)
  refine s_iloadN 5 C X d3_4 rfl ?_
  refine s_if_ne 27 8 C X d3_5 (fun _ => ?_) (fun c => absurd c (by decide))
  refine s_getstatic 30 C X (host := "") d3_27 (Or.inl (mW 51 rfl)) Via.refl (S_cs.ext Od.2) (fun T X => ?_)
  refine s_if_eq 58 33 C X d3_30 (fun c => absurd c hv_cs) (fun c30_87 => ?_)
  refine s_aloadN 34 C X d3_33 rfl rfl ?_
  refine s_iloadN 35 C X d3_34 rfl ?_
  refine s_iloadN 36 C X d3_35 rfl ?_
  refine s_callS 39 [(.ref o85), (.int i0), (.int i1)] [] 0 C X d3_36 (mW 52 rfl) (mW 53 rfl) (mW 54 rfl) (mW 55 rfl) (rm_a94 l Z a0 hw y18 o85 k_o85 _ n0 X.sz A_o85 hv_y18) (lenOf pd___CII__B rfl) rfl rfl rfl (fun T v hh X q => ?_)
  obtain ⟨o88, k_o88, rfl, Kc, A_o88, sz_o88', g_o88⟩ := q
  have ne_o84_o88 : o84 ≠ o88 := Nat.ne_of_lt (Nat.lt_of_lt_of_le E_o84.lt sz_o88')
  have sz_o88 : h0.size ≤ o88 := Nat.le_trans Kp.1 sz_o88'
  have H_o84 := Safe.keep Kc so0 Rc.1 H_o84
  have Rc := Rc.trans (CHr.keep Kc so0 Rc.1)
  have Nk := Nat.le_trans Nk Kc.1
  have Od := Od.keep Kc all0
  have E_o84 := E_o84.keep Kc
  have F_o84_value := F_o84_value.keep Kc nin0
  have F_o84_coder := F_o84_coder.keep Kc nin0
  have Kp := Kp.trans Kc all0
  refine Run.cast (st' := [(.ref o88)]) rfl ?_
  refine s_astore 41 C X (l' := #[rv o84, rv o85, iv i0, iv i1, .val .null, rv o88]) d3_39 rfl rfl ?_
  refine s_aloadN 42 C X d3_41 rfl rfl ?_
  refine s_aload 44 C X d3_42 rfl rfl ?_
  refine s_iloadN 45 C X d3_44 rfl ?_
  refine s_callS 48 [(.ref o88), (.int i1)] [(.ref o84)] 1 C X d3_45 (mW 59 rfl) (mW 60 rfl) (mW 54 rfl) (mW 61 rfl) (rm_a95 l Z a0 hw y18 o88 k_o88 _ n0 X.sz A_o88) (lenOf pd___BI_B rfl) rfl rfl rfl (fun T v hh X q => ?_)
  obtain ⟨rfl, Kc⟩ := q
  have H_o84 := Safe.keep Kc so0 Rc.1 H_o84
  have Rc := Rc.trans (CHr.keep Kc so0 Rc.1)
  have Nk := Nat.le_trans Nk Kc.1
  have Od := Od.keep Kc all0
  have E_o84 := E_o84.keep Kc
  have F_o84_value := F_o84_value.keep Kc nin0
  have F_o84_coder := F_o84_coder.keep Kc nin0
  have Kp := Kp.trans Kc all0
  have A_o88 := A_o88.keep Kc nin0
  refine Run.cast (st' := [(.int i0), (.ref o84)]) rfl ?_
  refine s_putfieldN 51 C X d3_48 (mW 25 rfl) Via.refl F_o84_coder E_o84 (Or.inr ⟨(mW 21 rfl), rfl, rfl⟩) (mW 5 rfl) (ty := .byte) (by decide) rfl rfl g_o84 (fun T hh X W => ?_)
  have Sf : Safe Z EL1 vm _ o84 := H_o84
  have H_o84 := Safe.wr W Sf Rc.1 H_o84
  have Rc := Rc.trans (CHr.wr W Sf Rc.1)
  have Nk := Nat.le_trans Nk (Nat.le_of_eq W.size.symm)
  have Od := Od.wr W g_o84
  have E_o84 := E_o84.wr W
  have F_o84_value := oth F_o84_value W (Or.inr (hw _ (mW 20 rfl))) (Or.inr (hw _ (mW 21 rfl))) (by decide)
  have F_o84_coder := F_o84_coder.same W
  have Kp := Kp.wr W (Or.inl (by simp))
  have A_o88 := A_o88.other W (Ne.symm ne_o84_o88)
  refine s_aloadN 52 C X d3_51 rfl rfl ?_
  refine s_aload 54 C X d3_52 rfl rfl ?_
  refine s_putfield 57 C X (host := "") d3_54 (Or.inl (mW 24 rfl)) Via.refl F_o84_value E_o84 (Or.inr ⟨(mW 20 rfl), rfl, rfl⟩) (mW 5 rfl) (ty := (.array .byte)) (by decide) rfl rfl g_o84 (fun T hh X W => ?_)
  have Sf : Safe Z EL1 vm _ o84 := H_o84
  have H_o84 := Safe.wr W Sf Rc.1 H_o84
  have Rc := Rc.trans (CHr.wr W Sf Rc.1)
  have Nk := Nat.le_trans Nk (Nat.le_of_eq W.size.symm)
  have Od := Od.wr W g_o84
  have E_o84 := E_o84.wr W
  have F_o84_value := F_o84_value.same W
  have F_o84_coder := oth F_o84_coder W (Or.inr (hw _ (mW 21 rfl))) (Or.inr (hw _ (mW 20 rfl))) (by decide)
  have Kp := Kp.wr W (Or.inl (by simp))
  have A_o88 := A_o88.other W (Ne.symm ne_o84_o88)
  refine s_return C X d3_57 rfl ?_ (FGH hG hS Nk Rc C (own_EL hw) (by decide) (by decide))
  exact hQ _ _ ⟨o88, k_o88, rfl, Od, E_o84, F_o84_value, F_o84_coder, Kp, A_o88, ne_o84_o88, sz_o88, g_o88⟩
theorem rm_a97 (l : Launch) (Z : State) (a0 : Array Value) (hw : ∀ d ∈ tables_1, d.before a0 Z = true) (cs : Int32) (y18 : Int32) (o84 : Addr) (o85 : Addr) (k_o85 : ClassId) (h0 : Heap) (n0 : Nat) (Z0 : n0 ≤ h0.size) (S_cs : Sta Z Z.heap "java/lang/String" "COMPACT_STRINGS" "Z" (.int cs)) (Od : Old Z n0 h0) (E_o84 : Exa Z h0 o84 "java/lang/String") (F_o84_value : Fld Z h0 o84 "java/lang/String" "value" "[B" .null) (F_o84_coder : Fld Z h0 o84 "java/lang/String" "coder" "B" (.int i0)) (A_o85 : Arv Z h0 o85 k_o85 .char i1 [(.int y18)] (.int i0)) (hv_cs : ¬ cs = i0) (hv_y18 : own_B y18) (g_o84 : n0 ≤ o84) (ne_o84_o85 : o84 ≠ o85) :
    MetH l Z EL1 [o84] (⟨"java/lang/String", "<init>", "([C)V"⟩ : MethodName) jdk_42_method_3_code 2 none { frames := 3, cells := 1, slots := 1, locals := 52 } [] #[(.ref o84), (.ref o85)] h0 n0 (fun v h => ∃ (o88 : Addr) (k_o88 : ClassId), v = none ∧ Keep h0 h [o84] ∧ Old Z n0 h ∧ Exa Z h o84 "java/lang/String" ∧ Fld Z h o84 "java/lang/String" "value" "[B" (.ref o88) ∧ Fld Z h o84 "java/lang/String" "coder" "B" (.int i0) ∧ Arv Z h o88 k_o88 .byte i1 [(.int (bv y18))] (.int i0) ∧ h0.size ≤ o88 ∧ n0 ≤ o88 ∧ o84 ≠ o88) := by
  refine MetH.mkQ (tabs := tables_1) (a0 := a0) (ls0 := #[rv o84, rv o85]) (plainFor_of_name pn_java_lang_String) hw Z0 (fun m => by first | (simp [entryFrame, mkF, argsToLocals, Value.category]; done) | rfl) ?_
  intro p e s m below meth c T Q' G' vm k1 hQ hG C X hS Nk Rc hso
  have Kp : Keep h0 h0 [o84] := Keep.refl _ _
  have H_o84 : Safe Z EL1 vm h0 o84 := hso _ (by simp)
  refine s_aloadN 1 C X d2_0 rfl rfl ?_
  refine s_aloadN 2 C X d2_1 rfl rfl ?_
  refine s_iconst 3 C X d2_2 kc_iconst_0 ?_
  refine s_aloadN 4 C X d2_3 rfl rfl ?_
  refine s_arraylength 5 C X d2_4 A_o85 ?_
  refine s_aconstNull 6 C X d2_5 ?_
  refine s_hcallC 9 [(.ref o85), (.int i0), (.int i1), .null] [] 0 C X hS Nk (own_EL hw) Rc.1 d2_6 rfl (mW 11 rfl) (mW 12 rfl) (mW 6 rfl) (mW 14 rfl) (rm_a96 l Z a0 hw cs y18 o84 o85 k_o85 _ n0 X.sz S_cs Od E_o84 F_o84_value F_o84_coder A_o85 hv_cs hv_y18 g_o84 ne_o84_o85) (lenOf pd___CIILjava_lang_Void__V rfl) rfl rfl rfl (soS ⟨E_o84.lt, H_o84⟩ so0) (fun T v hh vm k1 C X hS Nk Rn q => ?_)
  obtain ⟨o88, k_o88, rfl, Od, E_o84, F_o84_value, F_o84_coder, Kc, A_o88, ne_o84_o88, sz_o88', g_o88⟩ := q
  have sz_o88 : h0.size ≤ o88 := Nat.le_trans Kp.1 sz_o88'
  have Rc := Rc.trans Rn
  have Kp := Kp.trans Kc (allS (Or.inl (by simp)) all0)
  refine Run.cast (st' := []) rfl ?_
  refine s_return C X d2_9 rfl ?_ (FGH hG hS Nk Rc C (own_EL hw) (by decide) (by decide))
  exact hQ _ _ ⟨o88, k_o88, rfl, Kp, Od, E_o84, F_o84_value, F_o84_coder, A_o88, sz_o88, g_o88, ne_o84_o88⟩
theorem rm_a105 (l : Launch) (Z : State) (a0 : Array Value) (hw : ∀ d ∈ tables_1, d.before a0 Z = true) (o98 : Addr) (o99 : Addr) (h0 : Heap) (n0 : Nat) (Z0 : n0 ≤ h0.size) (E_o98 : Exa Z h0 o98 "java/lang/String") (F_o98_value : Fld Z h0 o98 "java/lang/String" "value" "[B" .null) (F_o98_coder : Fld Z h0 o98 "java/lang/String" "coder" "B" (.int i0)) (g_o98 : n0 ≤ o98) :
    MetH l Z EL1 [o98] (⟨"java/lang/String", "<init>", "([CIILjava/lang/Void;)V"⟩ : MethodName) jdk_42_method_149_code 6 none { frames := 1, cells := 4, slots := 8, locals := 12 } [] #[(.ref o98), (.ref o99), (.int i0), (.int i0), .null] h0 n0 (fun v h => ∃ (b102 : Addr) (k_b102 : ClassId), v = none ∧ Exa Z h o98 "java/lang/String" ∧ Fld Z h o98 "java/lang/String" "value" "[B" (.ref b102) ∧ Fld Z h o98 "java/lang/String" "coder" "B" (.int i0) ∧ Keep h0 h [o98] ∧ Arv Z h b102 k_b102 .byte i0 [] (.int i0) ∧ o98 ≠ b102) := by
  refine MetH.mkQ (tabs := tables_1) (a0 := a0) (ls0 := #[rv o98, rv o99, iv i0, iv i0, .val .null, .unset]) (plainFor_of_name pn_java_lang_String) hw Z0 (fun m => by first | (simp [entryFrame, mkF, argsToLocals, Value.category]; done) | rfl) ?_
  intro p e s m below meth c T Q' G' vm k1 hQ hG C X hS Nk Rc hso
  have Kp : Keep h0 h0 [o98] := Keep.refl _ _
  have H_o98 : Safe Z EL1 vm h0 o98 := hso _ (by simp)
  refine s_aloadN 1 C X d3_0 rfl rfl ?_
  refine s_objInit 4 C X d3_1 (mW 15 rfl) (mW 16 rfl) (mW 17 rfl) rfl (W := 0) rfl (by decide) (fun T X => ?_)
  refine s_iloadN 5 C X d3_4 rfl ?_
  refine s_if_ne 27 8 C X d3_5 (fun c => absurd (by decide : i0 = i0) c) (fun _ => ?_)
  refine s_aloadN 9 C X d3_8 rfl rfl ?_
  refine s_ldcH 11 0 C X hS Nk (own_EL hw) Rc.1 d3_9 (mW 18 rfl) (own_wS hw) (vs := []) (z := i0) (by decide) ⟨by decide, rfl⟩ (by decide) rfl (fun T hh t101 b102 k_b102 vm k1 C X E hS Nk Rn E_t101 F_t101_coder F_t101_value A_b102 nS => ?_)
  have H_o98 := Rn.safe E_o98.lt H_o98
  have Rc := Rc.trans Rn
  have E_o98 := E_o98.ext E
  have F_o98_value := F_o98_value.ext E
  have F_o98_coder := F_o98_coder.ext E
  have Kp := Kp.ext E
  have ne_o98_b102 : o98 ≠ b102 := (nS o98 H_o98).2
  refine s_getfield 14 C X (host := "") d3_11 (Or.inl (mW 24 rfl)) Via.refl F_t101_value (fun T X => ?_)
  refine s_putfield 17 C X (host := "") d3_14 (Or.inl (mW 24 rfl)) Via.refl F_o98_value E_o98 (Or.inr ⟨(mW 20 rfl), rfl, rfl⟩) (mW 5 rfl) (ty := (.array .byte)) (by decide) rfl rfl g_o98 (fun T hh X W => ?_)
  have Sf : Safe Z EL1 vm _ o98 := H_o98
  have H_o98 := Safe.wr W Sf Rc.1 H_o98
  have Rc := Rc.trans (CHr.wr W Sf Rc.1)
  have Nk := Nat.le_trans Nk (Nat.le_of_eq W.size.symm)
  have E_o98 := E_o98.wr W
  have F_o98_value := F_o98_value.same W
  have F_o98_coder := oth F_o98_coder W (Or.inr (hw _ (mW 21 rfl))) (Or.inr (hw _ (mW 20 rfl))) (by decide)
  have Kp := Kp.wr W (Or.inl (by simp))
  have A_b102 := A_b102.other W (Ne.symm ne_o98_b102)
  refine s_aloadN 18 C X d3_17 rfl rfl ?_
  refine s_ldcH 20 0 C X hS Nk (own_EL hw) Rc.1 d3_18 (mW 18 rfl) (own_wS hw) (vs := []) (z := i0) (by decide) ⟨by decide, rfl⟩ (by decide) rfl (fun T hh t103 b104 k_b104 vm k1 C X E hS Nk Rn E_t103 F_t103_coder F_t103_value A_b104 nS => ?_)
  have H_o98 := Rn.safe E_o98.lt H_o98
  have Rc := Rc.trans Rn
  have E_o98 := E_o98.ext E
  have F_o98_value := F_o98_value.ext E
  have F_o98_coder := F_o98_coder.ext E
  have Kp := Kp.ext E
  have A_b102 := A_b102.ext E
  refine s_getfield 23 C X (host := "") d3_20 (Or.inl (mW 25 rfl)) Via.refl F_t103_coder (fun T X => ?_)
  refine s_putfieldN 26 C X d3_23 (mW 25 rfl) Via.refl F_o98_coder E_o98 (Or.inr ⟨(mW 21 rfl), rfl, rfl⟩) (mW 5 rfl) (ty := .byte) (by decide) rfl rfl g_o98 (fun T hh X W => ?_)
  have Sf : Safe Z EL1 vm _ o98 := H_o98
  have H_o98 := Safe.wr W Sf Rc.1 H_o98
  have Rc := Rc.trans (CHr.wr W Sf Rc.1)
  have Nk := Nat.le_trans Nk (Nat.le_of_eq W.size.symm)
  have E_o98 := E_o98.wr W
  have F_o98_value := oth F_o98_value W (Or.inr (hw _ (mW 20 rfl))) (Or.inr (hw _ (mW 21 rfl))) (by decide)
  have F_o98_coder := F_o98_coder.same W
  have Kp := Kp.wr W (Or.inl (by simp))
  have A_b102 := A_b102.other W (Ne.symm ne_o98_b102)
  refine s_return C X d3_26 rfl ?_ (FGH hG hS Nk Rc C (own_EL hw) (by decide) (by decide))
  exact hQ _ _ ⟨b102, k_b102, rfl, E_o98, F_o98_value, F_o98_coder, Kp, A_b102, ne_o98_b102⟩
theorem rm_a106 (l : Launch) (Z : State) (a0 : Array Value) (hw : ∀ d ∈ tables_1, d.before a0 Z = true) (o98 : Addr) (o99 : Addr) (k_o99 : ClassId) (h0 : Heap) (n0 : Nat) (Z0 : n0 ≤ h0.size) (E_o98 : Exa Z h0 o98 "java/lang/String") (F_o98_value : Fld Z h0 o98 "java/lang/String" "value" "[B" .null) (F_o98_coder : Fld Z h0 o98 "java/lang/String" "coder" "B" (.int i0)) (A_o99 : Arv Z h0 o99 k_o99 .char i0 [] (.int i0)) (g_o98 : n0 ≤ o98) (ne_o98_o99 : o98 ≠ o99) :
    MetH l Z EL1 [o98] (⟨"java/lang/String", "<init>", "([C)V"⟩ : MethodName) jdk_42_method_3_code 2 none { frames := 2, cells := 4, slots := 8, locals := 29 } [] #[(.ref o98), (.ref o99)] h0 n0 (fun v h => ∃ (b102 : Addr) (k_b102 : ClassId), v = none ∧ Keep h0 h [o98] ∧ Exa Z h o98 "java/lang/String" ∧ Fld Z h o98 "java/lang/String" "value" "[B" (.ref b102) ∧ Fld Z h o98 "java/lang/String" "coder" "B" (.int i0) ∧ Arv Z h b102 k_b102 .byte i0 [] (.int i0) ∧ o98 ≠ b102) := by
  refine MetH.mkQ (tabs := tables_1) (a0 := a0) (ls0 := #[rv o98, rv o99]) (plainFor_of_name pn_java_lang_String) hw Z0 (fun m => by first | (simp [entryFrame, mkF, argsToLocals, Value.category]; done) | rfl) ?_
  intro p e s m below meth c T Q' G' vm k1 hQ hG C X hS Nk Rc hso
  have Kp : Keep h0 h0 [o98] := Keep.refl _ _
  have H_o98 : Safe Z EL1 vm h0 o98 := hso _ (by simp)
  refine s_aloadN 1 C X d2_0 rfl rfl ?_
  refine s_aloadN 2 C X d2_1 rfl rfl ?_
  refine s_iconst 3 C X d2_2 kc_iconst_0 ?_
  refine s_aloadN 4 C X d2_3 rfl rfl ?_
  refine s_arraylength 5 C X d2_4 A_o99 ?_
  refine s_aconstNull 6 C X d2_5 ?_
  refine s_hcallC 9 [(.ref o99), (.int i0), (.int i0), .null] [] 0 C X hS Nk (own_EL hw) Rc.1 d2_6 rfl (mW 11 rfl) (mW 12 rfl) (mW 6 rfl) (mW 14 rfl) (rm_a105 l Z a0 hw o98 o99 _ n0 X.sz E_o98 F_o98_value F_o98_coder g_o98) (lenOf pd___CIILjava_lang_Void__V rfl) rfl rfl rfl (soS ⟨E_o98.lt, H_o98⟩ so0) (fun T v hh vm k1 C X hS Nk Rn q => ?_)
  obtain ⟨b102, k_b102, rfl, E_o98, F_o98_value, F_o98_coder, Kc, A_b102, ne_o98_b102⟩ := q
  have Rc := Rc.trans Rn
  have Kp := Kp.trans Kc (allS (Or.inl (by simp)) all0)
  refine Run.cast (st' := []) rfl ?_
  refine s_return C X d2_9 rfl ?_ (FGH hG hS Nk Rc C (own_EL hw) (by decide) (by decide))
  exact hQ _ _ ⟨b102, k_b102, rfl, Kp, E_o98, F_o98_value, F_o98_coder, A_b102, ne_o98_b102⟩
theorem rm_a107 (l : Launch) (Z : State) (a0 : Array Value) (hw : ∀ d ∈ tables_1, d.before a0 Z = true) (cs : Int32) (y14 : Int32) (y18 : Int32) (y22 : Int32) (h0 : Heap) (n0 : Nat) (Z0 : n0 ≤ h0.size) (S_cs : Sta Z Z.heap "java/lang/String" "COMPACT_STRINGS" "Z" (.int cs)) (Od : Old Z n0 h0) (hv_cs : ¬ cs = i0) (hv_y18 : own_B y18) (hv_y22 : own_B y22) :
    MetH l Z EL1 [] (⟨"com/example/libring/libring/core/RingPointEqualsPinLaw", "mk", "(III)Ljava/lang/String;"⟩ : MethodName) method_2_code 3 (some (.object "java/lang/String")) { frames := 4, cells := 6, slots := 12, locals := 66 } [] #[(.int y14), (.int y18), (.int y22)] h0 n0 (fun v h => (∃ (o68 : Addr) (o72 : Addr) (k_o72 : ClassId), v = some (.ref o68) ∧ ¬ y14 = i0 ∧ ¬ y14 = i1 ∧ Keep h0 h [] ∧ Old Z n0 h ∧ Exa Z h o68 "java/lang/String" ∧ Fld Z h o68 "java/lang/String" "value" "[B" (.ref o72) ∧ Fld Z h o68 "java/lang/String" "coder" "B" (.int i0) ∧ Arv Z h o72 k_o72 .byte i2 [(.int (bv y18)), (.int (bv y22))] (.int i0) ∧ h0.size ≤ o68 ∧ n0 ≤ o68 ∧ h0.size ≤ o72 ∧ n0 ≤ o72 ∧ o68 ≠ o72) ∨ (∃ (o84 : Addr) (o88 : Addr) (k_o88 : ClassId), v = some (.ref o84) ∧ ¬ y14 = i0 ∧ y14 = i1 ∧ Keep h0 h [] ∧ Old Z n0 h ∧ Exa Z h o84 "java/lang/String" ∧ Fld Z h o84 "java/lang/String" "value" "[B" (.ref o88) ∧ Fld Z h o84 "java/lang/String" "coder" "B" (.int i0) ∧ Arv Z h o88 k_o88 .byte i1 [(.int (bv y18))] (.int i0) ∧ h0.size ≤ o84 ∧ n0 ≤ o84 ∧ h0.size ≤ o88 ∧ n0 ≤ o88 ∧ o84 ≠ o88) ∨ (∃ (o98 : Addr) (b102 : Addr) (k_b102 : ClassId), v = some (.ref o98) ∧ y14 = i0 ∧ Old Z n0 h ∧ Keep h0 h [] ∧ Exa Z h o98 "java/lang/String" ∧ Fld Z h o98 "java/lang/String" "value" "[B" (.ref b102) ∧ Fld Z h o98 "java/lang/String" "coder" "B" (.int i0) ∧ Arv Z h b102 k_b102 .byte i0 [] (.int i0) ∧ h0.size ≤ o98 ∧ n0 ≤ o98 ∧ o98 ≠ b102)) := by
  refine MetH.mkQ (tabs := tables_1) (a0 := a0) (ls0 := #[iv y14, iv y18, iv y22]) (plainFor_of_name pn_com_example_libring_libring_core_RingPointEqualsPinLaw) hw Z0 (fun m => by first | (simp [entryFrame, mkF, argsToLocals, Value.category]; done) | rfl) ?_
  intro p e s m below meth c T Q' G' vm k1 hQ hG C X hS Nk Rc hso
  have Kp : Keep h0 h0 [] := Keep.refl _ _
  refine s_iloadN 1 C X d1_0 rfl ?_
  refine s_if_ne 15 4 C X d1_1 (fun c1_66 => ?_) (fun c1_66 => ?_)
  · have t_c1_66 : ¬ ((y14).toInt = (0 : Int)) := fun q => c1_66 (Int32.toInt_inj.mp q)
    refine s_iloadN 16 C X d1_15 rfl ?_
    refine s_iconst 17 C X d1_16 kc_iconst_1 ?_
    refine s_icmp_ne 36 20 C X d1_17 (fun c17_67 => ?_) (fun c17_67 => ?_)
    · have t_c17_67 : ¬ ((y14).toInt = (1 : Int)) := fun q => c17_67 (Int32.toInt_inj.mp q)
      refine s_new 39 C X d1_36 (mW 4 rfl) (mW 5 rfl) (mW 6 rfl) (fun T hh o68 hb_o68 X E E_o68 D g_o68 => ?_)
      have H_o68 : Safe Z EL1 vm _ o68 := Safe.ext E Rc.1 (Safe.new (Nat.le_of_eq hb_o68))
      have Rc := Rc.trans (CHr.ext E Rc.1)
      have Nk := Nat.le_trans Nk E.1
      have sz_o68 : h0.size ≤ o68 := Nat.le_trans Kp.1 (Nat.le_of_eq hb_o68)
      have Od := Od.ext E
      have Kp := Kp.ext E
      have F_o68_value : Fld Z _ o68 "java/lang/String" "value" "[B" .null := D (Or.inr (hw _ (mW 20 rfl))) (ty := (.array .byte)) (by decide)
      have F_o68_coder : Fld Z _ o68 "java/lang/String" "coder" "B" (.int i0) := D (Or.inr (hw _ (mW 21 rfl))) (ty := .byte) (by decide)
      refine s_dup 40 C X d1_39 rfl ?_
      refine s_iconst 41 C X d1_40 kc_iconst_2 ?_
      refine s_newarray 43 2 C X d1_41 (mW 7 rfl) (by decide) (by decide) (fun T hh o69 k_o69 hb_o69 X E A_o69 g_o69 => ?_)
      have H_o68 := Safe.ext E Rc.1 H_o68
      have H_o69 : Safe Z EL1 vm _ o69 := Safe.ext E Rc.1 (Safe.new (Nat.le_of_eq hb_o69))
      have Rc := Rc.trans (CHr.ext E Rc.1)
      have Nk := Nat.le_trans Nk E.1
      have sz_o69 : h0.size ≤ o69 := Nat.le_trans Kp.1 (Nat.le_of_eq hb_o69)
      have ne_o68_o69 : o68 ≠ o69 := Nat.ne_of_lt (Nat.lt_of_lt_of_le E_o68.lt (Nat.le_of_eq hb_o69))
      have Od := Od.ext E
      have Kp := Kp.ext E
      have E_o68 := E_o68.ext E
      have F_o68_value := F_o68_value.ext E
      have F_o68_coder := F_o68_coder.ext E
      have A_o69 : Arv Z _ o69 k_o69 .char i2 [(.int i0), (.int i0)] (.int i0) := A_o69.pad (pad_rep [] _ 2)
      refine s_dup 44 C X d1_43 rfl ?_
      refine s_iconst 45 C X d1_44 kc_iconst_0 ?_
      refine s_iloadN 46 C X d1_45 rfl ?_
      refine s_i2c 47 C X d1_46 ?_
      refine Run.cast (st' := [(.int y18), (.int i0), (.ref o69), (.ref o69), (.ref o68), (.ref o68)]) (by rw [own_i2c hv_y18]) ?_
      have Sf : Safe Z EL1 vm _ o69 := H_o69
      refine s_castore 48 0 C X d1_47 A_o69 g_o69 ⟨by decide, by decide⟩ rfl (Nat.le_of_ble_eq_true rfl) (fun T hh X W A_o69 => ?_)
      have A_o69 : Arv Z _ o69 k_o69 .char i2 [(.int (nar .char y18)), (.int i0)] (.int i0) := A_o69
      have H_o68 := Safe.wr W Sf Rc.1 H_o68
      have H_o69 := Safe.wr W Sf Rc.1 H_o69
      have Rc := Rc.trans (CHr.wr W Sf Rc.1)
      have Nk := Nat.le_trans Nk (Nat.le_of_eq W.size.symm)
      have Od := Od.wr W g_o69
      have Kp := Kp.wr W (Or.inr sz_o69)
      have E_o68 := E_o68.wr W
      have F_o68_value := F_o68_value.other W (Or.inl ne_o68_o69)
      have F_o68_coder := F_o68_coder.other W (Or.inl ne_o68_o69)
      rw [own_nc hv_y18] at A_o69
      refine s_dup 49 C X d1_48 rfl ?_
      refine s_iconst 50 C X d1_49 kc_iconst_1 ?_
      refine s_iloadN 51 C X d1_50 rfl ?_
      refine s_i2c 52 C X d1_51 ?_
      refine Run.cast (st' := [(.int y22), (.int i1), (.ref o69), (.ref o69), (.ref o68), (.ref o68)]) (by rw [own_i2c hv_y22]) ?_
      have Sf : Safe Z EL1 vm _ o69 := H_o69
      refine s_castore 53 1 C X d1_52 A_o69 g_o69 ⟨by decide, by decide⟩ rfl (Nat.le_of_ble_eq_true rfl) (fun T hh X W A_o69 => ?_)
      have A_o69 : Arv Z _ o69 k_o69 .char i2 [(.int y18), (.int (nar .char y22))] (.int i0) := A_o69
      have H_o68 := Safe.wr W Sf Rc.1 H_o68
      have H_o69 := Safe.wr W Sf Rc.1 H_o69
      have Rc := Rc.trans (CHr.wr W Sf Rc.1)
      have Nk := Nat.le_trans Nk (Nat.le_of_eq W.size.symm)
      have Od := Od.wr W g_o69
      have Kp := Kp.wr W (Or.inr sz_o69)
      have E_o68 := E_o68.wr W
      have F_o68_value := F_o68_value.other W (Or.inl ne_o68_o69)
      have F_o68_coder := F_o68_coder.other W (Or.inl ne_o68_o69)
      rw [own_nc hv_y22] at A_o69
      refine s_hcallC 56 [(.ref o69)] [(.ref o68)] 1 C X hS Nk (own_EL hw) Rc.1 d1_53 rfl (mW 8 rfl) (mW 9 rfl) (mW 6 rfl) (mW 10 rfl) (rm_a83 l Z a0 hw cs y18 y22 o68 o69 k_o69 _ n0 X.sz S_cs Od E_o68 F_o68_value F_o68_coder A_o69 hv_cs hv_y18 hv_y22 g_o68 ne_o68_o69) (lenOf pd___C_V rfl) rfl rfl rfl (soS ⟨E_o68.lt, H_o68⟩ so0) (fun T v hh vm k1 C X hS Nk Rn q => ?_)
      obtain ⟨o72, k_o72, rfl, Kc, Od, E_o68, F_o68_value, F_o68_coder, A_o72, sz_o72', g_o72, ne_o68_o72⟩ := q
      have sz_o72 : h0.size ≤ o72 := Nat.le_trans Kp.1 sz_o72'
      have H_o69 := Rn.safe A_o69.lt H_o69
      have Rc := Rc.trans Rn
      have Kp := Kp.trans Kc (allS (Or.inr sz_o68) all0)
      refine Run.cast (st' := [(.ref o68)]) rfl ?_
      refine s_areturn C X d1_56 rfl rfl rfl ?_ (FGH hG hS Nk Rc C (own_EL hw) (by decide) (by decide))
      exact hQ _ _ (Or.inl ⟨o68, o72, k_o72, rfl, c1_66, c17_67, Kp, Od, E_o68, F_o68_value, F_o68_coder, A_o72, sz_o68, g_o68, sz_o72, g_o72, ne_o68_o72⟩)
    refine s_new 23 C X d1_20 (mW 4 rfl) (mW 5 rfl) (mW 6 rfl) (fun T hh o84 hb_o84 X E E_o84 D g_o84 => ?_)
    have H_o84 : Safe Z EL1 vm _ o84 := Safe.ext E Rc.1 (Safe.new (Nat.le_of_eq hb_o84))
    have Rc := Rc.trans (CHr.ext E Rc.1)
    have Nk := Nat.le_trans Nk E.1
    have sz_o84 : h0.size ≤ o84 := Nat.le_trans Kp.1 (Nat.le_of_eq hb_o84)
    have Od := Od.ext E
    have Kp := Kp.ext E
    have F_o84_value : Fld Z _ o84 "java/lang/String" "value" "[B" .null := D (Or.inr (hw _ (mW 20 rfl))) (ty := (.array .byte)) (by decide)
    have F_o84_coder : Fld Z _ o84 "java/lang/String" "coder" "B" (.int i0) := D (Or.inr (hw _ (mW 21 rfl))) (ty := .byte) (by decide)
    refine s_dup 24 C X d1_23 rfl ?_
    refine s_iconst 25 C X d1_24 kc_iconst_1 ?_
    refine s_newarray 27 1 C X d1_25 (mW 7 rfl) (by decide) (by decide) (fun T hh o85 k_o85 hb_o85 X E A_o85 g_o85 => ?_)
    have H_o84 := Safe.ext E Rc.1 H_o84
    have H_o85 : Safe Z EL1 vm _ o85 := Safe.ext E Rc.1 (Safe.new (Nat.le_of_eq hb_o85))
    have Rc := Rc.trans (CHr.ext E Rc.1)
    have Nk := Nat.le_trans Nk E.1
    have sz_o85 : h0.size ≤ o85 := Nat.le_trans Kp.1 (Nat.le_of_eq hb_o85)
    have ne_o84_o85 : o84 ≠ o85 := Nat.ne_of_lt (Nat.lt_of_lt_of_le E_o84.lt (Nat.le_of_eq hb_o85))
    have Od := Od.ext E
    have Kp := Kp.ext E
    have E_o84 := E_o84.ext E
    have F_o84_value := F_o84_value.ext E
    have F_o84_coder := F_o84_coder.ext E
    have A_o85 : Arv Z _ o85 k_o85 .char i1 [(.int i0)] (.int i0) := A_o85.pad (pad_rep [] _ 1)
    refine s_dup 28 C X d1_27 rfl ?_
    refine s_iconst 29 C X d1_28 kc_iconst_0 ?_
    refine s_iloadN 30 C X d1_29 rfl ?_
    refine s_i2c 31 C X d1_30 ?_
    refine Run.cast (st' := [(.int y18), (.int i0), (.ref o85), (.ref o85), (.ref o84), (.ref o84)]) (by rw [own_i2c hv_y18]) ?_
    have Sf : Safe Z EL1 vm _ o85 := H_o85
    refine s_castore 32 0 C X d1_31 A_o85 g_o85 ⟨by decide, by decide⟩ rfl (Nat.le_of_ble_eq_true rfl) (fun T hh X W A_o85 => ?_)
    have A_o85 : Arv Z _ o85 k_o85 .char i1 [(.int (nar .char y18))] (.int i0) := A_o85
    have H_o84 := Safe.wr W Sf Rc.1 H_o84
    have H_o85 := Safe.wr W Sf Rc.1 H_o85
    have Rc := Rc.trans (CHr.wr W Sf Rc.1)
    have Nk := Nat.le_trans Nk (Nat.le_of_eq W.size.symm)
    have Od := Od.wr W g_o85
    have Kp := Kp.wr W (Or.inr sz_o85)
    have E_o84 := E_o84.wr W
    have F_o84_value := F_o84_value.other W (Or.inl ne_o84_o85)
    have F_o84_coder := F_o84_coder.other W (Or.inl ne_o84_o85)
    rw [own_nc hv_y18] at A_o85
    refine s_hcallC 35 [(.ref o85)] [(.ref o84)] 1 C X hS Nk (own_EL hw) Rc.1 d1_32 rfl (mW 8 rfl) (mW 9 rfl) (mW 6 rfl) (mW 10 rfl) (rm_a97 l Z a0 hw cs y18 o84 o85 k_o85 _ n0 X.sz S_cs Od E_o84 F_o84_value F_o84_coder A_o85 hv_cs hv_y18 g_o84 ne_o84_o85) (lenOf pd___C_V rfl) rfl rfl rfl (soS ⟨E_o84.lt, H_o84⟩ so0) (fun T v hh vm k1 C X hS Nk Rn q => ?_)
    obtain ⟨o88, k_o88, rfl, Kc, Od, E_o84, F_o84_value, F_o84_coder, A_o88, sz_o88', g_o88, ne_o84_o88⟩ := q
    have sz_o88 : h0.size ≤ o88 := Nat.le_trans Kp.1 sz_o88'
    have H_o85 := Rn.safe A_o85.lt H_o85
    have Rc := Rc.trans Rn
    have Kp := Kp.trans Kc (allS (Or.inr sz_o84) all0)
    refine Run.cast (st' := [(.ref o84)]) rfl ?_
    refine s_areturn C X d1_35 rfl rfl rfl ?_ (FGH hG hS Nk Rc C (own_EL hw) (by decide) (by decide))
    exact hQ _ _ (Or.inr (Or.inl ⟨o84, o88, k_o88, rfl, c1_66, c17_67, Kp, Od, E_o84, F_o84_value, F_o84_coder, A_o88, sz_o84, g_o84, sz_o88, g_o88, ne_o84_o88⟩))
  refine s_new 7 C X d1_4 (mW 4 rfl) (mW 5 rfl) (mW 6 rfl) (fun T hh o98 hb_o98 X E E_o98 D g_o98 => ?_)
  have H_o98 : Safe Z EL1 vm _ o98 := Safe.ext E Rc.1 (Safe.new (Nat.le_of_eq hb_o98))
  have Rc := Rc.trans (CHr.ext E Rc.1)
  have Nk := Nat.le_trans Nk E.1
  have sz_o98 : h0.size ≤ o98 := Nat.le_trans Kp.1 (Nat.le_of_eq hb_o98)
  have Od := Od.ext E
  have Kp := Kp.ext E
  have F_o98_value : Fld Z _ o98 "java/lang/String" "value" "[B" .null := D (Or.inr (hw _ (mW 20 rfl))) (ty := (.array .byte)) (by decide)
  have F_o98_coder : Fld Z _ o98 "java/lang/String" "coder" "B" (.int i0) := D (Or.inr (hw _ (mW 21 rfl))) (ty := .byte) (by decide)
  refine s_dup 8 C X d1_7 rfl ?_
  refine s_iconst 9 C X d1_8 kc_iconst_0 ?_
  refine s_newarray 11 0 C X d1_9 (mW 7 rfl) (by decide) (by decide) (fun T hh o99 k_o99 hb_o99 X E A_o99 g_o99 => ?_)
  have H_o98 := Safe.ext E Rc.1 H_o98
  have H_o99 : Safe Z EL1 vm _ o99 := Safe.ext E Rc.1 (Safe.new (Nat.le_of_eq hb_o99))
  have Rc := Rc.trans (CHr.ext E Rc.1)
  have Nk := Nat.le_trans Nk E.1
  have ne_o98_o99 : o98 ≠ o99 := Nat.ne_of_lt (Nat.lt_of_lt_of_le E_o98.lt (Nat.le_of_eq hb_o99))
  have Od := Od.ext E
  have Kp := Kp.ext E
  have E_o98 := E_o98.ext E
  have F_o98_value := F_o98_value.ext E
  have F_o98_coder := F_o98_coder.ext E
  have A_o99 : Arv Z _ o99 k_o99 .char i0 [] (.int i0) := A_o99.pad (pad_rep [] _ 0)
  refine s_hcallC 14 [(.ref o99)] [(.ref o98)] 1 C X hS Nk (own_EL hw) Rc.1 d1_11 rfl (mW 8 rfl) (mW 9 rfl) (mW 6 rfl) (mW 10 rfl) (rm_a106 l Z a0 hw o98 o99 k_o99 _ n0 X.sz E_o98 F_o98_value F_o98_coder A_o99 g_o98 ne_o98_o99) (lenOf pd___C_V rfl) rfl rfl rfl (soS ⟨E_o98.lt, H_o98⟩ so0) (fun T v hh vm k1 C X hS Nk Rn q => ?_)
  obtain ⟨b102, k_b102, rfl, Kc, E_o98, F_o98_value, F_o98_coder, A_b102, ne_o98_b102⟩ := q
  have H_o99 := Rn.safe A_o99.lt H_o99
  have Rc := Rc.trans Rn
  have Od := Od.keep Kc (allS g_o98 all0)
  have Kp := Kp.trans Kc (allS (Or.inr sz_o98) all0)
  refine Run.cast (st' := [(.ref o98)]) rfl ?_
  refine s_areturn C X d1_14 rfl rfl rfl ?_ (FGH hG hS Nk Rc C (own_EL hw) (by decide) (by decide))
  exact hQ _ _ (Or.inr (Or.inr ⟨o98, b102, k_b102, rfl, c1_66, Od, Kp, E_o98, F_o98_value, F_o98_coder, A_b102, sz_o98, g_o98, ne_o98_b102⟩))
theorem rm_a109 (l : Launch) (Z : State) (a0 : Array Value) (hw : ∀ d ∈ tables_1, d.before a0 Z = true) (a : Int64) (o26 : Addr) (o108 : Addr) (h0 : Heap) (n0 : Nat) (Z0 : n0 ≤ h0.size) (E_o108 : Exa Z h0 o108 "com/example/libring/libring/core/RingPoint") (F_o108_position : Fld Z h0 o108 "com/example/libring/libring/core/RingPoint" "position" "J" (.long j0)) (F_o108_node : Fld Z h0 o108 "com/example/libring/libring/core/RingPoint" "node" "Ljava/lang/String;" .null) (g_o108 : n0 ≤ o108) :
    Met l Z (⟨"com/example/libring/libring/core/RingPoint", "<init>", "(JLjava/lang/String;)V"⟩ : MethodName) prog_9_method_1_code 4 none { frames := 1, cells := 0, slots := 0, locals := 12 } [] #[(.ref o108), (.long a), (.ref o26)] h0 n0 (fun v h => v = none ∧ Exa Z h o108 "com/example/libring/libring/core/RingPoint" ∧ Fld Z h o108 "com/example/libring/libring/core/RingPoint" "position" "J" (.long a) ∧ Fld Z h o108 "com/example/libring/libring/core/RingPoint" "node" "Ljava/lang/String;" (.ref o26) ∧ Keep h0 h [o108]) := by
  refine Met.mkQ (tabs := tables_1) (a0 := a0) (ls0 := #[rv o108, lv a, .second, rv o26]) (plainFor_of_name pn_com_example_libring_libring_core_RingPoint) hw Z0 (fun m => by first | (simp [entryFrame, mkF, argsToLocals, Value.category]; done) | rfl) ?_
  intro p e s m below meth c T Q' G' hQ hG C X
  have Kp : Keep h0 h0 [o108] := Keep.refl _ _
  refine s_aloadN 1 C X d5_0 rfl rfl ?_
  refine s_objInit 4 C X d5_1 (mW 32 rfl) (mW 16 rfl) (mW 17 rfl) rfl (W := 0) rfl (by decide) (fun T X => ?_)
  refine s_aloadN 5 C X d5_4 rfl rfl ?_
  refine s_lloadN 6 C X d5_5 rfl ?_
  refine s_putfield 9 C X (host := "") d5_6 (Or.inl (mW 33 rfl)) Via.refl F_o108_position E_o108 (Or.inr ⟨(mW 34 rfl), rfl, rfl⟩) (mW 27 rfl) (ty := .long) (by decide) rfl rfl g_o108 (fun T hh X W => ?_)
  have E_o108 := E_o108.wr W
  have F_o108_position := F_o108_position.same W
  have F_o108_node := oth F_o108_node W (Or.inr (hw _ (mW 36 rfl))) (Or.inr (hw _ (mW 34 rfl))) (by decide)
  have Kp := Kp.wr W (Or.inl (by simp))
  refine s_aloadN 10 C X d5_9 rfl rfl ?_
  refine s_aloadN 11 C X d5_10 rfl rfl ?_
  refine s_putfield 14 C X (host := "") d5_11 (Or.inl (mW 35 rfl)) Via.refl F_o108_node E_o108 (Or.inr ⟨(mW 36 rfl), rfl, rfl⟩) (mW 27 rfl) (ty := (.object "java/lang/String")) (by decide) rfl rfl g_o108 (fun T hh X W => ?_)
  have E_o108 := E_o108.wr W
  have F_o108_position := oth F_o108_position W (Or.inr (hw _ (mW 34 rfl))) (Or.inr (hw _ (mW 36 rfl))) (by decide)
  have F_o108_node := F_o108_node.same W
  have Kp := Kp.wr W (Or.inl (by simp))
  refine s_return C X d5_14 rfl ?_ (FG hG (by decide) (by decide))
  exact hQ _ _ ⟨rfl, E_o108, F_o108_position, F_o108_node, Kp⟩
theorem rm_a111 (l : Launch) (Z : State) (a0 : Array Value) (hw : ∀ d ∈ tables_1, d.before a0 Z = true) (y3 : Int64) (o68 : Addr) (o110 : Addr) (h0 : Heap) (n0 : Nat) (Z0 : n0 ≤ h0.size) (E_o110 : Exa Z h0 o110 "com/example/libring/libring/core/RingPoint") (F_o110_position : Fld Z h0 o110 "com/example/libring/libring/core/RingPoint" "position" "J" (.long j0)) (F_o110_node : Fld Z h0 o110 "com/example/libring/libring/core/RingPoint" "node" "Ljava/lang/String;" .null) (g_o110 : n0 ≤ o110) :
    Met l Z (⟨"com/example/libring/libring/core/RingPoint", "<init>", "(JLjava/lang/String;)V"⟩ : MethodName) prog_9_method_1_code 4 none { frames := 1, cells := 0, slots := 0, locals := 12 } [] #[(.ref o110), (.long y3), (.ref o68)] h0 n0 (fun v h => v = none ∧ Exa Z h o110 "com/example/libring/libring/core/RingPoint" ∧ Fld Z h o110 "com/example/libring/libring/core/RingPoint" "position" "J" (.long y3) ∧ Fld Z h o110 "com/example/libring/libring/core/RingPoint" "node" "Ljava/lang/String;" (.ref o68) ∧ Keep h0 h [o110]) := by
  refine Met.mkQ (tabs := tables_1) (a0 := a0) (ls0 := #[rv o110, lv y3, .second, rv o68]) (plainFor_of_name pn_com_example_libring_libring_core_RingPoint) hw Z0 (fun m => by first | (simp [entryFrame, mkF, argsToLocals, Value.category]; done) | rfl) ?_
  intro p e s m below meth c T Q' G' hQ hG C X
  have Kp : Keep h0 h0 [o110] := Keep.refl _ _
  refine s_aloadN 1 C X d5_0 rfl rfl ?_
  refine s_objInit 4 C X d5_1 (mW 32 rfl) (mW 16 rfl) (mW 17 rfl) rfl (W := 0) rfl (by decide) (fun T X => ?_)
  refine s_aloadN 5 C X d5_4 rfl rfl ?_
  refine s_lloadN 6 C X d5_5 rfl ?_
  refine s_putfield 9 C X (host := "") d5_6 (Or.inl (mW 33 rfl)) Via.refl F_o110_position E_o110 (Or.inr ⟨(mW 34 rfl), rfl, rfl⟩) (mW 27 rfl) (ty := .long) (by decide) rfl rfl g_o110 (fun T hh X W => ?_)
  have E_o110 := E_o110.wr W
  have F_o110_position := F_o110_position.same W
  have F_o110_node := oth F_o110_node W (Or.inr (hw _ (mW 36 rfl))) (Or.inr (hw _ (mW 34 rfl))) (by decide)
  have Kp := Kp.wr W (Or.inl (by simp))
  refine s_aloadN 10 C X d5_9 rfl rfl ?_
  refine s_aloadN 11 C X d5_10 rfl rfl ?_
  refine s_putfield 14 C X (host := "") d5_11 (Or.inl (mW 35 rfl)) Via.refl F_o110_node E_o110 (Or.inr ⟨(mW 36 rfl), rfl, rfl⟩) (mW 27 rfl) (ty := (.object "java/lang/String")) (by decide) rfl rfl g_o110 (fun T hh X W => ?_)
  have E_o110 := E_o110.wr W
  have F_o110_position := oth F_o110_position W (Or.inr (hw _ (mW 34 rfl))) (Or.inr (hw _ (mW 36 rfl))) (by decide)
  have F_o110_node := F_o110_node.same W
  have Kp := Kp.wr W (Or.inl (by simp))
  refine s_return C X d5_14 rfl ?_ (FG hG (by decide) (by decide))
  exact hQ _ _ ⟨rfl, E_o110, F_o110_position, F_o110_node, Kp⟩
theorem rm_a139 (l : Launch) (Z : State) (a0 : Array Value) (hw : ∀ d ∈ tables_1, d.before a0 Z = true) (ca6 : Int32) (cb7 : Int32) (y18 : Int32) (y22 : Int32) (o30 : Addr) (k_o30 : ClassId) (o72 : Addr) (k_o72 : ClassId) (h0 : Heap) (n0 : Nat) (Z0 : n0 ≤ h0.size) (A_o30 : Arv Z h0 o30 k_o30 .byte i2 [(.int (bv ca6)), (.int (bv cb7))] (.int i0)) (A_o72 : Arv Z h0 o72 k_o72 .byte i2 [(.int (bv y18)), (.int (bv y22))] (.int i0)) :
    Met l Z (⟨"java/lang/StringLatin1", "equals", "([B[B)Z"⟩ : MethodName) jdk_43_method_13_code 3 (some .boolean) { frames := 0, cells := 0, slots := 0, locals := 0 } [] #[(.ref o30), (.ref o72)] h0 n0 (fun v h => (v = some (.int i1) ∧ ((((bv ca6)).toInt = ((bv y18)).toInt) ∧ (((bv cb7)).toInt = ((bv y22)).toInt)) ∧ Keep h0 h []) ∨ (v = some (.int i0) ∧ ¬ ((((bv ca6)).toInt = ((bv y18)).toInt) ∧ (((bv cb7)).toInt = ((bv y22)).toInt)) ∧ Keep h0 h [])) := by
  refine Met.mkQ (tabs := tables_1) (a0 := a0) (ls0 := #[rv o30, rv o72, .unset]) (plainFor_of_name pn_java_lang_StringLatin1) hw Z0 (fun m => by first | (simp [entryFrame, mkF, argsToLocals, Value.category]; done) | rfl) ?_
  intro p e s m below meth c T Q' G' hQ hG C X
  have Kp : Keep h0 h0 [] := Keep.refl _ _
  refine s_aloadN 1 C X d11_0 rfl rfl ?_
  refine s_arraylength 2 C X d11_1 A_o30 ?_
  refine s_aloadN 3 C X d11_2 rfl rfl ?_
  refine s_arraylength 4 C X d11_3 A_o72 ?_
  refine s_icmp_ne 34 7 C X d11_4 (fun c => absurd (by decide : i2 = i2) c) (fun _ => ?_)
  refine s_iconst 8 C X d11_7 kc_iconst_0 ?_
  refine s_istoreN 9 C X (l' := #[rv o30, rv o72, iv i0]) d11_8 rfl ?_
  refine s_iloadN 10 C X d11_9 rfl ?_
  refine s_aloadN 11 C X d11_10 rfl rfl ?_
  refine s_arraylength 12 C X d11_11 A_o30 ?_
  refine s_icmp_ge 32 15 C X d11_12 (fun c => absurd (by decide : i0 < i2) c) (fun _ => ?_)
  refine s_aloadN 16 C X d11_15 rfl rfl ?_
  refine s_iloadN 17 C X d11_16 rfl ?_
  refine s_baload 18 C X d11_17 A_o30 ⟨by decide, by decide⟩ (v := (.int (bv ca6))) rfl ?_
  refine s_aloadN 19 C X d11_18 rfl rfl ?_
  refine s_iloadN 20 C X d11_19 rfl ?_
  refine s_baload 21 C X d11_20 A_o72 ⟨by decide, by decide⟩ (v := (.int (bv y18))) rfl ?_
  refine s_icmp_eq 26 24 C X d11_21 (fun c21_135 => ?_) (fun c21_135 => ?_)
  · have t_c21_135 : ((bv ca6)).toInt = ((bv y18)).toInt := congrArg Int32.toInt c21_135
    refine s_iinc 29 C X (l' := #[rv o30, rv o72, iv i1]) d11_26 kc_iconst_1 rfl rfl ?_
    refine s_goto 9 C X d11_29 ?_
    refine s_iloadN 10 C X d11_9 rfl ?_
    refine s_aloadN 11 C X d11_10 rfl rfl ?_
    refine s_arraylength 12 C X d11_11 A_o30 ?_
    refine s_icmp_ge 32 15 C X d11_12 (fun c => absurd (by decide : i1 < i2) c) (fun _ => ?_)
    refine s_aloadN 16 C X d11_15 rfl rfl ?_
    refine s_iloadN 17 C X d11_16 rfl ?_
    refine s_baload 18 C X d11_17 A_o30 ⟨by decide, by decide⟩ (v := (.int (bv cb7))) rfl ?_
    refine s_aloadN 19 C X d11_18 rfl rfl ?_
    refine s_iloadN 20 C X d11_19 rfl ?_
    refine s_baload 21 C X d11_20 A_o72 ⟨by decide, by decide⟩ (v := (.int (bv y22))) rfl ?_
    refine s_icmp_eq 26 24 C X d11_21 (fun c21_137 => ?_) (fun c21_137 => ?_)
    · have t_c21_137 : ((bv cb7)).toInt = ((bv y22)).toInt := congrArg Int32.toInt c21_137
      refine s_iinc 29 C X (l' := #[rv o30, rv o72, iv i2]) d11_26 kc_iconst_1 rfl rfl ?_
      refine s_goto 9 C X d11_29 ?_
      refine s_iloadN 10 C X d11_9 rfl ?_
      refine s_aloadN 11 C X d11_10 rfl rfl ?_
      refine s_arraylength 12 C X d11_11 A_o30 ?_
      refine s_icmp_ge 32 15 C X d11_12 (fun _ => ?_) (fun c => absurd c (by decide))
      refine s_iconst 33 C X d11_32 kc_iconst_1 ?_
      refine s_nreturn C X d11_33 rfl (by simp) rfl ?_ (FG hG (by decide) (by decide))
      exact hQ _ _ (Or.inl ⟨rfl, ⟨t_c21_135, t_c21_137⟩, Kp⟩)
    have t_c21_137 : ¬ (((bv cb7)).toInt = ((bv y22)).toInt) := fun q => c21_137 (Int32.toInt_inj.mp q)
    refine s_iconst 25 C X d11_24 kc_iconst_0 ?_
    refine s_nreturn C X d11_25 rfl (by simp) rfl ?_ (FG hG (by decide) (by decide))
    exact hQ _ _ (Or.inr ⟨rfl, (by omega), Kp⟩)
  have t_c21_135 : ¬ (((bv ca6)).toInt = ((bv y18)).toInt) := fun q => c21_135 (Int32.toInt_inj.mp q)
  refine s_iconst 25 C X d11_24 kc_iconst_0 ?_
  refine s_nreturn C X d11_25 rfl (by simp) rfl ?_ (FG hG (by decide) (by decide))
  exact hQ _ _ (Or.inr ⟨rfl, (by omega), Kp⟩)
theorem rm_a146 (l : Launch) (Z : State) (a0 : Array Value) (hw : ∀ d ∈ tables_1, d.before a0 Z = true) (cs : Int32) (ca6 : Int32) (cb7 : Int32) (y18 : Int32) (y22 : Int32) (o26 : Addr) (o30 : Addr) (k_o30 : ClassId) (o68 : Addr) (o72 : Addr) (k_o72 : ClassId) (h0 : Heap) (n0 : Nat) (Z0 : n0 ≤ h0.size) (S_cs : Sta Z Z.heap "java/lang/String" "COMPACT_STRINGS" "Z" (.int cs)) (F_o26_value : Fld Z h0 o26 "java/lang/String" "value" "[B" (.ref o30)) (F_o26_coder : Fld Z h0 o26 "java/lang/String" "coder" "B" (.int i0)) (A_o30 : Arv Z h0 o30 k_o30 .byte i2 [(.int (bv ca6)), (.int (bv cb7))] (.int i0)) (Od : Old Z n0 h0) (E_o68 : Exa Z h0 o68 "java/lang/String") (F_o68_value : Fld Z h0 o68 "java/lang/String" "value" "[B" (.ref o72)) (F_o68_coder : Fld Z h0 o68 "java/lang/String" "coder" "B" (.int i0)) (A_o72 : Arv Z h0 o72 k_o72 .byte i2 [(.int (bv y18)), (.int (bv y22))] (.int i0)) (hv_cs : ¬ cs = i0) (ne_o26_o68 : o26 ≠ o68) :
    Met l Z (⟨"java/lang/String", "equals", "(Ljava/lang/Object;)Z"⟩ : MethodName) jdk_42_method_66_code 3 (some .boolean) { frames := 1, cells := 0, slots := 0, locals := 14 } [] #[(.ref o26), (.ref o68)] h0 n0 (fun v h => (v = some (.int i1) ∧ (((((bv ca6)).toInt = ((bv y18)).toInt) ∧ (((bv cb7)).toInt = ((bv y22)).toInt))) ∧ Old Z n0 h ∧ Keep h0 h []) ∨ (v = some (.int i0) ∧ ¬ (((((bv ca6)).toInt = ((bv y18)).toInt) ∧ (((bv cb7)).toInt = ((bv y22)).toInt))) ∧ Old Z n0 h ∧ Keep h0 h [])) := by
  refine Met.mkQ (tabs := tables_1) (a0 := a0) (ls0 := #[rv o26, rv o68, .unset]) (plainFor_of_name pn_java_lang_String) hw Z0 (fun m => by first | (simp [entryFrame, mkF, argsToLocals, Value.category]; done) | rfl) ?_
  intro p e s m below meth c T Q' G' hQ hG C X
  have Kp : Keep h0 h0 [] := Keep.refl _ _
  refine s_aloadN 1 C X d7_0 rfl rfl ?_
  refine s_aloadN 2 C X d7_1 rfl rfl ?_
  refine s_acmp_ne 7 5 C X d7_2 rfl rfl (fun c2_129 => ?_) (fun c => absurd (Value.ref.inj c) ne_o26_o68)
  refine s_aloadN 8 C X d7_7 rfl rfl ?_
  refine s_instY 11 C X d7_8 (mW 62 rfl) (Ins.self E_o68) (fun T X => ?_)
  refine s_if_eq 54 14 C X d7_11 (fun c => absurd c (by decide)) (fun _ => ?_)
  refine s_aloadN 15 C X d7_14 rfl rfl ?_
  refine s_castY 18 C X d7_15 (mW 62 rfl) (Ins.self E_o68) (fun T X => ?_)
  refine s_astoreN 19 C X (l' := #[rv o26, rv o68, rv o68]) d7_18 rfl rfl ?_
  refine s_getstatic 22 C X (host := "") d7_19 (Or.inl (mW 51 rfl)) Via.refl (S_cs.ext Od.2) (fun T X => ?_)
  refine s_if_eq 36 25 C X d7_22 (fun c => absurd c hv_cs) (fun c22_131 => ?_)
  refine s_aloadN 26 C X d7_25 rfl rfl ?_
  refine s_getfield 29 C X (host := "") d7_26 (Or.inl (mW 25 rfl)) Via.refl F_o26_coder (fun T X => ?_)
  refine s_aloadN 30 C X d7_29 rfl rfl ?_
  refine s_getfield 33 C X (host := "") d7_30 (Or.inl (mW 25 rfl)) Via.refl F_o68_coder (fun T X => ?_)
  refine s_icmp_ne 54 36 C X d7_33 (fun c => absurd (by decide : i0 = i0) c) (fun _ => ?_)
  refine s_aloadN 37 C X d7_36 rfl rfl ?_
  refine s_getfield 40 C X (host := "") d7_37 (Or.inl (mW 24 rfl)) Via.refl F_o26_value (fun T X => ?_)
  refine s_aloadN 41 C X d7_40 rfl rfl ?_
  refine s_getfield 44 C X (host := "") d7_41 (Or.inl (mW 24 rfl)) Via.refl F_o68_value (fun T X => ?_)
  refine s_callS 47 [(.ref o30), (.ref o72)] [] 0 C X d7_44 (mW 63 rfl) (mW 64 rfl) (mW 65 rfl) (mW 66 rfl) (rm_a139 l Z a0 hw ca6 cb7 y18 y22 o30 k_o30 o72 k_o72 _ n0 X.sz A_o30 A_o72) (lenOf pd___B_B_Z rfl) rfl rfl rfl (fun T v hh X q => ?_)
  obtain ⟨rfl, q142, Kc⟩ | ⟨rfl, q143, Kc⟩ := q
  · have F_o26_value := F_o26_value.keep Kc nin0
    have Od := Od.keep Kc all0
    have Kp := Kp.trans Kc all0
    refine Run.cast (st' := [(.int i1)]) rfl ?_
    refine s_if_eq 54 50 C X d7_47 (fun c => absurd c (by decide)) (fun _ => ?_)
    refine s_iconst 51 C X d7_50 kc_iconst_1 ?_
    refine s_goto 55 C X d7_51 ?_
    refine s_nreturn C X d7_55 rfl (by simp) rfl ?_ (FG hG (by decide) (by decide))
    exact hQ _ _ (Or.inl ⟨rfl, q142, Od, Kp⟩)
  · have F_o26_value := F_o26_value.keep Kc nin0
    have Od := Od.keep Kc all0
    have Kp := Kp.trans Kc all0
    refine Run.cast (st' := [(.int i0)]) rfl ?_
    refine s_if_eq 54 50 C X d7_47 (fun _ => ?_) (fun c => absurd (by decide : i0 = i0) c)
    refine s_iconst 55 C X d7_54 kc_iconst_0 ?_
    refine s_nreturn C X d7_55 rfl (by simp) rfl ?_ (FG hG (by decide) (by decide))
    exact hQ _ _ (Or.inr ⟨rfl, (by omega), Od, Kp⟩)
theorem rm_a153 (l : Launch) (Z : State) (a0 : Array Value) (hw : ∀ d ∈ tables_1, d.before a0 Z = true) (a : Int64) (cs : Int32) (y3 : Int64) (ca6 : Int32) (cb7 : Int32) (y18 : Int32) (y22 : Int32) (o26 : Addr) (o30 : Addr) (k_o30 : ClassId) (o68 : Addr) (o72 : Addr) (k_o72 : ClassId) (o108 : Addr) (o110 : Addr) (h0 : Heap) (n0 : Nat) (Z0 : n0 ≤ h0.size) (S_cs : Sta Z Z.heap "java/lang/String" "COMPACT_STRINGS" "Z" (.int cs)) (E_o26 : Exa Z h0 o26 "java/lang/String") (F_o26_value : Fld Z h0 o26 "java/lang/String" "value" "[B" (.ref o30)) (F_o26_coder : Fld Z h0 o26 "java/lang/String" "coder" "B" (.int i0)) (A_o30 : Arv Z h0 o30 k_o30 .byte i2 [(.int (bv ca6)), (.int (bv cb7))] (.int i0)) (Od : Old Z n0 h0) (E_o68 : Exa Z h0 o68 "java/lang/String") (F_o68_value : Fld Z h0 o68 "java/lang/String" "value" "[B" (.ref o72)) (F_o68_coder : Fld Z h0 o68 "java/lang/String" "coder" "B" (.int i0)) (A_o72 : Arv Z h0 o72 k_o72 .byte i2 [(.int (bv y18)), (.int (bv y22))] (.int i0)) (F_o108_position : Fld Z h0 o108 "com/example/libring/libring/core/RingPoint" "position" "J" (.long a)) (F_o108_node : Fld Z h0 o108 "com/example/libring/libring/core/RingPoint" "node" "Ljava/lang/String;" (.ref o26)) (E_o110 : Exa Z h0 o110 "com/example/libring/libring/core/RingPoint") (F_o110_position : Fld Z h0 o110 "com/example/libring/libring/core/RingPoint" "position" "J" (.long y3)) (F_o110_node : Fld Z h0 o110 "com/example/libring/libring/core/RingPoint" "node" "Ljava/lang/String;" (.ref o68)) (hv_cs : ¬ cs = i0) (ne_o26_o68 : o26 ≠ o68) :
    Met l Z (⟨"com/example/libring/libring/core/RingPoint", "equals", "(Ljava/lang/Object;)Z"⟩ : MethodName) prog_9_method_4_code 3 (some .boolean) { frames := 2, cells := 0, slots := 0, locals := 28 } [] #[(.ref o108), (.ref o110)] h0 n0 (fun v h => ∃ (y154 : Int32), v = some (.int y154) ∧ ((y154 = i1 ∧ (((a).toInt = (y3).toInt) ∧ (((((bv ca6)).toInt = ((bv y18)).toInt) ∧ (((bv cb7)).toInt = ((bv y22)).toInt))))) ∨ (y154 = i0 ∧ ¬ (((a).toInt = (y3).toInt) ∧ (((((bv ca6)).toInt = ((bv y18)).toInt) ∧ (((bv cb7)).toInt = ((bv y22)).toInt)))))) ∧ Old Z n0 h ∧ Keep h0 h []) := by
  refine Met.mkQ (tabs := tables_1) (a0 := a0) (ls0 := #[rv o108, rv o110, .unset]) (plainFor_of_name pn_com_example_libring_libring_core_RingPoint) hw Z0 (fun m => by first | (simp [entryFrame, mkF, argsToLocals, Value.category]; done) | rfl) ?_
  intro p e s m below meth c T Q' G' hQ hG C X
  have Kp : Keep h0 h0 [] := Keep.refl _ _
  refine s_aloadN 1 C X d6_0 rfl rfl ?_
  refine s_instY 4 C X d6_1 (mW 42 rfl) (Ins.self E_o110) (fun T X => ?_)
  refine s_if_ne 9 7 C X d6_4 (fun _ => ?_) (fun c => absurd c (by decide))
  refine s_aloadN 10 C X d6_9 rfl rfl ?_
  refine s_castY 13 C X d6_10 (mW 42 rfl) (Ins.self E_o110) (fun T X => ?_)
  refine s_astoreN 14 C X (l' := #[rv o108, rv o110, rv o110]) d6_13 rfl rfl ?_
  refine s_aloadN 15 C X d6_14 rfl rfl ?_
  refine s_getfield 18 C X (host := "") d6_15 (Or.inl (mW 33 rfl)) Via.refl F_o108_position (fun T X => ?_)
  refine s_aloadN 19 C X d6_18 rfl rfl ?_
  refine s_getfield 22 C X (host := "") d6_19 (Or.inl (mW 33 rfl)) Via.refl F_o110_position (fun T X => ?_)
  refine s_lcmp 23 C X d6_22 ?_
  refine s_if_ne 44 26 C X d6_23 (fun c23_128 => ?_) (fun c23_128 => ?_)
  · have t_c23_128 : ¬ ((a).toInt = (y3).toInt) := fun q => c23_128 (cl_eq.mpr q)
    refine s_iconst 45 C X d6_44 kc_iconst_0 ?_
    refine s_nreturn C X d6_45 rfl (by simp) rfl ?_ (FG hG (by decide) (by decide))
    exact hQ _ _ ⟨_, rfl, Or.inr ⟨rfl, (by omega)⟩, Od, Kp⟩
  have t_c23_128 : (a).toInt = (y3).toInt := cl_eq.mp c23_128
  refine s_aloadN 27 C X d6_26 rfl rfl ?_
  refine s_getfield 30 C X (host := "") d6_27 (Or.inl (mW 35 rfl)) Via.refl F_o108_node (fun T X => ?_)
  refine s_aloadN 31 C X d6_30 rfl rfl ?_
  refine s_getfield 34 C X (host := "") d6_31 (Or.inl (mW 35 rfl)) Via.refl F_o110_node (fun T X => ?_)
  refine s_callV 37 [(.ref o68)] [] 0 C X d6_34 (mW 44 rfl) (mW 45 rfl) (notFace_of_selects (args := #[]) (mvT C.2.1 (C.w (mW 47 rfl)))) (mW 47 rfl) (mW 46 rfl) (mW 6 rfl) (mW 48 rfl) E_o26 (rm_a146 l Z a0 hw cs ca6 cb7 y18 y22 o26 o30 k_o30 o68 o72 k_o72 _ n0 X.sz S_cs F_o26_value F_o26_coder A_o30 Od E_o68 F_o68_value F_o68_coder A_o72 hv_cs ne_o26_o68) (lenOf pd__Ljava_lang_Object__Z rfl) rfl rfl rfl (fun T v hh X q => ?_)
  obtain ⟨rfl, q149, Od, Kc⟩ | ⟨rfl, q150, Od, Kc⟩ := q
  · have E_o26 := E_o26.keep Kc
    have Kp := Kp.trans Kc all0
    refine Run.cast (st' := [(.int i1)]) rfl ?_
    refine s_if_eq 44 40 C X d6_37 (fun c => absurd c (by decide)) (fun _ => ?_)
    refine s_iconst 41 C X d6_40 kc_iconst_1 ?_
    refine s_goto 45 C X d6_41 ?_
    refine s_nreturn C X d6_45 rfl (by simp) rfl ?_ (FG hG (by decide) (by decide))
    exact hQ _ _ ⟨_, rfl, Or.inl ⟨rfl, ⟨t_c23_128, q149⟩⟩, Od, Kp⟩
  · have E_o26 := E_o26.keep Kc
    have Kp := Kp.trans Kc all0
    refine Run.cast (st' := [(.int i0)]) rfl ?_
    refine s_if_eq 44 40 C X d6_37 (fun _ => ?_) (fun c => absurd (by decide : i0 = i0) c)
    refine s_iconst 45 C X d6_44 kc_iconst_0 ?_
    refine s_nreturn C X d6_45 rfl (by simp) rfl ?_ (FG hG (by decide) (by decide))
    exact hQ _ _ ⟨_, rfl, Or.inr ⟨rfl, (by omega)⟩, Od, Kp⟩
theorem rm_a169 (l : Launch) (Z : State) (a0 : Array Value) (hw : ∀ d ∈ tables_1, d.before a0 Z = true) (ca6 : Int32) (cb7 : Int32) (y18 : Int32) (y22 : Int32) (o30 : Addr) (k_o30 : ClassId) (o72 : Addr) (k_o72 : ClassId) (h0 : Heap) (n0 : Nat) (Z0 : n0 ≤ h0.size) (A_o30 : Arv Z h0 o30 k_o30 .byte i2 [(.int (bv ca6)), (.int (bv cb7))] (.int i0)) (A_o72 : Arv Z h0 o72 k_o72 .byte i2 [(.int (bv y18)), (.int (bv y22))] (.int i0)) :
    Met l Z (⟨"java/lang/StringLatin1", "equals", "([B[B)Z"⟩ : MethodName) jdk_43_method_13_code 3 (some .boolean) { frames := 0, cells := 0, slots := 0, locals := 0 } [] #[(.ref o72), (.ref o30)] h0 n0 (fun v h => (v = some (.int i1) ∧ ((((bv y18)).toInt = ((bv ca6)).toInt) ∧ (((bv y22)).toInt = ((bv cb7)).toInt)) ∧ Keep h0 h []) ∨ (v = some (.int i0) ∧ ¬ ((((bv y18)).toInt = ((bv ca6)).toInt) ∧ (((bv y22)).toInt = ((bv cb7)).toInt)) ∧ Keep h0 h [])) := by
  refine Met.mkQ (tabs := tables_1) (a0 := a0) (ls0 := #[rv o72, rv o30, .unset]) (plainFor_of_name pn_java_lang_StringLatin1) hw Z0 (fun m => by first | (simp [entryFrame, mkF, argsToLocals, Value.category]; done) | rfl) ?_
  intro p e s m below meth c T Q' G' hQ hG C X
  have Kp : Keep h0 h0 [] := Keep.refl _ _
  refine s_aloadN 1 C X d11_0 rfl rfl ?_
  refine s_arraylength 2 C X d11_1 A_o72 ?_
  refine s_aloadN 3 C X d11_2 rfl rfl ?_
  refine s_arraylength 4 C X d11_3 A_o30 ?_
  refine s_icmp_ne 34 7 C X d11_4 (fun c => absurd (by decide : i2 = i2) c) (fun _ => ?_)
  refine s_iconst 8 C X d11_7 kc_iconst_0 ?_
  refine s_istoreN 9 C X (l' := #[rv o72, rv o30, iv i0]) d11_8 rfl ?_
  refine s_iloadN 10 C X d11_9 rfl ?_
  refine s_aloadN 11 C X d11_10 rfl rfl ?_
  refine s_arraylength 12 C X d11_11 A_o72 ?_
  refine s_icmp_ge 32 15 C X d11_12 (fun c => absurd (by decide : i0 < i2) c) (fun _ => ?_)
  refine s_aloadN 16 C X d11_15 rfl rfl ?_
  refine s_iloadN 17 C X d11_16 rfl ?_
  refine s_baload 18 C X d11_17 A_o72 ⟨by decide, by decide⟩ (v := (.int (bv y18))) rfl ?_
  refine s_aloadN 19 C X d11_18 rfl rfl ?_
  refine s_iloadN 20 C X d11_19 rfl ?_
  refine s_baload 21 C X d11_20 A_o30 ⟨by decide, by decide⟩ (v := (.int (bv ca6))) rfl ?_
  refine s_icmp_eq 26 24 C X d11_21 (fun c21_165 => ?_) (fun c21_165 => ?_)
  · have t_c21_165 : ((bv y18)).toInt = ((bv ca6)).toInt := congrArg Int32.toInt c21_165
    refine s_iinc 29 C X (l' := #[rv o72, rv o30, iv i1]) d11_26 kc_iconst_1 rfl rfl ?_
    refine s_goto 9 C X d11_29 ?_
    refine s_iloadN 10 C X d11_9 rfl ?_
    refine s_aloadN 11 C X d11_10 rfl rfl ?_
    refine s_arraylength 12 C X d11_11 A_o72 ?_
    refine s_icmp_ge 32 15 C X d11_12 (fun c => absurd (by decide : i1 < i2) c) (fun _ => ?_)
    refine s_aloadN 16 C X d11_15 rfl rfl ?_
    refine s_iloadN 17 C X d11_16 rfl ?_
    refine s_baload 18 C X d11_17 A_o72 ⟨by decide, by decide⟩ (v := (.int (bv y22))) rfl ?_
    refine s_aloadN 19 C X d11_18 rfl rfl ?_
    refine s_iloadN 20 C X d11_19 rfl ?_
    refine s_baload 21 C X d11_20 A_o30 ⟨by decide, by decide⟩ (v := (.int (bv cb7))) rfl ?_
    refine s_icmp_eq 26 24 C X d11_21 (fun c21_167 => ?_) (fun c21_167 => ?_)
    · have t_c21_167 : ((bv y22)).toInt = ((bv cb7)).toInt := congrArg Int32.toInt c21_167
      refine s_iinc 29 C X (l' := #[rv o72, rv o30, iv i2]) d11_26 kc_iconst_1 rfl rfl ?_
      refine s_goto 9 C X d11_29 ?_
      refine s_iloadN 10 C X d11_9 rfl ?_
      refine s_aloadN 11 C X d11_10 rfl rfl ?_
      refine s_arraylength 12 C X d11_11 A_o72 ?_
      refine s_icmp_ge 32 15 C X d11_12 (fun _ => ?_) (fun c => absurd c (by decide))
      refine s_iconst 33 C X d11_32 kc_iconst_1 ?_
      refine s_nreturn C X d11_33 rfl (by simp) rfl ?_ (FG hG (by decide) (by decide))
      exact hQ _ _ (Or.inl ⟨rfl, ⟨t_c21_165, t_c21_167⟩, Kp⟩)
    have t_c21_167 : ¬ (((bv y22)).toInt = ((bv cb7)).toInt) := fun q => c21_167 (Int32.toInt_inj.mp q)
    refine s_iconst 25 C X d11_24 kc_iconst_0 ?_
    refine s_nreturn C X d11_25 rfl (by simp) rfl ?_ (FG hG (by decide) (by decide))
    exact hQ _ _ (Or.inr ⟨rfl, (by omega), Kp⟩)
  have t_c21_165 : ¬ (((bv y18)).toInt = ((bv ca6)).toInt) := fun q => c21_165 (Int32.toInt_inj.mp q)
  refine s_iconst 25 C X d11_24 kc_iconst_0 ?_
  refine s_nreturn C X d11_25 rfl (by simp) rfl ?_ (FG hG (by decide) (by decide))
  exact hQ _ _ (Or.inr ⟨rfl, (by omega), Kp⟩)
theorem rm_a176 (l : Launch) (Z : State) (a0 : Array Value) (hw : ∀ d ∈ tables_1, d.before a0 Z = true) (cs : Int32) (ca6 : Int32) (cb7 : Int32) (y18 : Int32) (y22 : Int32) (o26 : Addr) (o30 : Addr) (k_o30 : ClassId) (o68 : Addr) (o72 : Addr) (k_o72 : ClassId) (h0 : Heap) (n0 : Nat) (Z0 : n0 ≤ h0.size) (S_cs : Sta Z Z.heap "java/lang/String" "COMPACT_STRINGS" "Z" (.int cs)) (E_o26 : Exa Z h0 o26 "java/lang/String") (F_o26_value : Fld Z h0 o26 "java/lang/String" "value" "[B" (.ref o30)) (F_o26_coder : Fld Z h0 o26 "java/lang/String" "coder" "B" (.int i0)) (A_o30 : Arv Z h0 o30 k_o30 .byte i2 [(.int (bv ca6)), (.int (bv cb7))] (.int i0)) (F_o68_value : Fld Z h0 o68 "java/lang/String" "value" "[B" (.ref o72)) (F_o68_coder : Fld Z h0 o68 "java/lang/String" "coder" "B" (.int i0)) (A_o72 : Arv Z h0 o72 k_o72 .byte i2 [(.int (bv y18)), (.int (bv y22))] (.int i0)) (Od : Old Z n0 h0) (hv_cs : ¬ cs = i0) (ne_o26_o68 : o26 ≠ o68) :
    Met l Z (⟨"java/lang/String", "equals", "(Ljava/lang/Object;)Z"⟩ : MethodName) jdk_42_method_66_code 3 (some .boolean) { frames := 1, cells := 0, slots := 0, locals := 14 } [] #[(.ref o68), (.ref o26)] h0 n0 (fun v h => (v = some (.int i1) ∧ (((((bv y18)).toInt = ((bv ca6)).toInt) ∧ (((bv y22)).toInt = ((bv cb7)).toInt))) ∧ Old Z n0 h ∧ Keep h0 h []) ∨ (v = some (.int i0) ∧ ¬ (((((bv y18)).toInt = ((bv ca6)).toInt) ∧ (((bv y22)).toInt = ((bv cb7)).toInt))) ∧ Old Z n0 h ∧ Keep h0 h [])) := by
  refine Met.mkQ (tabs := tables_1) (a0 := a0) (ls0 := #[rv o68, rv o26, .unset]) (plainFor_of_name pn_java_lang_String) hw Z0 (fun m => by first | (simp [entryFrame, mkF, argsToLocals, Value.category]; done) | rfl) ?_
  intro p e s m below meth c T Q' G' hQ hG C X
  have Kp : Keep h0 h0 [] := Keep.refl _ _
  refine s_aloadN 1 C X d7_0 rfl rfl ?_
  refine s_aloadN 2 C X d7_1 rfl rfl ?_
  refine s_acmp_ne 7 5 C X d7_2 rfl rfl (fun c2_159 => ?_) (fun c => absurd (Value.ref.inj c) (Ne.symm ne_o26_o68))
  refine s_aloadN 8 C X d7_7 rfl rfl ?_
  refine s_instY 11 C X d7_8 (mW 62 rfl) (Ins.self E_o26) (fun T X => ?_)
  refine s_if_eq 54 14 C X d7_11 (fun c => absurd c (by decide)) (fun _ => ?_)
  refine s_aloadN 15 C X d7_14 rfl rfl ?_
  refine s_castY 18 C X d7_15 (mW 62 rfl) (Ins.self E_o26) (fun T X => ?_)
  refine s_astoreN 19 C X (l' := #[rv o68, rv o26, rv o26]) d7_18 rfl rfl ?_
  refine s_getstatic 22 C X (host := "") d7_19 (Or.inl (mW 51 rfl)) Via.refl (S_cs.ext Od.2) (fun T X => ?_)
  refine s_if_eq 36 25 C X d7_22 (fun c => absurd c hv_cs) (fun c22_161 => ?_)
  refine s_aloadN 26 C X d7_25 rfl rfl ?_
  refine s_getfield 29 C X (host := "") d7_26 (Or.inl (mW 25 rfl)) Via.refl F_o68_coder (fun T X => ?_)
  refine s_aloadN 30 C X d7_29 rfl rfl ?_
  refine s_getfield 33 C X (host := "") d7_30 (Or.inl (mW 25 rfl)) Via.refl F_o26_coder (fun T X => ?_)
  refine s_icmp_ne 54 36 C X d7_33 (fun c => absurd (by decide : i0 = i0) c) (fun _ => ?_)
  refine s_aloadN 37 C X d7_36 rfl rfl ?_
  refine s_getfield 40 C X (host := "") d7_37 (Or.inl (mW 24 rfl)) Via.refl F_o68_value (fun T X => ?_)
  refine s_aloadN 41 C X d7_40 rfl rfl ?_
  refine s_getfield 44 C X (host := "") d7_41 (Or.inl (mW 24 rfl)) Via.refl F_o26_value (fun T X => ?_)
  refine s_callS 47 [(.ref o72), (.ref o30)] [] 0 C X d7_44 (mW 63 rfl) (mW 64 rfl) (mW 65 rfl) (mW 66 rfl) (rm_a169 l Z a0 hw ca6 cb7 y18 y22 o30 k_o30 o72 k_o72 _ n0 X.sz A_o30 A_o72) (lenOf pd___B_B_Z rfl) rfl rfl rfl (fun T v hh X q => ?_)
  obtain ⟨rfl, q172, Kc⟩ | ⟨rfl, q173, Kc⟩ := q
  · have E_o26 := E_o26.keep Kc
    have Od := Od.keep Kc all0
    have Kp := Kp.trans Kc all0
    refine Run.cast (st' := [(.int i1)]) rfl ?_
    refine s_if_eq 54 50 C X d7_47 (fun c => absurd c (by decide)) (fun _ => ?_)
    refine s_iconst 51 C X d7_50 kc_iconst_1 ?_
    refine s_goto 55 C X d7_51 ?_
    refine s_nreturn C X d7_55 rfl (by simp) rfl ?_ (FG hG (by decide) (by decide))
    exact hQ _ _ (Or.inl ⟨rfl, q172, Od, Kp⟩)
  · have E_o26 := E_o26.keep Kc
    have Od := Od.keep Kc all0
    have Kp := Kp.trans Kc all0
    refine Run.cast (st' := [(.int i0)]) rfl ?_
    refine s_if_eq 54 50 C X d7_47 (fun _ => ?_) (fun c => absurd (by decide : i0 = i0) c)
    refine s_iconst 55 C X d7_54 kc_iconst_0 ?_
    refine s_nreturn C X d7_55 rfl (by simp) rfl ?_ (FG hG (by decide) (by decide))
    exact hQ _ _ (Or.inr ⟨rfl, (by omega), Od, Kp⟩)
theorem rm_a183 (l : Launch) (Z : State) (a0 : Array Value) (hw : ∀ d ∈ tables_1, d.before a0 Z = true) (a : Int64) (cs : Int32) (y3 : Int64) (ca6 : Int32) (cb7 : Int32) (y18 : Int32) (y22 : Int32) (o26 : Addr) (o30 : Addr) (k_o30 : ClassId) (o68 : Addr) (o72 : Addr) (k_o72 : ClassId) (o108 : Addr) (o110 : Addr) (h0 : Heap) (n0 : Nat) (Z0 : n0 ≤ h0.size) (S_cs : Sta Z Z.heap "java/lang/String" "COMPACT_STRINGS" "Z" (.int cs)) (E_o26 : Exa Z h0 o26 "java/lang/String") (F_o26_value : Fld Z h0 o26 "java/lang/String" "value" "[B" (.ref o30)) (F_o26_coder : Fld Z h0 o26 "java/lang/String" "coder" "B" (.int i0)) (A_o30 : Arv Z h0 o30 k_o30 .byte i2 [(.int (bv ca6)), (.int (bv cb7))] (.int i0)) (E_o68 : Exa Z h0 o68 "java/lang/String") (F_o68_value : Fld Z h0 o68 "java/lang/String" "value" "[B" (.ref o72)) (F_o68_coder : Fld Z h0 o68 "java/lang/String" "coder" "B" (.int i0)) (A_o72 : Arv Z h0 o72 k_o72 .byte i2 [(.int (bv y18)), (.int (bv y22))] (.int i0)) (E_o108 : Exa Z h0 o108 "com/example/libring/libring/core/RingPoint") (F_o108_position : Fld Z h0 o108 "com/example/libring/libring/core/RingPoint" "position" "J" (.long a)) (F_o108_node : Fld Z h0 o108 "com/example/libring/libring/core/RingPoint" "node" "Ljava/lang/String;" (.ref o26)) (F_o110_position : Fld Z h0 o110 "com/example/libring/libring/core/RingPoint" "position" "J" (.long y3)) (F_o110_node : Fld Z h0 o110 "com/example/libring/libring/core/RingPoint" "node" "Ljava/lang/String;" (.ref o68)) (Od : Old Z n0 h0) (hv_cs : ¬ cs = i0) (ne_o26_o68 : o26 ≠ o68) :
    Met l Z (⟨"com/example/libring/libring/core/RingPoint", "equals", "(Ljava/lang/Object;)Z"⟩ : MethodName) prog_9_method_4_code 3 (some .boolean) { frames := 2, cells := 0, slots := 0, locals := 28 } [] #[(.ref o110), (.ref o108)] h0 n0 (fun v h => ∃ (y184 : Int32), v = some (.int y184) ∧ ((y184 = i1 ∧ (((y3).toInt = (a).toInt) ∧ (((((bv y18)).toInt = ((bv ca6)).toInt) ∧ (((bv y22)).toInt = ((bv cb7)).toInt))))) ∨ (y184 = i0 ∧ ¬ (((y3).toInt = (a).toInt) ∧ (((((bv y18)).toInt = ((bv ca6)).toInt) ∧ (((bv y22)).toInt = ((bv cb7)).toInt)))))) ∧ Old Z n0 h ∧ Keep h0 h []) := by
  refine Met.mkQ (tabs := tables_1) (a0 := a0) (ls0 := #[rv o110, rv o108, .unset]) (plainFor_of_name pn_com_example_libring_libring_core_RingPoint) hw Z0 (fun m => by first | (simp [entryFrame, mkF, argsToLocals, Value.category]; done) | rfl) ?_
  intro p e s m below meth c T Q' G' hQ hG C X
  have Kp : Keep h0 h0 [] := Keep.refl _ _
  refine s_aloadN 1 C X d6_0 rfl rfl ?_
  refine s_instY 4 C X d6_1 (mW 42 rfl) (Ins.self E_o108) (fun T X => ?_)
  refine s_if_ne 9 7 C X d6_4 (fun _ => ?_) (fun c => absurd c (by decide))
  refine s_aloadN 10 C X d6_9 rfl rfl ?_
  refine s_castY 13 C X d6_10 (mW 42 rfl) (Ins.self E_o108) (fun T X => ?_)
  refine s_astoreN 14 C X (l' := #[rv o110, rv o108, rv o108]) d6_13 rfl rfl ?_
  refine s_aloadN 15 C X d6_14 rfl rfl ?_
  refine s_getfield 18 C X (host := "") d6_15 (Or.inl (mW 33 rfl)) Via.refl F_o110_position (fun T X => ?_)
  refine s_aloadN 19 C X d6_18 rfl rfl ?_
  refine s_getfield 22 C X (host := "") d6_19 (Or.inl (mW 33 rfl)) Via.refl F_o108_position (fun T X => ?_)
  refine s_lcmp 23 C X d6_22 ?_
  refine s_if_ne 44 26 C X d6_23 (fun c23_158 => ?_) (fun c23_158 => ?_)
  · have t_c23_158 : ¬ ((y3).toInt = (a).toInt) := fun q => c23_158 (cl_eq.mpr q)
    refine s_iconst 45 C X d6_44 kc_iconst_0 ?_
    refine s_nreturn C X d6_45 rfl (by simp) rfl ?_ (FG hG (by decide) (by decide))
    exact hQ _ _ ⟨_, rfl, Or.inr ⟨rfl, (by omega)⟩, Od, Kp⟩
  have t_c23_158 : (y3).toInt = (a).toInt := cl_eq.mp c23_158
  refine s_aloadN 27 C X d6_26 rfl rfl ?_
  refine s_getfield 30 C X (host := "") d6_27 (Or.inl (mW 35 rfl)) Via.refl F_o110_node (fun T X => ?_)
  refine s_aloadN 31 C X d6_30 rfl rfl ?_
  refine s_getfield 34 C X (host := "") d6_31 (Or.inl (mW 35 rfl)) Via.refl F_o108_node (fun T X => ?_)
  refine s_callV 37 [(.ref o26)] [] 0 C X d6_34 (mW 44 rfl) (mW 45 rfl) (notFace_of_selects (args := #[]) (mvT C.2.1 (C.w (mW 47 rfl)))) (mW 47 rfl) (mW 46 rfl) (mW 6 rfl) (mW 48 rfl) E_o68 (rm_a176 l Z a0 hw cs ca6 cb7 y18 y22 o26 o30 k_o30 o68 o72 k_o72 _ n0 X.sz S_cs E_o26 F_o26_value F_o26_coder A_o30 F_o68_value F_o68_coder A_o72 Od hv_cs ne_o26_o68) (lenOf pd__Ljava_lang_Object__Z rfl) rfl rfl rfl (fun T v hh X q => ?_)
  obtain ⟨rfl, q179, Od, Kc⟩ | ⟨rfl, q180, Od, Kc⟩ := q
  · have E_o26 := E_o26.keep Kc
    have Kp := Kp.trans Kc all0
    refine Run.cast (st' := [(.int i1)]) rfl ?_
    refine s_if_eq 44 40 C X d6_37 (fun c => absurd c (by decide)) (fun _ => ?_)
    refine s_iconst 41 C X d6_40 kc_iconst_1 ?_
    refine s_goto 45 C X d6_41 ?_
    refine s_nreturn C X d6_45 rfl (by simp) rfl ?_ (FG hG (by decide) (by decide))
    exact hQ _ _ ⟨_, rfl, Or.inl ⟨rfl, ⟨t_c23_158, q179⟩⟩, Od, Kp⟩
  · have E_o26 := E_o26.keep Kc
    have Kp := Kp.trans Kc all0
    refine Run.cast (st' := [(.int i0)]) rfl ?_
    refine s_if_eq 44 40 C X d6_37 (fun _ => ?_) (fun c => absurd (by decide : i0 = i0) c)
    refine s_iconst 45 C X d6_44 kc_iconst_0 ?_
    refine s_nreturn C X d6_45 rfl (by simp) rfl ?_ (FG hG (by decide) (by decide))
    exact hQ _ _ ⟨_, rfl, Or.inr ⟨rfl, (by omega)⟩, Od, Kp⟩
theorem rm_a190 (l : Launch) (Z : State) (a0 : Array Value) (hw : ∀ d ∈ tables_1, d.before a0 Z = true) (o26 : Addr) (h0 : Heap) (n0 : Nat) (Z0 : n0 ≤ h0.size)  :
    Met l Z (⟨"java/lang/String", "equals", "(Ljava/lang/Object;)Z"⟩ : MethodName) jdk_42_method_66_code 3 (some .boolean) { frames := 0, cells := 0, slots := 0, locals := 0 } [] #[(.ref o26), (.ref o26)] h0 n0 (fun v h => v = some (.int i1) ∧ Keep h0 h []) := by
  refine Met.mkQ (tabs := tables_1) (a0 := a0) (ls0 := #[rv o26, rv o26, .unset]) (plainFor_of_name pn_java_lang_String) hw Z0 (fun m => by first | (simp [entryFrame, mkF, argsToLocals, Value.category]; done) | rfl) ?_
  intro p e s m below meth c T Q' G' hQ hG C X
  have Kp : Keep h0 h0 [] := Keep.refl _ _
  refine s_aloadN 1 C X d7_0 rfl rfl ?_
  refine s_aloadN 2 C X d7_1 rfl rfl ?_
  refine s_acmp_ne 7 5 C X d7_2 rfl rfl (fun c => absurd rfl c) (fun _ => ?_)
  refine s_iconst 6 C X d7_5 kc_iconst_1 ?_
  refine s_nreturn C X d7_6 rfl (by simp) rfl ?_ (FG hG (by decide) (by decide))
  exact hQ _ _ ⟨rfl, Kp⟩
theorem rm_a192 (l : Launch) (Z : State) (a0 : Array Value) (hw : ∀ d ∈ tables_1, d.before a0 Z = true) (a : Int64) (o26 : Addr) (o108 : Addr) (h0 : Heap) (n0 : Nat) (Z0 : n0 ≤ h0.size) (E_o26 : Exa Z h0 o26 "java/lang/String") (E_o108 : Exa Z h0 o108 "com/example/libring/libring/core/RingPoint") (F_o108_position : Fld Z h0 o108 "com/example/libring/libring/core/RingPoint" "position" "J" (.long a)) (F_o108_node : Fld Z h0 o108 "com/example/libring/libring/core/RingPoint" "node" "Ljava/lang/String;" (.ref o26)) :
    Met l Z (⟨"com/example/libring/libring/core/RingPoint", "equals", "(Ljava/lang/Object;)Z"⟩ : MethodName) prog_9_method_4_code 3 (some .boolean) { frames := 1, cells := 0, slots := 0, locals := 14 } [] #[(.ref o108), (.ref o108)] h0 n0 (fun v h => v = some (.int i1) ∧ Keep h0 h []) := by
  refine Met.mkQ (tabs := tables_1) (a0 := a0) (ls0 := #[rv o108, rv o108, .unset]) (plainFor_of_name pn_com_example_libring_libring_core_RingPoint) hw Z0 (fun m => by first | (simp [entryFrame, mkF, argsToLocals, Value.category]; done) | rfl) ?_
  intro p e s m below meth c T Q' G' hQ hG C X
  have Kp : Keep h0 h0 [] := Keep.refl _ _
  refine s_aloadN 1 C X d6_0 rfl rfl ?_
  refine s_instY 4 C X d6_1 (mW 42 rfl) (Ins.self E_o108) (fun T X => ?_)
  refine s_if_ne 9 7 C X d6_4 (fun _ => ?_) (fun c => absurd c (by decide))
  refine s_aloadN 10 C X d6_9 rfl rfl ?_
  refine s_castY 13 C X d6_10 (mW 42 rfl) (Ins.self E_o108) (fun T X => ?_)
  refine s_astoreN 14 C X (l' := #[rv o108, rv o108, rv o108]) d6_13 rfl rfl ?_
  refine s_aloadN 15 C X d6_14 rfl rfl ?_
  refine s_getfield 18 C X (host := "") d6_15 (Or.inl (mW 33 rfl)) Via.refl F_o108_position (fun T X => ?_)
  refine s_aloadN 19 C X d6_18 rfl rfl ?_
  refine s_getfield 22 C X (host := "") d6_19 (Or.inl (mW 33 rfl)) Via.refl F_o108_position (fun T X => ?_)
  refine s_lcmp 23 C X d6_22 ?_
  refine s_if_ne 44 26 C X d6_23 (fun c => absurd (own_cmp0 _) c) (fun c23_188 => ?_)
  refine s_aloadN 27 C X d6_26 rfl rfl ?_
  refine s_getfield 30 C X (host := "") d6_27 (Or.inl (mW 35 rfl)) Via.refl F_o108_node (fun T X => ?_)
  refine s_aloadN 31 C X d6_30 rfl rfl ?_
  refine s_getfield 34 C X (host := "") d6_31 (Or.inl (mW 35 rfl)) Via.refl F_o108_node (fun T X => ?_)
  refine s_callV 37 [(.ref o26)] [] 0 C X d6_34 (mW 44 rfl) (mW 45 rfl) (notFace_of_selects (args := #[]) (mvT C.2.1 (C.w (mW 47 rfl)))) (mW 47 rfl) (mW 46 rfl) (mW 6 rfl) (mW 48 rfl) E_o26 (rm_a190 l Z a0 hw o26 _ n0 X.sz ) (lenOf pd__Ljava_lang_Object__Z rfl) rfl rfl rfl (fun T v hh X q => ?_)
  obtain ⟨rfl, Kc⟩ := q
  have Kp := Kp.trans Kc all0
  refine Run.cast (st' := [(.int i1)]) rfl ?_
  refine s_if_eq 44 40 C X d6_37 (fun c => absurd c (by decide)) (fun _ => ?_)
  refine s_iconst 41 C X d6_40 kc_iconst_1 ?_
  refine s_goto 45 C X d6_41 ?_
  refine s_nreturn C X d6_45 rfl (by simp) rfl ?_ (FG hG (by decide) (by decide))
  exact hQ _ _ ⟨rfl, Kp⟩
theorem rm_a195 (l : Launch) (Z : State) (a0 : Array Value) (hw : ∀ d ∈ tables_1, d.before a0 Z = true) (o26 : Addr) (o108 : Addr) (h0 : Heap) (n0 : Nat) (Z0 : n0 ≤ h0.size) (E_o26 : Exa Z h0 o26 "java/lang/String") :
    Met l Z (⟨"com/example/libring/libring/core/RingPoint", "equals", "(Ljava/lang/Object;)Z"⟩ : MethodName) prog_9_method_4_code 3 (some .boolean) { frames := 0, cells := 0, slots := 0, locals := 0 } [] #[(.ref o108), (.ref o26)] h0 n0 (fun v h => v = some (.int i0) ∧ Keep h0 h []) := by
  refine Met.mkQ (tabs := tables_1) (a0 := a0) (ls0 := #[rv o108, rv o26, .unset]) (plainFor_of_name pn_com_example_libring_libring_core_RingPoint) hw Z0 (fun m => by first | (simp [entryFrame, mkF, argsToLocals, Value.category]; done) | rfl) ?_
  intro p e s m below meth c T Q' G' hQ hG C X
  have Kp : Keep h0 h0 [] := Keep.refl _ _
  refine s_aloadN 1 C X d6_0 rfl rfl ?_
  refine s_instN 4 C X d6_1 (mW 42 rfl) E_o26 (own_no (C.w (mW 49 rfl)) (C.w (mW 50 rfl)) (C.w (mW 27 rfl))) (fun T X => ?_)
  refine s_if_ne 9 7 C X d6_4 (fun c => absurd (by decide : i0 = i0) c) (fun _ => ?_)
  refine s_iconst 8 C X d6_7 kc_iconst_0 ?_
  refine s_nreturn C X d6_8 rfl (by simp) rfl ?_ (FG hG (by decide) (by decide))
  exact hQ _ _ ⟨rfl, Kp⟩
theorem rm_a198 (l : Launch) (Z : State) (a0 : Array Value) (hw : ∀ d ∈ tables_1, d.before a0 Z = true) (o108 : Addr) (h0 : Heap) (n0 : Nat) (Z0 : n0 ≤ h0.size)  :
    Met l Z (⟨"com/example/libring/libring/core/RingPoint", "equals", "(Ljava/lang/Object;)Z"⟩ : MethodName) prog_9_method_4_code 3 (some .boolean) { frames := 0, cells := 0, slots := 0, locals := 0 } [] #[(.ref o108), .null] h0 n0 (fun v h => v = some (.int i0) ∧ Keep h0 h []) := by
  refine Met.mkQ (tabs := tables_1) (a0 := a0) (ls0 := #[rv o108, .val .null, .unset]) (plainFor_of_name pn_com_example_libring_libring_core_RingPoint) hw Z0 (fun m => by first | (simp [entryFrame, mkF, argsToLocals, Value.category]; done) | rfl) ?_
  intro p e s m below meth c T Q' G' hQ hG C X
  have Kp : Keep h0 h0 [] := Keep.refl _ _
  refine s_aloadN 1 C X d6_0 rfl rfl ?_
  refine s_instNull 4 C X d6_1 ?_
  refine s_if_ne 9 7 C X d6_4 (fun c => absurd (by decide : i0 = i0) c) (fun _ => ?_)
  refine s_iconst 8 C X d6_7 kc_iconst_0 ?_
  refine s_nreturn C X d6_8 rfl (by simp) rfl ?_ (FG hG (by decide) (by decide))
  exact hQ _ _ ⟨rfl, Kp⟩
theorem rm_a201 (l : Launch) (Z : State) (a0 : Array Value) (hw : ∀ d ∈ tables_1, d.before a0 Z = true) (a : Int64) (o26 : Addr) (o200 : Addr) (h0 : Heap) (n0 : Nat) (Z0 : n0 ≤ h0.size) (E_o200 : Exa Z h0 o200 "com/example/libring/libring/core/RingPoint") (F_o200_position : Fld Z h0 o200 "com/example/libring/libring/core/RingPoint" "position" "J" (.long j0)) (F_o200_node : Fld Z h0 o200 "com/example/libring/libring/core/RingPoint" "node" "Ljava/lang/String;" .null) (g_o200 : n0 ≤ o200) :
    Met l Z (⟨"com/example/libring/libring/core/RingPoint", "<init>", "(JLjava/lang/String;)V"⟩ : MethodName) prog_9_method_1_code 4 none { frames := 1, cells := 0, slots := 0, locals := 12 } [] #[(.ref o200), (.long a), (.ref o26)] h0 n0 (fun v h => v = none ∧ Exa Z h o200 "com/example/libring/libring/core/RingPoint" ∧ Fld Z h o200 "com/example/libring/libring/core/RingPoint" "position" "J" (.long a) ∧ Fld Z h o200 "com/example/libring/libring/core/RingPoint" "node" "Ljava/lang/String;" (.ref o26) ∧ Keep h0 h [o200]) := by
  refine Met.mkQ (tabs := tables_1) (a0 := a0) (ls0 := #[rv o200, lv a, .second, rv o26]) (plainFor_of_name pn_com_example_libring_libring_core_RingPoint) hw Z0 (fun m => by first | (simp [entryFrame, mkF, argsToLocals, Value.category]; done) | rfl) ?_
  intro p e s m below meth c T Q' G' hQ hG C X
  have Kp : Keep h0 h0 [o200] := Keep.refl _ _
  refine s_aloadN 1 C X d5_0 rfl rfl ?_
  refine s_objInit 4 C X d5_1 (mW 32 rfl) (mW 16 rfl) (mW 17 rfl) rfl (W := 0) rfl (by decide) (fun T X => ?_)
  refine s_aloadN 5 C X d5_4 rfl rfl ?_
  refine s_lloadN 6 C X d5_5 rfl ?_
  refine s_putfield 9 C X (host := "") d5_6 (Or.inl (mW 33 rfl)) Via.refl F_o200_position E_o200 (Or.inr ⟨(mW 34 rfl), rfl, rfl⟩) (mW 27 rfl) (ty := .long) (by decide) rfl rfl g_o200 (fun T hh X W => ?_)
  have E_o200 := E_o200.wr W
  have F_o200_position := F_o200_position.same W
  have F_o200_node := oth F_o200_node W (Or.inr (hw _ (mW 36 rfl))) (Or.inr (hw _ (mW 34 rfl))) (by decide)
  have Kp := Kp.wr W (Or.inl (by simp))
  refine s_aloadN 10 C X d5_9 rfl rfl ?_
  refine s_aloadN 11 C X d5_10 rfl rfl ?_
  refine s_putfield 14 C X (host := "") d5_11 (Or.inl (mW 35 rfl)) Via.refl F_o200_node E_o200 (Or.inr ⟨(mW 36 rfl), rfl, rfl⟩) (mW 27 rfl) (ty := (.object "java/lang/String")) (by decide) rfl rfl g_o200 (fun T hh X W => ?_)
  have E_o200 := E_o200.wr W
  have F_o200_position := oth F_o200_position W (Or.inr (hw _ (mW 34 rfl))) (Or.inr (hw _ (mW 36 rfl))) (by decide)
  have F_o200_node := F_o200_node.same W
  have Kp := Kp.wr W (Or.inl (by simp))
  refine s_return C X d5_14 rfl ?_ (FG hG (by decide) (by decide))
  exact hQ _ _ ⟨rfl, E_o200, F_o200_position, F_o200_node, Kp⟩
theorem rm_a203 (l : Launch) (Z : State) (a0 : Array Value) (hw : ∀ d ∈ tables_1, d.before a0 Z = true) (y3 : Int64) (o84 : Addr) (o202 : Addr) (h0 : Heap) (n0 : Nat) (Z0 : n0 ≤ h0.size) (E_o202 : Exa Z h0 o202 "com/example/libring/libring/core/RingPoint") (F_o202_position : Fld Z h0 o202 "com/example/libring/libring/core/RingPoint" "position" "J" (.long j0)) (F_o202_node : Fld Z h0 o202 "com/example/libring/libring/core/RingPoint" "node" "Ljava/lang/String;" .null) (g_o202 : n0 ≤ o202) :
    Met l Z (⟨"com/example/libring/libring/core/RingPoint", "<init>", "(JLjava/lang/String;)V"⟩ : MethodName) prog_9_method_1_code 4 none { frames := 1, cells := 0, slots := 0, locals := 12 } [] #[(.ref o202), (.long y3), (.ref o84)] h0 n0 (fun v h => v = none ∧ Exa Z h o202 "com/example/libring/libring/core/RingPoint" ∧ Fld Z h o202 "com/example/libring/libring/core/RingPoint" "position" "J" (.long y3) ∧ Fld Z h o202 "com/example/libring/libring/core/RingPoint" "node" "Ljava/lang/String;" (.ref o84) ∧ Keep h0 h [o202]) := by
  refine Met.mkQ (tabs := tables_1) (a0 := a0) (ls0 := #[rv o202, lv y3, .second, rv o84]) (plainFor_of_name pn_com_example_libring_libring_core_RingPoint) hw Z0 (fun m => by first | (simp [entryFrame, mkF, argsToLocals, Value.category]; done) | rfl) ?_
  intro p e s m below meth c T Q' G' hQ hG C X
  have Kp : Keep h0 h0 [o202] := Keep.refl _ _
  refine s_aloadN 1 C X d5_0 rfl rfl ?_
  refine s_objInit 4 C X d5_1 (mW 32 rfl) (mW 16 rfl) (mW 17 rfl) rfl (W := 0) rfl (by decide) (fun T X => ?_)
  refine s_aloadN 5 C X d5_4 rfl rfl ?_
  refine s_lloadN 6 C X d5_5 rfl ?_
  refine s_putfield 9 C X (host := "") d5_6 (Or.inl (mW 33 rfl)) Via.refl F_o202_position E_o202 (Or.inr ⟨(mW 34 rfl), rfl, rfl⟩) (mW 27 rfl) (ty := .long) (by decide) rfl rfl g_o202 (fun T hh X W => ?_)
  have E_o202 := E_o202.wr W
  have F_o202_position := F_o202_position.same W
  have F_o202_node := oth F_o202_node W (Or.inr (hw _ (mW 36 rfl))) (Or.inr (hw _ (mW 34 rfl))) (by decide)
  have Kp := Kp.wr W (Or.inl (by simp))
  refine s_aloadN 10 C X d5_9 rfl rfl ?_
  refine s_aloadN 11 C X d5_10 rfl rfl ?_
  refine s_putfield 14 C X (host := "") d5_11 (Or.inl (mW 35 rfl)) Via.refl F_o202_node E_o202 (Or.inr ⟨(mW 36 rfl), rfl, rfl⟩) (mW 27 rfl) (ty := (.object "java/lang/String")) (by decide) rfl rfl g_o202 (fun T hh X W => ?_)
  have E_o202 := E_o202.wr W
  have F_o202_position := oth F_o202_position W (Or.inr (hw _ (mW 34 rfl))) (Or.inr (hw _ (mW 36 rfl))) (by decide)
  have F_o202_node := F_o202_node.same W
  have Kp := Kp.wr W (Or.inl (by simp))
  refine s_return C X d5_14 rfl ?_ (FG hG (by decide) (by decide))
  exact hQ _ _ ⟨rfl, E_o202, F_o202_position, F_o202_node, Kp⟩
theorem rm_a226 (l : Launch) (Z : State) (a0 : Array Value) (hw : ∀ d ∈ tables_1, d.before a0 Z = true) (ca6 : Int32) (cb7 : Int32) (y18 : Int32) (o30 : Addr) (k_o30 : ClassId) (o88 : Addr) (k_o88 : ClassId) (h0 : Heap) (n0 : Nat) (Z0 : n0 ≤ h0.size) (A_o30 : Arv Z h0 o30 k_o30 .byte i2 [(.int (bv ca6)), (.int (bv cb7))] (.int i0)) (A_o88 : Arv Z h0 o88 k_o88 .byte i1 [(.int (bv y18))] (.int i0)) :
    Met l Z (⟨"java/lang/StringLatin1", "equals", "([B[B)Z"⟩ : MethodName) jdk_43_method_13_code 3 (some .boolean) { frames := 0, cells := 0, slots := 0, locals := 0 } [] #[(.ref o30), (.ref o88)] h0 n0 (fun v h => v = some (.int i0) ∧ Keep h0 h []) := by
  refine Met.mkQ (tabs := tables_1) (a0 := a0) (ls0 := #[rv o30, rv o88, .unset]) (plainFor_of_name pn_java_lang_StringLatin1) hw Z0 (fun m => by first | (simp [entryFrame, mkF, argsToLocals, Value.category]; done) | rfl) ?_
  intro p e s m below meth c T Q' G' hQ hG C X
  have Kp : Keep h0 h0 [] := Keep.refl _ _
  refine s_aloadN 1 C X d11_0 rfl rfl ?_
  refine s_arraylength 2 C X d11_1 A_o30 ?_
  refine s_aloadN 3 C X d11_2 rfl rfl ?_
  refine s_arraylength 4 C X d11_3 A_o88 ?_
  refine s_icmp_ne 34 7 C X d11_4 (fun _ => ?_) (fun c => absurd c (by decide))
  refine s_iconst 35 C X d11_34 kc_iconst_0 ?_
  refine s_nreturn C X d11_35 rfl (by simp) rfl ?_ (FG hG (by decide) (by decide))
  exact hQ _ _ ⟨rfl, Kp⟩
theorem rm_a228 (l : Launch) (Z : State) (a0 : Array Value) (hw : ∀ d ∈ tables_1, d.before a0 Z = true) (cs : Int32) (ca6 : Int32) (cb7 : Int32) (y18 : Int32) (o26 : Addr) (o30 : Addr) (k_o30 : ClassId) (o84 : Addr) (o88 : Addr) (k_o88 : ClassId) (h0 : Heap) (n0 : Nat) (Z0 : n0 ≤ h0.size) (S_cs : Sta Z Z.heap "java/lang/String" "COMPACT_STRINGS" "Z" (.int cs)) (F_o26_value : Fld Z h0 o26 "java/lang/String" "value" "[B" (.ref o30)) (F_o26_coder : Fld Z h0 o26 "java/lang/String" "coder" "B" (.int i0)) (A_o30 : Arv Z h0 o30 k_o30 .byte i2 [(.int (bv ca6)), (.int (bv cb7))] (.int i0)) (Od : Old Z n0 h0) (E_o84 : Exa Z h0 o84 "java/lang/String") (F_o84_value : Fld Z h0 o84 "java/lang/String" "value" "[B" (.ref o88)) (F_o84_coder : Fld Z h0 o84 "java/lang/String" "coder" "B" (.int i0)) (A_o88 : Arv Z h0 o88 k_o88 .byte i1 [(.int (bv y18))] (.int i0)) (hv_cs : ¬ cs = i0) (ne_o26_o84 : o26 ≠ o84) :
    Met l Z (⟨"java/lang/String", "equals", "(Ljava/lang/Object;)Z"⟩ : MethodName) jdk_42_method_66_code 3 (some .boolean) { frames := 1, cells := 0, slots := 0, locals := 14 } [] #[(.ref o26), (.ref o84)] h0 n0 (fun v h => v = some (.int i0) ∧ Old Z n0 h ∧ Keep h0 h []) := by
  refine Met.mkQ (tabs := tables_1) (a0 := a0) (ls0 := #[rv o26, rv o84, .unset]) (plainFor_of_name pn_java_lang_String) hw Z0 (fun m => by first | (simp [entryFrame, mkF, argsToLocals, Value.category]; done) | rfl) ?_
  intro p e s m below meth c T Q' G' hQ hG C X
  have Kp : Keep h0 h0 [] := Keep.refl _ _
  refine s_aloadN 1 C X d7_0 rfl rfl ?_
  refine s_aloadN 2 C X d7_1 rfl rfl ?_
  refine s_acmp_ne 7 5 C X d7_2 rfl rfl (fun c2_221 => ?_) (fun c => absurd (Value.ref.inj c) ne_o26_o84)
  refine s_aloadN 8 C X d7_7 rfl rfl ?_
  refine s_instY 11 C X d7_8 (mW 62 rfl) (Ins.self E_o84) (fun T X => ?_)
  refine s_if_eq 54 14 C X d7_11 (fun c => absurd c (by decide)) (fun _ => ?_)
  refine s_aloadN 15 C X d7_14 rfl rfl ?_
  refine s_castY 18 C X d7_15 (mW 62 rfl) (Ins.self E_o84) (fun T X => ?_)
  refine s_astoreN 19 C X (l' := #[rv o26, rv o84, rv o84]) d7_18 rfl rfl ?_
  refine s_getstatic 22 C X (host := "") d7_19 (Or.inl (mW 51 rfl)) Via.refl (S_cs.ext Od.2) (fun T X => ?_)
  refine s_if_eq 36 25 C X d7_22 (fun c => absurd c hv_cs) (fun c22_223 => ?_)
  refine s_aloadN 26 C X d7_25 rfl rfl ?_
  refine s_getfield 29 C X (host := "") d7_26 (Or.inl (mW 25 rfl)) Via.refl F_o26_coder (fun T X => ?_)
  refine s_aloadN 30 C X d7_29 rfl rfl ?_
  refine s_getfield 33 C X (host := "") d7_30 (Or.inl (mW 25 rfl)) Via.refl F_o84_coder (fun T X => ?_)
  refine s_icmp_ne 54 36 C X d7_33 (fun c => absurd (by decide : i0 = i0) c) (fun _ => ?_)
  refine s_aloadN 37 C X d7_36 rfl rfl ?_
  refine s_getfield 40 C X (host := "") d7_37 (Or.inl (mW 24 rfl)) Via.refl F_o26_value (fun T X => ?_)
  refine s_aloadN 41 C X d7_40 rfl rfl ?_
  refine s_getfield 44 C X (host := "") d7_41 (Or.inl (mW 24 rfl)) Via.refl F_o84_value (fun T X => ?_)
  refine s_callS 47 [(.ref o30), (.ref o88)] [] 0 C X d7_44 (mW 63 rfl) (mW 64 rfl) (mW 65 rfl) (mW 66 rfl) (rm_a226 l Z a0 hw ca6 cb7 y18 o30 k_o30 o88 k_o88 _ n0 X.sz A_o30 A_o88) (lenOf pd___B_B_Z rfl) rfl rfl rfl (fun T v hh X q => ?_)
  obtain ⟨rfl, Kc⟩ := q
  have Od := Od.keep Kc all0
  have Kp := Kp.trans Kc all0
  refine Run.cast (st' := [(.int i0)]) rfl ?_
  refine s_if_eq 54 50 C X d7_47 (fun _ => ?_) (fun c => absurd (by decide : i0 = i0) c)
  refine s_iconst 55 C X d7_54 kc_iconst_0 ?_
  refine s_nreturn C X d7_55 rfl (by simp) rfl ?_ (FG hG (by decide) (by decide))
  exact hQ _ _ ⟨rfl, Od, Kp⟩
theorem rm_a230 (l : Launch) (Z : State) (a0 : Array Value) (hw : ∀ d ∈ tables_1, d.before a0 Z = true) (a : Int64) (cs : Int32) (y3 : Int64) (ca6 : Int32) (cb7 : Int32) (y18 : Int32) (o26 : Addr) (o30 : Addr) (k_o30 : ClassId) (o84 : Addr) (o88 : Addr) (k_o88 : ClassId) (o200 : Addr) (o202 : Addr) (h0 : Heap) (n0 : Nat) (Z0 : n0 ≤ h0.size) (S_cs : Sta Z Z.heap "java/lang/String" "COMPACT_STRINGS" "Z" (.int cs)) (E_o26 : Exa Z h0 o26 "java/lang/String") (F_o26_value : Fld Z h0 o26 "java/lang/String" "value" "[B" (.ref o30)) (F_o26_coder : Fld Z h0 o26 "java/lang/String" "coder" "B" (.int i0)) (A_o30 : Arv Z h0 o30 k_o30 .byte i2 [(.int (bv ca6)), (.int (bv cb7))] (.int i0)) (Od : Old Z n0 h0) (E_o84 : Exa Z h0 o84 "java/lang/String") (F_o84_value : Fld Z h0 o84 "java/lang/String" "value" "[B" (.ref o88)) (F_o84_coder : Fld Z h0 o84 "java/lang/String" "coder" "B" (.int i0)) (A_o88 : Arv Z h0 o88 k_o88 .byte i1 [(.int (bv y18))] (.int i0)) (F_o200_position : Fld Z h0 o200 "com/example/libring/libring/core/RingPoint" "position" "J" (.long a)) (F_o200_node : Fld Z h0 o200 "com/example/libring/libring/core/RingPoint" "node" "Ljava/lang/String;" (.ref o26)) (E_o202 : Exa Z h0 o202 "com/example/libring/libring/core/RingPoint") (F_o202_position : Fld Z h0 o202 "com/example/libring/libring/core/RingPoint" "position" "J" (.long y3)) (F_o202_node : Fld Z h0 o202 "com/example/libring/libring/core/RingPoint" "node" "Ljava/lang/String;" (.ref o84)) (hv_cs : ¬ cs = i0) (ne_o26_o84 : o26 ≠ o84) :
    Met l Z (⟨"com/example/libring/libring/core/RingPoint", "equals", "(Ljava/lang/Object;)Z"⟩ : MethodName) prog_9_method_4_code 3 (some .boolean) { frames := 2, cells := 0, slots := 0, locals := 28 } [] #[(.ref o200), (.ref o202)] h0 n0 (fun v h => ∃ (y231 : Int32), v = some (.int y231) ∧ (((¬ ((a).toInt = (y3).toInt)) ∧ y231 = i0) ∨ (((a).toInt = (y3).toInt) ∧ y231 = i0)) ∧ Old Z n0 h ∧ Keep h0 h []) := by
  refine Met.mkQ (tabs := tables_1) (a0 := a0) (ls0 := #[rv o200, rv o202, .unset]) (plainFor_of_name pn_com_example_libring_libring_core_RingPoint) hw Z0 (fun m => by first | (simp [entryFrame, mkF, argsToLocals, Value.category]; done) | rfl) ?_
  intro p e s m below meth c T Q' G' hQ hG C X
  have Kp : Keep h0 h0 [] := Keep.refl _ _
  refine s_aloadN 1 C X d6_0 rfl rfl ?_
  refine s_instY 4 C X d6_1 (mW 42 rfl) (Ins.self E_o202) (fun T X => ?_)
  refine s_if_ne 9 7 C X d6_4 (fun _ => ?_) (fun c => absurd c (by decide))
  refine s_aloadN 10 C X d6_9 rfl rfl ?_
  refine s_castY 13 C X d6_10 (mW 42 rfl) (Ins.self E_o202) (fun T X => ?_)
  refine s_astoreN 14 C X (l' := #[rv o200, rv o202, rv o202]) d6_13 rfl rfl ?_
  refine s_aloadN 15 C X d6_14 rfl rfl ?_
  refine s_getfield 18 C X (host := "") d6_15 (Or.inl (mW 33 rfl)) Via.refl F_o200_position (fun T X => ?_)
  refine s_aloadN 19 C X d6_18 rfl rfl ?_
  refine s_getfield 22 C X (host := "") d6_19 (Or.inl (mW 33 rfl)) Via.refl F_o202_position (fun T X => ?_)
  refine s_lcmp 23 C X d6_22 ?_
  refine s_if_ne 44 26 C X d6_23 (fun c23_220 => ?_) (fun c23_220 => ?_)
  · have t_c23_220 : ¬ ((a).toInt = (y3).toInt) := fun q => c23_220 (cl_eq.mpr q)
    refine s_iconst 45 C X d6_44 kc_iconst_0 ?_
    refine s_nreturn C X d6_45 rfl (by simp) rfl ?_ (FG hG (by decide) (by decide))
    exact hQ _ _ ⟨i0, rfl, (Or.inl ⟨t_c23_220, rfl⟩), Od, Kp⟩
  have t_c23_220 : (a).toInt = (y3).toInt := cl_eq.mp c23_220
  refine s_aloadN 27 C X d6_26 rfl rfl ?_
  refine s_getfield 30 C X (host := "") d6_27 (Or.inl (mW 35 rfl)) Via.refl F_o200_node (fun T X => ?_)
  refine s_aloadN 31 C X d6_30 rfl rfl ?_
  refine s_getfield 34 C X (host := "") d6_31 (Or.inl (mW 35 rfl)) Via.refl F_o202_node (fun T X => ?_)
  refine s_callV 37 [(.ref o84)] [] 0 C X d6_34 (mW 44 rfl) (mW 45 rfl) (notFace_of_selects (args := #[]) (mvT C.2.1 (C.w (mW 47 rfl)))) (mW 47 rfl) (mW 46 rfl) (mW 6 rfl) (mW 48 rfl) E_o26 (rm_a228 l Z a0 hw cs ca6 cb7 y18 o26 o30 k_o30 o84 o88 k_o88 _ n0 X.sz S_cs F_o26_value F_o26_coder A_o30 Od E_o84 F_o84_value F_o84_coder A_o88 hv_cs ne_o26_o84) (lenOf pd__Ljava_lang_Object__Z rfl) rfl rfl rfl (fun T v hh X q => ?_)
  obtain ⟨rfl, Od, Kc⟩ := q
  have Kp := Kp.trans Kc all0
  refine Run.cast (st' := [(.int i0)]) rfl ?_
  refine s_if_eq 44 40 C X d6_37 (fun _ => ?_) (fun c => absurd (by decide : i0 = i0) c)
  refine s_iconst 45 C X d6_44 kc_iconst_0 ?_
  refine s_nreturn C X d6_45 rfl (by simp) rfl ?_ (FG hG (by decide) (by decide))
  exact hQ _ _ ⟨i0, rfl, (Or.inr ⟨t_c23_220, rfl⟩), Od, Kp⟩
theorem rm_a241 (l : Launch) (Z : State) (a0 : Array Value) (hw : ∀ d ∈ tables_1, d.before a0 Z = true) (ca6 : Int32) (cb7 : Int32) (y18 : Int32) (o30 : Addr) (k_o30 : ClassId) (o88 : Addr) (k_o88 : ClassId) (h0 : Heap) (n0 : Nat) (Z0 : n0 ≤ h0.size) (A_o30 : Arv Z h0 o30 k_o30 .byte i2 [(.int (bv ca6)), (.int (bv cb7))] (.int i0)) (A_o88 : Arv Z h0 o88 k_o88 .byte i1 [(.int (bv y18))] (.int i0)) :
    Met l Z (⟨"java/lang/StringLatin1", "equals", "([B[B)Z"⟩ : MethodName) jdk_43_method_13_code 3 (some .boolean) { frames := 0, cells := 0, slots := 0, locals := 0 } [] #[(.ref o88), (.ref o30)] h0 n0 (fun v h => v = some (.int i0) ∧ Keep h0 h []) := by
  refine Met.mkQ (tabs := tables_1) (a0 := a0) (ls0 := #[rv o88, rv o30, .unset]) (plainFor_of_name pn_java_lang_StringLatin1) hw Z0 (fun m => by first | (simp [entryFrame, mkF, argsToLocals, Value.category]; done) | rfl) ?_
  intro p e s m below meth c T Q' G' hQ hG C X
  have Kp : Keep h0 h0 [] := Keep.refl _ _
  refine s_aloadN 1 C X d11_0 rfl rfl ?_
  refine s_arraylength 2 C X d11_1 A_o88 ?_
  refine s_aloadN 3 C X d11_2 rfl rfl ?_
  refine s_arraylength 4 C X d11_3 A_o30 ?_
  refine s_icmp_ne 34 7 C X d11_4 (fun _ => ?_) (fun c => absurd c (by decide))
  refine s_iconst 35 C X d11_34 kc_iconst_0 ?_
  refine s_nreturn C X d11_35 rfl (by simp) rfl ?_ (FG hG (by decide) (by decide))
  exact hQ _ _ ⟨rfl, Kp⟩
theorem rm_a243 (l : Launch) (Z : State) (a0 : Array Value) (hw : ∀ d ∈ tables_1, d.before a0 Z = true) (cs : Int32) (ca6 : Int32) (cb7 : Int32) (y18 : Int32) (o26 : Addr) (o30 : Addr) (k_o30 : ClassId) (o84 : Addr) (o88 : Addr) (k_o88 : ClassId) (h0 : Heap) (n0 : Nat) (Z0 : n0 ≤ h0.size) (S_cs : Sta Z Z.heap "java/lang/String" "COMPACT_STRINGS" "Z" (.int cs)) (E_o26 : Exa Z h0 o26 "java/lang/String") (F_o26_value : Fld Z h0 o26 "java/lang/String" "value" "[B" (.ref o30)) (F_o26_coder : Fld Z h0 o26 "java/lang/String" "coder" "B" (.int i0)) (A_o30 : Arv Z h0 o30 k_o30 .byte i2 [(.int (bv ca6)), (.int (bv cb7))] (.int i0)) (F_o84_value : Fld Z h0 o84 "java/lang/String" "value" "[B" (.ref o88)) (F_o84_coder : Fld Z h0 o84 "java/lang/String" "coder" "B" (.int i0)) (A_o88 : Arv Z h0 o88 k_o88 .byte i1 [(.int (bv y18))] (.int i0)) (Od : Old Z n0 h0) (hv_cs : ¬ cs = i0) (ne_o26_o84 : o26 ≠ o84) :
    Met l Z (⟨"java/lang/String", "equals", "(Ljava/lang/Object;)Z"⟩ : MethodName) jdk_42_method_66_code 3 (some .boolean) { frames := 1, cells := 0, slots := 0, locals := 14 } [] #[(.ref o84), (.ref o26)] h0 n0 (fun v h => v = some (.int i0) ∧ Old Z n0 h ∧ Keep h0 h []) := by
  refine Met.mkQ (tabs := tables_1) (a0 := a0) (ls0 := #[rv o84, rv o26, .unset]) (plainFor_of_name pn_java_lang_String) hw Z0 (fun m => by first | (simp [entryFrame, mkF, argsToLocals, Value.category]; done) | rfl) ?_
  intro p e s m below meth c T Q' G' hQ hG C X
  have Kp : Keep h0 h0 [] := Keep.refl _ _
  refine s_aloadN 1 C X d7_0 rfl rfl ?_
  refine s_aloadN 2 C X d7_1 rfl rfl ?_
  refine s_acmp_ne 7 5 C X d7_2 rfl rfl (fun c2_236 => ?_) (fun c => absurd (Value.ref.inj c) (Ne.symm ne_o26_o84))
  refine s_aloadN 8 C X d7_7 rfl rfl ?_
  refine s_instY 11 C X d7_8 (mW 62 rfl) (Ins.self E_o26) (fun T X => ?_)
  refine s_if_eq 54 14 C X d7_11 (fun c => absurd c (by decide)) (fun _ => ?_)
  refine s_aloadN 15 C X d7_14 rfl rfl ?_
  refine s_castY 18 C X d7_15 (mW 62 rfl) (Ins.self E_o26) (fun T X => ?_)
  refine s_astoreN 19 C X (l' := #[rv o84, rv o26, rv o26]) d7_18 rfl rfl ?_
  refine s_getstatic 22 C X (host := "") d7_19 (Or.inl (mW 51 rfl)) Via.refl (S_cs.ext Od.2) (fun T X => ?_)
  refine s_if_eq 36 25 C X d7_22 (fun c => absurd c hv_cs) (fun c22_238 => ?_)
  refine s_aloadN 26 C X d7_25 rfl rfl ?_
  refine s_getfield 29 C X (host := "") d7_26 (Or.inl (mW 25 rfl)) Via.refl F_o84_coder (fun T X => ?_)
  refine s_aloadN 30 C X d7_29 rfl rfl ?_
  refine s_getfield 33 C X (host := "") d7_30 (Or.inl (mW 25 rfl)) Via.refl F_o26_coder (fun T X => ?_)
  refine s_icmp_ne 54 36 C X d7_33 (fun c => absurd (by decide : i0 = i0) c) (fun _ => ?_)
  refine s_aloadN 37 C X d7_36 rfl rfl ?_
  refine s_getfield 40 C X (host := "") d7_37 (Or.inl (mW 24 rfl)) Via.refl F_o84_value (fun T X => ?_)
  refine s_aloadN 41 C X d7_40 rfl rfl ?_
  refine s_getfield 44 C X (host := "") d7_41 (Or.inl (mW 24 rfl)) Via.refl F_o26_value (fun T X => ?_)
  refine s_callS 47 [(.ref o88), (.ref o30)] [] 0 C X d7_44 (mW 63 rfl) (mW 64 rfl) (mW 65 rfl) (mW 66 rfl) (rm_a241 l Z a0 hw ca6 cb7 y18 o30 k_o30 o88 k_o88 _ n0 X.sz A_o30 A_o88) (lenOf pd___B_B_Z rfl) rfl rfl rfl (fun T v hh X q => ?_)
  obtain ⟨rfl, Kc⟩ := q
  have Od := Od.keep Kc all0
  have Kp := Kp.trans Kc all0
  refine Run.cast (st' := [(.int i0)]) rfl ?_
  refine s_if_eq 54 50 C X d7_47 (fun _ => ?_) (fun c => absurd (by decide : i0 = i0) c)
  refine s_iconst 55 C X d7_54 kc_iconst_0 ?_
  refine s_nreturn C X d7_55 rfl (by simp) rfl ?_ (FG hG (by decide) (by decide))
  exact hQ _ _ ⟨rfl, Od, Kp⟩
theorem rm_a245 (l : Launch) (Z : State) (a0 : Array Value) (hw : ∀ d ∈ tables_1, d.before a0 Z = true) (a : Int64) (cs : Int32) (y3 : Int64) (ca6 : Int32) (cb7 : Int32) (y18 : Int32) (o26 : Addr) (o30 : Addr) (k_o30 : ClassId) (o84 : Addr) (o88 : Addr) (k_o88 : ClassId) (o200 : Addr) (o202 : Addr) (h0 : Heap) (n0 : Nat) (Z0 : n0 ≤ h0.size) (S_cs : Sta Z Z.heap "java/lang/String" "COMPACT_STRINGS" "Z" (.int cs)) (E_o26 : Exa Z h0 o26 "java/lang/String") (F_o26_value : Fld Z h0 o26 "java/lang/String" "value" "[B" (.ref o30)) (F_o26_coder : Fld Z h0 o26 "java/lang/String" "coder" "B" (.int i0)) (A_o30 : Arv Z h0 o30 k_o30 .byte i2 [(.int (bv ca6)), (.int (bv cb7))] (.int i0)) (E_o84 : Exa Z h0 o84 "java/lang/String") (F_o84_value : Fld Z h0 o84 "java/lang/String" "value" "[B" (.ref o88)) (F_o84_coder : Fld Z h0 o84 "java/lang/String" "coder" "B" (.int i0)) (A_o88 : Arv Z h0 o88 k_o88 .byte i1 [(.int (bv y18))] (.int i0)) (E_o200 : Exa Z h0 o200 "com/example/libring/libring/core/RingPoint") (F_o200_position : Fld Z h0 o200 "com/example/libring/libring/core/RingPoint" "position" "J" (.long a)) (F_o200_node : Fld Z h0 o200 "com/example/libring/libring/core/RingPoint" "node" "Ljava/lang/String;" (.ref o26)) (F_o202_position : Fld Z h0 o202 "com/example/libring/libring/core/RingPoint" "position" "J" (.long y3)) (F_o202_node : Fld Z h0 o202 "com/example/libring/libring/core/RingPoint" "node" "Ljava/lang/String;" (.ref o84)) (Od : Old Z n0 h0) (hv_cs : ¬ cs = i0) (ne_o26_o84 : o26 ≠ o84) :
    Met l Z (⟨"com/example/libring/libring/core/RingPoint", "equals", "(Ljava/lang/Object;)Z"⟩ : MethodName) prog_9_method_4_code 3 (some .boolean) { frames := 2, cells := 0, slots := 0, locals := 28 } [] #[(.ref o202), (.ref o200)] h0 n0 (fun v h => ∃ (y246 : Int32), v = some (.int y246) ∧ (((¬ ((y3).toInt = (a).toInt)) ∧ y246 = i0) ∨ (((y3).toInt = (a).toInt) ∧ y246 = i0)) ∧ Old Z n0 h ∧ Keep h0 h []) := by
  refine Met.mkQ (tabs := tables_1) (a0 := a0) (ls0 := #[rv o202, rv o200, .unset]) (plainFor_of_name pn_com_example_libring_libring_core_RingPoint) hw Z0 (fun m => by first | (simp [entryFrame, mkF, argsToLocals, Value.category]; done) | rfl) ?_
  intro p e s m below meth c T Q' G' hQ hG C X
  have Kp : Keep h0 h0 [] := Keep.refl _ _
  refine s_aloadN 1 C X d6_0 rfl rfl ?_
  refine s_instY 4 C X d6_1 (mW 42 rfl) (Ins.self E_o200) (fun T X => ?_)
  refine s_if_ne 9 7 C X d6_4 (fun _ => ?_) (fun c => absurd c (by decide))
  refine s_aloadN 10 C X d6_9 rfl rfl ?_
  refine s_castY 13 C X d6_10 (mW 42 rfl) (Ins.self E_o200) (fun T X => ?_)
  refine s_astoreN 14 C X (l' := #[rv o202, rv o200, rv o200]) d6_13 rfl rfl ?_
  refine s_aloadN 15 C X d6_14 rfl rfl ?_
  refine s_getfield 18 C X (host := "") d6_15 (Or.inl (mW 33 rfl)) Via.refl F_o202_position (fun T X => ?_)
  refine s_aloadN 19 C X d6_18 rfl rfl ?_
  refine s_getfield 22 C X (host := "") d6_19 (Or.inl (mW 33 rfl)) Via.refl F_o200_position (fun T X => ?_)
  refine s_lcmp 23 C X d6_22 ?_
  refine s_if_ne 44 26 C X d6_23 (fun c23_235 => ?_) (fun c23_235 => ?_)
  · have t_c23_235 : ¬ ((y3).toInt = (a).toInt) := fun q => c23_235 (cl_eq.mpr q)
    refine s_iconst 45 C X d6_44 kc_iconst_0 ?_
    refine s_nreturn C X d6_45 rfl (by simp) rfl ?_ (FG hG (by decide) (by decide))
    exact hQ _ _ ⟨i0, rfl, (Or.inl ⟨t_c23_235, rfl⟩), Od, Kp⟩
  have t_c23_235 : (y3).toInt = (a).toInt := cl_eq.mp c23_235
  refine s_aloadN 27 C X d6_26 rfl rfl ?_
  refine s_getfield 30 C X (host := "") d6_27 (Or.inl (mW 35 rfl)) Via.refl F_o202_node (fun T X => ?_)
  refine s_aloadN 31 C X d6_30 rfl rfl ?_
  refine s_getfield 34 C X (host := "") d6_31 (Or.inl (mW 35 rfl)) Via.refl F_o200_node (fun T X => ?_)
  refine s_callV 37 [(.ref o26)] [] 0 C X d6_34 (mW 44 rfl) (mW 45 rfl) (notFace_of_selects (args := #[]) (mvT C.2.1 (C.w (mW 47 rfl)))) (mW 47 rfl) (mW 46 rfl) (mW 6 rfl) (mW 48 rfl) E_o84 (rm_a243 l Z a0 hw cs ca6 cb7 y18 o26 o30 k_o30 o84 o88 k_o88 _ n0 X.sz S_cs E_o26 F_o26_value F_o26_coder A_o30 F_o84_value F_o84_coder A_o88 Od hv_cs ne_o26_o84) (lenOf pd__Ljava_lang_Object__Z rfl) rfl rfl rfl (fun T v hh X q => ?_)
  obtain ⟨rfl, Od, Kc⟩ := q
  have Kp := Kp.trans Kc all0
  refine Run.cast (st' := [(.int i0)]) rfl ?_
  refine s_if_eq 44 40 C X d6_37 (fun _ => ?_) (fun c => absurd (by decide : i0 = i0) c)
  refine s_iconst 45 C X d6_44 kc_iconst_0 ?_
  refine s_nreturn C X d6_45 rfl (by simp) rfl ?_ (FG hG (by decide) (by decide))
  exact hQ _ _ ⟨i0, rfl, (Or.inr ⟨t_c23_235, rfl⟩), Od, Kp⟩
theorem rm_a254 (l : Launch) (Z : State) (a0 : Array Value) (hw : ∀ d ∈ tables_1, d.before a0 Z = true) (a : Int64) (o26 : Addr) (o200 : Addr) (h0 : Heap) (n0 : Nat) (Z0 : n0 ≤ h0.size) (E_o26 : Exa Z h0 o26 "java/lang/String") (E_o200 : Exa Z h0 o200 "com/example/libring/libring/core/RingPoint") (F_o200_position : Fld Z h0 o200 "com/example/libring/libring/core/RingPoint" "position" "J" (.long a)) (F_o200_node : Fld Z h0 o200 "com/example/libring/libring/core/RingPoint" "node" "Ljava/lang/String;" (.ref o26)) :
    Met l Z (⟨"com/example/libring/libring/core/RingPoint", "equals", "(Ljava/lang/Object;)Z"⟩ : MethodName) prog_9_method_4_code 3 (some .boolean) { frames := 1, cells := 0, slots := 0, locals := 14 } [] #[(.ref o200), (.ref o200)] h0 n0 (fun v h => v = some (.int i1) ∧ Keep h0 h []) := by
  refine Met.mkQ (tabs := tables_1) (a0 := a0) (ls0 := #[rv o200, rv o200, .unset]) (plainFor_of_name pn_com_example_libring_libring_core_RingPoint) hw Z0 (fun m => by first | (simp [entryFrame, mkF, argsToLocals, Value.category]; done) | rfl) ?_
  intro p e s m below meth c T Q' G' hQ hG C X
  have Kp : Keep h0 h0 [] := Keep.refl _ _
  refine s_aloadN 1 C X d6_0 rfl rfl ?_
  refine s_instY 4 C X d6_1 (mW 42 rfl) (Ins.self E_o200) (fun T X => ?_)
  refine s_if_ne 9 7 C X d6_4 (fun _ => ?_) (fun c => absurd c (by decide))
  refine s_aloadN 10 C X d6_9 rfl rfl ?_
  refine s_castY 13 C X d6_10 (mW 42 rfl) (Ins.self E_o200) (fun T X => ?_)
  refine s_astoreN 14 C X (l' := #[rv o200, rv o200, rv o200]) d6_13 rfl rfl ?_
  refine s_aloadN 15 C X d6_14 rfl rfl ?_
  refine s_getfield 18 C X (host := "") d6_15 (Or.inl (mW 33 rfl)) Via.refl F_o200_position (fun T X => ?_)
  refine s_aloadN 19 C X d6_18 rfl rfl ?_
  refine s_getfield 22 C X (host := "") d6_19 (Or.inl (mW 33 rfl)) Via.refl F_o200_position (fun T X => ?_)
  refine s_lcmp 23 C X d6_22 ?_
  refine s_if_ne 44 26 C X d6_23 (fun c => absurd (own_cmp0 _) c) (fun c23_250 => ?_)
  refine s_aloadN 27 C X d6_26 rfl rfl ?_
  refine s_getfield 30 C X (host := "") d6_27 (Or.inl (mW 35 rfl)) Via.refl F_o200_node (fun T X => ?_)
  refine s_aloadN 31 C X d6_30 rfl rfl ?_
  refine s_getfield 34 C X (host := "") d6_31 (Or.inl (mW 35 rfl)) Via.refl F_o200_node (fun T X => ?_)
  refine s_callV 37 [(.ref o26)] [] 0 C X d6_34 (mW 44 rfl) (mW 45 rfl) (notFace_of_selects (args := #[]) (mvT C.2.1 (C.w (mW 47 rfl)))) (mW 47 rfl) (mW 46 rfl) (mW 6 rfl) (mW 48 rfl) E_o26 (rm_a190 l Z a0 hw o26 _ n0 X.sz ) (lenOf pd__Ljava_lang_Object__Z rfl) rfl rfl rfl (fun T v hh X q => ?_)
  obtain ⟨rfl, Kc⟩ := q
  have Kp := Kp.trans Kc all0
  refine Run.cast (st' := [(.int i1)]) rfl ?_
  refine s_if_eq 44 40 C X d6_37 (fun c => absurd c (by decide)) (fun _ => ?_)
  refine s_iconst 41 C X d6_40 kc_iconst_1 ?_
  refine s_goto 45 C X d6_41 ?_
  refine s_nreturn C X d6_45 rfl (by simp) rfl ?_ (FG hG (by decide) (by decide))
  exact hQ _ _ ⟨rfl, Kp⟩
theorem rm_a257 (l : Launch) (Z : State) (a0 : Array Value) (hw : ∀ d ∈ tables_1, d.before a0 Z = true) (o26 : Addr) (o200 : Addr) (h0 : Heap) (n0 : Nat) (Z0 : n0 ≤ h0.size) (E_o26 : Exa Z h0 o26 "java/lang/String") :
    Met l Z (⟨"com/example/libring/libring/core/RingPoint", "equals", "(Ljava/lang/Object;)Z"⟩ : MethodName) prog_9_method_4_code 3 (some .boolean) { frames := 0, cells := 0, slots := 0, locals := 0 } [] #[(.ref o200), (.ref o26)] h0 n0 (fun v h => v = some (.int i0) ∧ Keep h0 h []) := by
  refine Met.mkQ (tabs := tables_1) (a0 := a0) (ls0 := #[rv o200, rv o26, .unset]) (plainFor_of_name pn_com_example_libring_libring_core_RingPoint) hw Z0 (fun m => by first | (simp [entryFrame, mkF, argsToLocals, Value.category]; done) | rfl) ?_
  intro p e s m below meth c T Q' G' hQ hG C X
  have Kp : Keep h0 h0 [] := Keep.refl _ _
  refine s_aloadN 1 C X d6_0 rfl rfl ?_
  refine s_instN 4 C X d6_1 (mW 42 rfl) E_o26 (own_no (C.w (mW 49 rfl)) (C.w (mW 50 rfl)) (C.w (mW 27 rfl))) (fun T X => ?_)
  refine s_if_ne 9 7 C X d6_4 (fun c => absurd (by decide : i0 = i0) c) (fun _ => ?_)
  refine s_iconst 8 C X d6_7 kc_iconst_0 ?_
  refine s_nreturn C X d6_8 rfl (by simp) rfl ?_ (FG hG (by decide) (by decide))
  exact hQ _ _ ⟨rfl, Kp⟩
theorem rm_a260 (l : Launch) (Z : State) (a0 : Array Value) (hw : ∀ d ∈ tables_1, d.before a0 Z = true) (o200 : Addr) (h0 : Heap) (n0 : Nat) (Z0 : n0 ≤ h0.size)  :
    Met l Z (⟨"com/example/libring/libring/core/RingPoint", "equals", "(Ljava/lang/Object;)Z"⟩ : MethodName) prog_9_method_4_code 3 (some .boolean) { frames := 0, cells := 0, slots := 0, locals := 0 } [] #[(.ref o200), .null] h0 n0 (fun v h => v = some (.int i0) ∧ Keep h0 h []) := by
  refine Met.mkQ (tabs := tables_1) (a0 := a0) (ls0 := #[rv o200, .val .null, .unset]) (plainFor_of_name pn_com_example_libring_libring_core_RingPoint) hw Z0 (fun m => by first | (simp [entryFrame, mkF, argsToLocals, Value.category]; done) | rfl) ?_
  intro p e s m below meth c T Q' G' hQ hG C X
  have Kp : Keep h0 h0 [] := Keep.refl _ _
  refine s_aloadN 1 C X d6_0 rfl rfl ?_
  refine s_instNull 4 C X d6_1 ?_
  refine s_if_ne 9 7 C X d6_4 (fun c => absurd (by decide : i0 = i0) c) (fun _ => ?_)
  refine s_iconst 8 C X d6_7 kc_iconst_0 ?_
  refine s_nreturn C X d6_8 rfl (by simp) rfl ?_ (FG hG (by decide) (by decide))
  exact hQ _ _ ⟨rfl, Kp⟩
theorem rm_a263 (l : Launch) (Z : State) (a0 : Array Value) (hw : ∀ d ∈ tables_1, d.before a0 Z = true) (a : Int64) (o26 : Addr) (o262 : Addr) (h0 : Heap) (n0 : Nat) (Z0 : n0 ≤ h0.size) (E_o262 : Exa Z h0 o262 "com/example/libring/libring/core/RingPoint") (F_o262_position : Fld Z h0 o262 "com/example/libring/libring/core/RingPoint" "position" "J" (.long j0)) (F_o262_node : Fld Z h0 o262 "com/example/libring/libring/core/RingPoint" "node" "Ljava/lang/String;" .null) (g_o262 : n0 ≤ o262) :
    Met l Z (⟨"com/example/libring/libring/core/RingPoint", "<init>", "(JLjava/lang/String;)V"⟩ : MethodName) prog_9_method_1_code 4 none { frames := 1, cells := 0, slots := 0, locals := 12 } [] #[(.ref o262), (.long a), (.ref o26)] h0 n0 (fun v h => v = none ∧ Exa Z h o262 "com/example/libring/libring/core/RingPoint" ∧ Fld Z h o262 "com/example/libring/libring/core/RingPoint" "position" "J" (.long a) ∧ Fld Z h o262 "com/example/libring/libring/core/RingPoint" "node" "Ljava/lang/String;" (.ref o26) ∧ Keep h0 h [o262]) := by
  refine Met.mkQ (tabs := tables_1) (a0 := a0) (ls0 := #[rv o262, lv a, .second, rv o26]) (plainFor_of_name pn_com_example_libring_libring_core_RingPoint) hw Z0 (fun m => by first | (simp [entryFrame, mkF, argsToLocals, Value.category]; done) | rfl) ?_
  intro p e s m below meth c T Q' G' hQ hG C X
  have Kp : Keep h0 h0 [o262] := Keep.refl _ _
  refine s_aloadN 1 C X d5_0 rfl rfl ?_
  refine s_objInit 4 C X d5_1 (mW 32 rfl) (mW 16 rfl) (mW 17 rfl) rfl (W := 0) rfl (by decide) (fun T X => ?_)
  refine s_aloadN 5 C X d5_4 rfl rfl ?_
  refine s_lloadN 6 C X d5_5 rfl ?_
  refine s_putfield 9 C X (host := "") d5_6 (Or.inl (mW 33 rfl)) Via.refl F_o262_position E_o262 (Or.inr ⟨(mW 34 rfl), rfl, rfl⟩) (mW 27 rfl) (ty := .long) (by decide) rfl rfl g_o262 (fun T hh X W => ?_)
  have E_o262 := E_o262.wr W
  have F_o262_position := F_o262_position.same W
  have F_o262_node := oth F_o262_node W (Or.inr (hw _ (mW 36 rfl))) (Or.inr (hw _ (mW 34 rfl))) (by decide)
  have Kp := Kp.wr W (Or.inl (by simp))
  refine s_aloadN 10 C X d5_9 rfl rfl ?_
  refine s_aloadN 11 C X d5_10 rfl rfl ?_
  refine s_putfield 14 C X (host := "") d5_11 (Or.inl (mW 35 rfl)) Via.refl F_o262_node E_o262 (Or.inr ⟨(mW 36 rfl), rfl, rfl⟩) (mW 27 rfl) (ty := (.object "java/lang/String")) (by decide) rfl rfl g_o262 (fun T hh X W => ?_)
  have E_o262 := E_o262.wr W
  have F_o262_position := oth F_o262_position W (Or.inr (hw _ (mW 34 rfl))) (Or.inr (hw _ (mW 36 rfl))) (by decide)
  have F_o262_node := F_o262_node.same W
  have Kp := Kp.wr W (Or.inl (by simp))
  refine s_return C X d5_14 rfl ?_ (FG hG (by decide) (by decide))
  exact hQ _ _ ⟨rfl, E_o262, F_o262_position, F_o262_node, Kp⟩
theorem rm_a265 (l : Launch) (Z : State) (a0 : Array Value) (hw : ∀ d ∈ tables_1, d.before a0 Z = true) (y3 : Int64) (o98 : Addr) (o264 : Addr) (h0 : Heap) (n0 : Nat) (Z0 : n0 ≤ h0.size) (E_o264 : Exa Z h0 o264 "com/example/libring/libring/core/RingPoint") (F_o264_position : Fld Z h0 o264 "com/example/libring/libring/core/RingPoint" "position" "J" (.long j0)) (F_o264_node : Fld Z h0 o264 "com/example/libring/libring/core/RingPoint" "node" "Ljava/lang/String;" .null) (g_o264 : n0 ≤ o264) :
    Met l Z (⟨"com/example/libring/libring/core/RingPoint", "<init>", "(JLjava/lang/String;)V"⟩ : MethodName) prog_9_method_1_code 4 none { frames := 1, cells := 0, slots := 0, locals := 12 } [] #[(.ref o264), (.long y3), (.ref o98)] h0 n0 (fun v h => v = none ∧ Exa Z h o264 "com/example/libring/libring/core/RingPoint" ∧ Fld Z h o264 "com/example/libring/libring/core/RingPoint" "position" "J" (.long y3) ∧ Fld Z h o264 "com/example/libring/libring/core/RingPoint" "node" "Ljava/lang/String;" (.ref o98) ∧ Keep h0 h [o264]) := by
  refine Met.mkQ (tabs := tables_1) (a0 := a0) (ls0 := #[rv o264, lv y3, .second, rv o98]) (plainFor_of_name pn_com_example_libring_libring_core_RingPoint) hw Z0 (fun m => by first | (simp [entryFrame, mkF, argsToLocals, Value.category]; done) | rfl) ?_
  intro p e s m below meth c T Q' G' hQ hG C X
  have Kp : Keep h0 h0 [o264] := Keep.refl _ _
  refine s_aloadN 1 C X d5_0 rfl rfl ?_
  refine s_objInit 4 C X d5_1 (mW 32 rfl) (mW 16 rfl) (mW 17 rfl) rfl (W := 0) rfl (by decide) (fun T X => ?_)
  refine s_aloadN 5 C X d5_4 rfl rfl ?_
  refine s_lloadN 6 C X d5_5 rfl ?_
  refine s_putfield 9 C X (host := "") d5_6 (Or.inl (mW 33 rfl)) Via.refl F_o264_position E_o264 (Or.inr ⟨(mW 34 rfl), rfl, rfl⟩) (mW 27 rfl) (ty := .long) (by decide) rfl rfl g_o264 (fun T hh X W => ?_)
  have E_o264 := E_o264.wr W
  have F_o264_position := F_o264_position.same W
  have F_o264_node := oth F_o264_node W (Or.inr (hw _ (mW 36 rfl))) (Or.inr (hw _ (mW 34 rfl))) (by decide)
  have Kp := Kp.wr W (Or.inl (by simp))
  refine s_aloadN 10 C X d5_9 rfl rfl ?_
  refine s_aloadN 11 C X d5_10 rfl rfl ?_
  refine s_putfield 14 C X (host := "") d5_11 (Or.inl (mW 35 rfl)) Via.refl F_o264_node E_o264 (Or.inr ⟨(mW 36 rfl), rfl, rfl⟩) (mW 27 rfl) (ty := (.object "java/lang/String")) (by decide) rfl rfl g_o264 (fun T hh X W => ?_)
  have E_o264 := E_o264.wr W
  have F_o264_position := oth F_o264_position W (Or.inr (hw _ (mW 34 rfl))) (Or.inr (hw _ (mW 36 rfl))) (by decide)
  have F_o264_node := F_o264_node.same W
  have Kp := Kp.wr W (Or.inl (by simp))
  refine s_return C X d5_14 rfl ?_ (FG hG (by decide) (by decide))
  exact hQ _ _ ⟨rfl, E_o264, F_o264_position, F_o264_node, Kp⟩
theorem rm_a288 (l : Launch) (Z : State) (a0 : Array Value) (hw : ∀ d ∈ tables_1, d.before a0 Z = true) (ca6 : Int32) (cb7 : Int32) (o30 : Addr) (k_o30 : ClassId) (b102 : Addr) (k_b102 : ClassId) (h0 : Heap) (n0 : Nat) (Z0 : n0 ≤ h0.size) (A_o30 : Arv Z h0 o30 k_o30 .byte i2 [(.int (bv ca6)), (.int (bv cb7))] (.int i0)) (A_b102 : Arv Z h0 b102 k_b102 .byte i0 [] (.int i0)) :
    Met l Z (⟨"java/lang/StringLatin1", "equals", "([B[B)Z"⟩ : MethodName) jdk_43_method_13_code 3 (some .boolean) { frames := 0, cells := 0, slots := 0, locals := 0 } [] #[(.ref o30), (.ref b102)] h0 n0 (fun v h => v = some (.int i0) ∧ Keep h0 h []) := by
  refine Met.mkQ (tabs := tables_1) (a0 := a0) (ls0 := #[rv o30, rv b102, .unset]) (plainFor_of_name pn_java_lang_StringLatin1) hw Z0 (fun m => by first | (simp [entryFrame, mkF, argsToLocals, Value.category]; done) | rfl) ?_
  intro p e s m below meth c T Q' G' hQ hG C X
  have Kp : Keep h0 h0 [] := Keep.refl _ _
  refine s_aloadN 1 C X d11_0 rfl rfl ?_
  refine s_arraylength 2 C X d11_1 A_o30 ?_
  refine s_aloadN 3 C X d11_2 rfl rfl ?_
  refine s_arraylength 4 C X d11_3 A_b102 ?_
  refine s_icmp_ne 34 7 C X d11_4 (fun _ => ?_) (fun c => absurd c (by decide))
  refine s_iconst 35 C X d11_34 kc_iconst_0 ?_
  refine s_nreturn C X d11_35 rfl (by simp) rfl ?_ (FG hG (by decide) (by decide))
  exact hQ _ _ ⟨rfl, Kp⟩
theorem rm_a290 (l : Launch) (Z : State) (a0 : Array Value) (hw : ∀ d ∈ tables_1, d.before a0 Z = true) (cs : Int32) (ca6 : Int32) (cb7 : Int32) (o26 : Addr) (o30 : Addr) (k_o30 : ClassId) (o98 : Addr) (b102 : Addr) (k_b102 : ClassId) (h0 : Heap) (n0 : Nat) (Z0 : n0 ≤ h0.size) (S_cs : Sta Z Z.heap "java/lang/String" "COMPACT_STRINGS" "Z" (.int cs)) (F_o26_value : Fld Z h0 o26 "java/lang/String" "value" "[B" (.ref o30)) (F_o26_coder : Fld Z h0 o26 "java/lang/String" "coder" "B" (.int i0)) (A_o30 : Arv Z h0 o30 k_o30 .byte i2 [(.int (bv ca6)), (.int (bv cb7))] (.int i0)) (Od : Old Z n0 h0) (E_o98 : Exa Z h0 o98 "java/lang/String") (F_o98_value : Fld Z h0 o98 "java/lang/String" "value" "[B" (.ref b102)) (F_o98_coder : Fld Z h0 o98 "java/lang/String" "coder" "B" (.int i0)) (A_b102 : Arv Z h0 b102 k_b102 .byte i0 [] (.int i0)) (hv_cs : ¬ cs = i0) (ne_o26_o98 : o26 ≠ o98) :
    Met l Z (⟨"java/lang/String", "equals", "(Ljava/lang/Object;)Z"⟩ : MethodName) jdk_42_method_66_code 3 (some .boolean) { frames := 1, cells := 0, slots := 0, locals := 14 } [] #[(.ref o26), (.ref o98)] h0 n0 (fun v h => v = some (.int i0) ∧ Old Z n0 h ∧ Keep h0 h []) := by
  refine Met.mkQ (tabs := tables_1) (a0 := a0) (ls0 := #[rv o26, rv o98, .unset]) (plainFor_of_name pn_java_lang_String) hw Z0 (fun m => by first | (simp [entryFrame, mkF, argsToLocals, Value.category]; done) | rfl) ?_
  intro p e s m below meth c T Q' G' hQ hG C X
  have Kp : Keep h0 h0 [] := Keep.refl _ _
  refine s_aloadN 1 C X d7_0 rfl rfl ?_
  refine s_aloadN 2 C X d7_1 rfl rfl ?_
  refine s_acmp_ne 7 5 C X d7_2 rfl rfl (fun c2_283 => ?_) (fun c => absurd (Value.ref.inj c) ne_o26_o98)
  refine s_aloadN 8 C X d7_7 rfl rfl ?_
  refine s_instY 11 C X d7_8 (mW 62 rfl) (Ins.self E_o98) (fun T X => ?_)
  refine s_if_eq 54 14 C X d7_11 (fun c => absurd c (by decide)) (fun _ => ?_)
  refine s_aloadN 15 C X d7_14 rfl rfl ?_
  refine s_castY 18 C X d7_15 (mW 62 rfl) (Ins.self E_o98) (fun T X => ?_)
  refine s_astoreN 19 C X (l' := #[rv o26, rv o98, rv o98]) d7_18 rfl rfl ?_
  refine s_getstatic 22 C X (host := "") d7_19 (Or.inl (mW 51 rfl)) Via.refl (S_cs.ext Od.2) (fun T X => ?_)
  refine s_if_eq 36 25 C X d7_22 (fun c => absurd c hv_cs) (fun c22_285 => ?_)
  refine s_aloadN 26 C X d7_25 rfl rfl ?_
  refine s_getfield 29 C X (host := "") d7_26 (Or.inl (mW 25 rfl)) Via.refl F_o26_coder (fun T X => ?_)
  refine s_aloadN 30 C X d7_29 rfl rfl ?_
  refine s_getfield 33 C X (host := "") d7_30 (Or.inl (mW 25 rfl)) Via.refl F_o98_coder (fun T X => ?_)
  refine s_icmp_ne 54 36 C X d7_33 (fun c => absurd (by decide : i0 = i0) c) (fun _ => ?_)
  refine s_aloadN 37 C X d7_36 rfl rfl ?_
  refine s_getfield 40 C X (host := "") d7_37 (Or.inl (mW 24 rfl)) Via.refl F_o26_value (fun T X => ?_)
  refine s_aloadN 41 C X d7_40 rfl rfl ?_
  refine s_getfield 44 C X (host := "") d7_41 (Or.inl (mW 24 rfl)) Via.refl F_o98_value (fun T X => ?_)
  refine s_callS 47 [(.ref o30), (.ref b102)] [] 0 C X d7_44 (mW 63 rfl) (mW 64 rfl) (mW 65 rfl) (mW 66 rfl) (rm_a288 l Z a0 hw ca6 cb7 o30 k_o30 b102 k_b102 _ n0 X.sz A_o30 A_b102) (lenOf pd___B_B_Z rfl) rfl rfl rfl (fun T v hh X q => ?_)
  obtain ⟨rfl, Kc⟩ := q
  have Od := Od.keep Kc all0
  have Kp := Kp.trans Kc all0
  refine Run.cast (st' := [(.int i0)]) rfl ?_
  refine s_if_eq 54 50 C X d7_47 (fun _ => ?_) (fun c => absurd (by decide : i0 = i0) c)
  refine s_iconst 55 C X d7_54 kc_iconst_0 ?_
  refine s_nreturn C X d7_55 rfl (by simp) rfl ?_ (FG hG (by decide) (by decide))
  exact hQ _ _ ⟨rfl, Od, Kp⟩
theorem rm_a292 (l : Launch) (Z : State) (a0 : Array Value) (hw : ∀ d ∈ tables_1, d.before a0 Z = true) (a : Int64) (cs : Int32) (y3 : Int64) (ca6 : Int32) (cb7 : Int32) (o26 : Addr) (o30 : Addr) (k_o30 : ClassId) (o98 : Addr) (b102 : Addr) (k_b102 : ClassId) (o262 : Addr) (o264 : Addr) (h0 : Heap) (n0 : Nat) (Z0 : n0 ≤ h0.size) (S_cs : Sta Z Z.heap "java/lang/String" "COMPACT_STRINGS" "Z" (.int cs)) (E_o26 : Exa Z h0 o26 "java/lang/String") (F_o26_value : Fld Z h0 o26 "java/lang/String" "value" "[B" (.ref o30)) (F_o26_coder : Fld Z h0 o26 "java/lang/String" "coder" "B" (.int i0)) (A_o30 : Arv Z h0 o30 k_o30 .byte i2 [(.int (bv ca6)), (.int (bv cb7))] (.int i0)) (Od : Old Z n0 h0) (E_o98 : Exa Z h0 o98 "java/lang/String") (F_o98_value : Fld Z h0 o98 "java/lang/String" "value" "[B" (.ref b102)) (F_o98_coder : Fld Z h0 o98 "java/lang/String" "coder" "B" (.int i0)) (A_b102 : Arv Z h0 b102 k_b102 .byte i0 [] (.int i0)) (F_o262_position : Fld Z h0 o262 "com/example/libring/libring/core/RingPoint" "position" "J" (.long a)) (F_o262_node : Fld Z h0 o262 "com/example/libring/libring/core/RingPoint" "node" "Ljava/lang/String;" (.ref o26)) (E_o264 : Exa Z h0 o264 "com/example/libring/libring/core/RingPoint") (F_o264_position : Fld Z h0 o264 "com/example/libring/libring/core/RingPoint" "position" "J" (.long y3)) (F_o264_node : Fld Z h0 o264 "com/example/libring/libring/core/RingPoint" "node" "Ljava/lang/String;" (.ref o98)) (hv_cs : ¬ cs = i0) (ne_o26_o98 : o26 ≠ o98) :
    Met l Z (⟨"com/example/libring/libring/core/RingPoint", "equals", "(Ljava/lang/Object;)Z"⟩ : MethodName) prog_9_method_4_code 3 (some .boolean) { frames := 2, cells := 0, slots := 0, locals := 28 } [] #[(.ref o262), (.ref o264)] h0 n0 (fun v h => ∃ (y293 : Int32), v = some (.int y293) ∧ (((¬ ((a).toInt = (y3).toInt)) ∧ y293 = i0) ∨ (((a).toInt = (y3).toInt) ∧ y293 = i0)) ∧ Old Z n0 h ∧ Keep h0 h []) := by
  refine Met.mkQ (tabs := tables_1) (a0 := a0) (ls0 := #[rv o262, rv o264, .unset]) (plainFor_of_name pn_com_example_libring_libring_core_RingPoint) hw Z0 (fun m => by first | (simp [entryFrame, mkF, argsToLocals, Value.category]; done) | rfl) ?_
  intro p e s m below meth c T Q' G' hQ hG C X
  have Kp : Keep h0 h0 [] := Keep.refl _ _
  refine s_aloadN 1 C X d6_0 rfl rfl ?_
  refine s_instY 4 C X d6_1 (mW 42 rfl) (Ins.self E_o264) (fun T X => ?_)
  refine s_if_ne 9 7 C X d6_4 (fun _ => ?_) (fun c => absurd c (by decide))
  refine s_aloadN 10 C X d6_9 rfl rfl ?_
  refine s_castY 13 C X d6_10 (mW 42 rfl) (Ins.self E_o264) (fun T X => ?_)
  refine s_astoreN 14 C X (l' := #[rv o262, rv o264, rv o264]) d6_13 rfl rfl ?_
  refine s_aloadN 15 C X d6_14 rfl rfl ?_
  refine s_getfield 18 C X (host := "") d6_15 (Or.inl (mW 33 rfl)) Via.refl F_o262_position (fun T X => ?_)
  refine s_aloadN 19 C X d6_18 rfl rfl ?_
  refine s_getfield 22 C X (host := "") d6_19 (Or.inl (mW 33 rfl)) Via.refl F_o264_position (fun T X => ?_)
  refine s_lcmp 23 C X d6_22 ?_
  refine s_if_ne 44 26 C X d6_23 (fun c23_282 => ?_) (fun c23_282 => ?_)
  · have t_c23_282 : ¬ ((a).toInt = (y3).toInt) := fun q => c23_282 (cl_eq.mpr q)
    refine s_iconst 45 C X d6_44 kc_iconst_0 ?_
    refine s_nreturn C X d6_45 rfl (by simp) rfl ?_ (FG hG (by decide) (by decide))
    exact hQ _ _ ⟨i0, rfl, (Or.inl ⟨t_c23_282, rfl⟩), Od, Kp⟩
  have t_c23_282 : (a).toInt = (y3).toInt := cl_eq.mp c23_282
  refine s_aloadN 27 C X d6_26 rfl rfl ?_
  refine s_getfield 30 C X (host := "") d6_27 (Or.inl (mW 35 rfl)) Via.refl F_o262_node (fun T X => ?_)
  refine s_aloadN 31 C X d6_30 rfl rfl ?_
  refine s_getfield 34 C X (host := "") d6_31 (Or.inl (mW 35 rfl)) Via.refl F_o264_node (fun T X => ?_)
  refine s_callV 37 [(.ref o98)] [] 0 C X d6_34 (mW 44 rfl) (mW 45 rfl) (notFace_of_selects (args := #[]) (mvT C.2.1 (C.w (mW 47 rfl)))) (mW 47 rfl) (mW 46 rfl) (mW 6 rfl) (mW 48 rfl) E_o26 (rm_a290 l Z a0 hw cs ca6 cb7 o26 o30 k_o30 o98 b102 k_b102 _ n0 X.sz S_cs F_o26_value F_o26_coder A_o30 Od E_o98 F_o98_value F_o98_coder A_b102 hv_cs ne_o26_o98) (lenOf pd__Ljava_lang_Object__Z rfl) rfl rfl rfl (fun T v hh X q => ?_)
  obtain ⟨rfl, Od, Kc⟩ := q
  have Kp := Kp.trans Kc all0
  refine Run.cast (st' := [(.int i0)]) rfl ?_
  refine s_if_eq 44 40 C X d6_37 (fun _ => ?_) (fun c => absurd (by decide : i0 = i0) c)
  refine s_iconst 45 C X d6_44 kc_iconst_0 ?_
  refine s_nreturn C X d6_45 rfl (by simp) rfl ?_ (FG hG (by decide) (by decide))
  exact hQ _ _ ⟨i0, rfl, (Or.inr ⟨t_c23_282, rfl⟩), Od, Kp⟩
theorem rm_a303 (l : Launch) (Z : State) (a0 : Array Value) (hw : ∀ d ∈ tables_1, d.before a0 Z = true) (ca6 : Int32) (cb7 : Int32) (o30 : Addr) (k_o30 : ClassId) (b102 : Addr) (k_b102 : ClassId) (h0 : Heap) (n0 : Nat) (Z0 : n0 ≤ h0.size) (A_o30 : Arv Z h0 o30 k_o30 .byte i2 [(.int (bv ca6)), (.int (bv cb7))] (.int i0)) (A_b102 : Arv Z h0 b102 k_b102 .byte i0 [] (.int i0)) :
    Met l Z (⟨"java/lang/StringLatin1", "equals", "([B[B)Z"⟩ : MethodName) jdk_43_method_13_code 3 (some .boolean) { frames := 0, cells := 0, slots := 0, locals := 0 } [] #[(.ref b102), (.ref o30)] h0 n0 (fun v h => v = some (.int i0) ∧ Keep h0 h []) := by
  refine Met.mkQ (tabs := tables_1) (a0 := a0) (ls0 := #[rv b102, rv o30, .unset]) (plainFor_of_name pn_java_lang_StringLatin1) hw Z0 (fun m => by first | (simp [entryFrame, mkF, argsToLocals, Value.category]; done) | rfl) ?_
  intro p e s m below meth c T Q' G' hQ hG C X
  have Kp : Keep h0 h0 [] := Keep.refl _ _
  refine s_aloadN 1 C X d11_0 rfl rfl ?_
  refine s_arraylength 2 C X d11_1 A_b102 ?_
  refine s_aloadN 3 C X d11_2 rfl rfl ?_
  refine s_arraylength 4 C X d11_3 A_o30 ?_
  refine s_icmp_ne 34 7 C X d11_4 (fun _ => ?_) (fun c => absurd c (by decide))
  refine s_iconst 35 C X d11_34 kc_iconst_0 ?_
  refine s_nreturn C X d11_35 rfl (by simp) rfl ?_ (FG hG (by decide) (by decide))
  exact hQ _ _ ⟨rfl, Kp⟩
theorem rm_a305 (l : Launch) (Z : State) (a0 : Array Value) (hw : ∀ d ∈ tables_1, d.before a0 Z = true) (cs : Int32) (ca6 : Int32) (cb7 : Int32) (o26 : Addr) (o30 : Addr) (k_o30 : ClassId) (o98 : Addr) (b102 : Addr) (k_b102 : ClassId) (h0 : Heap) (n0 : Nat) (Z0 : n0 ≤ h0.size) (S_cs : Sta Z Z.heap "java/lang/String" "COMPACT_STRINGS" "Z" (.int cs)) (E_o26 : Exa Z h0 o26 "java/lang/String") (F_o26_value : Fld Z h0 o26 "java/lang/String" "value" "[B" (.ref o30)) (F_o26_coder : Fld Z h0 o26 "java/lang/String" "coder" "B" (.int i0)) (A_o30 : Arv Z h0 o30 k_o30 .byte i2 [(.int (bv ca6)), (.int (bv cb7))] (.int i0)) (F_o98_value : Fld Z h0 o98 "java/lang/String" "value" "[B" (.ref b102)) (F_o98_coder : Fld Z h0 o98 "java/lang/String" "coder" "B" (.int i0)) (A_b102 : Arv Z h0 b102 k_b102 .byte i0 [] (.int i0)) (Od : Old Z n0 h0) (hv_cs : ¬ cs = i0) (ne_o26_o98 : o26 ≠ o98) :
    Met l Z (⟨"java/lang/String", "equals", "(Ljava/lang/Object;)Z"⟩ : MethodName) jdk_42_method_66_code 3 (some .boolean) { frames := 1, cells := 0, slots := 0, locals := 14 } [] #[(.ref o98), (.ref o26)] h0 n0 (fun v h => v = some (.int i0) ∧ Old Z n0 h ∧ Keep h0 h []) := by
  refine Met.mkQ (tabs := tables_1) (a0 := a0) (ls0 := #[rv o98, rv o26, .unset]) (plainFor_of_name pn_java_lang_String) hw Z0 (fun m => by first | (simp [entryFrame, mkF, argsToLocals, Value.category]; done) | rfl) ?_
  intro p e s m below meth c T Q' G' hQ hG C X
  have Kp : Keep h0 h0 [] := Keep.refl _ _
  refine s_aloadN 1 C X d7_0 rfl rfl ?_
  refine s_aloadN 2 C X d7_1 rfl rfl ?_
  refine s_acmp_ne 7 5 C X d7_2 rfl rfl (fun c2_298 => ?_) (fun c => absurd (Value.ref.inj c) (Ne.symm ne_o26_o98))
  refine s_aloadN 8 C X d7_7 rfl rfl ?_
  refine s_instY 11 C X d7_8 (mW 62 rfl) (Ins.self E_o26) (fun T X => ?_)
  refine s_if_eq 54 14 C X d7_11 (fun c => absurd c (by decide)) (fun _ => ?_)
  refine s_aloadN 15 C X d7_14 rfl rfl ?_
  refine s_castY 18 C X d7_15 (mW 62 rfl) (Ins.self E_o26) (fun T X => ?_)
  refine s_astoreN 19 C X (l' := #[rv o98, rv o26, rv o26]) d7_18 rfl rfl ?_
  refine s_getstatic 22 C X (host := "") d7_19 (Or.inl (mW 51 rfl)) Via.refl (S_cs.ext Od.2) (fun T X => ?_)
  refine s_if_eq 36 25 C X d7_22 (fun c => absurd c hv_cs) (fun c22_300 => ?_)
  refine s_aloadN 26 C X d7_25 rfl rfl ?_
  refine s_getfield 29 C X (host := "") d7_26 (Or.inl (mW 25 rfl)) Via.refl F_o98_coder (fun T X => ?_)
  refine s_aloadN 30 C X d7_29 rfl rfl ?_
  refine s_getfield 33 C X (host := "") d7_30 (Or.inl (mW 25 rfl)) Via.refl F_o26_coder (fun T X => ?_)
  refine s_icmp_ne 54 36 C X d7_33 (fun c => absurd (by decide : i0 = i0) c) (fun _ => ?_)
  refine s_aloadN 37 C X d7_36 rfl rfl ?_
  refine s_getfield 40 C X (host := "") d7_37 (Or.inl (mW 24 rfl)) Via.refl F_o98_value (fun T X => ?_)
  refine s_aloadN 41 C X d7_40 rfl rfl ?_
  refine s_getfield 44 C X (host := "") d7_41 (Or.inl (mW 24 rfl)) Via.refl F_o26_value (fun T X => ?_)
  refine s_callS 47 [(.ref b102), (.ref o30)] [] 0 C X d7_44 (mW 63 rfl) (mW 64 rfl) (mW 65 rfl) (mW 66 rfl) (rm_a303 l Z a0 hw ca6 cb7 o30 k_o30 b102 k_b102 _ n0 X.sz A_o30 A_b102) (lenOf pd___B_B_Z rfl) rfl rfl rfl (fun T v hh X q => ?_)
  obtain ⟨rfl, Kc⟩ := q
  have Od := Od.keep Kc all0
  have Kp := Kp.trans Kc all0
  refine Run.cast (st' := [(.int i0)]) rfl ?_
  refine s_if_eq 54 50 C X d7_47 (fun _ => ?_) (fun c => absurd (by decide : i0 = i0) c)
  refine s_iconst 55 C X d7_54 kc_iconst_0 ?_
  refine s_nreturn C X d7_55 rfl (by simp) rfl ?_ (FG hG (by decide) (by decide))
  exact hQ _ _ ⟨rfl, Od, Kp⟩
theorem rm_a307 (l : Launch) (Z : State) (a0 : Array Value) (hw : ∀ d ∈ tables_1, d.before a0 Z = true) (a : Int64) (cs : Int32) (y3 : Int64) (ca6 : Int32) (cb7 : Int32) (o26 : Addr) (o30 : Addr) (k_o30 : ClassId) (o98 : Addr) (b102 : Addr) (k_b102 : ClassId) (o262 : Addr) (o264 : Addr) (h0 : Heap) (n0 : Nat) (Z0 : n0 ≤ h0.size) (S_cs : Sta Z Z.heap "java/lang/String" "COMPACT_STRINGS" "Z" (.int cs)) (E_o26 : Exa Z h0 o26 "java/lang/String") (F_o26_value : Fld Z h0 o26 "java/lang/String" "value" "[B" (.ref o30)) (F_o26_coder : Fld Z h0 o26 "java/lang/String" "coder" "B" (.int i0)) (A_o30 : Arv Z h0 o30 k_o30 .byte i2 [(.int (bv ca6)), (.int (bv cb7))] (.int i0)) (E_o98 : Exa Z h0 o98 "java/lang/String") (F_o98_value : Fld Z h0 o98 "java/lang/String" "value" "[B" (.ref b102)) (F_o98_coder : Fld Z h0 o98 "java/lang/String" "coder" "B" (.int i0)) (A_b102 : Arv Z h0 b102 k_b102 .byte i0 [] (.int i0)) (E_o262 : Exa Z h0 o262 "com/example/libring/libring/core/RingPoint") (F_o262_position : Fld Z h0 o262 "com/example/libring/libring/core/RingPoint" "position" "J" (.long a)) (F_o262_node : Fld Z h0 o262 "com/example/libring/libring/core/RingPoint" "node" "Ljava/lang/String;" (.ref o26)) (F_o264_position : Fld Z h0 o264 "com/example/libring/libring/core/RingPoint" "position" "J" (.long y3)) (F_o264_node : Fld Z h0 o264 "com/example/libring/libring/core/RingPoint" "node" "Ljava/lang/String;" (.ref o98)) (Od : Old Z n0 h0) (hv_cs : ¬ cs = i0) (ne_o26_o98 : o26 ≠ o98) :
    Met l Z (⟨"com/example/libring/libring/core/RingPoint", "equals", "(Ljava/lang/Object;)Z"⟩ : MethodName) prog_9_method_4_code 3 (some .boolean) { frames := 2, cells := 0, slots := 0, locals := 28 } [] #[(.ref o264), (.ref o262)] h0 n0 (fun v h => ∃ (y308 : Int32), v = some (.int y308) ∧ (((¬ ((y3).toInt = (a).toInt)) ∧ y308 = i0) ∨ (((y3).toInt = (a).toInt) ∧ y308 = i0)) ∧ Old Z n0 h ∧ Keep h0 h []) := by
  refine Met.mkQ (tabs := tables_1) (a0 := a0) (ls0 := #[rv o264, rv o262, .unset]) (plainFor_of_name pn_com_example_libring_libring_core_RingPoint) hw Z0 (fun m => by first | (simp [entryFrame, mkF, argsToLocals, Value.category]; done) | rfl) ?_
  intro p e s m below meth c T Q' G' hQ hG C X
  have Kp : Keep h0 h0 [] := Keep.refl _ _
  refine s_aloadN 1 C X d6_0 rfl rfl ?_
  refine s_instY 4 C X d6_1 (mW 42 rfl) (Ins.self E_o262) (fun T X => ?_)
  refine s_if_ne 9 7 C X d6_4 (fun _ => ?_) (fun c => absurd c (by decide))
  refine s_aloadN 10 C X d6_9 rfl rfl ?_
  refine s_castY 13 C X d6_10 (mW 42 rfl) (Ins.self E_o262) (fun T X => ?_)
  refine s_astoreN 14 C X (l' := #[rv o264, rv o262, rv o262]) d6_13 rfl rfl ?_
  refine s_aloadN 15 C X d6_14 rfl rfl ?_
  refine s_getfield 18 C X (host := "") d6_15 (Or.inl (mW 33 rfl)) Via.refl F_o264_position (fun T X => ?_)
  refine s_aloadN 19 C X d6_18 rfl rfl ?_
  refine s_getfield 22 C X (host := "") d6_19 (Or.inl (mW 33 rfl)) Via.refl F_o262_position (fun T X => ?_)
  refine s_lcmp 23 C X d6_22 ?_
  refine s_if_ne 44 26 C X d6_23 (fun c23_297 => ?_) (fun c23_297 => ?_)
  · have t_c23_297 : ¬ ((y3).toInt = (a).toInt) := fun q => c23_297 (cl_eq.mpr q)
    refine s_iconst 45 C X d6_44 kc_iconst_0 ?_
    refine s_nreturn C X d6_45 rfl (by simp) rfl ?_ (FG hG (by decide) (by decide))
    exact hQ _ _ ⟨i0, rfl, (Or.inl ⟨t_c23_297, rfl⟩), Od, Kp⟩
  have t_c23_297 : (y3).toInt = (a).toInt := cl_eq.mp c23_297
  refine s_aloadN 27 C X d6_26 rfl rfl ?_
  refine s_getfield 30 C X (host := "") d6_27 (Or.inl (mW 35 rfl)) Via.refl F_o264_node (fun T X => ?_)
  refine s_aloadN 31 C X d6_30 rfl rfl ?_
  refine s_getfield 34 C X (host := "") d6_31 (Or.inl (mW 35 rfl)) Via.refl F_o262_node (fun T X => ?_)
  refine s_callV 37 [(.ref o26)] [] 0 C X d6_34 (mW 44 rfl) (mW 45 rfl) (notFace_of_selects (args := #[]) (mvT C.2.1 (C.w (mW 47 rfl)))) (mW 47 rfl) (mW 46 rfl) (mW 6 rfl) (mW 48 rfl) E_o98 (rm_a305 l Z a0 hw cs ca6 cb7 o26 o30 k_o30 o98 b102 k_b102 _ n0 X.sz S_cs E_o26 F_o26_value F_o26_coder A_o30 F_o98_value F_o98_coder A_b102 Od hv_cs ne_o26_o98) (lenOf pd__Ljava_lang_Object__Z rfl) rfl rfl rfl (fun T v hh X q => ?_)
  obtain ⟨rfl, Od, Kc⟩ := q
  have Kp := Kp.trans Kc all0
  refine Run.cast (st' := [(.int i0)]) rfl ?_
  refine s_if_eq 44 40 C X d6_37 (fun _ => ?_) (fun c => absurd (by decide : i0 = i0) c)
  refine s_iconst 45 C X d6_44 kc_iconst_0 ?_
  refine s_nreturn C X d6_45 rfl (by simp) rfl ?_ (FG hG (by decide) (by decide))
  exact hQ _ _ ⟨i0, rfl, (Or.inr ⟨t_c23_297, rfl⟩), Od, Kp⟩
theorem rm_a316 (l : Launch) (Z : State) (a0 : Array Value) (hw : ∀ d ∈ tables_1, d.before a0 Z = true) (a : Int64) (o26 : Addr) (o262 : Addr) (h0 : Heap) (n0 : Nat) (Z0 : n0 ≤ h0.size) (E_o26 : Exa Z h0 o26 "java/lang/String") (E_o262 : Exa Z h0 o262 "com/example/libring/libring/core/RingPoint") (F_o262_position : Fld Z h0 o262 "com/example/libring/libring/core/RingPoint" "position" "J" (.long a)) (F_o262_node : Fld Z h0 o262 "com/example/libring/libring/core/RingPoint" "node" "Ljava/lang/String;" (.ref o26)) :
    Met l Z (⟨"com/example/libring/libring/core/RingPoint", "equals", "(Ljava/lang/Object;)Z"⟩ : MethodName) prog_9_method_4_code 3 (some .boolean) { frames := 1, cells := 0, slots := 0, locals := 14 } [] #[(.ref o262), (.ref o262)] h0 n0 (fun v h => v = some (.int i1) ∧ Keep h0 h []) := by
  refine Met.mkQ (tabs := tables_1) (a0 := a0) (ls0 := #[rv o262, rv o262, .unset]) (plainFor_of_name pn_com_example_libring_libring_core_RingPoint) hw Z0 (fun m => by first | (simp [entryFrame, mkF, argsToLocals, Value.category]; done) | rfl) ?_
  intro p e s m below meth c T Q' G' hQ hG C X
  have Kp : Keep h0 h0 [] := Keep.refl _ _
  refine s_aloadN 1 C X d6_0 rfl rfl ?_
  refine s_instY 4 C X d6_1 (mW 42 rfl) (Ins.self E_o262) (fun T X => ?_)
  refine s_if_ne 9 7 C X d6_4 (fun _ => ?_) (fun c => absurd c (by decide))
  refine s_aloadN 10 C X d6_9 rfl rfl ?_
  refine s_castY 13 C X d6_10 (mW 42 rfl) (Ins.self E_o262) (fun T X => ?_)
  refine s_astoreN 14 C X (l' := #[rv o262, rv o262, rv o262]) d6_13 rfl rfl ?_
  refine s_aloadN 15 C X d6_14 rfl rfl ?_
  refine s_getfield 18 C X (host := "") d6_15 (Or.inl (mW 33 rfl)) Via.refl F_o262_position (fun T X => ?_)
  refine s_aloadN 19 C X d6_18 rfl rfl ?_
  refine s_getfield 22 C X (host := "") d6_19 (Or.inl (mW 33 rfl)) Via.refl F_o262_position (fun T X => ?_)
  refine s_lcmp 23 C X d6_22 ?_
  refine s_if_ne 44 26 C X d6_23 (fun c => absurd (own_cmp0 _) c) (fun c23_312 => ?_)
  refine s_aloadN 27 C X d6_26 rfl rfl ?_
  refine s_getfield 30 C X (host := "") d6_27 (Or.inl (mW 35 rfl)) Via.refl F_o262_node (fun T X => ?_)
  refine s_aloadN 31 C X d6_30 rfl rfl ?_
  refine s_getfield 34 C X (host := "") d6_31 (Or.inl (mW 35 rfl)) Via.refl F_o262_node (fun T X => ?_)
  refine s_callV 37 [(.ref o26)] [] 0 C X d6_34 (mW 44 rfl) (mW 45 rfl) (notFace_of_selects (args := #[]) (mvT C.2.1 (C.w (mW 47 rfl)))) (mW 47 rfl) (mW 46 rfl) (mW 6 rfl) (mW 48 rfl) E_o26 (rm_a190 l Z a0 hw o26 _ n0 X.sz ) (lenOf pd__Ljava_lang_Object__Z rfl) rfl rfl rfl (fun T v hh X q => ?_)
  obtain ⟨rfl, Kc⟩ := q
  have Kp := Kp.trans Kc all0
  refine Run.cast (st' := [(.int i1)]) rfl ?_
  refine s_if_eq 44 40 C X d6_37 (fun c => absurd c (by decide)) (fun _ => ?_)
  refine s_iconst 41 C X d6_40 kc_iconst_1 ?_
  refine s_goto 45 C X d6_41 ?_
  refine s_nreturn C X d6_45 rfl (by simp) rfl ?_ (FG hG (by decide) (by decide))
  exact hQ _ _ ⟨rfl, Kp⟩
theorem rm_a319 (l : Launch) (Z : State) (a0 : Array Value) (hw : ∀ d ∈ tables_1, d.before a0 Z = true) (o26 : Addr) (o262 : Addr) (h0 : Heap) (n0 : Nat) (Z0 : n0 ≤ h0.size) (E_o26 : Exa Z h0 o26 "java/lang/String") :
    Met l Z (⟨"com/example/libring/libring/core/RingPoint", "equals", "(Ljava/lang/Object;)Z"⟩ : MethodName) prog_9_method_4_code 3 (some .boolean) { frames := 0, cells := 0, slots := 0, locals := 0 } [] #[(.ref o262), (.ref o26)] h0 n0 (fun v h => v = some (.int i0) ∧ Keep h0 h []) := by
  refine Met.mkQ (tabs := tables_1) (a0 := a0) (ls0 := #[rv o262, rv o26, .unset]) (plainFor_of_name pn_com_example_libring_libring_core_RingPoint) hw Z0 (fun m => by first | (simp [entryFrame, mkF, argsToLocals, Value.category]; done) | rfl) ?_
  intro p e s m below meth c T Q' G' hQ hG C X
  have Kp : Keep h0 h0 [] := Keep.refl _ _
  refine s_aloadN 1 C X d6_0 rfl rfl ?_
  refine s_instN 4 C X d6_1 (mW 42 rfl) E_o26 (own_no (C.w (mW 49 rfl)) (C.w (mW 50 rfl)) (C.w (mW 27 rfl))) (fun T X => ?_)
  refine s_if_ne 9 7 C X d6_4 (fun c => absurd (by decide : i0 = i0) c) (fun _ => ?_)
  refine s_iconst 8 C X d6_7 kc_iconst_0 ?_
  refine s_nreturn C X d6_8 rfl (by simp) rfl ?_ (FG hG (by decide) (by decide))
  exact hQ _ _ ⟨rfl, Kp⟩
theorem rm_a322 (l : Launch) (Z : State) (a0 : Array Value) (hw : ∀ d ∈ tables_1, d.before a0 Z = true) (o262 : Addr) (h0 : Heap) (n0 : Nat) (Z0 : n0 ≤ h0.size)  :
    Met l Z (⟨"com/example/libring/libring/core/RingPoint", "equals", "(Ljava/lang/Object;)Z"⟩ : MethodName) prog_9_method_4_code 3 (some .boolean) { frames := 0, cells := 0, slots := 0, locals := 0 } [] #[(.ref o262), .null] h0 n0 (fun v h => v = some (.int i0) ∧ Keep h0 h []) := by
  refine Met.mkQ (tabs := tables_1) (a0 := a0) (ls0 := #[rv o262, .val .null, .unset]) (plainFor_of_name pn_com_example_libring_libring_core_RingPoint) hw Z0 (fun m => by first | (simp [entryFrame, mkF, argsToLocals, Value.category]; done) | rfl) ?_
  intro p e s m below meth c T Q' G' hQ hG C X
  have Kp : Keep h0 h0 [] := Keep.refl _ _
  refine s_aloadN 1 C X d6_0 rfl rfl ?_
  refine s_instNull 4 C X d6_1 ?_
  refine s_if_ne 9 7 C X d6_4 (fun c => absurd (by decide : i0 = i0) c) (fun _ => ?_)
  refine s_iconst 8 C X d6_7 kc_iconst_0 ?_
  refine s_nreturn C X d6_8 rfl (by simp) rfl ?_ (FG hG (by decide) (by decide))
  exact hQ _ _ ⟨rfl, Kp⟩
theorem rm_a367 (l : Launch) (Z : State) (a0 : Array Value) (hw : ∀ d ∈ tables_1, d.before a0 Z = true) (a : Int64) (o42 : Addr) (o366 : Addr) (h0 : Heap) (n0 : Nat) (Z0 : n0 ≤ h0.size) (E_o366 : Exa Z h0 o366 "com/example/libring/libring/core/RingPoint") (F_o366_position : Fld Z h0 o366 "com/example/libring/libring/core/RingPoint" "position" "J" (.long j0)) (F_o366_node : Fld Z h0 o366 "com/example/libring/libring/core/RingPoint" "node" "Ljava/lang/String;" .null) (g_o366 : n0 ≤ o366) :
    Met l Z (⟨"com/example/libring/libring/core/RingPoint", "<init>", "(JLjava/lang/String;)V"⟩ : MethodName) prog_9_method_1_code 4 none { frames := 1, cells := 0, slots := 0, locals := 12 } [] #[(.ref o366), (.long a), (.ref o42)] h0 n0 (fun v h => v = none ∧ Exa Z h o366 "com/example/libring/libring/core/RingPoint" ∧ Fld Z h o366 "com/example/libring/libring/core/RingPoint" "position" "J" (.long a) ∧ Fld Z h o366 "com/example/libring/libring/core/RingPoint" "node" "Ljava/lang/String;" (.ref o42) ∧ Keep h0 h [o366]) := by
  refine Met.mkQ (tabs := tables_1) (a0 := a0) (ls0 := #[rv o366, lv a, .second, rv o42]) (plainFor_of_name pn_com_example_libring_libring_core_RingPoint) hw Z0 (fun m => by first | (simp [entryFrame, mkF, argsToLocals, Value.category]; done) | rfl) ?_
  intro p e s m below meth c T Q' G' hQ hG C X
  have Kp : Keep h0 h0 [o366] := Keep.refl _ _
  refine s_aloadN 1 C X d5_0 rfl rfl ?_
  refine s_objInit 4 C X d5_1 (mW 32 rfl) (mW 16 rfl) (mW 17 rfl) rfl (W := 0) rfl (by decide) (fun T X => ?_)
  refine s_aloadN 5 C X d5_4 rfl rfl ?_
  refine s_lloadN 6 C X d5_5 rfl ?_
  refine s_putfield 9 C X (host := "") d5_6 (Or.inl (mW 33 rfl)) Via.refl F_o366_position E_o366 (Or.inr ⟨(mW 34 rfl), rfl, rfl⟩) (mW 27 rfl) (ty := .long) (by decide) rfl rfl g_o366 (fun T hh X W => ?_)
  have E_o366 := E_o366.wr W
  have F_o366_position := F_o366_position.same W
  have F_o366_node := oth F_o366_node W (Or.inr (hw _ (mW 36 rfl))) (Or.inr (hw _ (mW 34 rfl))) (by decide)
  have Kp := Kp.wr W (Or.inl (by simp))
  refine s_aloadN 10 C X d5_9 rfl rfl ?_
  refine s_aloadN 11 C X d5_10 rfl rfl ?_
  refine s_putfield 14 C X (host := "") d5_11 (Or.inl (mW 35 rfl)) Via.refl F_o366_node E_o366 (Or.inr ⟨(mW 36 rfl), rfl, rfl⟩) (mW 27 rfl) (ty := (.object "java/lang/String")) (by decide) rfl rfl g_o366 (fun T hh X W => ?_)
  have E_o366 := E_o366.wr W
  have F_o366_position := oth F_o366_position W (Or.inr (hw _ (mW 34 rfl))) (Or.inr (hw _ (mW 36 rfl))) (by decide)
  have F_o366_node := F_o366_node.same W
  have Kp := Kp.wr W (Or.inl (by simp))
  refine s_return C X d5_14 rfl ?_ (FG hG (by decide) (by decide))
  exact hQ _ _ ⟨rfl, E_o366, F_o366_position, F_o366_node, Kp⟩
theorem rm_a369 (l : Launch) (Z : State) (a0 : Array Value) (hw : ∀ d ∈ tables_1, d.before a0 Z = true) (y3 : Int64) (o68 : Addr) (o368 : Addr) (h0 : Heap) (n0 : Nat) (Z0 : n0 ≤ h0.size) (E_o368 : Exa Z h0 o368 "com/example/libring/libring/core/RingPoint") (F_o368_position : Fld Z h0 o368 "com/example/libring/libring/core/RingPoint" "position" "J" (.long j0)) (F_o368_node : Fld Z h0 o368 "com/example/libring/libring/core/RingPoint" "node" "Ljava/lang/String;" .null) (g_o368 : n0 ≤ o368) :
    Met l Z (⟨"com/example/libring/libring/core/RingPoint", "<init>", "(JLjava/lang/String;)V"⟩ : MethodName) prog_9_method_1_code 4 none { frames := 1, cells := 0, slots := 0, locals := 12 } [] #[(.ref o368), (.long y3), (.ref o68)] h0 n0 (fun v h => v = none ∧ Exa Z h o368 "com/example/libring/libring/core/RingPoint" ∧ Fld Z h o368 "com/example/libring/libring/core/RingPoint" "position" "J" (.long y3) ∧ Fld Z h o368 "com/example/libring/libring/core/RingPoint" "node" "Ljava/lang/String;" (.ref o68) ∧ Keep h0 h [o368]) := by
  refine Met.mkQ (tabs := tables_1) (a0 := a0) (ls0 := #[rv o368, lv y3, .second, rv o68]) (plainFor_of_name pn_com_example_libring_libring_core_RingPoint) hw Z0 (fun m => by first | (simp [entryFrame, mkF, argsToLocals, Value.category]; done) | rfl) ?_
  intro p e s m below meth c T Q' G' hQ hG C X
  have Kp : Keep h0 h0 [o368] := Keep.refl _ _
  refine s_aloadN 1 C X d5_0 rfl rfl ?_
  refine s_objInit 4 C X d5_1 (mW 32 rfl) (mW 16 rfl) (mW 17 rfl) rfl (W := 0) rfl (by decide) (fun T X => ?_)
  refine s_aloadN 5 C X d5_4 rfl rfl ?_
  refine s_lloadN 6 C X d5_5 rfl ?_
  refine s_putfield 9 C X (host := "") d5_6 (Or.inl (mW 33 rfl)) Via.refl F_o368_position E_o368 (Or.inr ⟨(mW 34 rfl), rfl, rfl⟩) (mW 27 rfl) (ty := .long) (by decide) rfl rfl g_o368 (fun T hh X W => ?_)
  have E_o368 := E_o368.wr W
  have F_o368_position := F_o368_position.same W
  have F_o368_node := oth F_o368_node W (Or.inr (hw _ (mW 36 rfl))) (Or.inr (hw _ (mW 34 rfl))) (by decide)
  have Kp := Kp.wr W (Or.inl (by simp))
  refine s_aloadN 10 C X d5_9 rfl rfl ?_
  refine s_aloadN 11 C X d5_10 rfl rfl ?_
  refine s_putfield 14 C X (host := "") d5_11 (Or.inl (mW 35 rfl)) Via.refl F_o368_node E_o368 (Or.inr ⟨(mW 36 rfl), rfl, rfl⟩) (mW 27 rfl) (ty := (.object "java/lang/String")) (by decide) rfl rfl g_o368 (fun T hh X W => ?_)
  have E_o368 := E_o368.wr W
  have F_o368_position := oth F_o368_position W (Or.inr (hw _ (mW 34 rfl))) (Or.inr (hw _ (mW 36 rfl))) (by decide)
  have F_o368_node := F_o368_node.same W
  have Kp := Kp.wr W (Or.inl (by simp))
  refine s_return C X d5_14 rfl ?_ (FG hG (by decide) (by decide))
  exact hQ _ _ ⟨rfl, E_o368, F_o368_position, F_o368_node, Kp⟩
theorem rm_a392 (l : Launch) (Z : State) (a0 : Array Value) (hw : ∀ d ∈ tables_1, d.before a0 Z = true) (ca6 : Int32) (y18 : Int32) (y22 : Int32) (o46 : Addr) (k_o46 : ClassId) (o72 : Addr) (k_o72 : ClassId) (h0 : Heap) (n0 : Nat) (Z0 : n0 ≤ h0.size) (A_o46 : Arv Z h0 o46 k_o46 .byte i1 [(.int (bv ca6))] (.int i0)) (A_o72 : Arv Z h0 o72 k_o72 .byte i2 [(.int (bv y18)), (.int (bv y22))] (.int i0)) :
    Met l Z (⟨"java/lang/StringLatin1", "equals", "([B[B)Z"⟩ : MethodName) jdk_43_method_13_code 3 (some .boolean) { frames := 0, cells := 0, slots := 0, locals := 0 } [] #[(.ref o46), (.ref o72)] h0 n0 (fun v h => v = some (.int i0) ∧ Keep h0 h []) := by
  refine Met.mkQ (tabs := tables_1) (a0 := a0) (ls0 := #[rv o46, rv o72, .unset]) (plainFor_of_name pn_java_lang_StringLatin1) hw Z0 (fun m => by first | (simp [entryFrame, mkF, argsToLocals, Value.category]; done) | rfl) ?_
  intro p e s m below meth c T Q' G' hQ hG C X
  have Kp : Keep h0 h0 [] := Keep.refl _ _
  refine s_aloadN 1 C X d11_0 rfl rfl ?_
  refine s_arraylength 2 C X d11_1 A_o46 ?_
  refine s_aloadN 3 C X d11_2 rfl rfl ?_
  refine s_arraylength 4 C X d11_3 A_o72 ?_
  refine s_icmp_ne 34 7 C X d11_4 (fun _ => ?_) (fun c => absurd c (by decide))
  refine s_iconst 35 C X d11_34 kc_iconst_0 ?_
  refine s_nreturn C X d11_35 rfl (by simp) rfl ?_ (FG hG (by decide) (by decide))
  exact hQ _ _ ⟨rfl, Kp⟩
theorem rm_a394 (l : Launch) (Z : State) (a0 : Array Value) (hw : ∀ d ∈ tables_1, d.before a0 Z = true) (cs : Int32) (ca6 : Int32) (y18 : Int32) (y22 : Int32) (o42 : Addr) (o46 : Addr) (k_o46 : ClassId) (o68 : Addr) (o72 : Addr) (k_o72 : ClassId) (h0 : Heap) (n0 : Nat) (Z0 : n0 ≤ h0.size) (S_cs : Sta Z Z.heap "java/lang/String" "COMPACT_STRINGS" "Z" (.int cs)) (F_o42_value : Fld Z h0 o42 "java/lang/String" "value" "[B" (.ref o46)) (F_o42_coder : Fld Z h0 o42 "java/lang/String" "coder" "B" (.int i0)) (A_o46 : Arv Z h0 o46 k_o46 .byte i1 [(.int (bv ca6))] (.int i0)) (Od : Old Z n0 h0) (E_o68 : Exa Z h0 o68 "java/lang/String") (F_o68_value : Fld Z h0 o68 "java/lang/String" "value" "[B" (.ref o72)) (F_o68_coder : Fld Z h0 o68 "java/lang/String" "coder" "B" (.int i0)) (A_o72 : Arv Z h0 o72 k_o72 .byte i2 [(.int (bv y18)), (.int (bv y22))] (.int i0)) (hv_cs : ¬ cs = i0) (ne_o42_o68 : o42 ≠ o68) :
    Met l Z (⟨"java/lang/String", "equals", "(Ljava/lang/Object;)Z"⟩ : MethodName) jdk_42_method_66_code 3 (some .boolean) { frames := 1, cells := 0, slots := 0, locals := 14 } [] #[(.ref o42), (.ref o68)] h0 n0 (fun v h => v = some (.int i0) ∧ Old Z n0 h ∧ Keep h0 h []) := by
  refine Met.mkQ (tabs := tables_1) (a0 := a0) (ls0 := #[rv o42, rv o68, .unset]) (plainFor_of_name pn_java_lang_String) hw Z0 (fun m => by first | (simp [entryFrame, mkF, argsToLocals, Value.category]; done) | rfl) ?_
  intro p e s m below meth c T Q' G' hQ hG C X
  have Kp : Keep h0 h0 [] := Keep.refl _ _
  refine s_aloadN 1 C X d7_0 rfl rfl ?_
  refine s_aloadN 2 C X d7_1 rfl rfl ?_
  refine s_acmp_ne 7 5 C X d7_2 rfl rfl (fun c2_387 => ?_) (fun c => absurd (Value.ref.inj c) ne_o42_o68)
  refine s_aloadN 8 C X d7_7 rfl rfl ?_
  refine s_instY 11 C X d7_8 (mW 62 rfl) (Ins.self E_o68) (fun T X => ?_)
  refine s_if_eq 54 14 C X d7_11 (fun c => absurd c (by decide)) (fun _ => ?_)
  refine s_aloadN 15 C X d7_14 rfl rfl ?_
  refine s_castY 18 C X d7_15 (mW 62 rfl) (Ins.self E_o68) (fun T X => ?_)
  refine s_astoreN 19 C X (l' := #[rv o42, rv o68, rv o68]) d7_18 rfl rfl ?_
  refine s_getstatic 22 C X (host := "") d7_19 (Or.inl (mW 51 rfl)) Via.refl (S_cs.ext Od.2) (fun T X => ?_)
  refine s_if_eq 36 25 C X d7_22 (fun c => absurd c hv_cs) (fun c22_389 => ?_)
  refine s_aloadN 26 C X d7_25 rfl rfl ?_
  refine s_getfield 29 C X (host := "") d7_26 (Or.inl (mW 25 rfl)) Via.refl F_o42_coder (fun T X => ?_)
  refine s_aloadN 30 C X d7_29 rfl rfl ?_
  refine s_getfield 33 C X (host := "") d7_30 (Or.inl (mW 25 rfl)) Via.refl F_o68_coder (fun T X => ?_)
  refine s_icmp_ne 54 36 C X d7_33 (fun c => absurd (by decide : i0 = i0) c) (fun _ => ?_)
  refine s_aloadN 37 C X d7_36 rfl rfl ?_
  refine s_getfield 40 C X (host := "") d7_37 (Or.inl (mW 24 rfl)) Via.refl F_o42_value (fun T X => ?_)
  refine s_aloadN 41 C X d7_40 rfl rfl ?_
  refine s_getfield 44 C X (host := "") d7_41 (Or.inl (mW 24 rfl)) Via.refl F_o68_value (fun T X => ?_)
  refine s_callS 47 [(.ref o46), (.ref o72)] [] 0 C X d7_44 (mW 63 rfl) (mW 64 rfl) (mW 65 rfl) (mW 66 rfl) (rm_a392 l Z a0 hw ca6 y18 y22 o46 k_o46 o72 k_o72 _ n0 X.sz A_o46 A_o72) (lenOf pd___B_B_Z rfl) rfl rfl rfl (fun T v hh X q => ?_)
  obtain ⟨rfl, Kc⟩ := q
  have Od := Od.keep Kc all0
  have Kp := Kp.trans Kc all0
  refine Run.cast (st' := [(.int i0)]) rfl ?_
  refine s_if_eq 54 50 C X d7_47 (fun _ => ?_) (fun c => absurd (by decide : i0 = i0) c)
  refine s_iconst 55 C X d7_54 kc_iconst_0 ?_
  refine s_nreturn C X d7_55 rfl (by simp) rfl ?_ (FG hG (by decide) (by decide))
  exact hQ _ _ ⟨rfl, Od, Kp⟩
theorem rm_a396 (l : Launch) (Z : State) (a0 : Array Value) (hw : ∀ d ∈ tables_1, d.before a0 Z = true) (a : Int64) (cs : Int32) (y3 : Int64) (ca6 : Int32) (y18 : Int32) (y22 : Int32) (o42 : Addr) (o46 : Addr) (k_o46 : ClassId) (o68 : Addr) (o72 : Addr) (k_o72 : ClassId) (o366 : Addr) (o368 : Addr) (h0 : Heap) (n0 : Nat) (Z0 : n0 ≤ h0.size) (S_cs : Sta Z Z.heap "java/lang/String" "COMPACT_STRINGS" "Z" (.int cs)) (E_o42 : Exa Z h0 o42 "java/lang/String") (F_o42_value : Fld Z h0 o42 "java/lang/String" "value" "[B" (.ref o46)) (F_o42_coder : Fld Z h0 o42 "java/lang/String" "coder" "B" (.int i0)) (A_o46 : Arv Z h0 o46 k_o46 .byte i1 [(.int (bv ca6))] (.int i0)) (Od : Old Z n0 h0) (E_o68 : Exa Z h0 o68 "java/lang/String") (F_o68_value : Fld Z h0 o68 "java/lang/String" "value" "[B" (.ref o72)) (F_o68_coder : Fld Z h0 o68 "java/lang/String" "coder" "B" (.int i0)) (A_o72 : Arv Z h0 o72 k_o72 .byte i2 [(.int (bv y18)), (.int (bv y22))] (.int i0)) (F_o366_position : Fld Z h0 o366 "com/example/libring/libring/core/RingPoint" "position" "J" (.long a)) (F_o366_node : Fld Z h0 o366 "com/example/libring/libring/core/RingPoint" "node" "Ljava/lang/String;" (.ref o42)) (E_o368 : Exa Z h0 o368 "com/example/libring/libring/core/RingPoint") (F_o368_position : Fld Z h0 o368 "com/example/libring/libring/core/RingPoint" "position" "J" (.long y3)) (F_o368_node : Fld Z h0 o368 "com/example/libring/libring/core/RingPoint" "node" "Ljava/lang/String;" (.ref o68)) (hv_cs : ¬ cs = i0) (ne_o42_o68 : o42 ≠ o68) :
    Met l Z (⟨"com/example/libring/libring/core/RingPoint", "equals", "(Ljava/lang/Object;)Z"⟩ : MethodName) prog_9_method_4_code 3 (some .boolean) { frames := 2, cells := 0, slots := 0, locals := 28 } [] #[(.ref o366), (.ref o368)] h0 n0 (fun v h => ∃ (y397 : Int32), v = some (.int y397) ∧ (((¬ ((a).toInt = (y3).toInt)) ∧ y397 = i0) ∨ (((a).toInt = (y3).toInt) ∧ y397 = i0)) ∧ Old Z n0 h ∧ Keep h0 h []) := by
  refine Met.mkQ (tabs := tables_1) (a0 := a0) (ls0 := #[rv o366, rv o368, .unset]) (plainFor_of_name pn_com_example_libring_libring_core_RingPoint) hw Z0 (fun m => by first | (simp [entryFrame, mkF, argsToLocals, Value.category]; done) | rfl) ?_
  intro p e s m below meth c T Q' G' hQ hG C X
  have Kp : Keep h0 h0 [] := Keep.refl _ _
  refine s_aloadN 1 C X d6_0 rfl rfl ?_
  refine s_instY 4 C X d6_1 (mW 42 rfl) (Ins.self E_o368) (fun T X => ?_)
  refine s_if_ne 9 7 C X d6_4 (fun _ => ?_) (fun c => absurd c (by decide))
  refine s_aloadN 10 C X d6_9 rfl rfl ?_
  refine s_castY 13 C X d6_10 (mW 42 rfl) (Ins.self E_o368) (fun T X => ?_)
  refine s_astoreN 14 C X (l' := #[rv o366, rv o368, rv o368]) d6_13 rfl rfl ?_
  refine s_aloadN 15 C X d6_14 rfl rfl ?_
  refine s_getfield 18 C X (host := "") d6_15 (Or.inl (mW 33 rfl)) Via.refl F_o366_position (fun T X => ?_)
  refine s_aloadN 19 C X d6_18 rfl rfl ?_
  refine s_getfield 22 C X (host := "") d6_19 (Or.inl (mW 33 rfl)) Via.refl F_o368_position (fun T X => ?_)
  refine s_lcmp 23 C X d6_22 ?_
  refine s_if_ne 44 26 C X d6_23 (fun c23_386 => ?_) (fun c23_386 => ?_)
  · have t_c23_386 : ¬ ((a).toInt = (y3).toInt) := fun q => c23_386 (cl_eq.mpr q)
    refine s_iconst 45 C X d6_44 kc_iconst_0 ?_
    refine s_nreturn C X d6_45 rfl (by simp) rfl ?_ (FG hG (by decide) (by decide))
    exact hQ _ _ ⟨i0, rfl, (Or.inl ⟨t_c23_386, rfl⟩), Od, Kp⟩
  have t_c23_386 : (a).toInt = (y3).toInt := cl_eq.mp c23_386
  refine s_aloadN 27 C X d6_26 rfl rfl ?_
  refine s_getfield 30 C X (host := "") d6_27 (Or.inl (mW 35 rfl)) Via.refl F_o366_node (fun T X => ?_)
  refine s_aloadN 31 C X d6_30 rfl rfl ?_
  refine s_getfield 34 C X (host := "") d6_31 (Or.inl (mW 35 rfl)) Via.refl F_o368_node (fun T X => ?_)
  refine s_callV 37 [(.ref o68)] [] 0 C X d6_34 (mW 44 rfl) (mW 45 rfl) (notFace_of_selects (args := #[]) (mvT C.2.1 (C.w (mW 47 rfl)))) (mW 47 rfl) (mW 46 rfl) (mW 6 rfl) (mW 48 rfl) E_o42 (rm_a394 l Z a0 hw cs ca6 y18 y22 o42 o46 k_o46 o68 o72 k_o72 _ n0 X.sz S_cs F_o42_value F_o42_coder A_o46 Od E_o68 F_o68_value F_o68_coder A_o72 hv_cs ne_o42_o68) (lenOf pd__Ljava_lang_Object__Z rfl) rfl rfl rfl (fun T v hh X q => ?_)
  obtain ⟨rfl, Od, Kc⟩ := q
  have Kp := Kp.trans Kc all0
  refine Run.cast (st' := [(.int i0)]) rfl ?_
  refine s_if_eq 44 40 C X d6_37 (fun _ => ?_) (fun c => absurd (by decide : i0 = i0) c)
  refine s_iconst 45 C X d6_44 kc_iconst_0 ?_
  refine s_nreturn C X d6_45 rfl (by simp) rfl ?_ (FG hG (by decide) (by decide))
  exact hQ _ _ ⟨i0, rfl, (Or.inr ⟨t_c23_386, rfl⟩), Od, Kp⟩
theorem rm_a407 (l : Launch) (Z : State) (a0 : Array Value) (hw : ∀ d ∈ tables_1, d.before a0 Z = true) (ca6 : Int32) (y18 : Int32) (y22 : Int32) (o46 : Addr) (k_o46 : ClassId) (o72 : Addr) (k_o72 : ClassId) (h0 : Heap) (n0 : Nat) (Z0 : n0 ≤ h0.size) (A_o46 : Arv Z h0 o46 k_o46 .byte i1 [(.int (bv ca6))] (.int i0)) (A_o72 : Arv Z h0 o72 k_o72 .byte i2 [(.int (bv y18)), (.int (bv y22))] (.int i0)) :
    Met l Z (⟨"java/lang/StringLatin1", "equals", "([B[B)Z"⟩ : MethodName) jdk_43_method_13_code 3 (some .boolean) { frames := 0, cells := 0, slots := 0, locals := 0 } [] #[(.ref o72), (.ref o46)] h0 n0 (fun v h => v = some (.int i0) ∧ Keep h0 h []) := by
  refine Met.mkQ (tabs := tables_1) (a0 := a0) (ls0 := #[rv o72, rv o46, .unset]) (plainFor_of_name pn_java_lang_StringLatin1) hw Z0 (fun m => by first | (simp [entryFrame, mkF, argsToLocals, Value.category]; done) | rfl) ?_
  intro p e s m below meth c T Q' G' hQ hG C X
  have Kp : Keep h0 h0 [] := Keep.refl _ _
  refine s_aloadN 1 C X d11_0 rfl rfl ?_
  refine s_arraylength 2 C X d11_1 A_o72 ?_
  refine s_aloadN 3 C X d11_2 rfl rfl ?_
  refine s_arraylength 4 C X d11_3 A_o46 ?_
  refine s_icmp_ne 34 7 C X d11_4 (fun _ => ?_) (fun c => absurd c (by decide))
  refine s_iconst 35 C X d11_34 kc_iconst_0 ?_
  refine s_nreturn C X d11_35 rfl (by simp) rfl ?_ (FG hG (by decide) (by decide))
  exact hQ _ _ ⟨rfl, Kp⟩
theorem rm_a409 (l : Launch) (Z : State) (a0 : Array Value) (hw : ∀ d ∈ tables_1, d.before a0 Z = true) (cs : Int32) (ca6 : Int32) (y18 : Int32) (y22 : Int32) (o42 : Addr) (o46 : Addr) (k_o46 : ClassId) (o68 : Addr) (o72 : Addr) (k_o72 : ClassId) (h0 : Heap) (n0 : Nat) (Z0 : n0 ≤ h0.size) (S_cs : Sta Z Z.heap "java/lang/String" "COMPACT_STRINGS" "Z" (.int cs)) (E_o42 : Exa Z h0 o42 "java/lang/String") (F_o42_value : Fld Z h0 o42 "java/lang/String" "value" "[B" (.ref o46)) (F_o42_coder : Fld Z h0 o42 "java/lang/String" "coder" "B" (.int i0)) (A_o46 : Arv Z h0 o46 k_o46 .byte i1 [(.int (bv ca6))] (.int i0)) (F_o68_value : Fld Z h0 o68 "java/lang/String" "value" "[B" (.ref o72)) (F_o68_coder : Fld Z h0 o68 "java/lang/String" "coder" "B" (.int i0)) (A_o72 : Arv Z h0 o72 k_o72 .byte i2 [(.int (bv y18)), (.int (bv y22))] (.int i0)) (Od : Old Z n0 h0) (hv_cs : ¬ cs = i0) (ne_o42_o68 : o42 ≠ o68) :
    Met l Z (⟨"java/lang/String", "equals", "(Ljava/lang/Object;)Z"⟩ : MethodName) jdk_42_method_66_code 3 (some .boolean) { frames := 1, cells := 0, slots := 0, locals := 14 } [] #[(.ref o68), (.ref o42)] h0 n0 (fun v h => v = some (.int i0) ∧ Old Z n0 h ∧ Keep h0 h []) := by
  refine Met.mkQ (tabs := tables_1) (a0 := a0) (ls0 := #[rv o68, rv o42, .unset]) (plainFor_of_name pn_java_lang_String) hw Z0 (fun m => by first | (simp [entryFrame, mkF, argsToLocals, Value.category]; done) | rfl) ?_
  intro p e s m below meth c T Q' G' hQ hG C X
  have Kp : Keep h0 h0 [] := Keep.refl _ _
  refine s_aloadN 1 C X d7_0 rfl rfl ?_
  refine s_aloadN 2 C X d7_1 rfl rfl ?_
  refine s_acmp_ne 7 5 C X d7_2 rfl rfl (fun c2_402 => ?_) (fun c => absurd (Value.ref.inj c) (Ne.symm ne_o42_o68))
  refine s_aloadN 8 C X d7_7 rfl rfl ?_
  refine s_instY 11 C X d7_8 (mW 62 rfl) (Ins.self E_o42) (fun T X => ?_)
  refine s_if_eq 54 14 C X d7_11 (fun c => absurd c (by decide)) (fun _ => ?_)
  refine s_aloadN 15 C X d7_14 rfl rfl ?_
  refine s_castY 18 C X d7_15 (mW 62 rfl) (Ins.self E_o42) (fun T X => ?_)
  refine s_astoreN 19 C X (l' := #[rv o68, rv o42, rv o42]) d7_18 rfl rfl ?_
  refine s_getstatic 22 C X (host := "") d7_19 (Or.inl (mW 51 rfl)) Via.refl (S_cs.ext Od.2) (fun T X => ?_)
  refine s_if_eq 36 25 C X d7_22 (fun c => absurd c hv_cs) (fun c22_404 => ?_)
  refine s_aloadN 26 C X d7_25 rfl rfl ?_
  refine s_getfield 29 C X (host := "") d7_26 (Or.inl (mW 25 rfl)) Via.refl F_o68_coder (fun T X => ?_)
  refine s_aloadN 30 C X d7_29 rfl rfl ?_
  refine s_getfield 33 C X (host := "") d7_30 (Or.inl (mW 25 rfl)) Via.refl F_o42_coder (fun T X => ?_)
  refine s_icmp_ne 54 36 C X d7_33 (fun c => absurd (by decide : i0 = i0) c) (fun _ => ?_)
  refine s_aloadN 37 C X d7_36 rfl rfl ?_
  refine s_getfield 40 C X (host := "") d7_37 (Or.inl (mW 24 rfl)) Via.refl F_o68_value (fun T X => ?_)
  refine s_aloadN 41 C X d7_40 rfl rfl ?_
  refine s_getfield 44 C X (host := "") d7_41 (Or.inl (mW 24 rfl)) Via.refl F_o42_value (fun T X => ?_)
  refine s_callS 47 [(.ref o72), (.ref o46)] [] 0 C X d7_44 (mW 63 rfl) (mW 64 rfl) (mW 65 rfl) (mW 66 rfl) (rm_a407 l Z a0 hw ca6 y18 y22 o46 k_o46 o72 k_o72 _ n0 X.sz A_o46 A_o72) (lenOf pd___B_B_Z rfl) rfl rfl rfl (fun T v hh X q => ?_)
  obtain ⟨rfl, Kc⟩ := q
  have Od := Od.keep Kc all0
  have Kp := Kp.trans Kc all0
  refine Run.cast (st' := [(.int i0)]) rfl ?_
  refine s_if_eq 54 50 C X d7_47 (fun _ => ?_) (fun c => absurd (by decide : i0 = i0) c)
  refine s_iconst 55 C X d7_54 kc_iconst_0 ?_
  refine s_nreturn C X d7_55 rfl (by simp) rfl ?_ (FG hG (by decide) (by decide))
  exact hQ _ _ ⟨rfl, Od, Kp⟩
theorem rm_a411 (l : Launch) (Z : State) (a0 : Array Value) (hw : ∀ d ∈ tables_1, d.before a0 Z = true) (a : Int64) (cs : Int32) (y3 : Int64) (ca6 : Int32) (y18 : Int32) (y22 : Int32) (o42 : Addr) (o46 : Addr) (k_o46 : ClassId) (o68 : Addr) (o72 : Addr) (k_o72 : ClassId) (o366 : Addr) (o368 : Addr) (h0 : Heap) (n0 : Nat) (Z0 : n0 ≤ h0.size) (S_cs : Sta Z Z.heap "java/lang/String" "COMPACT_STRINGS" "Z" (.int cs)) (E_o42 : Exa Z h0 o42 "java/lang/String") (F_o42_value : Fld Z h0 o42 "java/lang/String" "value" "[B" (.ref o46)) (F_o42_coder : Fld Z h0 o42 "java/lang/String" "coder" "B" (.int i0)) (A_o46 : Arv Z h0 o46 k_o46 .byte i1 [(.int (bv ca6))] (.int i0)) (E_o68 : Exa Z h0 o68 "java/lang/String") (F_o68_value : Fld Z h0 o68 "java/lang/String" "value" "[B" (.ref o72)) (F_o68_coder : Fld Z h0 o68 "java/lang/String" "coder" "B" (.int i0)) (A_o72 : Arv Z h0 o72 k_o72 .byte i2 [(.int (bv y18)), (.int (bv y22))] (.int i0)) (E_o366 : Exa Z h0 o366 "com/example/libring/libring/core/RingPoint") (F_o366_position : Fld Z h0 o366 "com/example/libring/libring/core/RingPoint" "position" "J" (.long a)) (F_o366_node : Fld Z h0 o366 "com/example/libring/libring/core/RingPoint" "node" "Ljava/lang/String;" (.ref o42)) (F_o368_position : Fld Z h0 o368 "com/example/libring/libring/core/RingPoint" "position" "J" (.long y3)) (F_o368_node : Fld Z h0 o368 "com/example/libring/libring/core/RingPoint" "node" "Ljava/lang/String;" (.ref o68)) (Od : Old Z n0 h0) (hv_cs : ¬ cs = i0) (ne_o42_o68 : o42 ≠ o68) :
    Met l Z (⟨"com/example/libring/libring/core/RingPoint", "equals", "(Ljava/lang/Object;)Z"⟩ : MethodName) prog_9_method_4_code 3 (some .boolean) { frames := 2, cells := 0, slots := 0, locals := 28 } [] #[(.ref o368), (.ref o366)] h0 n0 (fun v h => ∃ (y412 : Int32), v = some (.int y412) ∧ (((¬ ((y3).toInt = (a).toInt)) ∧ y412 = i0) ∨ (((y3).toInt = (a).toInt) ∧ y412 = i0)) ∧ Old Z n0 h ∧ Keep h0 h []) := by
  refine Met.mkQ (tabs := tables_1) (a0 := a0) (ls0 := #[rv o368, rv o366, .unset]) (plainFor_of_name pn_com_example_libring_libring_core_RingPoint) hw Z0 (fun m => by first | (simp [entryFrame, mkF, argsToLocals, Value.category]; done) | rfl) ?_
  intro p e s m below meth c T Q' G' hQ hG C X
  have Kp : Keep h0 h0 [] := Keep.refl _ _
  refine s_aloadN 1 C X d6_0 rfl rfl ?_
  refine s_instY 4 C X d6_1 (mW 42 rfl) (Ins.self E_o366) (fun T X => ?_)
  refine s_if_ne 9 7 C X d6_4 (fun _ => ?_) (fun c => absurd c (by decide))
  refine s_aloadN 10 C X d6_9 rfl rfl ?_
  refine s_castY 13 C X d6_10 (mW 42 rfl) (Ins.self E_o366) (fun T X => ?_)
  refine s_astoreN 14 C X (l' := #[rv o368, rv o366, rv o366]) d6_13 rfl rfl ?_
  refine s_aloadN 15 C X d6_14 rfl rfl ?_
  refine s_getfield 18 C X (host := "") d6_15 (Or.inl (mW 33 rfl)) Via.refl F_o368_position (fun T X => ?_)
  refine s_aloadN 19 C X d6_18 rfl rfl ?_
  refine s_getfield 22 C X (host := "") d6_19 (Or.inl (mW 33 rfl)) Via.refl F_o366_position (fun T X => ?_)
  refine s_lcmp 23 C X d6_22 ?_
  refine s_if_ne 44 26 C X d6_23 (fun c23_401 => ?_) (fun c23_401 => ?_)
  · have t_c23_401 : ¬ ((y3).toInt = (a).toInt) := fun q => c23_401 (cl_eq.mpr q)
    refine s_iconst 45 C X d6_44 kc_iconst_0 ?_
    refine s_nreturn C X d6_45 rfl (by simp) rfl ?_ (FG hG (by decide) (by decide))
    exact hQ _ _ ⟨i0, rfl, (Or.inl ⟨t_c23_401, rfl⟩), Od, Kp⟩
  have t_c23_401 : (y3).toInt = (a).toInt := cl_eq.mp c23_401
  refine s_aloadN 27 C X d6_26 rfl rfl ?_
  refine s_getfield 30 C X (host := "") d6_27 (Or.inl (mW 35 rfl)) Via.refl F_o368_node (fun T X => ?_)
  refine s_aloadN 31 C X d6_30 rfl rfl ?_
  refine s_getfield 34 C X (host := "") d6_31 (Or.inl (mW 35 rfl)) Via.refl F_o366_node (fun T X => ?_)
  refine s_callV 37 [(.ref o42)] [] 0 C X d6_34 (mW 44 rfl) (mW 45 rfl) (notFace_of_selects (args := #[]) (mvT C.2.1 (C.w (mW 47 rfl)))) (mW 47 rfl) (mW 46 rfl) (mW 6 rfl) (mW 48 rfl) E_o68 (rm_a409 l Z a0 hw cs ca6 y18 y22 o42 o46 k_o46 o68 o72 k_o72 _ n0 X.sz S_cs E_o42 F_o42_value F_o42_coder A_o46 F_o68_value F_o68_coder A_o72 Od hv_cs ne_o42_o68) (lenOf pd__Ljava_lang_Object__Z rfl) rfl rfl rfl (fun T v hh X q => ?_)
  obtain ⟨rfl, Od, Kc⟩ := q
  have Kp := Kp.trans Kc all0
  refine Run.cast (st' := [(.int i0)]) rfl ?_
  refine s_if_eq 44 40 C X d6_37 (fun _ => ?_) (fun c => absurd (by decide : i0 = i0) c)
  refine s_iconst 45 C X d6_44 kc_iconst_0 ?_
  refine s_nreturn C X d6_45 rfl (by simp) rfl ?_ (FG hG (by decide) (by decide))
  exact hQ _ _ ⟨i0, rfl, (Or.inr ⟨t_c23_401, rfl⟩), Od, Kp⟩
theorem rm_a418 (l : Launch) (Z : State) (a0 : Array Value) (hw : ∀ d ∈ tables_1, d.before a0 Z = true) (o42 : Addr) (h0 : Heap) (n0 : Nat) (Z0 : n0 ≤ h0.size)  :
    Met l Z (⟨"java/lang/String", "equals", "(Ljava/lang/Object;)Z"⟩ : MethodName) jdk_42_method_66_code 3 (some .boolean) { frames := 0, cells := 0, slots := 0, locals := 0 } [] #[(.ref o42), (.ref o42)] h0 n0 (fun v h => v = some (.int i1) ∧ Keep h0 h []) := by
  refine Met.mkQ (tabs := tables_1) (a0 := a0) (ls0 := #[rv o42, rv o42, .unset]) (plainFor_of_name pn_java_lang_String) hw Z0 (fun m => by first | (simp [entryFrame, mkF, argsToLocals, Value.category]; done) | rfl) ?_
  intro p e s m below meth c T Q' G' hQ hG C X
  have Kp : Keep h0 h0 [] := Keep.refl _ _
  refine s_aloadN 1 C X d7_0 rfl rfl ?_
  refine s_aloadN 2 C X d7_1 rfl rfl ?_
  refine s_acmp_ne 7 5 C X d7_2 rfl rfl (fun c => absurd rfl c) (fun _ => ?_)
  refine s_iconst 6 C X d7_5 kc_iconst_1 ?_
  refine s_nreturn C X d7_6 rfl (by simp) rfl ?_ (FG hG (by decide) (by decide))
  exact hQ _ _ ⟨rfl, Kp⟩
theorem rm_a420 (l : Launch) (Z : State) (a0 : Array Value) (hw : ∀ d ∈ tables_1, d.before a0 Z = true) (a : Int64) (o42 : Addr) (o366 : Addr) (h0 : Heap) (n0 : Nat) (Z0 : n0 ≤ h0.size) (E_o42 : Exa Z h0 o42 "java/lang/String") (E_o366 : Exa Z h0 o366 "com/example/libring/libring/core/RingPoint") (F_o366_position : Fld Z h0 o366 "com/example/libring/libring/core/RingPoint" "position" "J" (.long a)) (F_o366_node : Fld Z h0 o366 "com/example/libring/libring/core/RingPoint" "node" "Ljava/lang/String;" (.ref o42)) :
    Met l Z (⟨"com/example/libring/libring/core/RingPoint", "equals", "(Ljava/lang/Object;)Z"⟩ : MethodName) prog_9_method_4_code 3 (some .boolean) { frames := 1, cells := 0, slots := 0, locals := 14 } [] #[(.ref o366), (.ref o366)] h0 n0 (fun v h => v = some (.int i1) ∧ Keep h0 h []) := by
  refine Met.mkQ (tabs := tables_1) (a0 := a0) (ls0 := #[rv o366, rv o366, .unset]) (plainFor_of_name pn_com_example_libring_libring_core_RingPoint) hw Z0 (fun m => by first | (simp [entryFrame, mkF, argsToLocals, Value.category]; done) | rfl) ?_
  intro p e s m below meth c T Q' G' hQ hG C X
  have Kp : Keep h0 h0 [] := Keep.refl _ _
  refine s_aloadN 1 C X d6_0 rfl rfl ?_
  refine s_instY 4 C X d6_1 (mW 42 rfl) (Ins.self E_o366) (fun T X => ?_)
  refine s_if_ne 9 7 C X d6_4 (fun _ => ?_) (fun c => absurd c (by decide))
  refine s_aloadN 10 C X d6_9 rfl rfl ?_
  refine s_castY 13 C X d6_10 (mW 42 rfl) (Ins.self E_o366) (fun T X => ?_)
  refine s_astoreN 14 C X (l' := #[rv o366, rv o366, rv o366]) d6_13 rfl rfl ?_
  refine s_aloadN 15 C X d6_14 rfl rfl ?_
  refine s_getfield 18 C X (host := "") d6_15 (Or.inl (mW 33 rfl)) Via.refl F_o366_position (fun T X => ?_)
  refine s_aloadN 19 C X d6_18 rfl rfl ?_
  refine s_getfield 22 C X (host := "") d6_19 (Or.inl (mW 33 rfl)) Via.refl F_o366_position (fun T X => ?_)
  refine s_lcmp 23 C X d6_22 ?_
  refine s_if_ne 44 26 C X d6_23 (fun c => absurd (own_cmp0 _) c) (fun c23_416 => ?_)
  refine s_aloadN 27 C X d6_26 rfl rfl ?_
  refine s_getfield 30 C X (host := "") d6_27 (Or.inl (mW 35 rfl)) Via.refl F_o366_node (fun T X => ?_)
  refine s_aloadN 31 C X d6_30 rfl rfl ?_
  refine s_getfield 34 C X (host := "") d6_31 (Or.inl (mW 35 rfl)) Via.refl F_o366_node (fun T X => ?_)
  refine s_callV 37 [(.ref o42)] [] 0 C X d6_34 (mW 44 rfl) (mW 45 rfl) (notFace_of_selects (args := #[]) (mvT C.2.1 (C.w (mW 47 rfl)))) (mW 47 rfl) (mW 46 rfl) (mW 6 rfl) (mW 48 rfl) E_o42 (rm_a418 l Z a0 hw o42 _ n0 X.sz ) (lenOf pd__Ljava_lang_Object__Z rfl) rfl rfl rfl (fun T v hh X q => ?_)
  obtain ⟨rfl, Kc⟩ := q
  have Kp := Kp.trans Kc all0
  refine Run.cast (st' := [(.int i1)]) rfl ?_
  refine s_if_eq 44 40 C X d6_37 (fun c => absurd c (by decide)) (fun _ => ?_)
  refine s_iconst 41 C X d6_40 kc_iconst_1 ?_
  refine s_goto 45 C X d6_41 ?_
  refine s_nreturn C X d6_45 rfl (by simp) rfl ?_ (FG hG (by decide) (by decide))
  exact hQ _ _ ⟨rfl, Kp⟩
theorem rm_a423 (l : Launch) (Z : State) (a0 : Array Value) (hw : ∀ d ∈ tables_1, d.before a0 Z = true) (o42 : Addr) (o366 : Addr) (h0 : Heap) (n0 : Nat) (Z0 : n0 ≤ h0.size) (E_o42 : Exa Z h0 o42 "java/lang/String") :
    Met l Z (⟨"com/example/libring/libring/core/RingPoint", "equals", "(Ljava/lang/Object;)Z"⟩ : MethodName) prog_9_method_4_code 3 (some .boolean) { frames := 0, cells := 0, slots := 0, locals := 0 } [] #[(.ref o366), (.ref o42)] h0 n0 (fun v h => v = some (.int i0) ∧ Keep h0 h []) := by
  refine Met.mkQ (tabs := tables_1) (a0 := a0) (ls0 := #[rv o366, rv o42, .unset]) (plainFor_of_name pn_com_example_libring_libring_core_RingPoint) hw Z0 (fun m => by first | (simp [entryFrame, mkF, argsToLocals, Value.category]; done) | rfl) ?_
  intro p e s m below meth c T Q' G' hQ hG C X
  have Kp : Keep h0 h0 [] := Keep.refl _ _
  refine s_aloadN 1 C X d6_0 rfl rfl ?_
  refine s_instN 4 C X d6_1 (mW 42 rfl) E_o42 (own_no (C.w (mW 49 rfl)) (C.w (mW 50 rfl)) (C.w (mW 27 rfl))) (fun T X => ?_)
  refine s_if_ne 9 7 C X d6_4 (fun c => absurd (by decide : i0 = i0) c) (fun _ => ?_)
  refine s_iconst 8 C X d6_7 kc_iconst_0 ?_
  refine s_nreturn C X d6_8 rfl (by simp) rfl ?_ (FG hG (by decide) (by decide))
  exact hQ _ _ ⟨rfl, Kp⟩
theorem rm_a426 (l : Launch) (Z : State) (a0 : Array Value) (hw : ∀ d ∈ tables_1, d.before a0 Z = true) (o366 : Addr) (h0 : Heap) (n0 : Nat) (Z0 : n0 ≤ h0.size)  :
    Met l Z (⟨"com/example/libring/libring/core/RingPoint", "equals", "(Ljava/lang/Object;)Z"⟩ : MethodName) prog_9_method_4_code 3 (some .boolean) { frames := 0, cells := 0, slots := 0, locals := 0 } [] #[(.ref o366), .null] h0 n0 (fun v h => v = some (.int i0) ∧ Keep h0 h []) := by
  refine Met.mkQ (tabs := tables_1) (a0 := a0) (ls0 := #[rv o366, .val .null, .unset]) (plainFor_of_name pn_com_example_libring_libring_core_RingPoint) hw Z0 (fun m => by first | (simp [entryFrame, mkF, argsToLocals, Value.category]; done) | rfl) ?_
  intro p e s m below meth c T Q' G' hQ hG C X
  have Kp : Keep h0 h0 [] := Keep.refl _ _
  refine s_aloadN 1 C X d6_0 rfl rfl ?_
  refine s_instNull 4 C X d6_1 ?_
  refine s_if_ne 9 7 C X d6_4 (fun c => absurd (by decide : i0 = i0) c) (fun _ => ?_)
  refine s_iconst 8 C X d6_7 kc_iconst_0 ?_
  refine s_nreturn C X d6_8 rfl (by simp) rfl ?_ (FG hG (by decide) (by decide))
  exact hQ _ _ ⟨rfl, Kp⟩
theorem rm_a429 (l : Launch) (Z : State) (a0 : Array Value) (hw : ∀ d ∈ tables_1, d.before a0 Z = true) (a : Int64) (o42 : Addr) (o428 : Addr) (h0 : Heap) (n0 : Nat) (Z0 : n0 ≤ h0.size) (E_o428 : Exa Z h0 o428 "com/example/libring/libring/core/RingPoint") (F_o428_position : Fld Z h0 o428 "com/example/libring/libring/core/RingPoint" "position" "J" (.long j0)) (F_o428_node : Fld Z h0 o428 "com/example/libring/libring/core/RingPoint" "node" "Ljava/lang/String;" .null) (g_o428 : n0 ≤ o428) :
    Met l Z (⟨"com/example/libring/libring/core/RingPoint", "<init>", "(JLjava/lang/String;)V"⟩ : MethodName) prog_9_method_1_code 4 none { frames := 1, cells := 0, slots := 0, locals := 12 } [] #[(.ref o428), (.long a), (.ref o42)] h0 n0 (fun v h => v = none ∧ Exa Z h o428 "com/example/libring/libring/core/RingPoint" ∧ Fld Z h o428 "com/example/libring/libring/core/RingPoint" "position" "J" (.long a) ∧ Fld Z h o428 "com/example/libring/libring/core/RingPoint" "node" "Ljava/lang/String;" (.ref o42) ∧ Keep h0 h [o428]) := by
  refine Met.mkQ (tabs := tables_1) (a0 := a0) (ls0 := #[rv o428, lv a, .second, rv o42]) (plainFor_of_name pn_com_example_libring_libring_core_RingPoint) hw Z0 (fun m => by first | (simp [entryFrame, mkF, argsToLocals, Value.category]; done) | rfl) ?_
  intro p e s m below meth c T Q' G' hQ hG C X
  have Kp : Keep h0 h0 [o428] := Keep.refl _ _
  refine s_aloadN 1 C X d5_0 rfl rfl ?_
  refine s_objInit 4 C X d5_1 (mW 32 rfl) (mW 16 rfl) (mW 17 rfl) rfl (W := 0) rfl (by decide) (fun T X => ?_)
  refine s_aloadN 5 C X d5_4 rfl rfl ?_
  refine s_lloadN 6 C X d5_5 rfl ?_
  refine s_putfield 9 C X (host := "") d5_6 (Or.inl (mW 33 rfl)) Via.refl F_o428_position E_o428 (Or.inr ⟨(mW 34 rfl), rfl, rfl⟩) (mW 27 rfl) (ty := .long) (by decide) rfl rfl g_o428 (fun T hh X W => ?_)
  have E_o428 := E_o428.wr W
  have F_o428_position := F_o428_position.same W
  have F_o428_node := oth F_o428_node W (Or.inr (hw _ (mW 36 rfl))) (Or.inr (hw _ (mW 34 rfl))) (by decide)
  have Kp := Kp.wr W (Or.inl (by simp))
  refine s_aloadN 10 C X d5_9 rfl rfl ?_
  refine s_aloadN 11 C X d5_10 rfl rfl ?_
  refine s_putfield 14 C X (host := "") d5_11 (Or.inl (mW 35 rfl)) Via.refl F_o428_node E_o428 (Or.inr ⟨(mW 36 rfl), rfl, rfl⟩) (mW 27 rfl) (ty := (.object "java/lang/String")) (by decide) rfl rfl g_o428 (fun T hh X W => ?_)
  have E_o428 := E_o428.wr W
  have F_o428_position := oth F_o428_position W (Or.inr (hw _ (mW 34 rfl))) (Or.inr (hw _ (mW 36 rfl))) (by decide)
  have F_o428_node := F_o428_node.same W
  have Kp := Kp.wr W (Or.inl (by simp))
  refine s_return C X d5_14 rfl ?_ (FG hG (by decide) (by decide))
  exact hQ _ _ ⟨rfl, E_o428, F_o428_position, F_o428_node, Kp⟩
theorem rm_a431 (l : Launch) (Z : State) (a0 : Array Value) (hw : ∀ d ∈ tables_1, d.before a0 Z = true) (y3 : Int64) (o84 : Addr) (o430 : Addr) (h0 : Heap) (n0 : Nat) (Z0 : n0 ≤ h0.size) (E_o430 : Exa Z h0 o430 "com/example/libring/libring/core/RingPoint") (F_o430_position : Fld Z h0 o430 "com/example/libring/libring/core/RingPoint" "position" "J" (.long j0)) (F_o430_node : Fld Z h0 o430 "com/example/libring/libring/core/RingPoint" "node" "Ljava/lang/String;" .null) (g_o430 : n0 ≤ o430) :
    Met l Z (⟨"com/example/libring/libring/core/RingPoint", "<init>", "(JLjava/lang/String;)V"⟩ : MethodName) prog_9_method_1_code 4 none { frames := 1, cells := 0, slots := 0, locals := 12 } [] #[(.ref o430), (.long y3), (.ref o84)] h0 n0 (fun v h => v = none ∧ Exa Z h o430 "com/example/libring/libring/core/RingPoint" ∧ Fld Z h o430 "com/example/libring/libring/core/RingPoint" "position" "J" (.long y3) ∧ Fld Z h o430 "com/example/libring/libring/core/RingPoint" "node" "Ljava/lang/String;" (.ref o84) ∧ Keep h0 h [o430]) := by
  refine Met.mkQ (tabs := tables_1) (a0 := a0) (ls0 := #[rv o430, lv y3, .second, rv o84]) (plainFor_of_name pn_com_example_libring_libring_core_RingPoint) hw Z0 (fun m => by first | (simp [entryFrame, mkF, argsToLocals, Value.category]; done) | rfl) ?_
  intro p e s m below meth c T Q' G' hQ hG C X
  have Kp : Keep h0 h0 [o430] := Keep.refl _ _
  refine s_aloadN 1 C X d5_0 rfl rfl ?_
  refine s_objInit 4 C X d5_1 (mW 32 rfl) (mW 16 rfl) (mW 17 rfl) rfl (W := 0) rfl (by decide) (fun T X => ?_)
  refine s_aloadN 5 C X d5_4 rfl rfl ?_
  refine s_lloadN 6 C X d5_5 rfl ?_
  refine s_putfield 9 C X (host := "") d5_6 (Or.inl (mW 33 rfl)) Via.refl F_o430_position E_o430 (Or.inr ⟨(mW 34 rfl), rfl, rfl⟩) (mW 27 rfl) (ty := .long) (by decide) rfl rfl g_o430 (fun T hh X W => ?_)
  have E_o430 := E_o430.wr W
  have F_o430_position := F_o430_position.same W
  have F_o430_node := oth F_o430_node W (Or.inr (hw _ (mW 36 rfl))) (Or.inr (hw _ (mW 34 rfl))) (by decide)
  have Kp := Kp.wr W (Or.inl (by simp))
  refine s_aloadN 10 C X d5_9 rfl rfl ?_
  refine s_aloadN 11 C X d5_10 rfl rfl ?_
  refine s_putfield 14 C X (host := "") d5_11 (Or.inl (mW 35 rfl)) Via.refl F_o430_node E_o430 (Or.inr ⟨(mW 36 rfl), rfl, rfl⟩) (mW 27 rfl) (ty := (.object "java/lang/String")) (by decide) rfl rfl g_o430 (fun T hh X W => ?_)
  have E_o430 := E_o430.wr W
  have F_o430_position := oth F_o430_position W (Or.inr (hw _ (mW 34 rfl))) (Or.inr (hw _ (mW 36 rfl))) (by decide)
  have F_o430_node := F_o430_node.same W
  have Kp := Kp.wr W (Or.inl (by simp))
  refine s_return C X d5_14 rfl ?_ (FG hG (by decide) (by decide))
  exact hQ _ _ ⟨rfl, E_o430, F_o430_position, F_o430_node, Kp⟩
theorem rm_a457 (l : Launch) (Z : State) (a0 : Array Value) (hw : ∀ d ∈ tables_1, d.before a0 Z = true) (ca6 : Int32) (y18 : Int32) (o46 : Addr) (k_o46 : ClassId) (o88 : Addr) (k_o88 : ClassId) (h0 : Heap) (n0 : Nat) (Z0 : n0 ≤ h0.size) (A_o46 : Arv Z h0 o46 k_o46 .byte i1 [(.int (bv ca6))] (.int i0)) (A_o88 : Arv Z h0 o88 k_o88 .byte i1 [(.int (bv y18))] (.int i0)) :
    Met l Z (⟨"java/lang/StringLatin1", "equals", "([B[B)Z"⟩ : MethodName) jdk_43_method_13_code 3 (some .boolean) { frames := 0, cells := 0, slots := 0, locals := 0 } [] #[(.ref o46), (.ref o88)] h0 n0 (fun v h => (v = some (.int i1) ∧ ((((bv ca6)).toInt = ((bv y18)).toInt)) ∧ Keep h0 h []) ∨ (v = some (.int i0) ∧ ¬ ((((bv ca6)).toInt = ((bv y18)).toInt)) ∧ Keep h0 h [])) := by
  refine Met.mkQ (tabs := tables_1) (a0 := a0) (ls0 := #[rv o46, rv o88, .unset]) (plainFor_of_name pn_java_lang_StringLatin1) hw Z0 (fun m => by first | (simp [entryFrame, mkF, argsToLocals, Value.category]; done) | rfl) ?_
  intro p e s m below meth c T Q' G' hQ hG C X
  have Kp : Keep h0 h0 [] := Keep.refl _ _
  refine s_aloadN 1 C X d11_0 rfl rfl ?_
  refine s_arraylength 2 C X d11_1 A_o46 ?_
  refine s_aloadN 3 C X d11_2 rfl rfl ?_
  refine s_arraylength 4 C X d11_3 A_o88 ?_
  refine s_icmp_ne 34 7 C X d11_4 (fun c => absurd (by decide : i1 = i1) c) (fun _ => ?_)
  refine s_iconst 8 C X d11_7 kc_iconst_0 ?_
  refine s_istoreN 9 C X (l' := #[rv o46, rv o88, iv i0]) d11_8 rfl ?_
  refine s_iloadN 10 C X d11_9 rfl ?_
  refine s_aloadN 11 C X d11_10 rfl rfl ?_
  refine s_arraylength 12 C X d11_11 A_o46 ?_
  refine s_icmp_ge 32 15 C X d11_12 (fun c => absurd (by decide : i0 < i1) c) (fun _ => ?_)
  refine s_aloadN 16 C X d11_15 rfl rfl ?_
  refine s_iloadN 17 C X d11_16 rfl ?_
  refine s_baload 18 C X d11_17 A_o46 ⟨by decide, by decide⟩ (v := (.int (bv ca6))) rfl ?_
  refine s_aloadN 19 C X d11_18 rfl rfl ?_
  refine s_iloadN 20 C X d11_19 rfl ?_
  refine s_baload 21 C X d11_20 A_o88 ⟨by decide, by decide⟩ (v := (.int (bv y18))) rfl ?_
  refine s_icmp_eq 26 24 C X d11_21 (fun c21_455 => ?_) (fun c21_455 => ?_)
  · have t_c21_455 : ((bv ca6)).toInt = ((bv y18)).toInt := congrArg Int32.toInt c21_455
    refine s_iinc 29 C X (l' := #[rv o46, rv o88, iv i1]) d11_26 kc_iconst_1 rfl rfl ?_
    refine s_goto 9 C X d11_29 ?_
    refine s_iloadN 10 C X d11_9 rfl ?_
    refine s_aloadN 11 C X d11_10 rfl rfl ?_
    refine s_arraylength 12 C X d11_11 A_o46 ?_
    refine s_icmp_ge 32 15 C X d11_12 (fun _ => ?_) (fun c => absurd c (by decide))
    refine s_iconst 33 C X d11_32 kc_iconst_1 ?_
    refine s_nreturn C X d11_33 rfl (by simp) rfl ?_ (FG hG (by decide) (by decide))
    exact hQ _ _ (Or.inl ⟨rfl, t_c21_455, Kp⟩)
  have t_c21_455 : ¬ (((bv ca6)).toInt = ((bv y18)).toInt) := fun q => c21_455 (Int32.toInt_inj.mp q)
  refine s_iconst 25 C X d11_24 kc_iconst_0 ?_
  refine s_nreturn C X d11_25 rfl (by simp) rfl ?_ (FG hG (by decide) (by decide))
  exact hQ _ _ (Or.inr ⟨rfl, (by omega), Kp⟩)
theorem rm_a464 (l : Launch) (Z : State) (a0 : Array Value) (hw : ∀ d ∈ tables_1, d.before a0 Z = true) (cs : Int32) (ca6 : Int32) (y18 : Int32) (o42 : Addr) (o46 : Addr) (k_o46 : ClassId) (o84 : Addr) (o88 : Addr) (k_o88 : ClassId) (h0 : Heap) (n0 : Nat) (Z0 : n0 ≤ h0.size) (S_cs : Sta Z Z.heap "java/lang/String" "COMPACT_STRINGS" "Z" (.int cs)) (F_o42_value : Fld Z h0 o42 "java/lang/String" "value" "[B" (.ref o46)) (F_o42_coder : Fld Z h0 o42 "java/lang/String" "coder" "B" (.int i0)) (A_o46 : Arv Z h0 o46 k_o46 .byte i1 [(.int (bv ca6))] (.int i0)) (Od : Old Z n0 h0) (E_o84 : Exa Z h0 o84 "java/lang/String") (F_o84_value : Fld Z h0 o84 "java/lang/String" "value" "[B" (.ref o88)) (F_o84_coder : Fld Z h0 o84 "java/lang/String" "coder" "B" (.int i0)) (A_o88 : Arv Z h0 o88 k_o88 .byte i1 [(.int (bv y18))] (.int i0)) (hv_cs : ¬ cs = i0) (ne_o42_o84 : o42 ≠ o84) :
    Met l Z (⟨"java/lang/String", "equals", "(Ljava/lang/Object;)Z"⟩ : MethodName) jdk_42_method_66_code 3 (some .boolean) { frames := 1, cells := 0, slots := 0, locals := 14 } [] #[(.ref o42), (.ref o84)] h0 n0 (fun v h => (v = some (.int i1) ∧ (((((bv ca6)).toInt = ((bv y18)).toInt))) ∧ Old Z n0 h ∧ Keep h0 h []) ∨ (v = some (.int i0) ∧ ¬ (((((bv ca6)).toInt = ((bv y18)).toInt))) ∧ Old Z n0 h ∧ Keep h0 h [])) := by
  refine Met.mkQ (tabs := tables_1) (a0 := a0) (ls0 := #[rv o42, rv o84, .unset]) (plainFor_of_name pn_java_lang_String) hw Z0 (fun m => by first | (simp [entryFrame, mkF, argsToLocals, Value.category]; done) | rfl) ?_
  intro p e s m below meth c T Q' G' hQ hG C X
  have Kp : Keep h0 h0 [] := Keep.refl _ _
  refine s_aloadN 1 C X d7_0 rfl rfl ?_
  refine s_aloadN 2 C X d7_1 rfl rfl ?_
  refine s_acmp_ne 7 5 C X d7_2 rfl rfl (fun c2_449 => ?_) (fun c => absurd (Value.ref.inj c) ne_o42_o84)
  refine s_aloadN 8 C X d7_7 rfl rfl ?_
  refine s_instY 11 C X d7_8 (mW 62 rfl) (Ins.self E_o84) (fun T X => ?_)
  refine s_if_eq 54 14 C X d7_11 (fun c => absurd c (by decide)) (fun _ => ?_)
  refine s_aloadN 15 C X d7_14 rfl rfl ?_
  refine s_castY 18 C X d7_15 (mW 62 rfl) (Ins.self E_o84) (fun T X => ?_)
  refine s_astoreN 19 C X (l' := #[rv o42, rv o84, rv o84]) d7_18 rfl rfl ?_
  refine s_getstatic 22 C X (host := "") d7_19 (Or.inl (mW 51 rfl)) Via.refl (S_cs.ext Od.2) (fun T X => ?_)
  refine s_if_eq 36 25 C X d7_22 (fun c => absurd c hv_cs) (fun c22_451 => ?_)
  refine s_aloadN 26 C X d7_25 rfl rfl ?_
  refine s_getfield 29 C X (host := "") d7_26 (Or.inl (mW 25 rfl)) Via.refl F_o42_coder (fun T X => ?_)
  refine s_aloadN 30 C X d7_29 rfl rfl ?_
  refine s_getfield 33 C X (host := "") d7_30 (Or.inl (mW 25 rfl)) Via.refl F_o84_coder (fun T X => ?_)
  refine s_icmp_ne 54 36 C X d7_33 (fun c => absurd (by decide : i0 = i0) c) (fun _ => ?_)
  refine s_aloadN 37 C X d7_36 rfl rfl ?_
  refine s_getfield 40 C X (host := "") d7_37 (Or.inl (mW 24 rfl)) Via.refl F_o42_value (fun T X => ?_)
  refine s_aloadN 41 C X d7_40 rfl rfl ?_
  refine s_getfield 44 C X (host := "") d7_41 (Or.inl (mW 24 rfl)) Via.refl F_o84_value (fun T X => ?_)
  refine s_callS 47 [(.ref o46), (.ref o88)] [] 0 C X d7_44 (mW 63 rfl) (mW 64 rfl) (mW 65 rfl) (mW 66 rfl) (rm_a457 l Z a0 hw ca6 y18 o46 k_o46 o88 k_o88 _ n0 X.sz A_o46 A_o88) (lenOf pd___B_B_Z rfl) rfl rfl rfl (fun T v hh X q => ?_)
  obtain ⟨rfl, q460, Kc⟩ | ⟨rfl, q461, Kc⟩ := q
  · have F_o42_value := F_o42_value.keep Kc nin0
    have Od := Od.keep Kc all0
    have Kp := Kp.trans Kc all0
    refine Run.cast (st' := [(.int i1)]) rfl ?_
    refine s_if_eq 54 50 C X d7_47 (fun c => absurd c (by decide)) (fun _ => ?_)
    refine s_iconst 51 C X d7_50 kc_iconst_1 ?_
    refine s_goto 55 C X d7_51 ?_
    refine s_nreturn C X d7_55 rfl (by simp) rfl ?_ (FG hG (by decide) (by decide))
    exact hQ _ _ (Or.inl ⟨rfl, q460, Od, Kp⟩)
  · have F_o42_value := F_o42_value.keep Kc nin0
    have Od := Od.keep Kc all0
    have Kp := Kp.trans Kc all0
    refine Run.cast (st' := [(.int i0)]) rfl ?_
    refine s_if_eq 54 50 C X d7_47 (fun _ => ?_) (fun c => absurd (by decide : i0 = i0) c)
    refine s_iconst 55 C X d7_54 kc_iconst_0 ?_
    refine s_nreturn C X d7_55 rfl (by simp) rfl ?_ (FG hG (by decide) (by decide))
    exact hQ _ _ (Or.inr ⟨rfl, (by omega), Od, Kp⟩)
theorem rm_a471 (l : Launch) (Z : State) (a0 : Array Value) (hw : ∀ d ∈ tables_1, d.before a0 Z = true) (a : Int64) (cs : Int32) (y3 : Int64) (ca6 : Int32) (y18 : Int32) (o42 : Addr) (o46 : Addr) (k_o46 : ClassId) (o84 : Addr) (o88 : Addr) (k_o88 : ClassId) (o428 : Addr) (o430 : Addr) (h0 : Heap) (n0 : Nat) (Z0 : n0 ≤ h0.size) (S_cs : Sta Z Z.heap "java/lang/String" "COMPACT_STRINGS" "Z" (.int cs)) (E_o42 : Exa Z h0 o42 "java/lang/String") (F_o42_value : Fld Z h0 o42 "java/lang/String" "value" "[B" (.ref o46)) (F_o42_coder : Fld Z h0 o42 "java/lang/String" "coder" "B" (.int i0)) (A_o46 : Arv Z h0 o46 k_o46 .byte i1 [(.int (bv ca6))] (.int i0)) (Od : Old Z n0 h0) (E_o84 : Exa Z h0 o84 "java/lang/String") (F_o84_value : Fld Z h0 o84 "java/lang/String" "value" "[B" (.ref o88)) (F_o84_coder : Fld Z h0 o84 "java/lang/String" "coder" "B" (.int i0)) (A_o88 : Arv Z h0 o88 k_o88 .byte i1 [(.int (bv y18))] (.int i0)) (F_o428_position : Fld Z h0 o428 "com/example/libring/libring/core/RingPoint" "position" "J" (.long a)) (F_o428_node : Fld Z h0 o428 "com/example/libring/libring/core/RingPoint" "node" "Ljava/lang/String;" (.ref o42)) (E_o430 : Exa Z h0 o430 "com/example/libring/libring/core/RingPoint") (F_o430_position : Fld Z h0 o430 "com/example/libring/libring/core/RingPoint" "position" "J" (.long y3)) (F_o430_node : Fld Z h0 o430 "com/example/libring/libring/core/RingPoint" "node" "Ljava/lang/String;" (.ref o84)) (hv_cs : ¬ cs = i0) (ne_o42_o84 : o42 ≠ o84) :
    Met l Z (⟨"com/example/libring/libring/core/RingPoint", "equals", "(Ljava/lang/Object;)Z"⟩ : MethodName) prog_9_method_4_code 3 (some .boolean) { frames := 2, cells := 0, slots := 0, locals := 28 } [] #[(.ref o428), (.ref o430)] h0 n0 (fun v h => ∃ (y472 : Int32), v = some (.int y472) ∧ ((y472 = i1 ∧ (((a).toInt = (y3).toInt) ∧ (((((bv ca6)).toInt = ((bv y18)).toInt))))) ∨ (y472 = i0 ∧ ¬ (((a).toInt = (y3).toInt) ∧ (((((bv ca6)).toInt = ((bv y18)).toInt)))))) ∧ Old Z n0 h ∧ Keep h0 h []) := by
  refine Met.mkQ (tabs := tables_1) (a0 := a0) (ls0 := #[rv o428, rv o430, .unset]) (plainFor_of_name pn_com_example_libring_libring_core_RingPoint) hw Z0 (fun m => by first | (simp [entryFrame, mkF, argsToLocals, Value.category]; done) | rfl) ?_
  intro p e s m below meth c T Q' G' hQ hG C X
  have Kp : Keep h0 h0 [] := Keep.refl _ _
  refine s_aloadN 1 C X d6_0 rfl rfl ?_
  refine s_instY 4 C X d6_1 (mW 42 rfl) (Ins.self E_o430) (fun T X => ?_)
  refine s_if_ne 9 7 C X d6_4 (fun _ => ?_) (fun c => absurd c (by decide))
  refine s_aloadN 10 C X d6_9 rfl rfl ?_
  refine s_castY 13 C X d6_10 (mW 42 rfl) (Ins.self E_o430) (fun T X => ?_)
  refine s_astoreN 14 C X (l' := #[rv o428, rv o430, rv o430]) d6_13 rfl rfl ?_
  refine s_aloadN 15 C X d6_14 rfl rfl ?_
  refine s_getfield 18 C X (host := "") d6_15 (Or.inl (mW 33 rfl)) Via.refl F_o428_position (fun T X => ?_)
  refine s_aloadN 19 C X d6_18 rfl rfl ?_
  refine s_getfield 22 C X (host := "") d6_19 (Or.inl (mW 33 rfl)) Via.refl F_o430_position (fun T X => ?_)
  refine s_lcmp 23 C X d6_22 ?_
  refine s_if_ne 44 26 C X d6_23 (fun c23_448 => ?_) (fun c23_448 => ?_)
  · have t_c23_448 : ¬ ((a).toInt = (y3).toInt) := fun q => c23_448 (cl_eq.mpr q)
    refine s_iconst 45 C X d6_44 kc_iconst_0 ?_
    refine s_nreturn C X d6_45 rfl (by simp) rfl ?_ (FG hG (by decide) (by decide))
    exact hQ _ _ ⟨_, rfl, Or.inr ⟨rfl, (by omega)⟩, Od, Kp⟩
  have t_c23_448 : (a).toInt = (y3).toInt := cl_eq.mp c23_448
  refine s_aloadN 27 C X d6_26 rfl rfl ?_
  refine s_getfield 30 C X (host := "") d6_27 (Or.inl (mW 35 rfl)) Via.refl F_o428_node (fun T X => ?_)
  refine s_aloadN 31 C X d6_30 rfl rfl ?_
  refine s_getfield 34 C X (host := "") d6_31 (Or.inl (mW 35 rfl)) Via.refl F_o430_node (fun T X => ?_)
  refine s_callV 37 [(.ref o84)] [] 0 C X d6_34 (mW 44 rfl) (mW 45 rfl) (notFace_of_selects (args := #[]) (mvT C.2.1 (C.w (mW 47 rfl)))) (mW 47 rfl) (mW 46 rfl) (mW 6 rfl) (mW 48 rfl) E_o42 (rm_a464 l Z a0 hw cs ca6 y18 o42 o46 k_o46 o84 o88 k_o88 _ n0 X.sz S_cs F_o42_value F_o42_coder A_o46 Od E_o84 F_o84_value F_o84_coder A_o88 hv_cs ne_o42_o84) (lenOf pd__Ljava_lang_Object__Z rfl) rfl rfl rfl (fun T v hh X q => ?_)
  obtain ⟨rfl, q467, Od, Kc⟩ | ⟨rfl, q468, Od, Kc⟩ := q
  · have E_o42 := E_o42.keep Kc
    have Kp := Kp.trans Kc all0
    refine Run.cast (st' := [(.int i1)]) rfl ?_
    refine s_if_eq 44 40 C X d6_37 (fun c => absurd c (by decide)) (fun _ => ?_)
    refine s_iconst 41 C X d6_40 kc_iconst_1 ?_
    refine s_goto 45 C X d6_41 ?_
    refine s_nreturn C X d6_45 rfl (by simp) rfl ?_ (FG hG (by decide) (by decide))
    exact hQ _ _ ⟨_, rfl, Or.inl ⟨rfl, ⟨t_c23_448, q467⟩⟩, Od, Kp⟩
  · have E_o42 := E_o42.keep Kc
    have Kp := Kp.trans Kc all0
    refine Run.cast (st' := [(.int i0)]) rfl ?_
    refine s_if_eq 44 40 C X d6_37 (fun _ => ?_) (fun c => absurd (by decide : i0 = i0) c)
    refine s_iconst 45 C X d6_44 kc_iconst_0 ?_
    refine s_nreturn C X d6_45 rfl (by simp) rfl ?_ (FG hG (by decide) (by decide))
    exact hQ _ _ ⟨_, rfl, Or.inr ⟨rfl, (by omega)⟩, Od, Kp⟩
theorem rm_a485 (l : Launch) (Z : State) (a0 : Array Value) (hw : ∀ d ∈ tables_1, d.before a0 Z = true) (ca6 : Int32) (y18 : Int32) (o46 : Addr) (k_o46 : ClassId) (o88 : Addr) (k_o88 : ClassId) (h0 : Heap) (n0 : Nat) (Z0 : n0 ≤ h0.size) (A_o46 : Arv Z h0 o46 k_o46 .byte i1 [(.int (bv ca6))] (.int i0)) (A_o88 : Arv Z h0 o88 k_o88 .byte i1 [(.int (bv y18))] (.int i0)) :
    Met l Z (⟨"java/lang/StringLatin1", "equals", "([B[B)Z"⟩ : MethodName) jdk_43_method_13_code 3 (some .boolean) { frames := 0, cells := 0, slots := 0, locals := 0 } [] #[(.ref o88), (.ref o46)] h0 n0 (fun v h => (v = some (.int i1) ∧ ((((bv y18)).toInt = ((bv ca6)).toInt)) ∧ Keep h0 h []) ∨ (v = some (.int i0) ∧ ¬ ((((bv y18)).toInt = ((bv ca6)).toInt)) ∧ Keep h0 h [])) := by
  refine Met.mkQ (tabs := tables_1) (a0 := a0) (ls0 := #[rv o88, rv o46, .unset]) (plainFor_of_name pn_java_lang_StringLatin1) hw Z0 (fun m => by first | (simp [entryFrame, mkF, argsToLocals, Value.category]; done) | rfl) ?_
  intro p e s m below meth c T Q' G' hQ hG C X
  have Kp : Keep h0 h0 [] := Keep.refl _ _
  refine s_aloadN 1 C X d11_0 rfl rfl ?_
  refine s_arraylength 2 C X d11_1 A_o88 ?_
  refine s_aloadN 3 C X d11_2 rfl rfl ?_
  refine s_arraylength 4 C X d11_3 A_o46 ?_
  refine s_icmp_ne 34 7 C X d11_4 (fun c => absurd (by decide : i1 = i1) c) (fun _ => ?_)
  refine s_iconst 8 C X d11_7 kc_iconst_0 ?_
  refine s_istoreN 9 C X (l' := #[rv o88, rv o46, iv i0]) d11_8 rfl ?_
  refine s_iloadN 10 C X d11_9 rfl ?_
  refine s_aloadN 11 C X d11_10 rfl rfl ?_
  refine s_arraylength 12 C X d11_11 A_o88 ?_
  refine s_icmp_ge 32 15 C X d11_12 (fun c => absurd (by decide : i0 < i1) c) (fun _ => ?_)
  refine s_aloadN 16 C X d11_15 rfl rfl ?_
  refine s_iloadN 17 C X d11_16 rfl ?_
  refine s_baload 18 C X d11_17 A_o88 ⟨by decide, by decide⟩ (v := (.int (bv y18))) rfl ?_
  refine s_aloadN 19 C X d11_18 rfl rfl ?_
  refine s_iloadN 20 C X d11_19 rfl ?_
  refine s_baload 21 C X d11_20 A_o46 ⟨by decide, by decide⟩ (v := (.int (bv ca6))) rfl ?_
  refine s_icmp_eq 26 24 C X d11_21 (fun c21_483 => ?_) (fun c21_483 => ?_)
  · have t_c21_483 : ((bv y18)).toInt = ((bv ca6)).toInt := congrArg Int32.toInt c21_483
    refine s_iinc 29 C X (l' := #[rv o88, rv o46, iv i1]) d11_26 kc_iconst_1 rfl rfl ?_
    refine s_goto 9 C X d11_29 ?_
    refine s_iloadN 10 C X d11_9 rfl ?_
    refine s_aloadN 11 C X d11_10 rfl rfl ?_
    refine s_arraylength 12 C X d11_11 A_o88 ?_
    refine s_icmp_ge 32 15 C X d11_12 (fun _ => ?_) (fun c => absurd c (by decide))
    refine s_iconst 33 C X d11_32 kc_iconst_1 ?_
    refine s_nreturn C X d11_33 rfl (by simp) rfl ?_ (FG hG (by decide) (by decide))
    exact hQ _ _ (Or.inl ⟨rfl, t_c21_483, Kp⟩)
  have t_c21_483 : ¬ (((bv y18)).toInt = ((bv ca6)).toInt) := fun q => c21_483 (Int32.toInt_inj.mp q)
  refine s_iconst 25 C X d11_24 kc_iconst_0 ?_
  refine s_nreturn C X d11_25 rfl (by simp) rfl ?_ (FG hG (by decide) (by decide))
  exact hQ _ _ (Or.inr ⟨rfl, (by omega), Kp⟩)
theorem rm_a492 (l : Launch) (Z : State) (a0 : Array Value) (hw : ∀ d ∈ tables_1, d.before a0 Z = true) (cs : Int32) (ca6 : Int32) (y18 : Int32) (o42 : Addr) (o46 : Addr) (k_o46 : ClassId) (o84 : Addr) (o88 : Addr) (k_o88 : ClassId) (h0 : Heap) (n0 : Nat) (Z0 : n0 ≤ h0.size) (S_cs : Sta Z Z.heap "java/lang/String" "COMPACT_STRINGS" "Z" (.int cs)) (E_o42 : Exa Z h0 o42 "java/lang/String") (F_o42_value : Fld Z h0 o42 "java/lang/String" "value" "[B" (.ref o46)) (F_o42_coder : Fld Z h0 o42 "java/lang/String" "coder" "B" (.int i0)) (A_o46 : Arv Z h0 o46 k_o46 .byte i1 [(.int (bv ca6))] (.int i0)) (F_o84_value : Fld Z h0 o84 "java/lang/String" "value" "[B" (.ref o88)) (F_o84_coder : Fld Z h0 o84 "java/lang/String" "coder" "B" (.int i0)) (A_o88 : Arv Z h0 o88 k_o88 .byte i1 [(.int (bv y18))] (.int i0)) (Od : Old Z n0 h0) (hv_cs : ¬ cs = i0) (ne_o42_o84 : o42 ≠ o84) :
    Met l Z (⟨"java/lang/String", "equals", "(Ljava/lang/Object;)Z"⟩ : MethodName) jdk_42_method_66_code 3 (some .boolean) { frames := 1, cells := 0, slots := 0, locals := 14 } [] #[(.ref o84), (.ref o42)] h0 n0 (fun v h => (v = some (.int i1) ∧ (((((bv y18)).toInt = ((bv ca6)).toInt))) ∧ Old Z n0 h ∧ Keep h0 h []) ∨ (v = some (.int i0) ∧ ¬ (((((bv y18)).toInt = ((bv ca6)).toInt))) ∧ Old Z n0 h ∧ Keep h0 h [])) := by
  refine Met.mkQ (tabs := tables_1) (a0 := a0) (ls0 := #[rv o84, rv o42, .unset]) (plainFor_of_name pn_java_lang_String) hw Z0 (fun m => by first | (simp [entryFrame, mkF, argsToLocals, Value.category]; done) | rfl) ?_
  intro p e s m below meth c T Q' G' hQ hG C X
  have Kp : Keep h0 h0 [] := Keep.refl _ _
  refine s_aloadN 1 C X d7_0 rfl rfl ?_
  refine s_aloadN 2 C X d7_1 rfl rfl ?_
  refine s_acmp_ne 7 5 C X d7_2 rfl rfl (fun c2_477 => ?_) (fun c => absurd (Value.ref.inj c) (Ne.symm ne_o42_o84))
  refine s_aloadN 8 C X d7_7 rfl rfl ?_
  refine s_instY 11 C X d7_8 (mW 62 rfl) (Ins.self E_o42) (fun T X => ?_)
  refine s_if_eq 54 14 C X d7_11 (fun c => absurd c (by decide)) (fun _ => ?_)
  refine s_aloadN 15 C X d7_14 rfl rfl ?_
  refine s_castY 18 C X d7_15 (mW 62 rfl) (Ins.self E_o42) (fun T X => ?_)
  refine s_astoreN 19 C X (l' := #[rv o84, rv o42, rv o42]) d7_18 rfl rfl ?_
  refine s_getstatic 22 C X (host := "") d7_19 (Or.inl (mW 51 rfl)) Via.refl (S_cs.ext Od.2) (fun T X => ?_)
  refine s_if_eq 36 25 C X d7_22 (fun c => absurd c hv_cs) (fun c22_479 => ?_)
  refine s_aloadN 26 C X d7_25 rfl rfl ?_
  refine s_getfield 29 C X (host := "") d7_26 (Or.inl (mW 25 rfl)) Via.refl F_o84_coder (fun T X => ?_)
  refine s_aloadN 30 C X d7_29 rfl rfl ?_
  refine s_getfield 33 C X (host := "") d7_30 (Or.inl (mW 25 rfl)) Via.refl F_o42_coder (fun T X => ?_)
  refine s_icmp_ne 54 36 C X d7_33 (fun c => absurd (by decide : i0 = i0) c) (fun _ => ?_)
  refine s_aloadN 37 C X d7_36 rfl rfl ?_
  refine s_getfield 40 C X (host := "") d7_37 (Or.inl (mW 24 rfl)) Via.refl F_o84_value (fun T X => ?_)
  refine s_aloadN 41 C X d7_40 rfl rfl ?_
  refine s_getfield 44 C X (host := "") d7_41 (Or.inl (mW 24 rfl)) Via.refl F_o42_value (fun T X => ?_)
  refine s_callS 47 [(.ref o88), (.ref o46)] [] 0 C X d7_44 (mW 63 rfl) (mW 64 rfl) (mW 65 rfl) (mW 66 rfl) (rm_a485 l Z a0 hw ca6 y18 o46 k_o46 o88 k_o88 _ n0 X.sz A_o46 A_o88) (lenOf pd___B_B_Z rfl) rfl rfl rfl (fun T v hh X q => ?_)
  obtain ⟨rfl, q488, Kc⟩ | ⟨rfl, q489, Kc⟩ := q
  · have E_o42 := E_o42.keep Kc
    have Od := Od.keep Kc all0
    have Kp := Kp.trans Kc all0
    refine Run.cast (st' := [(.int i1)]) rfl ?_
    refine s_if_eq 54 50 C X d7_47 (fun c => absurd c (by decide)) (fun _ => ?_)
    refine s_iconst 51 C X d7_50 kc_iconst_1 ?_
    refine s_goto 55 C X d7_51 ?_
    refine s_nreturn C X d7_55 rfl (by simp) rfl ?_ (FG hG (by decide) (by decide))
    exact hQ _ _ (Or.inl ⟨rfl, q488, Od, Kp⟩)
  · have E_o42 := E_o42.keep Kc
    have Od := Od.keep Kc all0
    have Kp := Kp.trans Kc all0
    refine Run.cast (st' := [(.int i0)]) rfl ?_
    refine s_if_eq 54 50 C X d7_47 (fun _ => ?_) (fun c => absurd (by decide : i0 = i0) c)
    refine s_iconst 55 C X d7_54 kc_iconst_0 ?_
    refine s_nreturn C X d7_55 rfl (by simp) rfl ?_ (FG hG (by decide) (by decide))
    exact hQ _ _ (Or.inr ⟨rfl, (by omega), Od, Kp⟩)
theorem rm_a499 (l : Launch) (Z : State) (a0 : Array Value) (hw : ∀ d ∈ tables_1, d.before a0 Z = true) (a : Int64) (cs : Int32) (y3 : Int64) (ca6 : Int32) (y18 : Int32) (o42 : Addr) (o46 : Addr) (k_o46 : ClassId) (o84 : Addr) (o88 : Addr) (k_o88 : ClassId) (o428 : Addr) (o430 : Addr) (h0 : Heap) (n0 : Nat) (Z0 : n0 ≤ h0.size) (S_cs : Sta Z Z.heap "java/lang/String" "COMPACT_STRINGS" "Z" (.int cs)) (E_o42 : Exa Z h0 o42 "java/lang/String") (F_o42_value : Fld Z h0 o42 "java/lang/String" "value" "[B" (.ref o46)) (F_o42_coder : Fld Z h0 o42 "java/lang/String" "coder" "B" (.int i0)) (A_o46 : Arv Z h0 o46 k_o46 .byte i1 [(.int (bv ca6))] (.int i0)) (E_o84 : Exa Z h0 o84 "java/lang/String") (F_o84_value : Fld Z h0 o84 "java/lang/String" "value" "[B" (.ref o88)) (F_o84_coder : Fld Z h0 o84 "java/lang/String" "coder" "B" (.int i0)) (A_o88 : Arv Z h0 o88 k_o88 .byte i1 [(.int (bv y18))] (.int i0)) (E_o428 : Exa Z h0 o428 "com/example/libring/libring/core/RingPoint") (F_o428_position : Fld Z h0 o428 "com/example/libring/libring/core/RingPoint" "position" "J" (.long a)) (F_o428_node : Fld Z h0 o428 "com/example/libring/libring/core/RingPoint" "node" "Ljava/lang/String;" (.ref o42)) (F_o430_position : Fld Z h0 o430 "com/example/libring/libring/core/RingPoint" "position" "J" (.long y3)) (F_o430_node : Fld Z h0 o430 "com/example/libring/libring/core/RingPoint" "node" "Ljava/lang/String;" (.ref o84)) (Od : Old Z n0 h0) (hv_cs : ¬ cs = i0) (ne_o42_o84 : o42 ≠ o84) :
    Met l Z (⟨"com/example/libring/libring/core/RingPoint", "equals", "(Ljava/lang/Object;)Z"⟩ : MethodName) prog_9_method_4_code 3 (some .boolean) { frames := 2, cells := 0, slots := 0, locals := 28 } [] #[(.ref o430), (.ref o428)] h0 n0 (fun v h => ∃ (y500 : Int32), v = some (.int y500) ∧ ((y500 = i1 ∧ (((y3).toInt = (a).toInt) ∧ (((((bv y18)).toInt = ((bv ca6)).toInt))))) ∨ (y500 = i0 ∧ ¬ (((y3).toInt = (a).toInt) ∧ (((((bv y18)).toInt = ((bv ca6)).toInt)))))) ∧ Old Z n0 h ∧ Keep h0 h []) := by
  refine Met.mkQ (tabs := tables_1) (a0 := a0) (ls0 := #[rv o430, rv o428, .unset]) (plainFor_of_name pn_com_example_libring_libring_core_RingPoint) hw Z0 (fun m => by first | (simp [entryFrame, mkF, argsToLocals, Value.category]; done) | rfl) ?_
  intro p e s m below meth c T Q' G' hQ hG C X
  have Kp : Keep h0 h0 [] := Keep.refl _ _
  refine s_aloadN 1 C X d6_0 rfl rfl ?_
  refine s_instY 4 C X d6_1 (mW 42 rfl) (Ins.self E_o428) (fun T X => ?_)
  refine s_if_ne 9 7 C X d6_4 (fun _ => ?_) (fun c => absurd c (by decide))
  refine s_aloadN 10 C X d6_9 rfl rfl ?_
  refine s_castY 13 C X d6_10 (mW 42 rfl) (Ins.self E_o428) (fun T X => ?_)
  refine s_astoreN 14 C X (l' := #[rv o430, rv o428, rv o428]) d6_13 rfl rfl ?_
  refine s_aloadN 15 C X d6_14 rfl rfl ?_
  refine s_getfield 18 C X (host := "") d6_15 (Or.inl (mW 33 rfl)) Via.refl F_o430_position (fun T X => ?_)
  refine s_aloadN 19 C X d6_18 rfl rfl ?_
  refine s_getfield 22 C X (host := "") d6_19 (Or.inl (mW 33 rfl)) Via.refl F_o428_position (fun T X => ?_)
  refine s_lcmp 23 C X d6_22 ?_
  refine s_if_ne 44 26 C X d6_23 (fun c23_476 => ?_) (fun c23_476 => ?_)
  · have t_c23_476 : ¬ ((y3).toInt = (a).toInt) := fun q => c23_476 (cl_eq.mpr q)
    refine s_iconst 45 C X d6_44 kc_iconst_0 ?_
    refine s_nreturn C X d6_45 rfl (by simp) rfl ?_ (FG hG (by decide) (by decide))
    exact hQ _ _ ⟨_, rfl, Or.inr ⟨rfl, (by omega)⟩, Od, Kp⟩
  have t_c23_476 : (y3).toInt = (a).toInt := cl_eq.mp c23_476
  refine s_aloadN 27 C X d6_26 rfl rfl ?_
  refine s_getfield 30 C X (host := "") d6_27 (Or.inl (mW 35 rfl)) Via.refl F_o430_node (fun T X => ?_)
  refine s_aloadN 31 C X d6_30 rfl rfl ?_
  refine s_getfield 34 C X (host := "") d6_31 (Or.inl (mW 35 rfl)) Via.refl F_o428_node (fun T X => ?_)
  refine s_callV 37 [(.ref o42)] [] 0 C X d6_34 (mW 44 rfl) (mW 45 rfl) (notFace_of_selects (args := #[]) (mvT C.2.1 (C.w (mW 47 rfl)))) (mW 47 rfl) (mW 46 rfl) (mW 6 rfl) (mW 48 rfl) E_o84 (rm_a492 l Z a0 hw cs ca6 y18 o42 o46 k_o46 o84 o88 k_o88 _ n0 X.sz S_cs E_o42 F_o42_value F_o42_coder A_o46 F_o84_value F_o84_coder A_o88 Od hv_cs ne_o42_o84) (lenOf pd__Ljava_lang_Object__Z rfl) rfl rfl rfl (fun T v hh X q => ?_)
  obtain ⟨rfl, q495, Od, Kc⟩ | ⟨rfl, q496, Od, Kc⟩ := q
  · have E_o42 := E_o42.keep Kc
    have Kp := Kp.trans Kc all0
    refine Run.cast (st' := [(.int i1)]) rfl ?_
    refine s_if_eq 44 40 C X d6_37 (fun c => absurd c (by decide)) (fun _ => ?_)
    refine s_iconst 41 C X d6_40 kc_iconst_1 ?_
    refine s_goto 45 C X d6_41 ?_
    refine s_nreturn C X d6_45 rfl (by simp) rfl ?_ (FG hG (by decide) (by decide))
    exact hQ _ _ ⟨_, rfl, Or.inl ⟨rfl, ⟨t_c23_476, q495⟩⟩, Od, Kp⟩
  · have E_o42 := E_o42.keep Kc
    have Kp := Kp.trans Kc all0
    refine Run.cast (st' := [(.int i0)]) rfl ?_
    refine s_if_eq 44 40 C X d6_37 (fun _ => ?_) (fun c => absurd (by decide : i0 = i0) c)
    refine s_iconst 45 C X d6_44 kc_iconst_0 ?_
    refine s_nreturn C X d6_45 rfl (by simp) rfl ?_ (FG hG (by decide) (by decide))
    exact hQ _ _ ⟨_, rfl, Or.inr ⟨rfl, (by omega)⟩, Od, Kp⟩
theorem rm_a508 (l : Launch) (Z : State) (a0 : Array Value) (hw : ∀ d ∈ tables_1, d.before a0 Z = true) (a : Int64) (o42 : Addr) (o428 : Addr) (h0 : Heap) (n0 : Nat) (Z0 : n0 ≤ h0.size) (E_o42 : Exa Z h0 o42 "java/lang/String") (E_o428 : Exa Z h0 o428 "com/example/libring/libring/core/RingPoint") (F_o428_position : Fld Z h0 o428 "com/example/libring/libring/core/RingPoint" "position" "J" (.long a)) (F_o428_node : Fld Z h0 o428 "com/example/libring/libring/core/RingPoint" "node" "Ljava/lang/String;" (.ref o42)) :
    Met l Z (⟨"com/example/libring/libring/core/RingPoint", "equals", "(Ljava/lang/Object;)Z"⟩ : MethodName) prog_9_method_4_code 3 (some .boolean) { frames := 1, cells := 0, slots := 0, locals := 14 } [] #[(.ref o428), (.ref o428)] h0 n0 (fun v h => v = some (.int i1) ∧ Keep h0 h []) := by
  refine Met.mkQ (tabs := tables_1) (a0 := a0) (ls0 := #[rv o428, rv o428, .unset]) (plainFor_of_name pn_com_example_libring_libring_core_RingPoint) hw Z0 (fun m => by first | (simp [entryFrame, mkF, argsToLocals, Value.category]; done) | rfl) ?_
  intro p e s m below meth c T Q' G' hQ hG C X
  have Kp : Keep h0 h0 [] := Keep.refl _ _
  refine s_aloadN 1 C X d6_0 rfl rfl ?_
  refine s_instY 4 C X d6_1 (mW 42 rfl) (Ins.self E_o428) (fun T X => ?_)
  refine s_if_ne 9 7 C X d6_4 (fun _ => ?_) (fun c => absurd c (by decide))
  refine s_aloadN 10 C X d6_9 rfl rfl ?_
  refine s_castY 13 C X d6_10 (mW 42 rfl) (Ins.self E_o428) (fun T X => ?_)
  refine s_astoreN 14 C X (l' := #[rv o428, rv o428, rv o428]) d6_13 rfl rfl ?_
  refine s_aloadN 15 C X d6_14 rfl rfl ?_
  refine s_getfield 18 C X (host := "") d6_15 (Or.inl (mW 33 rfl)) Via.refl F_o428_position (fun T X => ?_)
  refine s_aloadN 19 C X d6_18 rfl rfl ?_
  refine s_getfield 22 C X (host := "") d6_19 (Or.inl (mW 33 rfl)) Via.refl F_o428_position (fun T X => ?_)
  refine s_lcmp 23 C X d6_22 ?_
  refine s_if_ne 44 26 C X d6_23 (fun c => absurd (own_cmp0 _) c) (fun c23_504 => ?_)
  refine s_aloadN 27 C X d6_26 rfl rfl ?_
  refine s_getfield 30 C X (host := "") d6_27 (Or.inl (mW 35 rfl)) Via.refl F_o428_node (fun T X => ?_)
  refine s_aloadN 31 C X d6_30 rfl rfl ?_
  refine s_getfield 34 C X (host := "") d6_31 (Or.inl (mW 35 rfl)) Via.refl F_o428_node (fun T X => ?_)
  refine s_callV 37 [(.ref o42)] [] 0 C X d6_34 (mW 44 rfl) (mW 45 rfl) (notFace_of_selects (args := #[]) (mvT C.2.1 (C.w (mW 47 rfl)))) (mW 47 rfl) (mW 46 rfl) (mW 6 rfl) (mW 48 rfl) E_o42 (rm_a418 l Z a0 hw o42 _ n0 X.sz ) (lenOf pd__Ljava_lang_Object__Z rfl) rfl rfl rfl (fun T v hh X q => ?_)
  obtain ⟨rfl, Kc⟩ := q
  have Kp := Kp.trans Kc all0
  refine Run.cast (st' := [(.int i1)]) rfl ?_
  refine s_if_eq 44 40 C X d6_37 (fun c => absurd c (by decide)) (fun _ => ?_)
  refine s_iconst 41 C X d6_40 kc_iconst_1 ?_
  refine s_goto 45 C X d6_41 ?_
  refine s_nreturn C X d6_45 rfl (by simp) rfl ?_ (FG hG (by decide) (by decide))
  exact hQ _ _ ⟨rfl, Kp⟩
theorem rm_a511 (l : Launch) (Z : State) (a0 : Array Value) (hw : ∀ d ∈ tables_1, d.before a0 Z = true) (o42 : Addr) (o428 : Addr) (h0 : Heap) (n0 : Nat) (Z0 : n0 ≤ h0.size) (E_o42 : Exa Z h0 o42 "java/lang/String") :
    Met l Z (⟨"com/example/libring/libring/core/RingPoint", "equals", "(Ljava/lang/Object;)Z"⟩ : MethodName) prog_9_method_4_code 3 (some .boolean) { frames := 0, cells := 0, slots := 0, locals := 0 } [] #[(.ref o428), (.ref o42)] h0 n0 (fun v h => v = some (.int i0) ∧ Keep h0 h []) := by
  refine Met.mkQ (tabs := tables_1) (a0 := a0) (ls0 := #[rv o428, rv o42, .unset]) (plainFor_of_name pn_com_example_libring_libring_core_RingPoint) hw Z0 (fun m => by first | (simp [entryFrame, mkF, argsToLocals, Value.category]; done) | rfl) ?_
  intro p e s m below meth c T Q' G' hQ hG C X
  have Kp : Keep h0 h0 [] := Keep.refl _ _
  refine s_aloadN 1 C X d6_0 rfl rfl ?_
  refine s_instN 4 C X d6_1 (mW 42 rfl) E_o42 (own_no (C.w (mW 49 rfl)) (C.w (mW 50 rfl)) (C.w (mW 27 rfl))) (fun T X => ?_)
  refine s_if_ne 9 7 C X d6_4 (fun c => absurd (by decide : i0 = i0) c) (fun _ => ?_)
  refine s_iconst 8 C X d6_7 kc_iconst_0 ?_
  refine s_nreturn C X d6_8 rfl (by simp) rfl ?_ (FG hG (by decide) (by decide))
  exact hQ _ _ ⟨rfl, Kp⟩
theorem rm_a514 (l : Launch) (Z : State) (a0 : Array Value) (hw : ∀ d ∈ tables_1, d.before a0 Z = true) (o428 : Addr) (h0 : Heap) (n0 : Nat) (Z0 : n0 ≤ h0.size)  :
    Met l Z (⟨"com/example/libring/libring/core/RingPoint", "equals", "(Ljava/lang/Object;)Z"⟩ : MethodName) prog_9_method_4_code 3 (some .boolean) { frames := 0, cells := 0, slots := 0, locals := 0 } [] #[(.ref o428), .null] h0 n0 (fun v h => v = some (.int i0) ∧ Keep h0 h []) := by
  refine Met.mkQ (tabs := tables_1) (a0 := a0) (ls0 := #[rv o428, .val .null, .unset]) (plainFor_of_name pn_com_example_libring_libring_core_RingPoint) hw Z0 (fun m => by first | (simp [entryFrame, mkF, argsToLocals, Value.category]; done) | rfl) ?_
  intro p e s m below meth c T Q' G' hQ hG C X
  have Kp : Keep h0 h0 [] := Keep.refl _ _
  refine s_aloadN 1 C X d6_0 rfl rfl ?_
  refine s_instNull 4 C X d6_1 ?_
  refine s_if_ne 9 7 C X d6_4 (fun c => absurd (by decide : i0 = i0) c) (fun _ => ?_)
  refine s_iconst 8 C X d6_7 kc_iconst_0 ?_
  refine s_nreturn C X d6_8 rfl (by simp) rfl ?_ (FG hG (by decide) (by decide))
  exact hQ _ _ ⟨rfl, Kp⟩
theorem rm_a517 (l : Launch) (Z : State) (a0 : Array Value) (hw : ∀ d ∈ tables_1, d.before a0 Z = true) (a : Int64) (o42 : Addr) (o516 : Addr) (h0 : Heap) (n0 : Nat) (Z0 : n0 ≤ h0.size) (E_o516 : Exa Z h0 o516 "com/example/libring/libring/core/RingPoint") (F_o516_position : Fld Z h0 o516 "com/example/libring/libring/core/RingPoint" "position" "J" (.long j0)) (F_o516_node : Fld Z h0 o516 "com/example/libring/libring/core/RingPoint" "node" "Ljava/lang/String;" .null) (g_o516 : n0 ≤ o516) :
    Met l Z (⟨"com/example/libring/libring/core/RingPoint", "<init>", "(JLjava/lang/String;)V"⟩ : MethodName) prog_9_method_1_code 4 none { frames := 1, cells := 0, slots := 0, locals := 12 } [] #[(.ref o516), (.long a), (.ref o42)] h0 n0 (fun v h => v = none ∧ Exa Z h o516 "com/example/libring/libring/core/RingPoint" ∧ Fld Z h o516 "com/example/libring/libring/core/RingPoint" "position" "J" (.long a) ∧ Fld Z h o516 "com/example/libring/libring/core/RingPoint" "node" "Ljava/lang/String;" (.ref o42) ∧ Keep h0 h [o516]) := by
  refine Met.mkQ (tabs := tables_1) (a0 := a0) (ls0 := #[rv o516, lv a, .second, rv o42]) (plainFor_of_name pn_com_example_libring_libring_core_RingPoint) hw Z0 (fun m => by first | (simp [entryFrame, mkF, argsToLocals, Value.category]; done) | rfl) ?_
  intro p e s m below meth c T Q' G' hQ hG C X
  have Kp : Keep h0 h0 [o516] := Keep.refl _ _
  refine s_aloadN 1 C X d5_0 rfl rfl ?_
  refine s_objInit 4 C X d5_1 (mW 32 rfl) (mW 16 rfl) (mW 17 rfl) rfl (W := 0) rfl (by decide) (fun T X => ?_)
  refine s_aloadN 5 C X d5_4 rfl rfl ?_
  refine s_lloadN 6 C X d5_5 rfl ?_
  refine s_putfield 9 C X (host := "") d5_6 (Or.inl (mW 33 rfl)) Via.refl F_o516_position E_o516 (Or.inr ⟨(mW 34 rfl), rfl, rfl⟩) (mW 27 rfl) (ty := .long) (by decide) rfl rfl g_o516 (fun T hh X W => ?_)
  have E_o516 := E_o516.wr W
  have F_o516_position := F_o516_position.same W
  have F_o516_node := oth F_o516_node W (Or.inr (hw _ (mW 36 rfl))) (Or.inr (hw _ (mW 34 rfl))) (by decide)
  have Kp := Kp.wr W (Or.inl (by simp))
  refine s_aloadN 10 C X d5_9 rfl rfl ?_
  refine s_aloadN 11 C X d5_10 rfl rfl ?_
  refine s_putfield 14 C X (host := "") d5_11 (Or.inl (mW 35 rfl)) Via.refl F_o516_node E_o516 (Or.inr ⟨(mW 36 rfl), rfl, rfl⟩) (mW 27 rfl) (ty := (.object "java/lang/String")) (by decide) rfl rfl g_o516 (fun T hh X W => ?_)
  have E_o516 := E_o516.wr W
  have F_o516_position := oth F_o516_position W (Or.inr (hw _ (mW 34 rfl))) (Or.inr (hw _ (mW 36 rfl))) (by decide)
  have F_o516_node := F_o516_node.same W
  have Kp := Kp.wr W (Or.inl (by simp))
  refine s_return C X d5_14 rfl ?_ (FG hG (by decide) (by decide))
  exact hQ _ _ ⟨rfl, E_o516, F_o516_position, F_o516_node, Kp⟩
theorem rm_a519 (l : Launch) (Z : State) (a0 : Array Value) (hw : ∀ d ∈ tables_1, d.before a0 Z = true) (y3 : Int64) (o98 : Addr) (o518 : Addr) (h0 : Heap) (n0 : Nat) (Z0 : n0 ≤ h0.size) (E_o518 : Exa Z h0 o518 "com/example/libring/libring/core/RingPoint") (F_o518_position : Fld Z h0 o518 "com/example/libring/libring/core/RingPoint" "position" "J" (.long j0)) (F_o518_node : Fld Z h0 o518 "com/example/libring/libring/core/RingPoint" "node" "Ljava/lang/String;" .null) (g_o518 : n0 ≤ o518) :
    Met l Z (⟨"com/example/libring/libring/core/RingPoint", "<init>", "(JLjava/lang/String;)V"⟩ : MethodName) prog_9_method_1_code 4 none { frames := 1, cells := 0, slots := 0, locals := 12 } [] #[(.ref o518), (.long y3), (.ref o98)] h0 n0 (fun v h => v = none ∧ Exa Z h o518 "com/example/libring/libring/core/RingPoint" ∧ Fld Z h o518 "com/example/libring/libring/core/RingPoint" "position" "J" (.long y3) ∧ Fld Z h o518 "com/example/libring/libring/core/RingPoint" "node" "Ljava/lang/String;" (.ref o98) ∧ Keep h0 h [o518]) := by
  refine Met.mkQ (tabs := tables_1) (a0 := a0) (ls0 := #[rv o518, lv y3, .second, rv o98]) (plainFor_of_name pn_com_example_libring_libring_core_RingPoint) hw Z0 (fun m => by first | (simp [entryFrame, mkF, argsToLocals, Value.category]; done) | rfl) ?_
  intro p e s m below meth c T Q' G' hQ hG C X
  have Kp : Keep h0 h0 [o518] := Keep.refl _ _
  refine s_aloadN 1 C X d5_0 rfl rfl ?_
  refine s_objInit 4 C X d5_1 (mW 32 rfl) (mW 16 rfl) (mW 17 rfl) rfl (W := 0) rfl (by decide) (fun T X => ?_)
  refine s_aloadN 5 C X d5_4 rfl rfl ?_
  refine s_lloadN 6 C X d5_5 rfl ?_
  refine s_putfield 9 C X (host := "") d5_6 (Or.inl (mW 33 rfl)) Via.refl F_o518_position E_o518 (Or.inr ⟨(mW 34 rfl), rfl, rfl⟩) (mW 27 rfl) (ty := .long) (by decide) rfl rfl g_o518 (fun T hh X W => ?_)
  have E_o518 := E_o518.wr W
  have F_o518_position := F_o518_position.same W
  have F_o518_node := oth F_o518_node W (Or.inr (hw _ (mW 36 rfl))) (Or.inr (hw _ (mW 34 rfl))) (by decide)
  have Kp := Kp.wr W (Or.inl (by simp))
  refine s_aloadN 10 C X d5_9 rfl rfl ?_
  refine s_aloadN 11 C X d5_10 rfl rfl ?_
  refine s_putfield 14 C X (host := "") d5_11 (Or.inl (mW 35 rfl)) Via.refl F_o518_node E_o518 (Or.inr ⟨(mW 36 rfl), rfl, rfl⟩) (mW 27 rfl) (ty := (.object "java/lang/String")) (by decide) rfl rfl g_o518 (fun T hh X W => ?_)
  have E_o518 := E_o518.wr W
  have F_o518_position := oth F_o518_position W (Or.inr (hw _ (mW 34 rfl))) (Or.inr (hw _ (mW 36 rfl))) (by decide)
  have F_o518_node := F_o518_node.same W
  have Kp := Kp.wr W (Or.inl (by simp))
  refine s_return C X d5_14 rfl ?_ (FG hG (by decide) (by decide))
  exact hQ _ _ ⟨rfl, E_o518, F_o518_position, F_o518_node, Kp⟩
theorem rm_a542 (l : Launch) (Z : State) (a0 : Array Value) (hw : ∀ d ∈ tables_1, d.before a0 Z = true) (ca6 : Int32) (o46 : Addr) (k_o46 : ClassId) (b102 : Addr) (k_b102 : ClassId) (h0 : Heap) (n0 : Nat) (Z0 : n0 ≤ h0.size) (A_o46 : Arv Z h0 o46 k_o46 .byte i1 [(.int (bv ca6))] (.int i0)) (A_b102 : Arv Z h0 b102 k_b102 .byte i0 [] (.int i0)) :
    Met l Z (⟨"java/lang/StringLatin1", "equals", "([B[B)Z"⟩ : MethodName) jdk_43_method_13_code 3 (some .boolean) { frames := 0, cells := 0, slots := 0, locals := 0 } [] #[(.ref o46), (.ref b102)] h0 n0 (fun v h => v = some (.int i0) ∧ Keep h0 h []) := by
  refine Met.mkQ (tabs := tables_1) (a0 := a0) (ls0 := #[rv o46, rv b102, .unset]) (plainFor_of_name pn_java_lang_StringLatin1) hw Z0 (fun m => by first | (simp [entryFrame, mkF, argsToLocals, Value.category]; done) | rfl) ?_
  intro p e s m below meth c T Q' G' hQ hG C X
  have Kp : Keep h0 h0 [] := Keep.refl _ _
  refine s_aloadN 1 C X d11_0 rfl rfl ?_
  refine s_arraylength 2 C X d11_1 A_o46 ?_
  refine s_aloadN 3 C X d11_2 rfl rfl ?_
  refine s_arraylength 4 C X d11_3 A_b102 ?_
  refine s_icmp_ne 34 7 C X d11_4 (fun _ => ?_) (fun c => absurd c (by decide))
  refine s_iconst 35 C X d11_34 kc_iconst_0 ?_
  refine s_nreturn C X d11_35 rfl (by simp) rfl ?_ (FG hG (by decide) (by decide))
  exact hQ _ _ ⟨rfl, Kp⟩
theorem rm_a544 (l : Launch) (Z : State) (a0 : Array Value) (hw : ∀ d ∈ tables_1, d.before a0 Z = true) (cs : Int32) (ca6 : Int32) (o42 : Addr) (o46 : Addr) (k_o46 : ClassId) (o98 : Addr) (b102 : Addr) (k_b102 : ClassId) (h0 : Heap) (n0 : Nat) (Z0 : n0 ≤ h0.size) (S_cs : Sta Z Z.heap "java/lang/String" "COMPACT_STRINGS" "Z" (.int cs)) (F_o42_value : Fld Z h0 o42 "java/lang/String" "value" "[B" (.ref o46)) (F_o42_coder : Fld Z h0 o42 "java/lang/String" "coder" "B" (.int i0)) (A_o46 : Arv Z h0 o46 k_o46 .byte i1 [(.int (bv ca6))] (.int i0)) (Od : Old Z n0 h0) (E_o98 : Exa Z h0 o98 "java/lang/String") (F_o98_value : Fld Z h0 o98 "java/lang/String" "value" "[B" (.ref b102)) (F_o98_coder : Fld Z h0 o98 "java/lang/String" "coder" "B" (.int i0)) (A_b102 : Arv Z h0 b102 k_b102 .byte i0 [] (.int i0)) (hv_cs : ¬ cs = i0) (ne_o42_o98 : o42 ≠ o98) :
    Met l Z (⟨"java/lang/String", "equals", "(Ljava/lang/Object;)Z"⟩ : MethodName) jdk_42_method_66_code 3 (some .boolean) { frames := 1, cells := 0, slots := 0, locals := 14 } [] #[(.ref o42), (.ref o98)] h0 n0 (fun v h => v = some (.int i0) ∧ Old Z n0 h ∧ Keep h0 h []) := by
  refine Met.mkQ (tabs := tables_1) (a0 := a0) (ls0 := #[rv o42, rv o98, .unset]) (plainFor_of_name pn_java_lang_String) hw Z0 (fun m => by first | (simp [entryFrame, mkF, argsToLocals, Value.category]; done) | rfl) ?_
  intro p e s m below meth c T Q' G' hQ hG C X
  have Kp : Keep h0 h0 [] := Keep.refl _ _
  refine s_aloadN 1 C X d7_0 rfl rfl ?_
  refine s_aloadN 2 C X d7_1 rfl rfl ?_
  refine s_acmp_ne 7 5 C X d7_2 rfl rfl (fun c2_537 => ?_) (fun c => absurd (Value.ref.inj c) ne_o42_o98)
  refine s_aloadN 8 C X d7_7 rfl rfl ?_
  refine s_instY 11 C X d7_8 (mW 62 rfl) (Ins.self E_o98) (fun T X => ?_)
  refine s_if_eq 54 14 C X d7_11 (fun c => absurd c (by decide)) (fun _ => ?_)
  refine s_aloadN 15 C X d7_14 rfl rfl ?_
  refine s_castY 18 C X d7_15 (mW 62 rfl) (Ins.self E_o98) (fun T X => ?_)
  refine s_astoreN 19 C X (l' := #[rv o42, rv o98, rv o98]) d7_18 rfl rfl ?_
  refine s_getstatic 22 C X (host := "") d7_19 (Or.inl (mW 51 rfl)) Via.refl (S_cs.ext Od.2) (fun T X => ?_)
  refine s_if_eq 36 25 C X d7_22 (fun c => absurd c hv_cs) (fun c22_539 => ?_)
  refine s_aloadN 26 C X d7_25 rfl rfl ?_
  refine s_getfield 29 C X (host := "") d7_26 (Or.inl (mW 25 rfl)) Via.refl F_o42_coder (fun T X => ?_)
  refine s_aloadN 30 C X d7_29 rfl rfl ?_
  refine s_getfield 33 C X (host := "") d7_30 (Or.inl (mW 25 rfl)) Via.refl F_o98_coder (fun T X => ?_)
  refine s_icmp_ne 54 36 C X d7_33 (fun c => absurd (by decide : i0 = i0) c) (fun _ => ?_)
  refine s_aloadN 37 C X d7_36 rfl rfl ?_
  refine s_getfield 40 C X (host := "") d7_37 (Or.inl (mW 24 rfl)) Via.refl F_o42_value (fun T X => ?_)
  refine s_aloadN 41 C X d7_40 rfl rfl ?_
  refine s_getfield 44 C X (host := "") d7_41 (Or.inl (mW 24 rfl)) Via.refl F_o98_value (fun T X => ?_)
  refine s_callS 47 [(.ref o46), (.ref b102)] [] 0 C X d7_44 (mW 63 rfl) (mW 64 rfl) (mW 65 rfl) (mW 66 rfl) (rm_a542 l Z a0 hw ca6 o46 k_o46 b102 k_b102 _ n0 X.sz A_o46 A_b102) (lenOf pd___B_B_Z rfl) rfl rfl rfl (fun T v hh X q => ?_)
  obtain ⟨rfl, Kc⟩ := q
  have Od := Od.keep Kc all0
  have Kp := Kp.trans Kc all0
  refine Run.cast (st' := [(.int i0)]) rfl ?_
  refine s_if_eq 54 50 C X d7_47 (fun _ => ?_) (fun c => absurd (by decide : i0 = i0) c)
  refine s_iconst 55 C X d7_54 kc_iconst_0 ?_
  refine s_nreturn C X d7_55 rfl (by simp) rfl ?_ (FG hG (by decide) (by decide))
  exact hQ _ _ ⟨rfl, Od, Kp⟩
theorem rm_a546 (l : Launch) (Z : State) (a0 : Array Value) (hw : ∀ d ∈ tables_1, d.before a0 Z = true) (a : Int64) (cs : Int32) (y3 : Int64) (ca6 : Int32) (o42 : Addr) (o46 : Addr) (k_o46 : ClassId) (o98 : Addr) (b102 : Addr) (k_b102 : ClassId) (o516 : Addr) (o518 : Addr) (h0 : Heap) (n0 : Nat) (Z0 : n0 ≤ h0.size) (S_cs : Sta Z Z.heap "java/lang/String" "COMPACT_STRINGS" "Z" (.int cs)) (E_o42 : Exa Z h0 o42 "java/lang/String") (F_o42_value : Fld Z h0 o42 "java/lang/String" "value" "[B" (.ref o46)) (F_o42_coder : Fld Z h0 o42 "java/lang/String" "coder" "B" (.int i0)) (A_o46 : Arv Z h0 o46 k_o46 .byte i1 [(.int (bv ca6))] (.int i0)) (Od : Old Z n0 h0) (E_o98 : Exa Z h0 o98 "java/lang/String") (F_o98_value : Fld Z h0 o98 "java/lang/String" "value" "[B" (.ref b102)) (F_o98_coder : Fld Z h0 o98 "java/lang/String" "coder" "B" (.int i0)) (A_b102 : Arv Z h0 b102 k_b102 .byte i0 [] (.int i0)) (F_o516_position : Fld Z h0 o516 "com/example/libring/libring/core/RingPoint" "position" "J" (.long a)) (F_o516_node : Fld Z h0 o516 "com/example/libring/libring/core/RingPoint" "node" "Ljava/lang/String;" (.ref o42)) (E_o518 : Exa Z h0 o518 "com/example/libring/libring/core/RingPoint") (F_o518_position : Fld Z h0 o518 "com/example/libring/libring/core/RingPoint" "position" "J" (.long y3)) (F_o518_node : Fld Z h0 o518 "com/example/libring/libring/core/RingPoint" "node" "Ljava/lang/String;" (.ref o98)) (hv_cs : ¬ cs = i0) (ne_o42_o98 : o42 ≠ o98) :
    Met l Z (⟨"com/example/libring/libring/core/RingPoint", "equals", "(Ljava/lang/Object;)Z"⟩ : MethodName) prog_9_method_4_code 3 (some .boolean) { frames := 2, cells := 0, slots := 0, locals := 28 } [] #[(.ref o516), (.ref o518)] h0 n0 (fun v h => ∃ (y547 : Int32), v = some (.int y547) ∧ (((¬ ((a).toInt = (y3).toInt)) ∧ y547 = i0) ∨ (((a).toInt = (y3).toInt) ∧ y547 = i0)) ∧ Old Z n0 h ∧ Keep h0 h []) := by
  refine Met.mkQ (tabs := tables_1) (a0 := a0) (ls0 := #[rv o516, rv o518, .unset]) (plainFor_of_name pn_com_example_libring_libring_core_RingPoint) hw Z0 (fun m => by first | (simp [entryFrame, mkF, argsToLocals, Value.category]; done) | rfl) ?_
  intro p e s m below meth c T Q' G' hQ hG C X
  have Kp : Keep h0 h0 [] := Keep.refl _ _
  refine s_aloadN 1 C X d6_0 rfl rfl ?_
  refine s_instY 4 C X d6_1 (mW 42 rfl) (Ins.self E_o518) (fun T X => ?_)
  refine s_if_ne 9 7 C X d6_4 (fun _ => ?_) (fun c => absurd c (by decide))
  refine s_aloadN 10 C X d6_9 rfl rfl ?_
  refine s_castY 13 C X d6_10 (mW 42 rfl) (Ins.self E_o518) (fun T X => ?_)
  refine s_astoreN 14 C X (l' := #[rv o516, rv o518, rv o518]) d6_13 rfl rfl ?_
  refine s_aloadN 15 C X d6_14 rfl rfl ?_
  refine s_getfield 18 C X (host := "") d6_15 (Or.inl (mW 33 rfl)) Via.refl F_o516_position (fun T X => ?_)
  refine s_aloadN 19 C X d6_18 rfl rfl ?_
  refine s_getfield 22 C X (host := "") d6_19 (Or.inl (mW 33 rfl)) Via.refl F_o518_position (fun T X => ?_)
  refine s_lcmp 23 C X d6_22 ?_
  refine s_if_ne 44 26 C X d6_23 (fun c23_536 => ?_) (fun c23_536 => ?_)
  · have t_c23_536 : ¬ ((a).toInt = (y3).toInt) := fun q => c23_536 (cl_eq.mpr q)
    refine s_iconst 45 C X d6_44 kc_iconst_0 ?_
    refine s_nreturn C X d6_45 rfl (by simp) rfl ?_ (FG hG (by decide) (by decide))
    exact hQ _ _ ⟨i0, rfl, (Or.inl ⟨t_c23_536, rfl⟩), Od, Kp⟩
  have t_c23_536 : (a).toInt = (y3).toInt := cl_eq.mp c23_536
  refine s_aloadN 27 C X d6_26 rfl rfl ?_
  refine s_getfield 30 C X (host := "") d6_27 (Or.inl (mW 35 rfl)) Via.refl F_o516_node (fun T X => ?_)
  refine s_aloadN 31 C X d6_30 rfl rfl ?_
  refine s_getfield 34 C X (host := "") d6_31 (Or.inl (mW 35 rfl)) Via.refl F_o518_node (fun T X => ?_)
  refine s_callV 37 [(.ref o98)] [] 0 C X d6_34 (mW 44 rfl) (mW 45 rfl) (notFace_of_selects (args := #[]) (mvT C.2.1 (C.w (mW 47 rfl)))) (mW 47 rfl) (mW 46 rfl) (mW 6 rfl) (mW 48 rfl) E_o42 (rm_a544 l Z a0 hw cs ca6 o42 o46 k_o46 o98 b102 k_b102 _ n0 X.sz S_cs F_o42_value F_o42_coder A_o46 Od E_o98 F_o98_value F_o98_coder A_b102 hv_cs ne_o42_o98) (lenOf pd__Ljava_lang_Object__Z rfl) rfl rfl rfl (fun T v hh X q => ?_)
  obtain ⟨rfl, Od, Kc⟩ := q
  have Kp := Kp.trans Kc all0
  refine Run.cast (st' := [(.int i0)]) rfl ?_
  refine s_if_eq 44 40 C X d6_37 (fun _ => ?_) (fun c => absurd (by decide : i0 = i0) c)
  refine s_iconst 45 C X d6_44 kc_iconst_0 ?_
  refine s_nreturn C X d6_45 rfl (by simp) rfl ?_ (FG hG (by decide) (by decide))
  exact hQ _ _ ⟨i0, rfl, (Or.inr ⟨t_c23_536, rfl⟩), Od, Kp⟩
theorem rm_a557 (l : Launch) (Z : State) (a0 : Array Value) (hw : ∀ d ∈ tables_1, d.before a0 Z = true) (ca6 : Int32) (o46 : Addr) (k_o46 : ClassId) (b102 : Addr) (k_b102 : ClassId) (h0 : Heap) (n0 : Nat) (Z0 : n0 ≤ h0.size) (A_o46 : Arv Z h0 o46 k_o46 .byte i1 [(.int (bv ca6))] (.int i0)) (A_b102 : Arv Z h0 b102 k_b102 .byte i0 [] (.int i0)) :
    Met l Z (⟨"java/lang/StringLatin1", "equals", "([B[B)Z"⟩ : MethodName) jdk_43_method_13_code 3 (some .boolean) { frames := 0, cells := 0, slots := 0, locals := 0 } [] #[(.ref b102), (.ref o46)] h0 n0 (fun v h => v = some (.int i0) ∧ Keep h0 h []) := by
  refine Met.mkQ (tabs := tables_1) (a0 := a0) (ls0 := #[rv b102, rv o46, .unset]) (plainFor_of_name pn_java_lang_StringLatin1) hw Z0 (fun m => by first | (simp [entryFrame, mkF, argsToLocals, Value.category]; done) | rfl) ?_
  intro p e s m below meth c T Q' G' hQ hG C X
  have Kp : Keep h0 h0 [] := Keep.refl _ _
  refine s_aloadN 1 C X d11_0 rfl rfl ?_
  refine s_arraylength 2 C X d11_1 A_b102 ?_
  refine s_aloadN 3 C X d11_2 rfl rfl ?_
  refine s_arraylength 4 C X d11_3 A_o46 ?_
  refine s_icmp_ne 34 7 C X d11_4 (fun _ => ?_) (fun c => absurd c (by decide))
  refine s_iconst 35 C X d11_34 kc_iconst_0 ?_
  refine s_nreturn C X d11_35 rfl (by simp) rfl ?_ (FG hG (by decide) (by decide))
  exact hQ _ _ ⟨rfl, Kp⟩
theorem rm_a559 (l : Launch) (Z : State) (a0 : Array Value) (hw : ∀ d ∈ tables_1, d.before a0 Z = true) (cs : Int32) (ca6 : Int32) (o42 : Addr) (o46 : Addr) (k_o46 : ClassId) (o98 : Addr) (b102 : Addr) (k_b102 : ClassId) (h0 : Heap) (n0 : Nat) (Z0 : n0 ≤ h0.size) (S_cs : Sta Z Z.heap "java/lang/String" "COMPACT_STRINGS" "Z" (.int cs)) (E_o42 : Exa Z h0 o42 "java/lang/String") (F_o42_value : Fld Z h0 o42 "java/lang/String" "value" "[B" (.ref o46)) (F_o42_coder : Fld Z h0 o42 "java/lang/String" "coder" "B" (.int i0)) (A_o46 : Arv Z h0 o46 k_o46 .byte i1 [(.int (bv ca6))] (.int i0)) (F_o98_value : Fld Z h0 o98 "java/lang/String" "value" "[B" (.ref b102)) (F_o98_coder : Fld Z h0 o98 "java/lang/String" "coder" "B" (.int i0)) (A_b102 : Arv Z h0 b102 k_b102 .byte i0 [] (.int i0)) (Od : Old Z n0 h0) (hv_cs : ¬ cs = i0) (ne_o42_o98 : o42 ≠ o98) :
    Met l Z (⟨"java/lang/String", "equals", "(Ljava/lang/Object;)Z"⟩ : MethodName) jdk_42_method_66_code 3 (some .boolean) { frames := 1, cells := 0, slots := 0, locals := 14 } [] #[(.ref o98), (.ref o42)] h0 n0 (fun v h => v = some (.int i0) ∧ Old Z n0 h ∧ Keep h0 h []) := by
  refine Met.mkQ (tabs := tables_1) (a0 := a0) (ls0 := #[rv o98, rv o42, .unset]) (plainFor_of_name pn_java_lang_String) hw Z0 (fun m => by first | (simp [entryFrame, mkF, argsToLocals, Value.category]; done) | rfl) ?_
  intro p e s m below meth c T Q' G' hQ hG C X
  have Kp : Keep h0 h0 [] := Keep.refl _ _
  refine s_aloadN 1 C X d7_0 rfl rfl ?_
  refine s_aloadN 2 C X d7_1 rfl rfl ?_
  refine s_acmp_ne 7 5 C X d7_2 rfl rfl (fun c2_552 => ?_) (fun c => absurd (Value.ref.inj c) (Ne.symm ne_o42_o98))
  refine s_aloadN 8 C X d7_7 rfl rfl ?_
  refine s_instY 11 C X d7_8 (mW 62 rfl) (Ins.self E_o42) (fun T X => ?_)
  refine s_if_eq 54 14 C X d7_11 (fun c => absurd c (by decide)) (fun _ => ?_)
  refine s_aloadN 15 C X d7_14 rfl rfl ?_
  refine s_castY 18 C X d7_15 (mW 62 rfl) (Ins.self E_o42) (fun T X => ?_)
  refine s_astoreN 19 C X (l' := #[rv o98, rv o42, rv o42]) d7_18 rfl rfl ?_
  refine s_getstatic 22 C X (host := "") d7_19 (Or.inl (mW 51 rfl)) Via.refl (S_cs.ext Od.2) (fun T X => ?_)
  refine s_if_eq 36 25 C X d7_22 (fun c => absurd c hv_cs) (fun c22_554 => ?_)
  refine s_aloadN 26 C X d7_25 rfl rfl ?_
  refine s_getfield 29 C X (host := "") d7_26 (Or.inl (mW 25 rfl)) Via.refl F_o98_coder (fun T X => ?_)
  refine s_aloadN 30 C X d7_29 rfl rfl ?_
  refine s_getfield 33 C X (host := "") d7_30 (Or.inl (mW 25 rfl)) Via.refl F_o42_coder (fun T X => ?_)
  refine s_icmp_ne 54 36 C X d7_33 (fun c => absurd (by decide : i0 = i0) c) (fun _ => ?_)
  refine s_aloadN 37 C X d7_36 rfl rfl ?_
  refine s_getfield 40 C X (host := "") d7_37 (Or.inl (mW 24 rfl)) Via.refl F_o98_value (fun T X => ?_)
  refine s_aloadN 41 C X d7_40 rfl rfl ?_
  refine s_getfield 44 C X (host := "") d7_41 (Or.inl (mW 24 rfl)) Via.refl F_o42_value (fun T X => ?_)
  refine s_callS 47 [(.ref b102), (.ref o46)] [] 0 C X d7_44 (mW 63 rfl) (mW 64 rfl) (mW 65 rfl) (mW 66 rfl) (rm_a557 l Z a0 hw ca6 o46 k_o46 b102 k_b102 _ n0 X.sz A_o46 A_b102) (lenOf pd___B_B_Z rfl) rfl rfl rfl (fun T v hh X q => ?_)
  obtain ⟨rfl, Kc⟩ := q
  have Od := Od.keep Kc all0
  have Kp := Kp.trans Kc all0
  refine Run.cast (st' := [(.int i0)]) rfl ?_
  refine s_if_eq 54 50 C X d7_47 (fun _ => ?_) (fun c => absurd (by decide : i0 = i0) c)
  refine s_iconst 55 C X d7_54 kc_iconst_0 ?_
  refine s_nreturn C X d7_55 rfl (by simp) rfl ?_ (FG hG (by decide) (by decide))
  exact hQ _ _ ⟨rfl, Od, Kp⟩
theorem rm_a561 (l : Launch) (Z : State) (a0 : Array Value) (hw : ∀ d ∈ tables_1, d.before a0 Z = true) (a : Int64) (cs : Int32) (y3 : Int64) (ca6 : Int32) (o42 : Addr) (o46 : Addr) (k_o46 : ClassId) (o98 : Addr) (b102 : Addr) (k_b102 : ClassId) (o516 : Addr) (o518 : Addr) (h0 : Heap) (n0 : Nat) (Z0 : n0 ≤ h0.size) (S_cs : Sta Z Z.heap "java/lang/String" "COMPACT_STRINGS" "Z" (.int cs)) (E_o42 : Exa Z h0 o42 "java/lang/String") (F_o42_value : Fld Z h0 o42 "java/lang/String" "value" "[B" (.ref o46)) (F_o42_coder : Fld Z h0 o42 "java/lang/String" "coder" "B" (.int i0)) (A_o46 : Arv Z h0 o46 k_o46 .byte i1 [(.int (bv ca6))] (.int i0)) (E_o98 : Exa Z h0 o98 "java/lang/String") (F_o98_value : Fld Z h0 o98 "java/lang/String" "value" "[B" (.ref b102)) (F_o98_coder : Fld Z h0 o98 "java/lang/String" "coder" "B" (.int i0)) (A_b102 : Arv Z h0 b102 k_b102 .byte i0 [] (.int i0)) (E_o516 : Exa Z h0 o516 "com/example/libring/libring/core/RingPoint") (F_o516_position : Fld Z h0 o516 "com/example/libring/libring/core/RingPoint" "position" "J" (.long a)) (F_o516_node : Fld Z h0 o516 "com/example/libring/libring/core/RingPoint" "node" "Ljava/lang/String;" (.ref o42)) (F_o518_position : Fld Z h0 o518 "com/example/libring/libring/core/RingPoint" "position" "J" (.long y3)) (F_o518_node : Fld Z h0 o518 "com/example/libring/libring/core/RingPoint" "node" "Ljava/lang/String;" (.ref o98)) (Od : Old Z n0 h0) (hv_cs : ¬ cs = i0) (ne_o42_o98 : o42 ≠ o98) :
    Met l Z (⟨"com/example/libring/libring/core/RingPoint", "equals", "(Ljava/lang/Object;)Z"⟩ : MethodName) prog_9_method_4_code 3 (some .boolean) { frames := 2, cells := 0, slots := 0, locals := 28 } [] #[(.ref o518), (.ref o516)] h0 n0 (fun v h => ∃ (y562 : Int32), v = some (.int y562) ∧ (((¬ ((y3).toInt = (a).toInt)) ∧ y562 = i0) ∨ (((y3).toInt = (a).toInt) ∧ y562 = i0)) ∧ Old Z n0 h ∧ Keep h0 h []) := by
  refine Met.mkQ (tabs := tables_1) (a0 := a0) (ls0 := #[rv o518, rv o516, .unset]) (plainFor_of_name pn_com_example_libring_libring_core_RingPoint) hw Z0 (fun m => by first | (simp [entryFrame, mkF, argsToLocals, Value.category]; done) | rfl) ?_
  intro p e s m below meth c T Q' G' hQ hG C X
  have Kp : Keep h0 h0 [] := Keep.refl _ _
  refine s_aloadN 1 C X d6_0 rfl rfl ?_
  refine s_instY 4 C X d6_1 (mW 42 rfl) (Ins.self E_o516) (fun T X => ?_)
  refine s_if_ne 9 7 C X d6_4 (fun _ => ?_) (fun c => absurd c (by decide))
  refine s_aloadN 10 C X d6_9 rfl rfl ?_
  refine s_castY 13 C X d6_10 (mW 42 rfl) (Ins.self E_o516) (fun T X => ?_)
  refine s_astoreN 14 C X (l' := #[rv o518, rv o516, rv o516]) d6_13 rfl rfl ?_
  refine s_aloadN 15 C X d6_14 rfl rfl ?_
  refine s_getfield 18 C X (host := "") d6_15 (Or.inl (mW 33 rfl)) Via.refl F_o518_position (fun T X => ?_)
  refine s_aloadN 19 C X d6_18 rfl rfl ?_
  refine s_getfield 22 C X (host := "") d6_19 (Or.inl (mW 33 rfl)) Via.refl F_o516_position (fun T X => ?_)
  refine s_lcmp 23 C X d6_22 ?_
  refine s_if_ne 44 26 C X d6_23 (fun c23_551 => ?_) (fun c23_551 => ?_)
  · have t_c23_551 : ¬ ((y3).toInt = (a).toInt) := fun q => c23_551 (cl_eq.mpr q)
    refine s_iconst 45 C X d6_44 kc_iconst_0 ?_
    refine s_nreturn C X d6_45 rfl (by simp) rfl ?_ (FG hG (by decide) (by decide))
    exact hQ _ _ ⟨i0, rfl, (Or.inl ⟨t_c23_551, rfl⟩), Od, Kp⟩
  have t_c23_551 : (y3).toInt = (a).toInt := cl_eq.mp c23_551
  refine s_aloadN 27 C X d6_26 rfl rfl ?_
  refine s_getfield 30 C X (host := "") d6_27 (Or.inl (mW 35 rfl)) Via.refl F_o518_node (fun T X => ?_)
  refine s_aloadN 31 C X d6_30 rfl rfl ?_
  refine s_getfield 34 C X (host := "") d6_31 (Or.inl (mW 35 rfl)) Via.refl F_o516_node (fun T X => ?_)
  refine s_callV 37 [(.ref o42)] [] 0 C X d6_34 (mW 44 rfl) (mW 45 rfl) (notFace_of_selects (args := #[]) (mvT C.2.1 (C.w (mW 47 rfl)))) (mW 47 rfl) (mW 46 rfl) (mW 6 rfl) (mW 48 rfl) E_o98 (rm_a559 l Z a0 hw cs ca6 o42 o46 k_o46 o98 b102 k_b102 _ n0 X.sz S_cs E_o42 F_o42_value F_o42_coder A_o46 F_o98_value F_o98_coder A_b102 Od hv_cs ne_o42_o98) (lenOf pd__Ljava_lang_Object__Z rfl) rfl rfl rfl (fun T v hh X q => ?_)
  obtain ⟨rfl, Od, Kc⟩ := q
  have Kp := Kp.trans Kc all0
  refine Run.cast (st' := [(.int i0)]) rfl ?_
  refine s_if_eq 44 40 C X d6_37 (fun _ => ?_) (fun c => absurd (by decide : i0 = i0) c)
  refine s_iconst 45 C X d6_44 kc_iconst_0 ?_
  refine s_nreturn C X d6_45 rfl (by simp) rfl ?_ (FG hG (by decide) (by decide))
  exact hQ _ _ ⟨i0, rfl, (Or.inr ⟨t_c23_551, rfl⟩), Od, Kp⟩
theorem rm_a570 (l : Launch) (Z : State) (a0 : Array Value) (hw : ∀ d ∈ tables_1, d.before a0 Z = true) (a : Int64) (o42 : Addr) (o516 : Addr) (h0 : Heap) (n0 : Nat) (Z0 : n0 ≤ h0.size) (E_o42 : Exa Z h0 o42 "java/lang/String") (E_o516 : Exa Z h0 o516 "com/example/libring/libring/core/RingPoint") (F_o516_position : Fld Z h0 o516 "com/example/libring/libring/core/RingPoint" "position" "J" (.long a)) (F_o516_node : Fld Z h0 o516 "com/example/libring/libring/core/RingPoint" "node" "Ljava/lang/String;" (.ref o42)) :
    Met l Z (⟨"com/example/libring/libring/core/RingPoint", "equals", "(Ljava/lang/Object;)Z"⟩ : MethodName) prog_9_method_4_code 3 (some .boolean) { frames := 1, cells := 0, slots := 0, locals := 14 } [] #[(.ref o516), (.ref o516)] h0 n0 (fun v h => v = some (.int i1) ∧ Keep h0 h []) := by
  refine Met.mkQ (tabs := tables_1) (a0 := a0) (ls0 := #[rv o516, rv o516, .unset]) (plainFor_of_name pn_com_example_libring_libring_core_RingPoint) hw Z0 (fun m => by first | (simp [entryFrame, mkF, argsToLocals, Value.category]; done) | rfl) ?_
  intro p e s m below meth c T Q' G' hQ hG C X
  have Kp : Keep h0 h0 [] := Keep.refl _ _
  refine s_aloadN 1 C X d6_0 rfl rfl ?_
  refine s_instY 4 C X d6_1 (mW 42 rfl) (Ins.self E_o516) (fun T X => ?_)
  refine s_if_ne 9 7 C X d6_4 (fun _ => ?_) (fun c => absurd c (by decide))
  refine s_aloadN 10 C X d6_9 rfl rfl ?_
  refine s_castY 13 C X d6_10 (mW 42 rfl) (Ins.self E_o516) (fun T X => ?_)
  refine s_astoreN 14 C X (l' := #[rv o516, rv o516, rv o516]) d6_13 rfl rfl ?_
  refine s_aloadN 15 C X d6_14 rfl rfl ?_
  refine s_getfield 18 C X (host := "") d6_15 (Or.inl (mW 33 rfl)) Via.refl F_o516_position (fun T X => ?_)
  refine s_aloadN 19 C X d6_18 rfl rfl ?_
  refine s_getfield 22 C X (host := "") d6_19 (Or.inl (mW 33 rfl)) Via.refl F_o516_position (fun T X => ?_)
  refine s_lcmp 23 C X d6_22 ?_
  refine s_if_ne 44 26 C X d6_23 (fun c => absurd (own_cmp0 _) c) (fun c23_566 => ?_)
  refine s_aloadN 27 C X d6_26 rfl rfl ?_
  refine s_getfield 30 C X (host := "") d6_27 (Or.inl (mW 35 rfl)) Via.refl F_o516_node (fun T X => ?_)
  refine s_aloadN 31 C X d6_30 rfl rfl ?_
  refine s_getfield 34 C X (host := "") d6_31 (Or.inl (mW 35 rfl)) Via.refl F_o516_node (fun T X => ?_)
  refine s_callV 37 [(.ref o42)] [] 0 C X d6_34 (mW 44 rfl) (mW 45 rfl) (notFace_of_selects (args := #[]) (mvT C.2.1 (C.w (mW 47 rfl)))) (mW 47 rfl) (mW 46 rfl) (mW 6 rfl) (mW 48 rfl) E_o42 (rm_a418 l Z a0 hw o42 _ n0 X.sz ) (lenOf pd__Ljava_lang_Object__Z rfl) rfl rfl rfl (fun T v hh X q => ?_)
  obtain ⟨rfl, Kc⟩ := q
  have Kp := Kp.trans Kc all0
  refine Run.cast (st' := [(.int i1)]) rfl ?_
  refine s_if_eq 44 40 C X d6_37 (fun c => absurd c (by decide)) (fun _ => ?_)
  refine s_iconst 41 C X d6_40 kc_iconst_1 ?_
  refine s_goto 45 C X d6_41 ?_
  refine s_nreturn C X d6_45 rfl (by simp) rfl ?_ (FG hG (by decide) (by decide))
  exact hQ _ _ ⟨rfl, Kp⟩
theorem rm_a573 (l : Launch) (Z : State) (a0 : Array Value) (hw : ∀ d ∈ tables_1, d.before a0 Z = true) (o42 : Addr) (o516 : Addr) (h0 : Heap) (n0 : Nat) (Z0 : n0 ≤ h0.size) (E_o42 : Exa Z h0 o42 "java/lang/String") :
    Met l Z (⟨"com/example/libring/libring/core/RingPoint", "equals", "(Ljava/lang/Object;)Z"⟩ : MethodName) prog_9_method_4_code 3 (some .boolean) { frames := 0, cells := 0, slots := 0, locals := 0 } [] #[(.ref o516), (.ref o42)] h0 n0 (fun v h => v = some (.int i0) ∧ Keep h0 h []) := by
  refine Met.mkQ (tabs := tables_1) (a0 := a0) (ls0 := #[rv o516, rv o42, .unset]) (plainFor_of_name pn_com_example_libring_libring_core_RingPoint) hw Z0 (fun m => by first | (simp [entryFrame, mkF, argsToLocals, Value.category]; done) | rfl) ?_
  intro p e s m below meth c T Q' G' hQ hG C X
  have Kp : Keep h0 h0 [] := Keep.refl _ _
  refine s_aloadN 1 C X d6_0 rfl rfl ?_
  refine s_instN 4 C X d6_1 (mW 42 rfl) E_o42 (own_no (C.w (mW 49 rfl)) (C.w (mW 50 rfl)) (C.w (mW 27 rfl))) (fun T X => ?_)
  refine s_if_ne 9 7 C X d6_4 (fun c => absurd (by decide : i0 = i0) c) (fun _ => ?_)
  refine s_iconst 8 C X d6_7 kc_iconst_0 ?_
  refine s_nreturn C X d6_8 rfl (by simp) rfl ?_ (FG hG (by decide) (by decide))
  exact hQ _ _ ⟨rfl, Kp⟩
theorem rm_a576 (l : Launch) (Z : State) (a0 : Array Value) (hw : ∀ d ∈ tables_1, d.before a0 Z = true) (o516 : Addr) (h0 : Heap) (n0 : Nat) (Z0 : n0 ≤ h0.size)  :
    Met l Z (⟨"com/example/libring/libring/core/RingPoint", "equals", "(Ljava/lang/Object;)Z"⟩ : MethodName) prog_9_method_4_code 3 (some .boolean) { frames := 0, cells := 0, slots := 0, locals := 0 } [] #[(.ref o516), .null] h0 n0 (fun v h => v = some (.int i0) ∧ Keep h0 h []) := by
  refine Met.mkQ (tabs := tables_1) (a0 := a0) (ls0 := #[rv o516, .val .null, .unset]) (plainFor_of_name pn_com_example_libring_libring_core_RingPoint) hw Z0 (fun m => by first | (simp [entryFrame, mkF, argsToLocals, Value.category]; done) | rfl) ?_
  intro p e s m below meth c T Q' G' hQ hG C X
  have Kp : Keep h0 h0 [] := Keep.refl _ _
  refine s_aloadN 1 C X d6_0 rfl rfl ?_
  refine s_instNull 4 C X d6_1 ?_
  refine s_if_ne 9 7 C X d6_4 (fun c => absurd (by decide : i0 = i0) c) (fun _ => ?_)
  refine s_iconst 8 C X d6_7 kc_iconst_0 ?_
  refine s_nreturn C X d6_8 rfl (by simp) rfl ?_ (FG hG (by decide) (by decide))
  exact hQ _ _ ⟨rfl, Kp⟩
theorem rm_a621 (l : Launch) (Z : State) (a0 : Array Value) (hw : ∀ d ∈ tables_1, d.before a0 Z = true) (a : Int64) (o56 : Addr) (o620 : Addr) (h0 : Heap) (n0 : Nat) (Z0 : n0 ≤ h0.size) (E_o620 : Exa Z h0 o620 "com/example/libring/libring/core/RingPoint") (F_o620_position : Fld Z h0 o620 "com/example/libring/libring/core/RingPoint" "position" "J" (.long j0)) (F_o620_node : Fld Z h0 o620 "com/example/libring/libring/core/RingPoint" "node" "Ljava/lang/String;" .null) (g_o620 : n0 ≤ o620) :
    Met l Z (⟨"com/example/libring/libring/core/RingPoint", "<init>", "(JLjava/lang/String;)V"⟩ : MethodName) prog_9_method_1_code 4 none { frames := 1, cells := 0, slots := 0, locals := 12 } [] #[(.ref o620), (.long a), (.ref o56)] h0 n0 (fun v h => v = none ∧ Exa Z h o620 "com/example/libring/libring/core/RingPoint" ∧ Fld Z h o620 "com/example/libring/libring/core/RingPoint" "position" "J" (.long a) ∧ Fld Z h o620 "com/example/libring/libring/core/RingPoint" "node" "Ljava/lang/String;" (.ref o56) ∧ Keep h0 h [o620]) := by
  refine Met.mkQ (tabs := tables_1) (a0 := a0) (ls0 := #[rv o620, lv a, .second, rv o56]) (plainFor_of_name pn_com_example_libring_libring_core_RingPoint) hw Z0 (fun m => by first | (simp [entryFrame, mkF, argsToLocals, Value.category]; done) | rfl) ?_
  intro p e s m below meth c T Q' G' hQ hG C X
  have Kp : Keep h0 h0 [o620] := Keep.refl _ _
  refine s_aloadN 1 C X d5_0 rfl rfl ?_
  refine s_objInit 4 C X d5_1 (mW 32 rfl) (mW 16 rfl) (mW 17 rfl) rfl (W := 0) rfl (by decide) (fun T X => ?_)
  refine s_aloadN 5 C X d5_4 rfl rfl ?_
  refine s_lloadN 6 C X d5_5 rfl ?_
  refine s_putfield 9 C X (host := "") d5_6 (Or.inl (mW 33 rfl)) Via.refl F_o620_position E_o620 (Or.inr ⟨(mW 34 rfl), rfl, rfl⟩) (mW 27 rfl) (ty := .long) (by decide) rfl rfl g_o620 (fun T hh X W => ?_)
  have E_o620 := E_o620.wr W
  have F_o620_position := F_o620_position.same W
  have F_o620_node := oth F_o620_node W (Or.inr (hw _ (mW 36 rfl))) (Or.inr (hw _ (mW 34 rfl))) (by decide)
  have Kp := Kp.wr W (Or.inl (by simp))
  refine s_aloadN 10 C X d5_9 rfl rfl ?_
  refine s_aloadN 11 C X d5_10 rfl rfl ?_
  refine s_putfield 14 C X (host := "") d5_11 (Or.inl (mW 35 rfl)) Via.refl F_o620_node E_o620 (Or.inr ⟨(mW 36 rfl), rfl, rfl⟩) (mW 27 rfl) (ty := (.object "java/lang/String")) (by decide) rfl rfl g_o620 (fun T hh X W => ?_)
  have E_o620 := E_o620.wr W
  have F_o620_position := oth F_o620_position W (Or.inr (hw _ (mW 34 rfl))) (Or.inr (hw _ (mW 36 rfl))) (by decide)
  have F_o620_node := F_o620_node.same W
  have Kp := Kp.wr W (Or.inl (by simp))
  refine s_return C X d5_14 rfl ?_ (FG hG (by decide) (by decide))
  exact hQ _ _ ⟨rfl, E_o620, F_o620_position, F_o620_node, Kp⟩
theorem rm_a623 (l : Launch) (Z : State) (a0 : Array Value) (hw : ∀ d ∈ tables_1, d.before a0 Z = true) (y3 : Int64) (o68 : Addr) (o622 : Addr) (h0 : Heap) (n0 : Nat) (Z0 : n0 ≤ h0.size) (E_o622 : Exa Z h0 o622 "com/example/libring/libring/core/RingPoint") (F_o622_position : Fld Z h0 o622 "com/example/libring/libring/core/RingPoint" "position" "J" (.long j0)) (F_o622_node : Fld Z h0 o622 "com/example/libring/libring/core/RingPoint" "node" "Ljava/lang/String;" .null) (g_o622 : n0 ≤ o622) :
    Met l Z (⟨"com/example/libring/libring/core/RingPoint", "<init>", "(JLjava/lang/String;)V"⟩ : MethodName) prog_9_method_1_code 4 none { frames := 1, cells := 0, slots := 0, locals := 12 } [] #[(.ref o622), (.long y3), (.ref o68)] h0 n0 (fun v h => v = none ∧ Exa Z h o622 "com/example/libring/libring/core/RingPoint" ∧ Fld Z h o622 "com/example/libring/libring/core/RingPoint" "position" "J" (.long y3) ∧ Fld Z h o622 "com/example/libring/libring/core/RingPoint" "node" "Ljava/lang/String;" (.ref o68) ∧ Keep h0 h [o622]) := by
  refine Met.mkQ (tabs := tables_1) (a0 := a0) (ls0 := #[rv o622, lv y3, .second, rv o68]) (plainFor_of_name pn_com_example_libring_libring_core_RingPoint) hw Z0 (fun m => by first | (simp [entryFrame, mkF, argsToLocals, Value.category]; done) | rfl) ?_
  intro p e s m below meth c T Q' G' hQ hG C X
  have Kp : Keep h0 h0 [o622] := Keep.refl _ _
  refine s_aloadN 1 C X d5_0 rfl rfl ?_
  refine s_objInit 4 C X d5_1 (mW 32 rfl) (mW 16 rfl) (mW 17 rfl) rfl (W := 0) rfl (by decide) (fun T X => ?_)
  refine s_aloadN 5 C X d5_4 rfl rfl ?_
  refine s_lloadN 6 C X d5_5 rfl ?_
  refine s_putfield 9 C X (host := "") d5_6 (Or.inl (mW 33 rfl)) Via.refl F_o622_position E_o622 (Or.inr ⟨(mW 34 rfl), rfl, rfl⟩) (mW 27 rfl) (ty := .long) (by decide) rfl rfl g_o622 (fun T hh X W => ?_)
  have E_o622 := E_o622.wr W
  have F_o622_position := F_o622_position.same W
  have F_o622_node := oth F_o622_node W (Or.inr (hw _ (mW 36 rfl))) (Or.inr (hw _ (mW 34 rfl))) (by decide)
  have Kp := Kp.wr W (Or.inl (by simp))
  refine s_aloadN 10 C X d5_9 rfl rfl ?_
  refine s_aloadN 11 C X d5_10 rfl rfl ?_
  refine s_putfield 14 C X (host := "") d5_11 (Or.inl (mW 35 rfl)) Via.refl F_o622_node E_o622 (Or.inr ⟨(mW 36 rfl), rfl, rfl⟩) (mW 27 rfl) (ty := (.object "java/lang/String")) (by decide) rfl rfl g_o622 (fun T hh X W => ?_)
  have E_o622 := E_o622.wr W
  have F_o622_position := oth F_o622_position W (Or.inr (hw _ (mW 34 rfl))) (Or.inr (hw _ (mW 36 rfl))) (by decide)
  have F_o622_node := F_o622_node.same W
  have Kp := Kp.wr W (Or.inl (by simp))
  refine s_return C X d5_14 rfl ?_ (FG hG (by decide) (by decide))
  exact hQ _ _ ⟨rfl, E_o622, F_o622_position, F_o622_node, Kp⟩
theorem rm_a646 (l : Launch) (Z : State) (a0 : Array Value) (hw : ∀ d ∈ tables_1, d.before a0 Z = true) (y18 : Int32) (y22 : Int32) (b60 : Addr) (k_b60 : ClassId) (o72 : Addr) (k_o72 : ClassId) (h0 : Heap) (n0 : Nat) (Z0 : n0 ≤ h0.size) (A_b60 : Arv Z h0 b60 k_b60 .byte i0 [] (.int i0)) (A_o72 : Arv Z h0 o72 k_o72 .byte i2 [(.int (bv y18)), (.int (bv y22))] (.int i0)) :
    Met l Z (⟨"java/lang/StringLatin1", "equals", "([B[B)Z"⟩ : MethodName) jdk_43_method_13_code 3 (some .boolean) { frames := 0, cells := 0, slots := 0, locals := 0 } [] #[(.ref b60), (.ref o72)] h0 n0 (fun v h => v = some (.int i0) ∧ Keep h0 h []) := by
  refine Met.mkQ (tabs := tables_1) (a0 := a0) (ls0 := #[rv b60, rv o72, .unset]) (plainFor_of_name pn_java_lang_StringLatin1) hw Z0 (fun m => by first | (simp [entryFrame, mkF, argsToLocals, Value.category]; done) | rfl) ?_
  intro p e s m below meth c T Q' G' hQ hG C X
  have Kp : Keep h0 h0 [] := Keep.refl _ _
  refine s_aloadN 1 C X d11_0 rfl rfl ?_
  refine s_arraylength 2 C X d11_1 A_b60 ?_
  refine s_aloadN 3 C X d11_2 rfl rfl ?_
  refine s_arraylength 4 C X d11_3 A_o72 ?_
  refine s_icmp_ne 34 7 C X d11_4 (fun _ => ?_) (fun c => absurd c (by decide))
  refine s_iconst 35 C X d11_34 kc_iconst_0 ?_
  refine s_nreturn C X d11_35 rfl (by simp) rfl ?_ (FG hG (by decide) (by decide))
  exact hQ _ _ ⟨rfl, Kp⟩
theorem rm_a648 (l : Launch) (Z : State) (a0 : Array Value) (hw : ∀ d ∈ tables_1, d.before a0 Z = true) (cs : Int32) (y18 : Int32) (y22 : Int32) (o56 : Addr) (b60 : Addr) (k_b60 : ClassId) (o68 : Addr) (o72 : Addr) (k_o72 : ClassId) (h0 : Heap) (n0 : Nat) (Z0 : n0 ≤ h0.size) (S_cs : Sta Z Z.heap "java/lang/String" "COMPACT_STRINGS" "Z" (.int cs)) (F_o56_value : Fld Z h0 o56 "java/lang/String" "value" "[B" (.ref b60)) (F_o56_coder : Fld Z h0 o56 "java/lang/String" "coder" "B" (.int i0)) (A_b60 : Arv Z h0 b60 k_b60 .byte i0 [] (.int i0)) (Od : Old Z n0 h0) (E_o68 : Exa Z h0 o68 "java/lang/String") (F_o68_value : Fld Z h0 o68 "java/lang/String" "value" "[B" (.ref o72)) (F_o68_coder : Fld Z h0 o68 "java/lang/String" "coder" "B" (.int i0)) (A_o72 : Arv Z h0 o72 k_o72 .byte i2 [(.int (bv y18)), (.int (bv y22))] (.int i0)) (hv_cs : ¬ cs = i0) (ne_o56_o68 : o56 ≠ o68) :
    Met l Z (⟨"java/lang/String", "equals", "(Ljava/lang/Object;)Z"⟩ : MethodName) jdk_42_method_66_code 3 (some .boolean) { frames := 1, cells := 0, slots := 0, locals := 14 } [] #[(.ref o56), (.ref o68)] h0 n0 (fun v h => v = some (.int i0) ∧ Old Z n0 h ∧ Keep h0 h []) := by
  refine Met.mkQ (tabs := tables_1) (a0 := a0) (ls0 := #[rv o56, rv o68, .unset]) (plainFor_of_name pn_java_lang_String) hw Z0 (fun m => by first | (simp [entryFrame, mkF, argsToLocals, Value.category]; done) | rfl) ?_
  intro p e s m below meth c T Q' G' hQ hG C X
  have Kp : Keep h0 h0 [] := Keep.refl _ _
  refine s_aloadN 1 C X d7_0 rfl rfl ?_
  refine s_aloadN 2 C X d7_1 rfl rfl ?_
  refine s_acmp_ne 7 5 C X d7_2 rfl rfl (fun c2_641 => ?_) (fun c => absurd (Value.ref.inj c) ne_o56_o68)
  refine s_aloadN 8 C X d7_7 rfl rfl ?_
  refine s_instY 11 C X d7_8 (mW 62 rfl) (Ins.self E_o68) (fun T X => ?_)
  refine s_if_eq 54 14 C X d7_11 (fun c => absurd c (by decide)) (fun _ => ?_)
  refine s_aloadN 15 C X d7_14 rfl rfl ?_
  refine s_castY 18 C X d7_15 (mW 62 rfl) (Ins.self E_o68) (fun T X => ?_)
  refine s_astoreN 19 C X (l' := #[rv o56, rv o68, rv o68]) d7_18 rfl rfl ?_
  refine s_getstatic 22 C X (host := "") d7_19 (Or.inl (mW 51 rfl)) Via.refl (S_cs.ext Od.2) (fun T X => ?_)
  refine s_if_eq 36 25 C X d7_22 (fun c => absurd c hv_cs) (fun c22_643 => ?_)
  refine s_aloadN 26 C X d7_25 rfl rfl ?_
  refine s_getfield 29 C X (host := "") d7_26 (Or.inl (mW 25 rfl)) Via.refl F_o56_coder (fun T X => ?_)
  refine s_aloadN 30 C X d7_29 rfl rfl ?_
  refine s_getfield 33 C X (host := "") d7_30 (Or.inl (mW 25 rfl)) Via.refl F_o68_coder (fun T X => ?_)
  refine s_icmp_ne 54 36 C X d7_33 (fun c => absurd (by decide : i0 = i0) c) (fun _ => ?_)
  refine s_aloadN 37 C X d7_36 rfl rfl ?_
  refine s_getfield 40 C X (host := "") d7_37 (Or.inl (mW 24 rfl)) Via.refl F_o56_value (fun T X => ?_)
  refine s_aloadN 41 C X d7_40 rfl rfl ?_
  refine s_getfield 44 C X (host := "") d7_41 (Or.inl (mW 24 rfl)) Via.refl F_o68_value (fun T X => ?_)
  refine s_callS 47 [(.ref b60), (.ref o72)] [] 0 C X d7_44 (mW 63 rfl) (mW 64 rfl) (mW 65 rfl) (mW 66 rfl) (rm_a646 l Z a0 hw y18 y22 b60 k_b60 o72 k_o72 _ n0 X.sz A_b60 A_o72) (lenOf pd___B_B_Z rfl) rfl rfl rfl (fun T v hh X q => ?_)
  obtain ⟨rfl, Kc⟩ := q
  have Od := Od.keep Kc all0
  have Kp := Kp.trans Kc all0
  refine Run.cast (st' := [(.int i0)]) rfl ?_
  refine s_if_eq 54 50 C X d7_47 (fun _ => ?_) (fun c => absurd (by decide : i0 = i0) c)
  refine s_iconst 55 C X d7_54 kc_iconst_0 ?_
  refine s_nreturn C X d7_55 rfl (by simp) rfl ?_ (FG hG (by decide) (by decide))
  exact hQ _ _ ⟨rfl, Od, Kp⟩
theorem rm_a650 (l : Launch) (Z : State) (a0 : Array Value) (hw : ∀ d ∈ tables_1, d.before a0 Z = true) (a : Int64) (cs : Int32) (y3 : Int64) (y18 : Int32) (y22 : Int32) (o56 : Addr) (b60 : Addr) (k_b60 : ClassId) (o68 : Addr) (o72 : Addr) (k_o72 : ClassId) (o620 : Addr) (o622 : Addr) (h0 : Heap) (n0 : Nat) (Z0 : n0 ≤ h0.size) (S_cs : Sta Z Z.heap "java/lang/String" "COMPACT_STRINGS" "Z" (.int cs)) (E_o56 : Exa Z h0 o56 "java/lang/String") (F_o56_value : Fld Z h0 o56 "java/lang/String" "value" "[B" (.ref b60)) (F_o56_coder : Fld Z h0 o56 "java/lang/String" "coder" "B" (.int i0)) (A_b60 : Arv Z h0 b60 k_b60 .byte i0 [] (.int i0)) (Od : Old Z n0 h0) (E_o68 : Exa Z h0 o68 "java/lang/String") (F_o68_value : Fld Z h0 o68 "java/lang/String" "value" "[B" (.ref o72)) (F_o68_coder : Fld Z h0 o68 "java/lang/String" "coder" "B" (.int i0)) (A_o72 : Arv Z h0 o72 k_o72 .byte i2 [(.int (bv y18)), (.int (bv y22))] (.int i0)) (F_o620_position : Fld Z h0 o620 "com/example/libring/libring/core/RingPoint" "position" "J" (.long a)) (F_o620_node : Fld Z h0 o620 "com/example/libring/libring/core/RingPoint" "node" "Ljava/lang/String;" (.ref o56)) (E_o622 : Exa Z h0 o622 "com/example/libring/libring/core/RingPoint") (F_o622_position : Fld Z h0 o622 "com/example/libring/libring/core/RingPoint" "position" "J" (.long y3)) (F_o622_node : Fld Z h0 o622 "com/example/libring/libring/core/RingPoint" "node" "Ljava/lang/String;" (.ref o68)) (hv_cs : ¬ cs = i0) (ne_o56_o68 : o56 ≠ o68) :
    Met l Z (⟨"com/example/libring/libring/core/RingPoint", "equals", "(Ljava/lang/Object;)Z"⟩ : MethodName) prog_9_method_4_code 3 (some .boolean) { frames := 2, cells := 0, slots := 0, locals := 28 } [] #[(.ref o620), (.ref o622)] h0 n0 (fun v h => ∃ (y651 : Int32), v = some (.int y651) ∧ (((¬ ((a).toInt = (y3).toInt)) ∧ y651 = i0) ∨ (((a).toInt = (y3).toInt) ∧ y651 = i0)) ∧ Old Z n0 h ∧ Keep h0 h []) := by
  refine Met.mkQ (tabs := tables_1) (a0 := a0) (ls0 := #[rv o620, rv o622, .unset]) (plainFor_of_name pn_com_example_libring_libring_core_RingPoint) hw Z0 (fun m => by first | (simp [entryFrame, mkF, argsToLocals, Value.category]; done) | rfl) ?_
  intro p e s m below meth c T Q' G' hQ hG C X
  have Kp : Keep h0 h0 [] := Keep.refl _ _
  refine s_aloadN 1 C X d6_0 rfl rfl ?_
  refine s_instY 4 C X d6_1 (mW 42 rfl) (Ins.self E_o622) (fun T X => ?_)
  refine s_if_ne 9 7 C X d6_4 (fun _ => ?_) (fun c => absurd c (by decide))
  refine s_aloadN 10 C X d6_9 rfl rfl ?_
  refine s_castY 13 C X d6_10 (mW 42 rfl) (Ins.self E_o622) (fun T X => ?_)
  refine s_astoreN 14 C X (l' := #[rv o620, rv o622, rv o622]) d6_13 rfl rfl ?_
  refine s_aloadN 15 C X d6_14 rfl rfl ?_
  refine s_getfield 18 C X (host := "") d6_15 (Or.inl (mW 33 rfl)) Via.refl F_o620_position (fun T X => ?_)
  refine s_aloadN 19 C X d6_18 rfl rfl ?_
  refine s_getfield 22 C X (host := "") d6_19 (Or.inl (mW 33 rfl)) Via.refl F_o622_position (fun T X => ?_)
  refine s_lcmp 23 C X d6_22 ?_
  refine s_if_ne 44 26 C X d6_23 (fun c23_640 => ?_) (fun c23_640 => ?_)
  · have t_c23_640 : ¬ ((a).toInt = (y3).toInt) := fun q => c23_640 (cl_eq.mpr q)
    refine s_iconst 45 C X d6_44 kc_iconst_0 ?_
    refine s_nreturn C X d6_45 rfl (by simp) rfl ?_ (FG hG (by decide) (by decide))
    exact hQ _ _ ⟨i0, rfl, (Or.inl ⟨t_c23_640, rfl⟩), Od, Kp⟩
  have t_c23_640 : (a).toInt = (y3).toInt := cl_eq.mp c23_640
  refine s_aloadN 27 C X d6_26 rfl rfl ?_
  refine s_getfield 30 C X (host := "") d6_27 (Or.inl (mW 35 rfl)) Via.refl F_o620_node (fun T X => ?_)
  refine s_aloadN 31 C X d6_30 rfl rfl ?_
  refine s_getfield 34 C X (host := "") d6_31 (Or.inl (mW 35 rfl)) Via.refl F_o622_node (fun T X => ?_)
  refine s_callV 37 [(.ref o68)] [] 0 C X d6_34 (mW 44 rfl) (mW 45 rfl) (notFace_of_selects (args := #[]) (mvT C.2.1 (C.w (mW 47 rfl)))) (mW 47 rfl) (mW 46 rfl) (mW 6 rfl) (mW 48 rfl) E_o56 (rm_a648 l Z a0 hw cs y18 y22 o56 b60 k_b60 o68 o72 k_o72 _ n0 X.sz S_cs F_o56_value F_o56_coder A_b60 Od E_o68 F_o68_value F_o68_coder A_o72 hv_cs ne_o56_o68) (lenOf pd__Ljava_lang_Object__Z rfl) rfl rfl rfl (fun T v hh X q => ?_)
  obtain ⟨rfl, Od, Kc⟩ := q
  have Kp := Kp.trans Kc all0
  refine Run.cast (st' := [(.int i0)]) rfl ?_
  refine s_if_eq 44 40 C X d6_37 (fun _ => ?_) (fun c => absurd (by decide : i0 = i0) c)
  refine s_iconst 45 C X d6_44 kc_iconst_0 ?_
  refine s_nreturn C X d6_45 rfl (by simp) rfl ?_ (FG hG (by decide) (by decide))
  exact hQ _ _ ⟨i0, rfl, (Or.inr ⟨t_c23_640, rfl⟩), Od, Kp⟩
theorem rm_a661 (l : Launch) (Z : State) (a0 : Array Value) (hw : ∀ d ∈ tables_1, d.before a0 Z = true) (y18 : Int32) (y22 : Int32) (b60 : Addr) (k_b60 : ClassId) (o72 : Addr) (k_o72 : ClassId) (h0 : Heap) (n0 : Nat) (Z0 : n0 ≤ h0.size) (A_b60 : Arv Z h0 b60 k_b60 .byte i0 [] (.int i0)) (A_o72 : Arv Z h0 o72 k_o72 .byte i2 [(.int (bv y18)), (.int (bv y22))] (.int i0)) :
    Met l Z (⟨"java/lang/StringLatin1", "equals", "([B[B)Z"⟩ : MethodName) jdk_43_method_13_code 3 (some .boolean) { frames := 0, cells := 0, slots := 0, locals := 0 } [] #[(.ref o72), (.ref b60)] h0 n0 (fun v h => v = some (.int i0) ∧ Keep h0 h []) := by
  refine Met.mkQ (tabs := tables_1) (a0 := a0) (ls0 := #[rv o72, rv b60, .unset]) (plainFor_of_name pn_java_lang_StringLatin1) hw Z0 (fun m => by first | (simp [entryFrame, mkF, argsToLocals, Value.category]; done) | rfl) ?_
  intro p e s m below meth c T Q' G' hQ hG C X
  have Kp : Keep h0 h0 [] := Keep.refl _ _
  refine s_aloadN 1 C X d11_0 rfl rfl ?_
  refine s_arraylength 2 C X d11_1 A_o72 ?_
  refine s_aloadN 3 C X d11_2 rfl rfl ?_
  refine s_arraylength 4 C X d11_3 A_b60 ?_
  refine s_icmp_ne 34 7 C X d11_4 (fun _ => ?_) (fun c => absurd c (by decide))
  refine s_iconst 35 C X d11_34 kc_iconst_0 ?_
  refine s_nreturn C X d11_35 rfl (by simp) rfl ?_ (FG hG (by decide) (by decide))
  exact hQ _ _ ⟨rfl, Kp⟩
theorem rm_a663 (l : Launch) (Z : State) (a0 : Array Value) (hw : ∀ d ∈ tables_1, d.before a0 Z = true) (cs : Int32) (y18 : Int32) (y22 : Int32) (o56 : Addr) (b60 : Addr) (k_b60 : ClassId) (o68 : Addr) (o72 : Addr) (k_o72 : ClassId) (h0 : Heap) (n0 : Nat) (Z0 : n0 ≤ h0.size) (S_cs : Sta Z Z.heap "java/lang/String" "COMPACT_STRINGS" "Z" (.int cs)) (E_o56 : Exa Z h0 o56 "java/lang/String") (F_o56_value : Fld Z h0 o56 "java/lang/String" "value" "[B" (.ref b60)) (F_o56_coder : Fld Z h0 o56 "java/lang/String" "coder" "B" (.int i0)) (A_b60 : Arv Z h0 b60 k_b60 .byte i0 [] (.int i0)) (F_o68_value : Fld Z h0 o68 "java/lang/String" "value" "[B" (.ref o72)) (F_o68_coder : Fld Z h0 o68 "java/lang/String" "coder" "B" (.int i0)) (A_o72 : Arv Z h0 o72 k_o72 .byte i2 [(.int (bv y18)), (.int (bv y22))] (.int i0)) (Od : Old Z n0 h0) (hv_cs : ¬ cs = i0) (ne_o56_o68 : o56 ≠ o68) :
    Met l Z (⟨"java/lang/String", "equals", "(Ljava/lang/Object;)Z"⟩ : MethodName) jdk_42_method_66_code 3 (some .boolean) { frames := 1, cells := 0, slots := 0, locals := 14 } [] #[(.ref o68), (.ref o56)] h0 n0 (fun v h => v = some (.int i0) ∧ Old Z n0 h ∧ Keep h0 h []) := by
  refine Met.mkQ (tabs := tables_1) (a0 := a0) (ls0 := #[rv o68, rv o56, .unset]) (plainFor_of_name pn_java_lang_String) hw Z0 (fun m => by first | (simp [entryFrame, mkF, argsToLocals, Value.category]; done) | rfl) ?_
  intro p e s m below meth c T Q' G' hQ hG C X
  have Kp : Keep h0 h0 [] := Keep.refl _ _
  refine s_aloadN 1 C X d7_0 rfl rfl ?_
  refine s_aloadN 2 C X d7_1 rfl rfl ?_
  refine s_acmp_ne 7 5 C X d7_2 rfl rfl (fun c2_656 => ?_) (fun c => absurd (Value.ref.inj c) (Ne.symm ne_o56_o68))
  refine s_aloadN 8 C X d7_7 rfl rfl ?_
  refine s_instY 11 C X d7_8 (mW 62 rfl) (Ins.self E_o56) (fun T X => ?_)
  refine s_if_eq 54 14 C X d7_11 (fun c => absurd c (by decide)) (fun _ => ?_)
  refine s_aloadN 15 C X d7_14 rfl rfl ?_
  refine s_castY 18 C X d7_15 (mW 62 rfl) (Ins.self E_o56) (fun T X => ?_)
  refine s_astoreN 19 C X (l' := #[rv o68, rv o56, rv o56]) d7_18 rfl rfl ?_
  refine s_getstatic 22 C X (host := "") d7_19 (Or.inl (mW 51 rfl)) Via.refl (S_cs.ext Od.2) (fun T X => ?_)
  refine s_if_eq 36 25 C X d7_22 (fun c => absurd c hv_cs) (fun c22_658 => ?_)
  refine s_aloadN 26 C X d7_25 rfl rfl ?_
  refine s_getfield 29 C X (host := "") d7_26 (Or.inl (mW 25 rfl)) Via.refl F_o68_coder (fun T X => ?_)
  refine s_aloadN 30 C X d7_29 rfl rfl ?_
  refine s_getfield 33 C X (host := "") d7_30 (Or.inl (mW 25 rfl)) Via.refl F_o56_coder (fun T X => ?_)
  refine s_icmp_ne 54 36 C X d7_33 (fun c => absurd (by decide : i0 = i0) c) (fun _ => ?_)
  refine s_aloadN 37 C X d7_36 rfl rfl ?_
  refine s_getfield 40 C X (host := "") d7_37 (Or.inl (mW 24 rfl)) Via.refl F_o68_value (fun T X => ?_)
  refine s_aloadN 41 C X d7_40 rfl rfl ?_
  refine s_getfield 44 C X (host := "") d7_41 (Or.inl (mW 24 rfl)) Via.refl F_o56_value (fun T X => ?_)
  refine s_callS 47 [(.ref o72), (.ref b60)] [] 0 C X d7_44 (mW 63 rfl) (mW 64 rfl) (mW 65 rfl) (mW 66 rfl) (rm_a661 l Z a0 hw y18 y22 b60 k_b60 o72 k_o72 _ n0 X.sz A_b60 A_o72) (lenOf pd___B_B_Z rfl) rfl rfl rfl (fun T v hh X q => ?_)
  obtain ⟨rfl, Kc⟩ := q
  have Od := Od.keep Kc all0
  have Kp := Kp.trans Kc all0
  refine Run.cast (st' := [(.int i0)]) rfl ?_
  refine s_if_eq 54 50 C X d7_47 (fun _ => ?_) (fun c => absurd (by decide : i0 = i0) c)
  refine s_iconst 55 C X d7_54 kc_iconst_0 ?_
  refine s_nreturn C X d7_55 rfl (by simp) rfl ?_ (FG hG (by decide) (by decide))
  exact hQ _ _ ⟨rfl, Od, Kp⟩
theorem rm_a665 (l : Launch) (Z : State) (a0 : Array Value) (hw : ∀ d ∈ tables_1, d.before a0 Z = true) (a : Int64) (cs : Int32) (y3 : Int64) (y18 : Int32) (y22 : Int32) (o56 : Addr) (b60 : Addr) (k_b60 : ClassId) (o68 : Addr) (o72 : Addr) (k_o72 : ClassId) (o620 : Addr) (o622 : Addr) (h0 : Heap) (n0 : Nat) (Z0 : n0 ≤ h0.size) (S_cs : Sta Z Z.heap "java/lang/String" "COMPACT_STRINGS" "Z" (.int cs)) (E_o56 : Exa Z h0 o56 "java/lang/String") (F_o56_value : Fld Z h0 o56 "java/lang/String" "value" "[B" (.ref b60)) (F_o56_coder : Fld Z h0 o56 "java/lang/String" "coder" "B" (.int i0)) (A_b60 : Arv Z h0 b60 k_b60 .byte i0 [] (.int i0)) (E_o68 : Exa Z h0 o68 "java/lang/String") (F_o68_value : Fld Z h0 o68 "java/lang/String" "value" "[B" (.ref o72)) (F_o68_coder : Fld Z h0 o68 "java/lang/String" "coder" "B" (.int i0)) (A_o72 : Arv Z h0 o72 k_o72 .byte i2 [(.int (bv y18)), (.int (bv y22))] (.int i0)) (E_o620 : Exa Z h0 o620 "com/example/libring/libring/core/RingPoint") (F_o620_position : Fld Z h0 o620 "com/example/libring/libring/core/RingPoint" "position" "J" (.long a)) (F_o620_node : Fld Z h0 o620 "com/example/libring/libring/core/RingPoint" "node" "Ljava/lang/String;" (.ref o56)) (F_o622_position : Fld Z h0 o622 "com/example/libring/libring/core/RingPoint" "position" "J" (.long y3)) (F_o622_node : Fld Z h0 o622 "com/example/libring/libring/core/RingPoint" "node" "Ljava/lang/String;" (.ref o68)) (Od : Old Z n0 h0) (hv_cs : ¬ cs = i0) (ne_o56_o68 : o56 ≠ o68) :
    Met l Z (⟨"com/example/libring/libring/core/RingPoint", "equals", "(Ljava/lang/Object;)Z"⟩ : MethodName) prog_9_method_4_code 3 (some .boolean) { frames := 2, cells := 0, slots := 0, locals := 28 } [] #[(.ref o622), (.ref o620)] h0 n0 (fun v h => ∃ (y666 : Int32), v = some (.int y666) ∧ (((¬ ((y3).toInt = (a).toInt)) ∧ y666 = i0) ∨ (((y3).toInt = (a).toInt) ∧ y666 = i0)) ∧ Old Z n0 h ∧ Keep h0 h []) := by
  refine Met.mkQ (tabs := tables_1) (a0 := a0) (ls0 := #[rv o622, rv o620, .unset]) (plainFor_of_name pn_com_example_libring_libring_core_RingPoint) hw Z0 (fun m => by first | (simp [entryFrame, mkF, argsToLocals, Value.category]; done) | rfl) ?_
  intro p e s m below meth c T Q' G' hQ hG C X
  have Kp : Keep h0 h0 [] := Keep.refl _ _
  refine s_aloadN 1 C X d6_0 rfl rfl ?_
  refine s_instY 4 C X d6_1 (mW 42 rfl) (Ins.self E_o620) (fun T X => ?_)
  refine s_if_ne 9 7 C X d6_4 (fun _ => ?_) (fun c => absurd c (by decide))
  refine s_aloadN 10 C X d6_9 rfl rfl ?_
  refine s_castY 13 C X d6_10 (mW 42 rfl) (Ins.self E_o620) (fun T X => ?_)
  refine s_astoreN 14 C X (l' := #[rv o622, rv o620, rv o620]) d6_13 rfl rfl ?_
  refine s_aloadN 15 C X d6_14 rfl rfl ?_
  refine s_getfield 18 C X (host := "") d6_15 (Or.inl (mW 33 rfl)) Via.refl F_o622_position (fun T X => ?_)
  refine s_aloadN 19 C X d6_18 rfl rfl ?_
  refine s_getfield 22 C X (host := "") d6_19 (Or.inl (mW 33 rfl)) Via.refl F_o620_position (fun T X => ?_)
  refine s_lcmp 23 C X d6_22 ?_
  refine s_if_ne 44 26 C X d6_23 (fun c23_655 => ?_) (fun c23_655 => ?_)
  · have t_c23_655 : ¬ ((y3).toInt = (a).toInt) := fun q => c23_655 (cl_eq.mpr q)
    refine s_iconst 45 C X d6_44 kc_iconst_0 ?_
    refine s_nreturn C X d6_45 rfl (by simp) rfl ?_ (FG hG (by decide) (by decide))
    exact hQ _ _ ⟨i0, rfl, (Or.inl ⟨t_c23_655, rfl⟩), Od, Kp⟩
  have t_c23_655 : (y3).toInt = (a).toInt := cl_eq.mp c23_655
  refine s_aloadN 27 C X d6_26 rfl rfl ?_
  refine s_getfield 30 C X (host := "") d6_27 (Or.inl (mW 35 rfl)) Via.refl F_o622_node (fun T X => ?_)
  refine s_aloadN 31 C X d6_30 rfl rfl ?_
  refine s_getfield 34 C X (host := "") d6_31 (Or.inl (mW 35 rfl)) Via.refl F_o620_node (fun T X => ?_)
  refine s_callV 37 [(.ref o56)] [] 0 C X d6_34 (mW 44 rfl) (mW 45 rfl) (notFace_of_selects (args := #[]) (mvT C.2.1 (C.w (mW 47 rfl)))) (mW 47 rfl) (mW 46 rfl) (mW 6 rfl) (mW 48 rfl) E_o68 (rm_a663 l Z a0 hw cs y18 y22 o56 b60 k_b60 o68 o72 k_o72 _ n0 X.sz S_cs E_o56 F_o56_value F_o56_coder A_b60 F_o68_value F_o68_coder A_o72 Od hv_cs ne_o56_o68) (lenOf pd__Ljava_lang_Object__Z rfl) rfl rfl rfl (fun T v hh X q => ?_)
  obtain ⟨rfl, Od, Kc⟩ := q
  have Kp := Kp.trans Kc all0
  refine Run.cast (st' := [(.int i0)]) rfl ?_
  refine s_if_eq 44 40 C X d6_37 (fun _ => ?_) (fun c => absurd (by decide : i0 = i0) c)
  refine s_iconst 45 C X d6_44 kc_iconst_0 ?_
  refine s_nreturn C X d6_45 rfl (by simp) rfl ?_ (FG hG (by decide) (by decide))
  exact hQ _ _ ⟨i0, rfl, (Or.inr ⟨t_c23_655, rfl⟩), Od, Kp⟩
theorem rm_a672 (l : Launch) (Z : State) (a0 : Array Value) (hw : ∀ d ∈ tables_1, d.before a0 Z = true) (o56 : Addr) (h0 : Heap) (n0 : Nat) (Z0 : n0 ≤ h0.size)  :
    Met l Z (⟨"java/lang/String", "equals", "(Ljava/lang/Object;)Z"⟩ : MethodName) jdk_42_method_66_code 3 (some .boolean) { frames := 0, cells := 0, slots := 0, locals := 0 } [] #[(.ref o56), (.ref o56)] h0 n0 (fun v h => v = some (.int i1) ∧ Keep h0 h []) := by
  refine Met.mkQ (tabs := tables_1) (a0 := a0) (ls0 := #[rv o56, rv o56, .unset]) (plainFor_of_name pn_java_lang_String) hw Z0 (fun m => by first | (simp [entryFrame, mkF, argsToLocals, Value.category]; done) | rfl) ?_
  intro p e s m below meth c T Q' G' hQ hG C X
  have Kp : Keep h0 h0 [] := Keep.refl _ _
  refine s_aloadN 1 C X d7_0 rfl rfl ?_
  refine s_aloadN 2 C X d7_1 rfl rfl ?_
  refine s_acmp_ne 7 5 C X d7_2 rfl rfl (fun c => absurd rfl c) (fun _ => ?_)
  refine s_iconst 6 C X d7_5 kc_iconst_1 ?_
  refine s_nreturn C X d7_6 rfl (by simp) rfl ?_ (FG hG (by decide) (by decide))
  exact hQ _ _ ⟨rfl, Kp⟩
theorem rm_a674 (l : Launch) (Z : State) (a0 : Array Value) (hw : ∀ d ∈ tables_1, d.before a0 Z = true) (a : Int64) (o56 : Addr) (o620 : Addr) (h0 : Heap) (n0 : Nat) (Z0 : n0 ≤ h0.size) (E_o56 : Exa Z h0 o56 "java/lang/String") (E_o620 : Exa Z h0 o620 "com/example/libring/libring/core/RingPoint") (F_o620_position : Fld Z h0 o620 "com/example/libring/libring/core/RingPoint" "position" "J" (.long a)) (F_o620_node : Fld Z h0 o620 "com/example/libring/libring/core/RingPoint" "node" "Ljava/lang/String;" (.ref o56)) :
    Met l Z (⟨"com/example/libring/libring/core/RingPoint", "equals", "(Ljava/lang/Object;)Z"⟩ : MethodName) prog_9_method_4_code 3 (some .boolean) { frames := 1, cells := 0, slots := 0, locals := 14 } [] #[(.ref o620), (.ref o620)] h0 n0 (fun v h => v = some (.int i1) ∧ Keep h0 h []) := by
  refine Met.mkQ (tabs := tables_1) (a0 := a0) (ls0 := #[rv o620, rv o620, .unset]) (plainFor_of_name pn_com_example_libring_libring_core_RingPoint) hw Z0 (fun m => by first | (simp [entryFrame, mkF, argsToLocals, Value.category]; done) | rfl) ?_
  intro p e s m below meth c T Q' G' hQ hG C X
  have Kp : Keep h0 h0 [] := Keep.refl _ _
  refine s_aloadN 1 C X d6_0 rfl rfl ?_
  refine s_instY 4 C X d6_1 (mW 42 rfl) (Ins.self E_o620) (fun T X => ?_)
  refine s_if_ne 9 7 C X d6_4 (fun _ => ?_) (fun c => absurd c (by decide))
  refine s_aloadN 10 C X d6_9 rfl rfl ?_
  refine s_castY 13 C X d6_10 (mW 42 rfl) (Ins.self E_o620) (fun T X => ?_)
  refine s_astoreN 14 C X (l' := #[rv o620, rv o620, rv o620]) d6_13 rfl rfl ?_
  refine s_aloadN 15 C X d6_14 rfl rfl ?_
  refine s_getfield 18 C X (host := "") d6_15 (Or.inl (mW 33 rfl)) Via.refl F_o620_position (fun T X => ?_)
  refine s_aloadN 19 C X d6_18 rfl rfl ?_
  refine s_getfield 22 C X (host := "") d6_19 (Or.inl (mW 33 rfl)) Via.refl F_o620_position (fun T X => ?_)
  refine s_lcmp 23 C X d6_22 ?_
  refine s_if_ne 44 26 C X d6_23 (fun c => absurd (own_cmp0 _) c) (fun c23_670 => ?_)
  refine s_aloadN 27 C X d6_26 rfl rfl ?_
  refine s_getfield 30 C X (host := "") d6_27 (Or.inl (mW 35 rfl)) Via.refl F_o620_node (fun T X => ?_)
  refine s_aloadN 31 C X d6_30 rfl rfl ?_
  refine s_getfield 34 C X (host := "") d6_31 (Or.inl (mW 35 rfl)) Via.refl F_o620_node (fun T X => ?_)
  refine s_callV 37 [(.ref o56)] [] 0 C X d6_34 (mW 44 rfl) (mW 45 rfl) (notFace_of_selects (args := #[]) (mvT C.2.1 (C.w (mW 47 rfl)))) (mW 47 rfl) (mW 46 rfl) (mW 6 rfl) (mW 48 rfl) E_o56 (rm_a672 l Z a0 hw o56 _ n0 X.sz ) (lenOf pd__Ljava_lang_Object__Z rfl) rfl rfl rfl (fun T v hh X q => ?_)
  obtain ⟨rfl, Kc⟩ := q
  have Kp := Kp.trans Kc all0
  refine Run.cast (st' := [(.int i1)]) rfl ?_
  refine s_if_eq 44 40 C X d6_37 (fun c => absurd c (by decide)) (fun _ => ?_)
  refine s_iconst 41 C X d6_40 kc_iconst_1 ?_
  refine s_goto 45 C X d6_41 ?_
  refine s_nreturn C X d6_45 rfl (by simp) rfl ?_ (FG hG (by decide) (by decide))
  exact hQ _ _ ⟨rfl, Kp⟩
theorem rm_a677 (l : Launch) (Z : State) (a0 : Array Value) (hw : ∀ d ∈ tables_1, d.before a0 Z = true) (o56 : Addr) (o620 : Addr) (h0 : Heap) (n0 : Nat) (Z0 : n0 ≤ h0.size) (E_o56 : Exa Z h0 o56 "java/lang/String") :
    Met l Z (⟨"com/example/libring/libring/core/RingPoint", "equals", "(Ljava/lang/Object;)Z"⟩ : MethodName) prog_9_method_4_code 3 (some .boolean) { frames := 0, cells := 0, slots := 0, locals := 0 } [] #[(.ref o620), (.ref o56)] h0 n0 (fun v h => v = some (.int i0) ∧ Keep h0 h []) := by
  refine Met.mkQ (tabs := tables_1) (a0 := a0) (ls0 := #[rv o620, rv o56, .unset]) (plainFor_of_name pn_com_example_libring_libring_core_RingPoint) hw Z0 (fun m => by first | (simp [entryFrame, mkF, argsToLocals, Value.category]; done) | rfl) ?_
  intro p e s m below meth c T Q' G' hQ hG C X
  have Kp : Keep h0 h0 [] := Keep.refl _ _
  refine s_aloadN 1 C X d6_0 rfl rfl ?_
  refine s_instN 4 C X d6_1 (mW 42 rfl) E_o56 (own_no (C.w (mW 49 rfl)) (C.w (mW 50 rfl)) (C.w (mW 27 rfl))) (fun T X => ?_)
  refine s_if_ne 9 7 C X d6_4 (fun c => absurd (by decide : i0 = i0) c) (fun _ => ?_)
  refine s_iconst 8 C X d6_7 kc_iconst_0 ?_
  refine s_nreturn C X d6_8 rfl (by simp) rfl ?_ (FG hG (by decide) (by decide))
  exact hQ _ _ ⟨rfl, Kp⟩
theorem rm_a680 (l : Launch) (Z : State) (a0 : Array Value) (hw : ∀ d ∈ tables_1, d.before a0 Z = true) (o620 : Addr) (h0 : Heap) (n0 : Nat) (Z0 : n0 ≤ h0.size)  :
    Met l Z (⟨"com/example/libring/libring/core/RingPoint", "equals", "(Ljava/lang/Object;)Z"⟩ : MethodName) prog_9_method_4_code 3 (some .boolean) { frames := 0, cells := 0, slots := 0, locals := 0 } [] #[(.ref o620), .null] h0 n0 (fun v h => v = some (.int i0) ∧ Keep h0 h []) := by
  refine Met.mkQ (tabs := tables_1) (a0 := a0) (ls0 := #[rv o620, .val .null, .unset]) (plainFor_of_name pn_com_example_libring_libring_core_RingPoint) hw Z0 (fun m => by first | (simp [entryFrame, mkF, argsToLocals, Value.category]; done) | rfl) ?_
  intro p e s m below meth c T Q' G' hQ hG C X
  have Kp : Keep h0 h0 [] := Keep.refl _ _
  refine s_aloadN 1 C X d6_0 rfl rfl ?_
  refine s_instNull 4 C X d6_1 ?_
  refine s_if_ne 9 7 C X d6_4 (fun c => absurd (by decide : i0 = i0) c) (fun _ => ?_)
  refine s_iconst 8 C X d6_7 kc_iconst_0 ?_
  refine s_nreturn C X d6_8 rfl (by simp) rfl ?_ (FG hG (by decide) (by decide))
  exact hQ _ _ ⟨rfl, Kp⟩
theorem rm_a683 (l : Launch) (Z : State) (a0 : Array Value) (hw : ∀ d ∈ tables_1, d.before a0 Z = true) (a : Int64) (o56 : Addr) (o682 : Addr) (h0 : Heap) (n0 : Nat) (Z0 : n0 ≤ h0.size) (E_o682 : Exa Z h0 o682 "com/example/libring/libring/core/RingPoint") (F_o682_position : Fld Z h0 o682 "com/example/libring/libring/core/RingPoint" "position" "J" (.long j0)) (F_o682_node : Fld Z h0 o682 "com/example/libring/libring/core/RingPoint" "node" "Ljava/lang/String;" .null) (g_o682 : n0 ≤ o682) :
    Met l Z (⟨"com/example/libring/libring/core/RingPoint", "<init>", "(JLjava/lang/String;)V"⟩ : MethodName) prog_9_method_1_code 4 none { frames := 1, cells := 0, slots := 0, locals := 12 } [] #[(.ref o682), (.long a), (.ref o56)] h0 n0 (fun v h => v = none ∧ Exa Z h o682 "com/example/libring/libring/core/RingPoint" ∧ Fld Z h o682 "com/example/libring/libring/core/RingPoint" "position" "J" (.long a) ∧ Fld Z h o682 "com/example/libring/libring/core/RingPoint" "node" "Ljava/lang/String;" (.ref o56) ∧ Keep h0 h [o682]) := by
  refine Met.mkQ (tabs := tables_1) (a0 := a0) (ls0 := #[rv o682, lv a, .second, rv o56]) (plainFor_of_name pn_com_example_libring_libring_core_RingPoint) hw Z0 (fun m => by first | (simp [entryFrame, mkF, argsToLocals, Value.category]; done) | rfl) ?_
  intro p e s m below meth c T Q' G' hQ hG C X
  have Kp : Keep h0 h0 [o682] := Keep.refl _ _
  refine s_aloadN 1 C X d5_0 rfl rfl ?_
  refine s_objInit 4 C X d5_1 (mW 32 rfl) (mW 16 rfl) (mW 17 rfl) rfl (W := 0) rfl (by decide) (fun T X => ?_)
  refine s_aloadN 5 C X d5_4 rfl rfl ?_
  refine s_lloadN 6 C X d5_5 rfl ?_
  refine s_putfield 9 C X (host := "") d5_6 (Or.inl (mW 33 rfl)) Via.refl F_o682_position E_o682 (Or.inr ⟨(mW 34 rfl), rfl, rfl⟩) (mW 27 rfl) (ty := .long) (by decide) rfl rfl g_o682 (fun T hh X W => ?_)
  have E_o682 := E_o682.wr W
  have F_o682_position := F_o682_position.same W
  have F_o682_node := oth F_o682_node W (Or.inr (hw _ (mW 36 rfl))) (Or.inr (hw _ (mW 34 rfl))) (by decide)
  have Kp := Kp.wr W (Or.inl (by simp))
  refine s_aloadN 10 C X d5_9 rfl rfl ?_
  refine s_aloadN 11 C X d5_10 rfl rfl ?_
  refine s_putfield 14 C X (host := "") d5_11 (Or.inl (mW 35 rfl)) Via.refl F_o682_node E_o682 (Or.inr ⟨(mW 36 rfl), rfl, rfl⟩) (mW 27 rfl) (ty := (.object "java/lang/String")) (by decide) rfl rfl g_o682 (fun T hh X W => ?_)
  have E_o682 := E_o682.wr W
  have F_o682_position := oth F_o682_position W (Or.inr (hw _ (mW 34 rfl))) (Or.inr (hw _ (mW 36 rfl))) (by decide)
  have F_o682_node := F_o682_node.same W
  have Kp := Kp.wr W (Or.inl (by simp))
  refine s_return C X d5_14 rfl ?_ (FG hG (by decide) (by decide))
  exact hQ _ _ ⟨rfl, E_o682, F_o682_position, F_o682_node, Kp⟩
theorem rm_a685 (l : Launch) (Z : State) (a0 : Array Value) (hw : ∀ d ∈ tables_1, d.before a0 Z = true) (y3 : Int64) (o84 : Addr) (o684 : Addr) (h0 : Heap) (n0 : Nat) (Z0 : n0 ≤ h0.size) (E_o684 : Exa Z h0 o684 "com/example/libring/libring/core/RingPoint") (F_o684_position : Fld Z h0 o684 "com/example/libring/libring/core/RingPoint" "position" "J" (.long j0)) (F_o684_node : Fld Z h0 o684 "com/example/libring/libring/core/RingPoint" "node" "Ljava/lang/String;" .null) (g_o684 : n0 ≤ o684) :
    Met l Z (⟨"com/example/libring/libring/core/RingPoint", "<init>", "(JLjava/lang/String;)V"⟩ : MethodName) prog_9_method_1_code 4 none { frames := 1, cells := 0, slots := 0, locals := 12 } [] #[(.ref o684), (.long y3), (.ref o84)] h0 n0 (fun v h => v = none ∧ Exa Z h o684 "com/example/libring/libring/core/RingPoint" ∧ Fld Z h o684 "com/example/libring/libring/core/RingPoint" "position" "J" (.long y3) ∧ Fld Z h o684 "com/example/libring/libring/core/RingPoint" "node" "Ljava/lang/String;" (.ref o84) ∧ Keep h0 h [o684]) := by
  refine Met.mkQ (tabs := tables_1) (a0 := a0) (ls0 := #[rv o684, lv y3, .second, rv o84]) (plainFor_of_name pn_com_example_libring_libring_core_RingPoint) hw Z0 (fun m => by first | (simp [entryFrame, mkF, argsToLocals, Value.category]; done) | rfl) ?_
  intro p e s m below meth c T Q' G' hQ hG C X
  have Kp : Keep h0 h0 [o684] := Keep.refl _ _
  refine s_aloadN 1 C X d5_0 rfl rfl ?_
  refine s_objInit 4 C X d5_1 (mW 32 rfl) (mW 16 rfl) (mW 17 rfl) rfl (W := 0) rfl (by decide) (fun T X => ?_)
  refine s_aloadN 5 C X d5_4 rfl rfl ?_
  refine s_lloadN 6 C X d5_5 rfl ?_
  refine s_putfield 9 C X (host := "") d5_6 (Or.inl (mW 33 rfl)) Via.refl F_o684_position E_o684 (Or.inr ⟨(mW 34 rfl), rfl, rfl⟩) (mW 27 rfl) (ty := .long) (by decide) rfl rfl g_o684 (fun T hh X W => ?_)
  have E_o684 := E_o684.wr W
  have F_o684_position := F_o684_position.same W
  have F_o684_node := oth F_o684_node W (Or.inr (hw _ (mW 36 rfl))) (Or.inr (hw _ (mW 34 rfl))) (by decide)
  have Kp := Kp.wr W (Or.inl (by simp))
  refine s_aloadN 10 C X d5_9 rfl rfl ?_
  refine s_aloadN 11 C X d5_10 rfl rfl ?_
  refine s_putfield 14 C X (host := "") d5_11 (Or.inl (mW 35 rfl)) Via.refl F_o684_node E_o684 (Or.inr ⟨(mW 36 rfl), rfl, rfl⟩) (mW 27 rfl) (ty := (.object "java/lang/String")) (by decide) rfl rfl g_o684 (fun T hh X W => ?_)
  have E_o684 := E_o684.wr W
  have F_o684_position := oth F_o684_position W (Or.inr (hw _ (mW 34 rfl))) (Or.inr (hw _ (mW 36 rfl))) (by decide)
  have F_o684_node := F_o684_node.same W
  have Kp := Kp.wr W (Or.inl (by simp))
  refine s_return C X d5_14 rfl ?_ (FG hG (by decide) (by decide))
  exact hQ _ _ ⟨rfl, E_o684, F_o684_position, F_o684_node, Kp⟩
theorem rm_a708 (l : Launch) (Z : State) (a0 : Array Value) (hw : ∀ d ∈ tables_1, d.before a0 Z = true) (y18 : Int32) (b60 : Addr) (k_b60 : ClassId) (o88 : Addr) (k_o88 : ClassId) (h0 : Heap) (n0 : Nat) (Z0 : n0 ≤ h0.size) (A_b60 : Arv Z h0 b60 k_b60 .byte i0 [] (.int i0)) (A_o88 : Arv Z h0 o88 k_o88 .byte i1 [(.int (bv y18))] (.int i0)) :
    Met l Z (⟨"java/lang/StringLatin1", "equals", "([B[B)Z"⟩ : MethodName) jdk_43_method_13_code 3 (some .boolean) { frames := 0, cells := 0, slots := 0, locals := 0 } [] #[(.ref b60), (.ref o88)] h0 n0 (fun v h => v = some (.int i0) ∧ Keep h0 h []) := by
  refine Met.mkQ (tabs := tables_1) (a0 := a0) (ls0 := #[rv b60, rv o88, .unset]) (plainFor_of_name pn_java_lang_StringLatin1) hw Z0 (fun m => by first | (simp [entryFrame, mkF, argsToLocals, Value.category]; done) | rfl) ?_
  intro p e s m below meth c T Q' G' hQ hG C X
  have Kp : Keep h0 h0 [] := Keep.refl _ _
  refine s_aloadN 1 C X d11_0 rfl rfl ?_
  refine s_arraylength 2 C X d11_1 A_b60 ?_
  refine s_aloadN 3 C X d11_2 rfl rfl ?_
  refine s_arraylength 4 C X d11_3 A_o88 ?_
  refine s_icmp_ne 34 7 C X d11_4 (fun _ => ?_) (fun c => absurd c (by decide))
  refine s_iconst 35 C X d11_34 kc_iconst_0 ?_
  refine s_nreturn C X d11_35 rfl (by simp) rfl ?_ (FG hG (by decide) (by decide))
  exact hQ _ _ ⟨rfl, Kp⟩
theorem rm_a710 (l : Launch) (Z : State) (a0 : Array Value) (hw : ∀ d ∈ tables_1, d.before a0 Z = true) (cs : Int32) (y18 : Int32) (o56 : Addr) (b60 : Addr) (k_b60 : ClassId) (o84 : Addr) (o88 : Addr) (k_o88 : ClassId) (h0 : Heap) (n0 : Nat) (Z0 : n0 ≤ h0.size) (S_cs : Sta Z Z.heap "java/lang/String" "COMPACT_STRINGS" "Z" (.int cs)) (F_o56_value : Fld Z h0 o56 "java/lang/String" "value" "[B" (.ref b60)) (F_o56_coder : Fld Z h0 o56 "java/lang/String" "coder" "B" (.int i0)) (A_b60 : Arv Z h0 b60 k_b60 .byte i0 [] (.int i0)) (Od : Old Z n0 h0) (E_o84 : Exa Z h0 o84 "java/lang/String") (F_o84_value : Fld Z h0 o84 "java/lang/String" "value" "[B" (.ref o88)) (F_o84_coder : Fld Z h0 o84 "java/lang/String" "coder" "B" (.int i0)) (A_o88 : Arv Z h0 o88 k_o88 .byte i1 [(.int (bv y18))] (.int i0)) (hv_cs : ¬ cs = i0) (ne_o56_o84 : o56 ≠ o84) :
    Met l Z (⟨"java/lang/String", "equals", "(Ljava/lang/Object;)Z"⟩ : MethodName) jdk_42_method_66_code 3 (some .boolean) { frames := 1, cells := 0, slots := 0, locals := 14 } [] #[(.ref o56), (.ref o84)] h0 n0 (fun v h => v = some (.int i0) ∧ Old Z n0 h ∧ Keep h0 h []) := by
  refine Met.mkQ (tabs := tables_1) (a0 := a0) (ls0 := #[rv o56, rv o84, .unset]) (plainFor_of_name pn_java_lang_String) hw Z0 (fun m => by first | (simp [entryFrame, mkF, argsToLocals, Value.category]; done) | rfl) ?_
  intro p e s m below meth c T Q' G' hQ hG C X
  have Kp : Keep h0 h0 [] := Keep.refl _ _
  refine s_aloadN 1 C X d7_0 rfl rfl ?_
  refine s_aloadN 2 C X d7_1 rfl rfl ?_
  refine s_acmp_ne 7 5 C X d7_2 rfl rfl (fun c2_703 => ?_) (fun c => absurd (Value.ref.inj c) ne_o56_o84)
  refine s_aloadN 8 C X d7_7 rfl rfl ?_
  refine s_instY 11 C X d7_8 (mW 62 rfl) (Ins.self E_o84) (fun T X => ?_)
  refine s_if_eq 54 14 C X d7_11 (fun c => absurd c (by decide)) (fun _ => ?_)
  refine s_aloadN 15 C X d7_14 rfl rfl ?_
  refine s_castY 18 C X d7_15 (mW 62 rfl) (Ins.self E_o84) (fun T X => ?_)
  refine s_astoreN 19 C X (l' := #[rv o56, rv o84, rv o84]) d7_18 rfl rfl ?_
  refine s_getstatic 22 C X (host := "") d7_19 (Or.inl (mW 51 rfl)) Via.refl (S_cs.ext Od.2) (fun T X => ?_)
  refine s_if_eq 36 25 C X d7_22 (fun c => absurd c hv_cs) (fun c22_705 => ?_)
  refine s_aloadN 26 C X d7_25 rfl rfl ?_
  refine s_getfield 29 C X (host := "") d7_26 (Or.inl (mW 25 rfl)) Via.refl F_o56_coder (fun T X => ?_)
  refine s_aloadN 30 C X d7_29 rfl rfl ?_
  refine s_getfield 33 C X (host := "") d7_30 (Or.inl (mW 25 rfl)) Via.refl F_o84_coder (fun T X => ?_)
  refine s_icmp_ne 54 36 C X d7_33 (fun c => absurd (by decide : i0 = i0) c) (fun _ => ?_)
  refine s_aloadN 37 C X d7_36 rfl rfl ?_
  refine s_getfield 40 C X (host := "") d7_37 (Or.inl (mW 24 rfl)) Via.refl F_o56_value (fun T X => ?_)
  refine s_aloadN 41 C X d7_40 rfl rfl ?_
  refine s_getfield 44 C X (host := "") d7_41 (Or.inl (mW 24 rfl)) Via.refl F_o84_value (fun T X => ?_)
  refine s_callS 47 [(.ref b60), (.ref o88)] [] 0 C X d7_44 (mW 63 rfl) (mW 64 rfl) (mW 65 rfl) (mW 66 rfl) (rm_a708 l Z a0 hw y18 b60 k_b60 o88 k_o88 _ n0 X.sz A_b60 A_o88) (lenOf pd___B_B_Z rfl) rfl rfl rfl (fun T v hh X q => ?_)
  obtain ⟨rfl, Kc⟩ := q
  have Od := Od.keep Kc all0
  have Kp := Kp.trans Kc all0
  refine Run.cast (st' := [(.int i0)]) rfl ?_
  refine s_if_eq 54 50 C X d7_47 (fun _ => ?_) (fun c => absurd (by decide : i0 = i0) c)
  refine s_iconst 55 C X d7_54 kc_iconst_0 ?_
  refine s_nreturn C X d7_55 rfl (by simp) rfl ?_ (FG hG (by decide) (by decide))
  exact hQ _ _ ⟨rfl, Od, Kp⟩
theorem rm_a712 (l : Launch) (Z : State) (a0 : Array Value) (hw : ∀ d ∈ tables_1, d.before a0 Z = true) (a : Int64) (cs : Int32) (y3 : Int64) (y18 : Int32) (o56 : Addr) (b60 : Addr) (k_b60 : ClassId) (o84 : Addr) (o88 : Addr) (k_o88 : ClassId) (o682 : Addr) (o684 : Addr) (h0 : Heap) (n0 : Nat) (Z0 : n0 ≤ h0.size) (S_cs : Sta Z Z.heap "java/lang/String" "COMPACT_STRINGS" "Z" (.int cs)) (E_o56 : Exa Z h0 o56 "java/lang/String") (F_o56_value : Fld Z h0 o56 "java/lang/String" "value" "[B" (.ref b60)) (F_o56_coder : Fld Z h0 o56 "java/lang/String" "coder" "B" (.int i0)) (A_b60 : Arv Z h0 b60 k_b60 .byte i0 [] (.int i0)) (Od : Old Z n0 h0) (E_o84 : Exa Z h0 o84 "java/lang/String") (F_o84_value : Fld Z h0 o84 "java/lang/String" "value" "[B" (.ref o88)) (F_o84_coder : Fld Z h0 o84 "java/lang/String" "coder" "B" (.int i0)) (A_o88 : Arv Z h0 o88 k_o88 .byte i1 [(.int (bv y18))] (.int i0)) (F_o682_position : Fld Z h0 o682 "com/example/libring/libring/core/RingPoint" "position" "J" (.long a)) (F_o682_node : Fld Z h0 o682 "com/example/libring/libring/core/RingPoint" "node" "Ljava/lang/String;" (.ref o56)) (E_o684 : Exa Z h0 o684 "com/example/libring/libring/core/RingPoint") (F_o684_position : Fld Z h0 o684 "com/example/libring/libring/core/RingPoint" "position" "J" (.long y3)) (F_o684_node : Fld Z h0 o684 "com/example/libring/libring/core/RingPoint" "node" "Ljava/lang/String;" (.ref o84)) (hv_cs : ¬ cs = i0) (ne_o56_o84 : o56 ≠ o84) :
    Met l Z (⟨"com/example/libring/libring/core/RingPoint", "equals", "(Ljava/lang/Object;)Z"⟩ : MethodName) prog_9_method_4_code 3 (some .boolean) { frames := 2, cells := 0, slots := 0, locals := 28 } [] #[(.ref o682), (.ref o684)] h0 n0 (fun v h => ∃ (y713 : Int32), v = some (.int y713) ∧ (((¬ ((a).toInt = (y3).toInt)) ∧ y713 = i0) ∨ (((a).toInt = (y3).toInt) ∧ y713 = i0)) ∧ Old Z n0 h ∧ Keep h0 h []) := by
  refine Met.mkQ (tabs := tables_1) (a0 := a0) (ls0 := #[rv o682, rv o684, .unset]) (plainFor_of_name pn_com_example_libring_libring_core_RingPoint) hw Z0 (fun m => by first | (simp [entryFrame, mkF, argsToLocals, Value.category]; done) | rfl) ?_
  intro p e s m below meth c T Q' G' hQ hG C X
  have Kp : Keep h0 h0 [] := Keep.refl _ _
  refine s_aloadN 1 C X d6_0 rfl rfl ?_
  refine s_instY 4 C X d6_1 (mW 42 rfl) (Ins.self E_o684) (fun T X => ?_)
  refine s_if_ne 9 7 C X d6_4 (fun _ => ?_) (fun c => absurd c (by decide))
  refine s_aloadN 10 C X d6_9 rfl rfl ?_
  refine s_castY 13 C X d6_10 (mW 42 rfl) (Ins.self E_o684) (fun T X => ?_)
  refine s_astoreN 14 C X (l' := #[rv o682, rv o684, rv o684]) d6_13 rfl rfl ?_
  refine s_aloadN 15 C X d6_14 rfl rfl ?_
  refine s_getfield 18 C X (host := "") d6_15 (Or.inl (mW 33 rfl)) Via.refl F_o682_position (fun T X => ?_)
  refine s_aloadN 19 C X d6_18 rfl rfl ?_
  refine s_getfield 22 C X (host := "") d6_19 (Or.inl (mW 33 rfl)) Via.refl F_o684_position (fun T X => ?_)
  refine s_lcmp 23 C X d6_22 ?_
  refine s_if_ne 44 26 C X d6_23 (fun c23_702 => ?_) (fun c23_702 => ?_)
  · have t_c23_702 : ¬ ((a).toInt = (y3).toInt) := fun q => c23_702 (cl_eq.mpr q)
    refine s_iconst 45 C X d6_44 kc_iconst_0 ?_
    refine s_nreturn C X d6_45 rfl (by simp) rfl ?_ (FG hG (by decide) (by decide))
    exact hQ _ _ ⟨i0, rfl, (Or.inl ⟨t_c23_702, rfl⟩), Od, Kp⟩
  have t_c23_702 : (a).toInt = (y3).toInt := cl_eq.mp c23_702
  refine s_aloadN 27 C X d6_26 rfl rfl ?_
  refine s_getfield 30 C X (host := "") d6_27 (Or.inl (mW 35 rfl)) Via.refl F_o682_node (fun T X => ?_)
  refine s_aloadN 31 C X d6_30 rfl rfl ?_
  refine s_getfield 34 C X (host := "") d6_31 (Or.inl (mW 35 rfl)) Via.refl F_o684_node (fun T X => ?_)
  refine s_callV 37 [(.ref o84)] [] 0 C X d6_34 (mW 44 rfl) (mW 45 rfl) (notFace_of_selects (args := #[]) (mvT C.2.1 (C.w (mW 47 rfl)))) (mW 47 rfl) (mW 46 rfl) (mW 6 rfl) (mW 48 rfl) E_o56 (rm_a710 l Z a0 hw cs y18 o56 b60 k_b60 o84 o88 k_o88 _ n0 X.sz S_cs F_o56_value F_o56_coder A_b60 Od E_o84 F_o84_value F_o84_coder A_o88 hv_cs ne_o56_o84) (lenOf pd__Ljava_lang_Object__Z rfl) rfl rfl rfl (fun T v hh X q => ?_)
  obtain ⟨rfl, Od, Kc⟩ := q
  have Kp := Kp.trans Kc all0
  refine Run.cast (st' := [(.int i0)]) rfl ?_
  refine s_if_eq 44 40 C X d6_37 (fun _ => ?_) (fun c => absurd (by decide : i0 = i0) c)
  refine s_iconst 45 C X d6_44 kc_iconst_0 ?_
  refine s_nreturn C X d6_45 rfl (by simp) rfl ?_ (FG hG (by decide) (by decide))
  exact hQ _ _ ⟨i0, rfl, (Or.inr ⟨t_c23_702, rfl⟩), Od, Kp⟩
theorem rm_a723 (l : Launch) (Z : State) (a0 : Array Value) (hw : ∀ d ∈ tables_1, d.before a0 Z = true) (y18 : Int32) (b60 : Addr) (k_b60 : ClassId) (o88 : Addr) (k_o88 : ClassId) (h0 : Heap) (n0 : Nat) (Z0 : n0 ≤ h0.size) (A_b60 : Arv Z h0 b60 k_b60 .byte i0 [] (.int i0)) (A_o88 : Arv Z h0 o88 k_o88 .byte i1 [(.int (bv y18))] (.int i0)) :
    Met l Z (⟨"java/lang/StringLatin1", "equals", "([B[B)Z"⟩ : MethodName) jdk_43_method_13_code 3 (some .boolean) { frames := 0, cells := 0, slots := 0, locals := 0 } [] #[(.ref o88), (.ref b60)] h0 n0 (fun v h => v = some (.int i0) ∧ Keep h0 h []) := by
  refine Met.mkQ (tabs := tables_1) (a0 := a0) (ls0 := #[rv o88, rv b60, .unset]) (plainFor_of_name pn_java_lang_StringLatin1) hw Z0 (fun m => by first | (simp [entryFrame, mkF, argsToLocals, Value.category]; done) | rfl) ?_
  intro p e s m below meth c T Q' G' hQ hG C X
  have Kp : Keep h0 h0 [] := Keep.refl _ _
  refine s_aloadN 1 C X d11_0 rfl rfl ?_
  refine s_arraylength 2 C X d11_1 A_o88 ?_
  refine s_aloadN 3 C X d11_2 rfl rfl ?_
  refine s_arraylength 4 C X d11_3 A_b60 ?_
  refine s_icmp_ne 34 7 C X d11_4 (fun _ => ?_) (fun c => absurd c (by decide))
  refine s_iconst 35 C X d11_34 kc_iconst_0 ?_
  refine s_nreturn C X d11_35 rfl (by simp) rfl ?_ (FG hG (by decide) (by decide))
  exact hQ _ _ ⟨rfl, Kp⟩
theorem rm_a725 (l : Launch) (Z : State) (a0 : Array Value) (hw : ∀ d ∈ tables_1, d.before a0 Z = true) (cs : Int32) (y18 : Int32) (o56 : Addr) (b60 : Addr) (k_b60 : ClassId) (o84 : Addr) (o88 : Addr) (k_o88 : ClassId) (h0 : Heap) (n0 : Nat) (Z0 : n0 ≤ h0.size) (S_cs : Sta Z Z.heap "java/lang/String" "COMPACT_STRINGS" "Z" (.int cs)) (E_o56 : Exa Z h0 o56 "java/lang/String") (F_o56_value : Fld Z h0 o56 "java/lang/String" "value" "[B" (.ref b60)) (F_o56_coder : Fld Z h0 o56 "java/lang/String" "coder" "B" (.int i0)) (A_b60 : Arv Z h0 b60 k_b60 .byte i0 [] (.int i0)) (F_o84_value : Fld Z h0 o84 "java/lang/String" "value" "[B" (.ref o88)) (F_o84_coder : Fld Z h0 o84 "java/lang/String" "coder" "B" (.int i0)) (A_o88 : Arv Z h0 o88 k_o88 .byte i1 [(.int (bv y18))] (.int i0)) (Od : Old Z n0 h0) (hv_cs : ¬ cs = i0) (ne_o56_o84 : o56 ≠ o84) :
    Met l Z (⟨"java/lang/String", "equals", "(Ljava/lang/Object;)Z"⟩ : MethodName) jdk_42_method_66_code 3 (some .boolean) { frames := 1, cells := 0, slots := 0, locals := 14 } [] #[(.ref o84), (.ref o56)] h0 n0 (fun v h => v = some (.int i0) ∧ Old Z n0 h ∧ Keep h0 h []) := by
  refine Met.mkQ (tabs := tables_1) (a0 := a0) (ls0 := #[rv o84, rv o56, .unset]) (plainFor_of_name pn_java_lang_String) hw Z0 (fun m => by first | (simp [entryFrame, mkF, argsToLocals, Value.category]; done) | rfl) ?_
  intro p e s m below meth c T Q' G' hQ hG C X
  have Kp : Keep h0 h0 [] := Keep.refl _ _
  refine s_aloadN 1 C X d7_0 rfl rfl ?_
  refine s_aloadN 2 C X d7_1 rfl rfl ?_
  refine s_acmp_ne 7 5 C X d7_2 rfl rfl (fun c2_718 => ?_) (fun c => absurd (Value.ref.inj c) (Ne.symm ne_o56_o84))
  refine s_aloadN 8 C X d7_7 rfl rfl ?_
  refine s_instY 11 C X d7_8 (mW 62 rfl) (Ins.self E_o56) (fun T X => ?_)
  refine s_if_eq 54 14 C X d7_11 (fun c => absurd c (by decide)) (fun _ => ?_)
  refine s_aloadN 15 C X d7_14 rfl rfl ?_
  refine s_castY 18 C X d7_15 (mW 62 rfl) (Ins.self E_o56) (fun T X => ?_)
  refine s_astoreN 19 C X (l' := #[rv o84, rv o56, rv o56]) d7_18 rfl rfl ?_
  refine s_getstatic 22 C X (host := "") d7_19 (Or.inl (mW 51 rfl)) Via.refl (S_cs.ext Od.2) (fun T X => ?_)
  refine s_if_eq 36 25 C X d7_22 (fun c => absurd c hv_cs) (fun c22_720 => ?_)
  refine s_aloadN 26 C X d7_25 rfl rfl ?_
  refine s_getfield 29 C X (host := "") d7_26 (Or.inl (mW 25 rfl)) Via.refl F_o84_coder (fun T X => ?_)
  refine s_aloadN 30 C X d7_29 rfl rfl ?_
  refine s_getfield 33 C X (host := "") d7_30 (Or.inl (mW 25 rfl)) Via.refl F_o56_coder (fun T X => ?_)
  refine s_icmp_ne 54 36 C X d7_33 (fun c => absurd (by decide : i0 = i0) c) (fun _ => ?_)
  refine s_aloadN 37 C X d7_36 rfl rfl ?_
  refine s_getfield 40 C X (host := "") d7_37 (Or.inl (mW 24 rfl)) Via.refl F_o84_value (fun T X => ?_)
  refine s_aloadN 41 C X d7_40 rfl rfl ?_
  refine s_getfield 44 C X (host := "") d7_41 (Or.inl (mW 24 rfl)) Via.refl F_o56_value (fun T X => ?_)
  refine s_callS 47 [(.ref o88), (.ref b60)] [] 0 C X d7_44 (mW 63 rfl) (mW 64 rfl) (mW 65 rfl) (mW 66 rfl) (rm_a723 l Z a0 hw y18 b60 k_b60 o88 k_o88 _ n0 X.sz A_b60 A_o88) (lenOf pd___B_B_Z rfl) rfl rfl rfl (fun T v hh X q => ?_)
  obtain ⟨rfl, Kc⟩ := q
  have Od := Od.keep Kc all0
  have Kp := Kp.trans Kc all0
  refine Run.cast (st' := [(.int i0)]) rfl ?_
  refine s_if_eq 54 50 C X d7_47 (fun _ => ?_) (fun c => absurd (by decide : i0 = i0) c)
  refine s_iconst 55 C X d7_54 kc_iconst_0 ?_
  refine s_nreturn C X d7_55 rfl (by simp) rfl ?_ (FG hG (by decide) (by decide))
  exact hQ _ _ ⟨rfl, Od, Kp⟩
theorem rm_a727 (l : Launch) (Z : State) (a0 : Array Value) (hw : ∀ d ∈ tables_1, d.before a0 Z = true) (a : Int64) (cs : Int32) (y3 : Int64) (y18 : Int32) (o56 : Addr) (b60 : Addr) (k_b60 : ClassId) (o84 : Addr) (o88 : Addr) (k_o88 : ClassId) (o682 : Addr) (o684 : Addr) (h0 : Heap) (n0 : Nat) (Z0 : n0 ≤ h0.size) (S_cs : Sta Z Z.heap "java/lang/String" "COMPACT_STRINGS" "Z" (.int cs)) (E_o56 : Exa Z h0 o56 "java/lang/String") (F_o56_value : Fld Z h0 o56 "java/lang/String" "value" "[B" (.ref b60)) (F_o56_coder : Fld Z h0 o56 "java/lang/String" "coder" "B" (.int i0)) (A_b60 : Arv Z h0 b60 k_b60 .byte i0 [] (.int i0)) (E_o84 : Exa Z h0 o84 "java/lang/String") (F_o84_value : Fld Z h0 o84 "java/lang/String" "value" "[B" (.ref o88)) (F_o84_coder : Fld Z h0 o84 "java/lang/String" "coder" "B" (.int i0)) (A_o88 : Arv Z h0 o88 k_o88 .byte i1 [(.int (bv y18))] (.int i0)) (E_o682 : Exa Z h0 o682 "com/example/libring/libring/core/RingPoint") (F_o682_position : Fld Z h0 o682 "com/example/libring/libring/core/RingPoint" "position" "J" (.long a)) (F_o682_node : Fld Z h0 o682 "com/example/libring/libring/core/RingPoint" "node" "Ljava/lang/String;" (.ref o56)) (F_o684_position : Fld Z h0 o684 "com/example/libring/libring/core/RingPoint" "position" "J" (.long y3)) (F_o684_node : Fld Z h0 o684 "com/example/libring/libring/core/RingPoint" "node" "Ljava/lang/String;" (.ref o84)) (Od : Old Z n0 h0) (hv_cs : ¬ cs = i0) (ne_o56_o84 : o56 ≠ o84) :
    Met l Z (⟨"com/example/libring/libring/core/RingPoint", "equals", "(Ljava/lang/Object;)Z"⟩ : MethodName) prog_9_method_4_code 3 (some .boolean) { frames := 2, cells := 0, slots := 0, locals := 28 } [] #[(.ref o684), (.ref o682)] h0 n0 (fun v h => ∃ (y728 : Int32), v = some (.int y728) ∧ (((¬ ((y3).toInt = (a).toInt)) ∧ y728 = i0) ∨ (((y3).toInt = (a).toInt) ∧ y728 = i0)) ∧ Old Z n0 h ∧ Keep h0 h []) := by
  refine Met.mkQ (tabs := tables_1) (a0 := a0) (ls0 := #[rv o684, rv o682, .unset]) (plainFor_of_name pn_com_example_libring_libring_core_RingPoint) hw Z0 (fun m => by first | (simp [entryFrame, mkF, argsToLocals, Value.category]; done) | rfl) ?_
  intro p e s m below meth c T Q' G' hQ hG C X
  have Kp : Keep h0 h0 [] := Keep.refl _ _
  refine s_aloadN 1 C X d6_0 rfl rfl ?_
  refine s_instY 4 C X d6_1 (mW 42 rfl) (Ins.self E_o682) (fun T X => ?_)
  refine s_if_ne 9 7 C X d6_4 (fun _ => ?_) (fun c => absurd c (by decide))
  refine s_aloadN 10 C X d6_9 rfl rfl ?_
  refine s_castY 13 C X d6_10 (mW 42 rfl) (Ins.self E_o682) (fun T X => ?_)
  refine s_astoreN 14 C X (l' := #[rv o684, rv o682, rv o682]) d6_13 rfl rfl ?_
  refine s_aloadN 15 C X d6_14 rfl rfl ?_
  refine s_getfield 18 C X (host := "") d6_15 (Or.inl (mW 33 rfl)) Via.refl F_o684_position (fun T X => ?_)
  refine s_aloadN 19 C X d6_18 rfl rfl ?_
  refine s_getfield 22 C X (host := "") d6_19 (Or.inl (mW 33 rfl)) Via.refl F_o682_position (fun T X => ?_)
  refine s_lcmp 23 C X d6_22 ?_
  refine s_if_ne 44 26 C X d6_23 (fun c23_717 => ?_) (fun c23_717 => ?_)
  · have t_c23_717 : ¬ ((y3).toInt = (a).toInt) := fun q => c23_717 (cl_eq.mpr q)
    refine s_iconst 45 C X d6_44 kc_iconst_0 ?_
    refine s_nreturn C X d6_45 rfl (by simp) rfl ?_ (FG hG (by decide) (by decide))
    exact hQ _ _ ⟨i0, rfl, (Or.inl ⟨t_c23_717, rfl⟩), Od, Kp⟩
  have t_c23_717 : (y3).toInt = (a).toInt := cl_eq.mp c23_717
  refine s_aloadN 27 C X d6_26 rfl rfl ?_
  refine s_getfield 30 C X (host := "") d6_27 (Or.inl (mW 35 rfl)) Via.refl F_o684_node (fun T X => ?_)
  refine s_aloadN 31 C X d6_30 rfl rfl ?_
  refine s_getfield 34 C X (host := "") d6_31 (Or.inl (mW 35 rfl)) Via.refl F_o682_node (fun T X => ?_)
  refine s_callV 37 [(.ref o56)] [] 0 C X d6_34 (mW 44 rfl) (mW 45 rfl) (notFace_of_selects (args := #[]) (mvT C.2.1 (C.w (mW 47 rfl)))) (mW 47 rfl) (mW 46 rfl) (mW 6 rfl) (mW 48 rfl) E_o84 (rm_a725 l Z a0 hw cs y18 o56 b60 k_b60 o84 o88 k_o88 _ n0 X.sz S_cs E_o56 F_o56_value F_o56_coder A_b60 F_o84_value F_o84_coder A_o88 Od hv_cs ne_o56_o84) (lenOf pd__Ljava_lang_Object__Z rfl) rfl rfl rfl (fun T v hh X q => ?_)
  obtain ⟨rfl, Od, Kc⟩ := q
  have Kp := Kp.trans Kc all0
  refine Run.cast (st' := [(.int i0)]) rfl ?_
  refine s_if_eq 44 40 C X d6_37 (fun _ => ?_) (fun c => absurd (by decide : i0 = i0) c)
  refine s_iconst 45 C X d6_44 kc_iconst_0 ?_
  refine s_nreturn C X d6_45 rfl (by simp) rfl ?_ (FG hG (by decide) (by decide))
  exact hQ _ _ ⟨i0, rfl, (Or.inr ⟨t_c23_717, rfl⟩), Od, Kp⟩
theorem rm_a736 (l : Launch) (Z : State) (a0 : Array Value) (hw : ∀ d ∈ tables_1, d.before a0 Z = true) (a : Int64) (o56 : Addr) (o682 : Addr) (h0 : Heap) (n0 : Nat) (Z0 : n0 ≤ h0.size) (E_o56 : Exa Z h0 o56 "java/lang/String") (E_o682 : Exa Z h0 o682 "com/example/libring/libring/core/RingPoint") (F_o682_position : Fld Z h0 o682 "com/example/libring/libring/core/RingPoint" "position" "J" (.long a)) (F_o682_node : Fld Z h0 o682 "com/example/libring/libring/core/RingPoint" "node" "Ljava/lang/String;" (.ref o56)) :
    Met l Z (⟨"com/example/libring/libring/core/RingPoint", "equals", "(Ljava/lang/Object;)Z"⟩ : MethodName) prog_9_method_4_code 3 (some .boolean) { frames := 1, cells := 0, slots := 0, locals := 14 } [] #[(.ref o682), (.ref o682)] h0 n0 (fun v h => v = some (.int i1) ∧ Keep h0 h []) := by
  refine Met.mkQ (tabs := tables_1) (a0 := a0) (ls0 := #[rv o682, rv o682, .unset]) (plainFor_of_name pn_com_example_libring_libring_core_RingPoint) hw Z0 (fun m => by first | (simp [entryFrame, mkF, argsToLocals, Value.category]; done) | rfl) ?_
  intro p e s m below meth c T Q' G' hQ hG C X
  have Kp : Keep h0 h0 [] := Keep.refl _ _
  refine s_aloadN 1 C X d6_0 rfl rfl ?_
  refine s_instY 4 C X d6_1 (mW 42 rfl) (Ins.self E_o682) (fun T X => ?_)
  refine s_if_ne 9 7 C X d6_4 (fun _ => ?_) (fun c => absurd c (by decide))
  refine s_aloadN 10 C X d6_9 rfl rfl ?_
  refine s_castY 13 C X d6_10 (mW 42 rfl) (Ins.self E_o682) (fun T X => ?_)
  refine s_astoreN 14 C X (l' := #[rv o682, rv o682, rv o682]) d6_13 rfl rfl ?_
  refine s_aloadN 15 C X d6_14 rfl rfl ?_
  refine s_getfield 18 C X (host := "") d6_15 (Or.inl (mW 33 rfl)) Via.refl F_o682_position (fun T X => ?_)
  refine s_aloadN 19 C X d6_18 rfl rfl ?_
  refine s_getfield 22 C X (host := "") d6_19 (Or.inl (mW 33 rfl)) Via.refl F_o682_position (fun T X => ?_)
  refine s_lcmp 23 C X d6_22 ?_
  refine s_if_ne 44 26 C X d6_23 (fun c => absurd (own_cmp0 _) c) (fun c23_732 => ?_)
  refine s_aloadN 27 C X d6_26 rfl rfl ?_
  refine s_getfield 30 C X (host := "") d6_27 (Or.inl (mW 35 rfl)) Via.refl F_o682_node (fun T X => ?_)
  refine s_aloadN 31 C X d6_30 rfl rfl ?_
  refine s_getfield 34 C X (host := "") d6_31 (Or.inl (mW 35 rfl)) Via.refl F_o682_node (fun T X => ?_)
  refine s_callV 37 [(.ref o56)] [] 0 C X d6_34 (mW 44 rfl) (mW 45 rfl) (notFace_of_selects (args := #[]) (mvT C.2.1 (C.w (mW 47 rfl)))) (mW 47 rfl) (mW 46 rfl) (mW 6 rfl) (mW 48 rfl) E_o56 (rm_a672 l Z a0 hw o56 _ n0 X.sz ) (lenOf pd__Ljava_lang_Object__Z rfl) rfl rfl rfl (fun T v hh X q => ?_)
  obtain ⟨rfl, Kc⟩ := q
  have Kp := Kp.trans Kc all0
  refine Run.cast (st' := [(.int i1)]) rfl ?_
  refine s_if_eq 44 40 C X d6_37 (fun c => absurd c (by decide)) (fun _ => ?_)
  refine s_iconst 41 C X d6_40 kc_iconst_1 ?_
  refine s_goto 45 C X d6_41 ?_
  refine s_nreturn C X d6_45 rfl (by simp) rfl ?_ (FG hG (by decide) (by decide))
  exact hQ _ _ ⟨rfl, Kp⟩
theorem rm_a739 (l : Launch) (Z : State) (a0 : Array Value) (hw : ∀ d ∈ tables_1, d.before a0 Z = true) (o56 : Addr) (o682 : Addr) (h0 : Heap) (n0 : Nat) (Z0 : n0 ≤ h0.size) (E_o56 : Exa Z h0 o56 "java/lang/String") :
    Met l Z (⟨"com/example/libring/libring/core/RingPoint", "equals", "(Ljava/lang/Object;)Z"⟩ : MethodName) prog_9_method_4_code 3 (some .boolean) { frames := 0, cells := 0, slots := 0, locals := 0 } [] #[(.ref o682), (.ref o56)] h0 n0 (fun v h => v = some (.int i0) ∧ Keep h0 h []) := by
  refine Met.mkQ (tabs := tables_1) (a0 := a0) (ls0 := #[rv o682, rv o56, .unset]) (plainFor_of_name pn_com_example_libring_libring_core_RingPoint) hw Z0 (fun m => by first | (simp [entryFrame, mkF, argsToLocals, Value.category]; done) | rfl) ?_
  intro p e s m below meth c T Q' G' hQ hG C X
  have Kp : Keep h0 h0 [] := Keep.refl _ _
  refine s_aloadN 1 C X d6_0 rfl rfl ?_
  refine s_instN 4 C X d6_1 (mW 42 rfl) E_o56 (own_no (C.w (mW 49 rfl)) (C.w (mW 50 rfl)) (C.w (mW 27 rfl))) (fun T X => ?_)
  refine s_if_ne 9 7 C X d6_4 (fun c => absurd (by decide : i0 = i0) c) (fun _ => ?_)
  refine s_iconst 8 C X d6_7 kc_iconst_0 ?_
  refine s_nreturn C X d6_8 rfl (by simp) rfl ?_ (FG hG (by decide) (by decide))
  exact hQ _ _ ⟨rfl, Kp⟩
theorem rm_a742 (l : Launch) (Z : State) (a0 : Array Value) (hw : ∀ d ∈ tables_1, d.before a0 Z = true) (o682 : Addr) (h0 : Heap) (n0 : Nat) (Z0 : n0 ≤ h0.size)  :
    Met l Z (⟨"com/example/libring/libring/core/RingPoint", "equals", "(Ljava/lang/Object;)Z"⟩ : MethodName) prog_9_method_4_code 3 (some .boolean) { frames := 0, cells := 0, slots := 0, locals := 0 } [] #[(.ref o682), .null] h0 n0 (fun v h => v = some (.int i0) ∧ Keep h0 h []) := by
  refine Met.mkQ (tabs := tables_1) (a0 := a0) (ls0 := #[rv o682, .val .null, .unset]) (plainFor_of_name pn_com_example_libring_libring_core_RingPoint) hw Z0 (fun m => by first | (simp [entryFrame, mkF, argsToLocals, Value.category]; done) | rfl) ?_
  intro p e s m below meth c T Q' G' hQ hG C X
  have Kp : Keep h0 h0 [] := Keep.refl _ _
  refine s_aloadN 1 C X d6_0 rfl rfl ?_
  refine s_instNull 4 C X d6_1 ?_
  refine s_if_ne 9 7 C X d6_4 (fun c => absurd (by decide : i0 = i0) c) (fun _ => ?_)
  refine s_iconst 8 C X d6_7 kc_iconst_0 ?_
  refine s_nreturn C X d6_8 rfl (by simp) rfl ?_ (FG hG (by decide) (by decide))
  exact hQ _ _ ⟨rfl, Kp⟩
theorem rm_a745 (l : Launch) (Z : State) (a0 : Array Value) (hw : ∀ d ∈ tables_1, d.before a0 Z = true) (a : Int64) (o56 : Addr) (o744 : Addr) (h0 : Heap) (n0 : Nat) (Z0 : n0 ≤ h0.size) (E_o744 : Exa Z h0 o744 "com/example/libring/libring/core/RingPoint") (F_o744_position : Fld Z h0 o744 "com/example/libring/libring/core/RingPoint" "position" "J" (.long j0)) (F_o744_node : Fld Z h0 o744 "com/example/libring/libring/core/RingPoint" "node" "Ljava/lang/String;" .null) (g_o744 : n0 ≤ o744) :
    Met l Z (⟨"com/example/libring/libring/core/RingPoint", "<init>", "(JLjava/lang/String;)V"⟩ : MethodName) prog_9_method_1_code 4 none { frames := 1, cells := 0, slots := 0, locals := 12 } [] #[(.ref o744), (.long a), (.ref o56)] h0 n0 (fun v h => v = none ∧ Exa Z h o744 "com/example/libring/libring/core/RingPoint" ∧ Fld Z h o744 "com/example/libring/libring/core/RingPoint" "position" "J" (.long a) ∧ Fld Z h o744 "com/example/libring/libring/core/RingPoint" "node" "Ljava/lang/String;" (.ref o56) ∧ Keep h0 h [o744]) := by
  refine Met.mkQ (tabs := tables_1) (a0 := a0) (ls0 := #[rv o744, lv a, .second, rv o56]) (plainFor_of_name pn_com_example_libring_libring_core_RingPoint) hw Z0 (fun m => by first | (simp [entryFrame, mkF, argsToLocals, Value.category]; done) | rfl) ?_
  intro p e s m below meth c T Q' G' hQ hG C X
  have Kp : Keep h0 h0 [o744] := Keep.refl _ _
  refine s_aloadN 1 C X d5_0 rfl rfl ?_
  refine s_objInit 4 C X d5_1 (mW 32 rfl) (mW 16 rfl) (mW 17 rfl) rfl (W := 0) rfl (by decide) (fun T X => ?_)
  refine s_aloadN 5 C X d5_4 rfl rfl ?_
  refine s_lloadN 6 C X d5_5 rfl ?_
  refine s_putfield 9 C X (host := "") d5_6 (Or.inl (mW 33 rfl)) Via.refl F_o744_position E_o744 (Or.inr ⟨(mW 34 rfl), rfl, rfl⟩) (mW 27 rfl) (ty := .long) (by decide) rfl rfl g_o744 (fun T hh X W => ?_)
  have E_o744 := E_o744.wr W
  have F_o744_position := F_o744_position.same W
  have F_o744_node := oth F_o744_node W (Or.inr (hw _ (mW 36 rfl))) (Or.inr (hw _ (mW 34 rfl))) (by decide)
  have Kp := Kp.wr W (Or.inl (by simp))
  refine s_aloadN 10 C X d5_9 rfl rfl ?_
  refine s_aloadN 11 C X d5_10 rfl rfl ?_
  refine s_putfield 14 C X (host := "") d5_11 (Or.inl (mW 35 rfl)) Via.refl F_o744_node E_o744 (Or.inr ⟨(mW 36 rfl), rfl, rfl⟩) (mW 27 rfl) (ty := (.object "java/lang/String")) (by decide) rfl rfl g_o744 (fun T hh X W => ?_)
  have E_o744 := E_o744.wr W
  have F_o744_position := oth F_o744_position W (Or.inr (hw _ (mW 34 rfl))) (Or.inr (hw _ (mW 36 rfl))) (by decide)
  have F_o744_node := F_o744_node.same W
  have Kp := Kp.wr W (Or.inl (by simp))
  refine s_return C X d5_14 rfl ?_ (FG hG (by decide) (by decide))
  exact hQ _ _ ⟨rfl, E_o744, F_o744_position, F_o744_node, Kp⟩
theorem rm_a747 (l : Launch) (Z : State) (a0 : Array Value) (hw : ∀ d ∈ tables_1, d.before a0 Z = true) (y3 : Int64) (o98 : Addr) (o746 : Addr) (h0 : Heap) (n0 : Nat) (Z0 : n0 ≤ h0.size) (E_o746 : Exa Z h0 o746 "com/example/libring/libring/core/RingPoint") (F_o746_position : Fld Z h0 o746 "com/example/libring/libring/core/RingPoint" "position" "J" (.long j0)) (F_o746_node : Fld Z h0 o746 "com/example/libring/libring/core/RingPoint" "node" "Ljava/lang/String;" .null) (g_o746 : n0 ≤ o746) :
    Met l Z (⟨"com/example/libring/libring/core/RingPoint", "<init>", "(JLjava/lang/String;)V"⟩ : MethodName) prog_9_method_1_code 4 none { frames := 1, cells := 0, slots := 0, locals := 12 } [] #[(.ref o746), (.long y3), (.ref o98)] h0 n0 (fun v h => v = none ∧ Exa Z h o746 "com/example/libring/libring/core/RingPoint" ∧ Fld Z h o746 "com/example/libring/libring/core/RingPoint" "position" "J" (.long y3) ∧ Fld Z h o746 "com/example/libring/libring/core/RingPoint" "node" "Ljava/lang/String;" (.ref o98) ∧ Keep h0 h [o746]) := by
  refine Met.mkQ (tabs := tables_1) (a0 := a0) (ls0 := #[rv o746, lv y3, .second, rv o98]) (plainFor_of_name pn_com_example_libring_libring_core_RingPoint) hw Z0 (fun m => by first | (simp [entryFrame, mkF, argsToLocals, Value.category]; done) | rfl) ?_
  intro p e s m below meth c T Q' G' hQ hG C X
  have Kp : Keep h0 h0 [o746] := Keep.refl _ _
  refine s_aloadN 1 C X d5_0 rfl rfl ?_
  refine s_objInit 4 C X d5_1 (mW 32 rfl) (mW 16 rfl) (mW 17 rfl) rfl (W := 0) rfl (by decide) (fun T X => ?_)
  refine s_aloadN 5 C X d5_4 rfl rfl ?_
  refine s_lloadN 6 C X d5_5 rfl ?_
  refine s_putfield 9 C X (host := "") d5_6 (Or.inl (mW 33 rfl)) Via.refl F_o746_position E_o746 (Or.inr ⟨(mW 34 rfl), rfl, rfl⟩) (mW 27 rfl) (ty := .long) (by decide) rfl rfl g_o746 (fun T hh X W => ?_)
  have E_o746 := E_o746.wr W
  have F_o746_position := F_o746_position.same W
  have F_o746_node := oth F_o746_node W (Or.inr (hw _ (mW 36 rfl))) (Or.inr (hw _ (mW 34 rfl))) (by decide)
  have Kp := Kp.wr W (Or.inl (by simp))
  refine s_aloadN 10 C X d5_9 rfl rfl ?_
  refine s_aloadN 11 C X d5_10 rfl rfl ?_
  refine s_putfield 14 C X (host := "") d5_11 (Or.inl (mW 35 rfl)) Via.refl F_o746_node E_o746 (Or.inr ⟨(mW 36 rfl), rfl, rfl⟩) (mW 27 rfl) (ty := (.object "java/lang/String")) (by decide) rfl rfl g_o746 (fun T hh X W => ?_)
  have E_o746 := E_o746.wr W
  have F_o746_position := oth F_o746_position W (Or.inr (hw _ (mW 34 rfl))) (Or.inr (hw _ (mW 36 rfl))) (by decide)
  have F_o746_node := F_o746_node.same W
  have Kp := Kp.wr W (Or.inl (by simp))
  refine s_return C X d5_14 rfl ?_ (FG hG (by decide) (by decide))
  exact hQ _ _ ⟨rfl, E_o746, F_o746_position, F_o746_node, Kp⟩
theorem rm_a771 (l : Launch) (Z : State) (a0 : Array Value) (hw : ∀ d ∈ tables_1, d.before a0 Z = true) (b60 : Addr) (k_b60 : ClassId) (b102 : Addr) (k_b102 : ClassId) (h0 : Heap) (n0 : Nat) (Z0 : n0 ≤ h0.size) (A_b60 : Arv Z h0 b60 k_b60 .byte i0 [] (.int i0)) (A_b102 : Arv Z h0 b102 k_b102 .byte i0 [] (.int i0)) :
    Met l Z (⟨"java/lang/StringLatin1", "equals", "([B[B)Z"⟩ : MethodName) jdk_43_method_13_code 3 (some .boolean) { frames := 0, cells := 0, slots := 0, locals := 0 } [] #[(.ref b60), (.ref b102)] h0 n0 (fun v h => v = some (.int i1) ∧ Keep h0 h []) := by
  refine Met.mkQ (tabs := tables_1) (a0 := a0) (ls0 := #[rv b60, rv b102, .unset]) (plainFor_of_name pn_java_lang_StringLatin1) hw Z0 (fun m => by first | (simp [entryFrame, mkF, argsToLocals, Value.category]; done) | rfl) ?_
  intro p e s m below meth c T Q' G' hQ hG C X
  have Kp : Keep h0 h0 [] := Keep.refl _ _
  refine s_aloadN 1 C X d11_0 rfl rfl ?_
  refine s_arraylength 2 C X d11_1 A_b60 ?_
  refine s_aloadN 3 C X d11_2 rfl rfl ?_
  refine s_arraylength 4 C X d11_3 A_b102 ?_
  refine s_icmp_ne 34 7 C X d11_4 (fun c => absurd (by decide : i0 = i0) c) (fun _ => ?_)
  refine s_iconst 8 C X d11_7 kc_iconst_0 ?_
  refine s_istoreN 9 C X (l' := #[rv b60, rv b102, iv i0]) d11_8 rfl ?_
  refine s_iloadN 10 C X d11_9 rfl ?_
  refine s_aloadN 11 C X d11_10 rfl rfl ?_
  refine s_arraylength 12 C X d11_11 A_b60 ?_
  refine s_icmp_ge 32 15 C X d11_12 (fun _ => ?_) (fun c => absurd c (by decide))
  refine s_iconst 33 C X d11_32 kc_iconst_1 ?_
  refine s_nreturn C X d11_33 rfl (by simp) rfl ?_ (FG hG (by decide) (by decide))
  exact hQ _ _ ⟨rfl, Kp⟩
theorem rm_a773 (l : Launch) (Z : State) (a0 : Array Value) (hw : ∀ d ∈ tables_1, d.before a0 Z = true) (cs : Int32) (o56 : Addr) (b60 : Addr) (k_b60 : ClassId) (o98 : Addr) (b102 : Addr) (k_b102 : ClassId) (h0 : Heap) (n0 : Nat) (Z0 : n0 ≤ h0.size) (S_cs : Sta Z Z.heap "java/lang/String" "COMPACT_STRINGS" "Z" (.int cs)) (F_o56_value : Fld Z h0 o56 "java/lang/String" "value" "[B" (.ref b60)) (F_o56_coder : Fld Z h0 o56 "java/lang/String" "coder" "B" (.int i0)) (A_b60 : Arv Z h0 b60 k_b60 .byte i0 [] (.int i0)) (Od : Old Z n0 h0) (E_o98 : Exa Z h0 o98 "java/lang/String") (F_o98_value : Fld Z h0 o98 "java/lang/String" "value" "[B" (.ref b102)) (F_o98_coder : Fld Z h0 o98 "java/lang/String" "coder" "B" (.int i0)) (A_b102 : Arv Z h0 b102 k_b102 .byte i0 [] (.int i0)) (hv_cs : ¬ cs = i0) (ne_o56_o98 : o56 ≠ o98) :
    Met l Z (⟨"java/lang/String", "equals", "(Ljava/lang/Object;)Z"⟩ : MethodName) jdk_42_method_66_code 3 (some .boolean) { frames := 1, cells := 0, slots := 0, locals := 14 } [] #[(.ref o56), (.ref o98)] h0 n0 (fun v h => v = some (.int i1) ∧ Old Z n0 h ∧ Keep h0 h []) := by
  refine Met.mkQ (tabs := tables_1) (a0 := a0) (ls0 := #[rv o56, rv o98, .unset]) (plainFor_of_name pn_java_lang_String) hw Z0 (fun m => by first | (simp [entryFrame, mkF, argsToLocals, Value.category]; done) | rfl) ?_
  intro p e s m below meth c T Q' G' hQ hG C X
  have Kp : Keep h0 h0 [] := Keep.refl _ _
  refine s_aloadN 1 C X d7_0 rfl rfl ?_
  refine s_aloadN 2 C X d7_1 rfl rfl ?_
  refine s_acmp_ne 7 5 C X d7_2 rfl rfl (fun c2_765 => ?_) (fun c => absurd (Value.ref.inj c) ne_o56_o98)
  refine s_aloadN 8 C X d7_7 rfl rfl ?_
  refine s_instY 11 C X d7_8 (mW 62 rfl) (Ins.self E_o98) (fun T X => ?_)
  refine s_if_eq 54 14 C X d7_11 (fun c => absurd c (by decide)) (fun _ => ?_)
  refine s_aloadN 15 C X d7_14 rfl rfl ?_
  refine s_castY 18 C X d7_15 (mW 62 rfl) (Ins.self E_o98) (fun T X => ?_)
  refine s_astoreN 19 C X (l' := #[rv o56, rv o98, rv o98]) d7_18 rfl rfl ?_
  refine s_getstatic 22 C X (host := "") d7_19 (Or.inl (mW 51 rfl)) Via.refl (S_cs.ext Od.2) (fun T X => ?_)
  refine s_if_eq 36 25 C X d7_22 (fun c => absurd c hv_cs) (fun c22_767 => ?_)
  refine s_aloadN 26 C X d7_25 rfl rfl ?_
  refine s_getfield 29 C X (host := "") d7_26 (Or.inl (mW 25 rfl)) Via.refl F_o56_coder (fun T X => ?_)
  refine s_aloadN 30 C X d7_29 rfl rfl ?_
  refine s_getfield 33 C X (host := "") d7_30 (Or.inl (mW 25 rfl)) Via.refl F_o98_coder (fun T X => ?_)
  refine s_icmp_ne 54 36 C X d7_33 (fun c => absurd (by decide : i0 = i0) c) (fun _ => ?_)
  refine s_aloadN 37 C X d7_36 rfl rfl ?_
  refine s_getfield 40 C X (host := "") d7_37 (Or.inl (mW 24 rfl)) Via.refl F_o56_value (fun T X => ?_)
  refine s_aloadN 41 C X d7_40 rfl rfl ?_
  refine s_getfield 44 C X (host := "") d7_41 (Or.inl (mW 24 rfl)) Via.refl F_o98_value (fun T X => ?_)
  refine s_callS 47 [(.ref b60), (.ref b102)] [] 0 C X d7_44 (mW 63 rfl) (mW 64 rfl) (mW 65 rfl) (mW 66 rfl) (rm_a771 l Z a0 hw b60 k_b60 b102 k_b102 _ n0 X.sz A_b60 A_b102) (lenOf pd___B_B_Z rfl) rfl rfl rfl (fun T v hh X q => ?_)
  obtain ⟨rfl, Kc⟩ := q
  have Od := Od.keep Kc all0
  have Kp := Kp.trans Kc all0
  refine Run.cast (st' := [(.int i1)]) rfl ?_
  refine s_if_eq 54 50 C X d7_47 (fun c => absurd c (by decide)) (fun _ => ?_)
  refine s_iconst 51 C X d7_50 kc_iconst_1 ?_
  refine s_goto 55 C X d7_51 ?_
  refine s_nreturn C X d7_55 rfl (by simp) rfl ?_ (FG hG (by decide) (by decide))
  exact hQ _ _ ⟨rfl, Od, Kp⟩
theorem rm_a775 (l : Launch) (Z : State) (a0 : Array Value) (hw : ∀ d ∈ tables_1, d.before a0 Z = true) (a : Int64) (cs : Int32) (y3 : Int64) (o56 : Addr) (b60 : Addr) (k_b60 : ClassId) (o98 : Addr) (b102 : Addr) (k_b102 : ClassId) (o744 : Addr) (o746 : Addr) (h0 : Heap) (n0 : Nat) (Z0 : n0 ≤ h0.size) (S_cs : Sta Z Z.heap "java/lang/String" "COMPACT_STRINGS" "Z" (.int cs)) (E_o56 : Exa Z h0 o56 "java/lang/String") (F_o56_value : Fld Z h0 o56 "java/lang/String" "value" "[B" (.ref b60)) (F_o56_coder : Fld Z h0 o56 "java/lang/String" "coder" "B" (.int i0)) (A_b60 : Arv Z h0 b60 k_b60 .byte i0 [] (.int i0)) (Od : Old Z n0 h0) (E_o98 : Exa Z h0 o98 "java/lang/String") (F_o98_value : Fld Z h0 o98 "java/lang/String" "value" "[B" (.ref b102)) (F_o98_coder : Fld Z h0 o98 "java/lang/String" "coder" "B" (.int i0)) (A_b102 : Arv Z h0 b102 k_b102 .byte i0 [] (.int i0)) (F_o744_position : Fld Z h0 o744 "com/example/libring/libring/core/RingPoint" "position" "J" (.long a)) (F_o744_node : Fld Z h0 o744 "com/example/libring/libring/core/RingPoint" "node" "Ljava/lang/String;" (.ref o56)) (E_o746 : Exa Z h0 o746 "com/example/libring/libring/core/RingPoint") (F_o746_position : Fld Z h0 o746 "com/example/libring/libring/core/RingPoint" "position" "J" (.long y3)) (F_o746_node : Fld Z h0 o746 "com/example/libring/libring/core/RingPoint" "node" "Ljava/lang/String;" (.ref o98)) (hv_cs : ¬ cs = i0) (ne_o56_o98 : o56 ≠ o98) :
    Met l Z (⟨"com/example/libring/libring/core/RingPoint", "equals", "(Ljava/lang/Object;)Z"⟩ : MethodName) prog_9_method_4_code 3 (some .boolean) { frames := 2, cells := 0, slots := 0, locals := 28 } [] #[(.ref o744), (.ref o746)] h0 n0 (fun v h => ∃ (y776 : Int32), v = some (.int y776) ∧ ((y776 = i1 ∧ (((a).toInt = (y3).toInt))) ∨ (y776 = i0 ∧ ¬ (((a).toInt = (y3).toInt)))) ∧ Old Z n0 h ∧ Keep h0 h []) := by
  refine Met.mkQ (tabs := tables_1) (a0 := a0) (ls0 := #[rv o744, rv o746, .unset]) (plainFor_of_name pn_com_example_libring_libring_core_RingPoint) hw Z0 (fun m => by first | (simp [entryFrame, mkF, argsToLocals, Value.category]; done) | rfl) ?_
  intro p e s m below meth c T Q' G' hQ hG C X
  have Kp : Keep h0 h0 [] := Keep.refl _ _
  refine s_aloadN 1 C X d6_0 rfl rfl ?_
  refine s_instY 4 C X d6_1 (mW 42 rfl) (Ins.self E_o746) (fun T X => ?_)
  refine s_if_ne 9 7 C X d6_4 (fun _ => ?_) (fun c => absurd c (by decide))
  refine s_aloadN 10 C X d6_9 rfl rfl ?_
  refine s_castY 13 C X d6_10 (mW 42 rfl) (Ins.self E_o746) (fun T X => ?_)
  refine s_astoreN 14 C X (l' := #[rv o744, rv o746, rv o746]) d6_13 rfl rfl ?_
  refine s_aloadN 15 C X d6_14 rfl rfl ?_
  refine s_getfield 18 C X (host := "") d6_15 (Or.inl (mW 33 rfl)) Via.refl F_o744_position (fun T X => ?_)
  refine s_aloadN 19 C X d6_18 rfl rfl ?_
  refine s_getfield 22 C X (host := "") d6_19 (Or.inl (mW 33 rfl)) Via.refl F_o746_position (fun T X => ?_)
  refine s_lcmp 23 C X d6_22 ?_
  refine s_if_ne 44 26 C X d6_23 (fun c23_764 => ?_) (fun c23_764 => ?_)
  · have t_c23_764 : ¬ ((a).toInt = (y3).toInt) := fun q => c23_764 (cl_eq.mpr q)
    refine s_iconst 45 C X d6_44 kc_iconst_0 ?_
    refine s_nreturn C X d6_45 rfl (by simp) rfl ?_ (FG hG (by decide) (by decide))
    exact hQ _ _ ⟨_, rfl, Or.inr ⟨rfl, (by omega)⟩, Od, Kp⟩
  have t_c23_764 : (a).toInt = (y3).toInt := cl_eq.mp c23_764
  refine s_aloadN 27 C X d6_26 rfl rfl ?_
  refine s_getfield 30 C X (host := "") d6_27 (Or.inl (mW 35 rfl)) Via.refl F_o744_node (fun T X => ?_)
  refine s_aloadN 31 C X d6_30 rfl rfl ?_
  refine s_getfield 34 C X (host := "") d6_31 (Or.inl (mW 35 rfl)) Via.refl F_o746_node (fun T X => ?_)
  refine s_callV 37 [(.ref o98)] [] 0 C X d6_34 (mW 44 rfl) (mW 45 rfl) (notFace_of_selects (args := #[]) (mvT C.2.1 (C.w (mW 47 rfl)))) (mW 47 rfl) (mW 46 rfl) (mW 6 rfl) (mW 48 rfl) E_o56 (rm_a773 l Z a0 hw cs o56 b60 k_b60 o98 b102 k_b102 _ n0 X.sz S_cs F_o56_value F_o56_coder A_b60 Od E_o98 F_o98_value F_o98_coder A_b102 hv_cs ne_o56_o98) (lenOf pd__Ljava_lang_Object__Z rfl) rfl rfl rfl (fun T v hh X q => ?_)
  obtain ⟨rfl, Od, Kc⟩ := q
  have Kp := Kp.trans Kc all0
  refine Run.cast (st' := [(.int i1)]) rfl ?_
  refine s_if_eq 44 40 C X d6_37 (fun c => absurd c (by decide)) (fun _ => ?_)
  refine s_iconst 41 C X d6_40 kc_iconst_1 ?_
  refine s_goto 45 C X d6_41 ?_
  refine s_nreturn C X d6_45 rfl (by simp) rfl ?_ (FG hG (by decide) (by decide))
  exact hQ _ _ ⟨_, rfl, Or.inl ⟨rfl, t_c23_764⟩, Od, Kp⟩
theorem rm_a787 (l : Launch) (Z : State) (a0 : Array Value) (hw : ∀ d ∈ tables_1, d.before a0 Z = true) (b60 : Addr) (k_b60 : ClassId) (b102 : Addr) (k_b102 : ClassId) (h0 : Heap) (n0 : Nat) (Z0 : n0 ≤ h0.size) (A_b60 : Arv Z h0 b60 k_b60 .byte i0 [] (.int i0)) (A_b102 : Arv Z h0 b102 k_b102 .byte i0 [] (.int i0)) :
    Met l Z (⟨"java/lang/StringLatin1", "equals", "([B[B)Z"⟩ : MethodName) jdk_43_method_13_code 3 (some .boolean) { frames := 0, cells := 0, slots := 0, locals := 0 } [] #[(.ref b102), (.ref b60)] h0 n0 (fun v h => v = some (.int i1) ∧ Keep h0 h []) := by
  refine Met.mkQ (tabs := tables_1) (a0 := a0) (ls0 := #[rv b102, rv b60, .unset]) (plainFor_of_name pn_java_lang_StringLatin1) hw Z0 (fun m => by first | (simp [entryFrame, mkF, argsToLocals, Value.category]; done) | rfl) ?_
  intro p e s m below meth c T Q' G' hQ hG C X
  have Kp : Keep h0 h0 [] := Keep.refl _ _
  refine s_aloadN 1 C X d11_0 rfl rfl ?_
  refine s_arraylength 2 C X d11_1 A_b102 ?_
  refine s_aloadN 3 C X d11_2 rfl rfl ?_
  refine s_arraylength 4 C X d11_3 A_b60 ?_
  refine s_icmp_ne 34 7 C X d11_4 (fun c => absurd (by decide : i0 = i0) c) (fun _ => ?_)
  refine s_iconst 8 C X d11_7 kc_iconst_0 ?_
  refine s_istoreN 9 C X (l' := #[rv b102, rv b60, iv i0]) d11_8 rfl ?_
  refine s_iloadN 10 C X d11_9 rfl ?_
  refine s_aloadN 11 C X d11_10 rfl rfl ?_
  refine s_arraylength 12 C X d11_11 A_b102 ?_
  refine s_icmp_ge 32 15 C X d11_12 (fun _ => ?_) (fun c => absurd c (by decide))
  refine s_iconst 33 C X d11_32 kc_iconst_1 ?_
  refine s_nreturn C X d11_33 rfl (by simp) rfl ?_ (FG hG (by decide) (by decide))
  exact hQ _ _ ⟨rfl, Kp⟩
theorem rm_a789 (l : Launch) (Z : State) (a0 : Array Value) (hw : ∀ d ∈ tables_1, d.before a0 Z = true) (cs : Int32) (o56 : Addr) (b60 : Addr) (k_b60 : ClassId) (o98 : Addr) (b102 : Addr) (k_b102 : ClassId) (h0 : Heap) (n0 : Nat) (Z0 : n0 ≤ h0.size) (S_cs : Sta Z Z.heap "java/lang/String" "COMPACT_STRINGS" "Z" (.int cs)) (E_o56 : Exa Z h0 o56 "java/lang/String") (F_o56_value : Fld Z h0 o56 "java/lang/String" "value" "[B" (.ref b60)) (F_o56_coder : Fld Z h0 o56 "java/lang/String" "coder" "B" (.int i0)) (A_b60 : Arv Z h0 b60 k_b60 .byte i0 [] (.int i0)) (F_o98_value : Fld Z h0 o98 "java/lang/String" "value" "[B" (.ref b102)) (F_o98_coder : Fld Z h0 o98 "java/lang/String" "coder" "B" (.int i0)) (A_b102 : Arv Z h0 b102 k_b102 .byte i0 [] (.int i0)) (Od : Old Z n0 h0) (hv_cs : ¬ cs = i0) (ne_o56_o98 : o56 ≠ o98) :
    Met l Z (⟨"java/lang/String", "equals", "(Ljava/lang/Object;)Z"⟩ : MethodName) jdk_42_method_66_code 3 (some .boolean) { frames := 1, cells := 0, slots := 0, locals := 14 } [] #[(.ref o98), (.ref o56)] h0 n0 (fun v h => v = some (.int i1) ∧ Old Z n0 h ∧ Keep h0 h []) := by
  refine Met.mkQ (tabs := tables_1) (a0 := a0) (ls0 := #[rv o98, rv o56, .unset]) (plainFor_of_name pn_java_lang_String) hw Z0 (fun m => by first | (simp [entryFrame, mkF, argsToLocals, Value.category]; done) | rfl) ?_
  intro p e s m below meth c T Q' G' hQ hG C X
  have Kp : Keep h0 h0 [] := Keep.refl _ _
  refine s_aloadN 1 C X d7_0 rfl rfl ?_
  refine s_aloadN 2 C X d7_1 rfl rfl ?_
  refine s_acmp_ne 7 5 C X d7_2 rfl rfl (fun c2_781 => ?_) (fun c => absurd (Value.ref.inj c) (Ne.symm ne_o56_o98))
  refine s_aloadN 8 C X d7_7 rfl rfl ?_
  refine s_instY 11 C X d7_8 (mW 62 rfl) (Ins.self E_o56) (fun T X => ?_)
  refine s_if_eq 54 14 C X d7_11 (fun c => absurd c (by decide)) (fun _ => ?_)
  refine s_aloadN 15 C X d7_14 rfl rfl ?_
  refine s_castY 18 C X d7_15 (mW 62 rfl) (Ins.self E_o56) (fun T X => ?_)
  refine s_astoreN 19 C X (l' := #[rv o98, rv o56, rv o56]) d7_18 rfl rfl ?_
  refine s_getstatic 22 C X (host := "") d7_19 (Or.inl (mW 51 rfl)) Via.refl (S_cs.ext Od.2) (fun T X => ?_)
  refine s_if_eq 36 25 C X d7_22 (fun c => absurd c hv_cs) (fun c22_783 => ?_)
  refine s_aloadN 26 C X d7_25 rfl rfl ?_
  refine s_getfield 29 C X (host := "") d7_26 (Or.inl (mW 25 rfl)) Via.refl F_o98_coder (fun T X => ?_)
  refine s_aloadN 30 C X d7_29 rfl rfl ?_
  refine s_getfield 33 C X (host := "") d7_30 (Or.inl (mW 25 rfl)) Via.refl F_o56_coder (fun T X => ?_)
  refine s_icmp_ne 54 36 C X d7_33 (fun c => absurd (by decide : i0 = i0) c) (fun _ => ?_)
  refine s_aloadN 37 C X d7_36 rfl rfl ?_
  refine s_getfield 40 C X (host := "") d7_37 (Or.inl (mW 24 rfl)) Via.refl F_o98_value (fun T X => ?_)
  refine s_aloadN 41 C X d7_40 rfl rfl ?_
  refine s_getfield 44 C X (host := "") d7_41 (Or.inl (mW 24 rfl)) Via.refl F_o56_value (fun T X => ?_)
  refine s_callS 47 [(.ref b102), (.ref b60)] [] 0 C X d7_44 (mW 63 rfl) (mW 64 rfl) (mW 65 rfl) (mW 66 rfl) (rm_a787 l Z a0 hw b60 k_b60 b102 k_b102 _ n0 X.sz A_b60 A_b102) (lenOf pd___B_B_Z rfl) rfl rfl rfl (fun T v hh X q => ?_)
  obtain ⟨rfl, Kc⟩ := q
  have Od := Od.keep Kc all0
  have Kp := Kp.trans Kc all0
  refine Run.cast (st' := [(.int i1)]) rfl ?_
  refine s_if_eq 54 50 C X d7_47 (fun c => absurd c (by decide)) (fun _ => ?_)
  refine s_iconst 51 C X d7_50 kc_iconst_1 ?_
  refine s_goto 55 C X d7_51 ?_
  refine s_nreturn C X d7_55 rfl (by simp) rfl ?_ (FG hG (by decide) (by decide))
  exact hQ _ _ ⟨rfl, Od, Kp⟩
theorem rm_a791 (l : Launch) (Z : State) (a0 : Array Value) (hw : ∀ d ∈ tables_1, d.before a0 Z = true) (a : Int64) (cs : Int32) (y3 : Int64) (o56 : Addr) (b60 : Addr) (k_b60 : ClassId) (o98 : Addr) (b102 : Addr) (k_b102 : ClassId) (o744 : Addr) (o746 : Addr) (h0 : Heap) (n0 : Nat) (Z0 : n0 ≤ h0.size) (S_cs : Sta Z Z.heap "java/lang/String" "COMPACT_STRINGS" "Z" (.int cs)) (E_o56 : Exa Z h0 o56 "java/lang/String") (F_o56_value : Fld Z h0 o56 "java/lang/String" "value" "[B" (.ref b60)) (F_o56_coder : Fld Z h0 o56 "java/lang/String" "coder" "B" (.int i0)) (A_b60 : Arv Z h0 b60 k_b60 .byte i0 [] (.int i0)) (E_o98 : Exa Z h0 o98 "java/lang/String") (F_o98_value : Fld Z h0 o98 "java/lang/String" "value" "[B" (.ref b102)) (F_o98_coder : Fld Z h0 o98 "java/lang/String" "coder" "B" (.int i0)) (A_b102 : Arv Z h0 b102 k_b102 .byte i0 [] (.int i0)) (E_o744 : Exa Z h0 o744 "com/example/libring/libring/core/RingPoint") (F_o744_position : Fld Z h0 o744 "com/example/libring/libring/core/RingPoint" "position" "J" (.long a)) (F_o744_node : Fld Z h0 o744 "com/example/libring/libring/core/RingPoint" "node" "Ljava/lang/String;" (.ref o56)) (F_o746_position : Fld Z h0 o746 "com/example/libring/libring/core/RingPoint" "position" "J" (.long y3)) (F_o746_node : Fld Z h0 o746 "com/example/libring/libring/core/RingPoint" "node" "Ljava/lang/String;" (.ref o98)) (Od : Old Z n0 h0) (hv_cs : ¬ cs = i0) (ne_o56_o98 : o56 ≠ o98) :
    Met l Z (⟨"com/example/libring/libring/core/RingPoint", "equals", "(Ljava/lang/Object;)Z"⟩ : MethodName) prog_9_method_4_code 3 (some .boolean) { frames := 2, cells := 0, slots := 0, locals := 28 } [] #[(.ref o746), (.ref o744)] h0 n0 (fun v h => ∃ (y792 : Int32), v = some (.int y792) ∧ ((y792 = i1 ∧ (((y3).toInt = (a).toInt))) ∨ (y792 = i0 ∧ ¬ (((y3).toInt = (a).toInt)))) ∧ Old Z n0 h ∧ Keep h0 h []) := by
  refine Met.mkQ (tabs := tables_1) (a0 := a0) (ls0 := #[rv o746, rv o744, .unset]) (plainFor_of_name pn_com_example_libring_libring_core_RingPoint) hw Z0 (fun m => by first | (simp [entryFrame, mkF, argsToLocals, Value.category]; done) | rfl) ?_
  intro p e s m below meth c T Q' G' hQ hG C X
  have Kp : Keep h0 h0 [] := Keep.refl _ _
  refine s_aloadN 1 C X d6_0 rfl rfl ?_
  refine s_instY 4 C X d6_1 (mW 42 rfl) (Ins.self E_o744) (fun T X => ?_)
  refine s_if_ne 9 7 C X d6_4 (fun _ => ?_) (fun c => absurd c (by decide))
  refine s_aloadN 10 C X d6_9 rfl rfl ?_
  refine s_castY 13 C X d6_10 (mW 42 rfl) (Ins.self E_o744) (fun T X => ?_)
  refine s_astoreN 14 C X (l' := #[rv o746, rv o744, rv o744]) d6_13 rfl rfl ?_
  refine s_aloadN 15 C X d6_14 rfl rfl ?_
  refine s_getfield 18 C X (host := "") d6_15 (Or.inl (mW 33 rfl)) Via.refl F_o746_position (fun T X => ?_)
  refine s_aloadN 19 C X d6_18 rfl rfl ?_
  refine s_getfield 22 C X (host := "") d6_19 (Or.inl (mW 33 rfl)) Via.refl F_o744_position (fun T X => ?_)
  refine s_lcmp 23 C X d6_22 ?_
  refine s_if_ne 44 26 C X d6_23 (fun c23_780 => ?_) (fun c23_780 => ?_)
  · have t_c23_780 : ¬ ((y3).toInt = (a).toInt) := fun q => c23_780 (cl_eq.mpr q)
    refine s_iconst 45 C X d6_44 kc_iconst_0 ?_
    refine s_nreturn C X d6_45 rfl (by simp) rfl ?_ (FG hG (by decide) (by decide))
    exact hQ _ _ ⟨_, rfl, Or.inr ⟨rfl, (by omega)⟩, Od, Kp⟩
  have t_c23_780 : (y3).toInt = (a).toInt := cl_eq.mp c23_780
  refine s_aloadN 27 C X d6_26 rfl rfl ?_
  refine s_getfield 30 C X (host := "") d6_27 (Or.inl (mW 35 rfl)) Via.refl F_o746_node (fun T X => ?_)
  refine s_aloadN 31 C X d6_30 rfl rfl ?_
  refine s_getfield 34 C X (host := "") d6_31 (Or.inl (mW 35 rfl)) Via.refl F_o744_node (fun T X => ?_)
  refine s_callV 37 [(.ref o56)] [] 0 C X d6_34 (mW 44 rfl) (mW 45 rfl) (notFace_of_selects (args := #[]) (mvT C.2.1 (C.w (mW 47 rfl)))) (mW 47 rfl) (mW 46 rfl) (mW 6 rfl) (mW 48 rfl) E_o98 (rm_a789 l Z a0 hw cs o56 b60 k_b60 o98 b102 k_b102 _ n0 X.sz S_cs E_o56 F_o56_value F_o56_coder A_b60 F_o98_value F_o98_coder A_b102 Od hv_cs ne_o56_o98) (lenOf pd__Ljava_lang_Object__Z rfl) rfl rfl rfl (fun T v hh X q => ?_)
  obtain ⟨rfl, Od, Kc⟩ := q
  have Kp := Kp.trans Kc all0
  refine Run.cast (st' := [(.int i1)]) rfl ?_
  refine s_if_eq 44 40 C X d6_37 (fun c => absurd c (by decide)) (fun _ => ?_)
  refine s_iconst 41 C X d6_40 kc_iconst_1 ?_
  refine s_goto 45 C X d6_41 ?_
  refine s_nreturn C X d6_45 rfl (by simp) rfl ?_ (FG hG (by decide) (by decide))
  exact hQ _ _ ⟨_, rfl, Or.inl ⟨rfl, t_c23_780⟩, Od, Kp⟩
theorem rm_a800 (l : Launch) (Z : State) (a0 : Array Value) (hw : ∀ d ∈ tables_1, d.before a0 Z = true) (a : Int64) (o56 : Addr) (o744 : Addr) (h0 : Heap) (n0 : Nat) (Z0 : n0 ≤ h0.size) (E_o56 : Exa Z h0 o56 "java/lang/String") (E_o744 : Exa Z h0 o744 "com/example/libring/libring/core/RingPoint") (F_o744_position : Fld Z h0 o744 "com/example/libring/libring/core/RingPoint" "position" "J" (.long a)) (F_o744_node : Fld Z h0 o744 "com/example/libring/libring/core/RingPoint" "node" "Ljava/lang/String;" (.ref o56)) :
    Met l Z (⟨"com/example/libring/libring/core/RingPoint", "equals", "(Ljava/lang/Object;)Z"⟩ : MethodName) prog_9_method_4_code 3 (some .boolean) { frames := 1, cells := 0, slots := 0, locals := 14 } [] #[(.ref o744), (.ref o744)] h0 n0 (fun v h => v = some (.int i1) ∧ Keep h0 h []) := by
  refine Met.mkQ (tabs := tables_1) (a0 := a0) (ls0 := #[rv o744, rv o744, .unset]) (plainFor_of_name pn_com_example_libring_libring_core_RingPoint) hw Z0 (fun m => by first | (simp [entryFrame, mkF, argsToLocals, Value.category]; done) | rfl) ?_
  intro p e s m below meth c T Q' G' hQ hG C X
  have Kp : Keep h0 h0 [] := Keep.refl _ _
  refine s_aloadN 1 C X d6_0 rfl rfl ?_
  refine s_instY 4 C X d6_1 (mW 42 rfl) (Ins.self E_o744) (fun T X => ?_)
  refine s_if_ne 9 7 C X d6_4 (fun _ => ?_) (fun c => absurd c (by decide))
  refine s_aloadN 10 C X d6_9 rfl rfl ?_
  refine s_castY 13 C X d6_10 (mW 42 rfl) (Ins.self E_o744) (fun T X => ?_)
  refine s_astoreN 14 C X (l' := #[rv o744, rv o744, rv o744]) d6_13 rfl rfl ?_
  refine s_aloadN 15 C X d6_14 rfl rfl ?_
  refine s_getfield 18 C X (host := "") d6_15 (Or.inl (mW 33 rfl)) Via.refl F_o744_position (fun T X => ?_)
  refine s_aloadN 19 C X d6_18 rfl rfl ?_
  refine s_getfield 22 C X (host := "") d6_19 (Or.inl (mW 33 rfl)) Via.refl F_o744_position (fun T X => ?_)
  refine s_lcmp 23 C X d6_22 ?_
  refine s_if_ne 44 26 C X d6_23 (fun c => absurd (own_cmp0 _) c) (fun c23_796 => ?_)
  refine s_aloadN 27 C X d6_26 rfl rfl ?_
  refine s_getfield 30 C X (host := "") d6_27 (Or.inl (mW 35 rfl)) Via.refl F_o744_node (fun T X => ?_)
  refine s_aloadN 31 C X d6_30 rfl rfl ?_
  refine s_getfield 34 C X (host := "") d6_31 (Or.inl (mW 35 rfl)) Via.refl F_o744_node (fun T X => ?_)
  refine s_callV 37 [(.ref o56)] [] 0 C X d6_34 (mW 44 rfl) (mW 45 rfl) (notFace_of_selects (args := #[]) (mvT C.2.1 (C.w (mW 47 rfl)))) (mW 47 rfl) (mW 46 rfl) (mW 6 rfl) (mW 48 rfl) E_o56 (rm_a672 l Z a0 hw o56 _ n0 X.sz ) (lenOf pd__Ljava_lang_Object__Z rfl) rfl rfl rfl (fun T v hh X q => ?_)
  obtain ⟨rfl, Kc⟩ := q
  have Kp := Kp.trans Kc all0
  refine Run.cast (st' := [(.int i1)]) rfl ?_
  refine s_if_eq 44 40 C X d6_37 (fun c => absurd c (by decide)) (fun _ => ?_)
  refine s_iconst 41 C X d6_40 kc_iconst_1 ?_
  refine s_goto 45 C X d6_41 ?_
  refine s_nreturn C X d6_45 rfl (by simp) rfl ?_ (FG hG (by decide) (by decide))
  exact hQ _ _ ⟨rfl, Kp⟩
theorem rm_a803 (l : Launch) (Z : State) (a0 : Array Value) (hw : ∀ d ∈ tables_1, d.before a0 Z = true) (o56 : Addr) (o744 : Addr) (h0 : Heap) (n0 : Nat) (Z0 : n0 ≤ h0.size) (E_o56 : Exa Z h0 o56 "java/lang/String") :
    Met l Z (⟨"com/example/libring/libring/core/RingPoint", "equals", "(Ljava/lang/Object;)Z"⟩ : MethodName) prog_9_method_4_code 3 (some .boolean) { frames := 0, cells := 0, slots := 0, locals := 0 } [] #[(.ref o744), (.ref o56)] h0 n0 (fun v h => v = some (.int i0) ∧ Keep h0 h []) := by
  refine Met.mkQ (tabs := tables_1) (a0 := a0) (ls0 := #[rv o744, rv o56, .unset]) (plainFor_of_name pn_com_example_libring_libring_core_RingPoint) hw Z0 (fun m => by first | (simp [entryFrame, mkF, argsToLocals, Value.category]; done) | rfl) ?_
  intro p e s m below meth c T Q' G' hQ hG C X
  have Kp : Keep h0 h0 [] := Keep.refl _ _
  refine s_aloadN 1 C X d6_0 rfl rfl ?_
  refine s_instN 4 C X d6_1 (mW 42 rfl) E_o56 (own_no (C.w (mW 49 rfl)) (C.w (mW 50 rfl)) (C.w (mW 27 rfl))) (fun T X => ?_)
  refine s_if_ne 9 7 C X d6_4 (fun c => absurd (by decide : i0 = i0) c) (fun _ => ?_)
  refine s_iconst 8 C X d6_7 kc_iconst_0 ?_
  refine s_nreturn C X d6_8 rfl (by simp) rfl ?_ (FG hG (by decide) (by decide))
  exact hQ _ _ ⟨rfl, Kp⟩
theorem rm_a806 (l : Launch) (Z : State) (a0 : Array Value) (hw : ∀ d ∈ tables_1, d.before a0 Z = true) (o744 : Addr) (h0 : Heap) (n0 : Nat) (Z0 : n0 ≤ h0.size)  :
    Met l Z (⟨"com/example/libring/libring/core/RingPoint", "equals", "(Ljava/lang/Object;)Z"⟩ : MethodName) prog_9_method_4_code 3 (some .boolean) { frames := 0, cells := 0, slots := 0, locals := 0 } [] #[(.ref o744), .null] h0 n0 (fun v h => v = some (.int i0) ∧ Keep h0 h []) := by
  refine Met.mkQ (tabs := tables_1) (a0 := a0) (ls0 := #[rv o744, .val .null, .unset]) (plainFor_of_name pn_com_example_libring_libring_core_RingPoint) hw Z0 (fun m => by first | (simp [entryFrame, mkF, argsToLocals, Value.category]; done) | rfl) ?_
  intro p e s m below meth c T Q' G' hQ hG C X
  have Kp : Keep h0 h0 [] := Keep.refl _ _
  refine s_aloadN 1 C X d6_0 rfl rfl ?_
  refine s_instNull 4 C X d6_1 ?_
  refine s_if_ne 9 7 C X d6_4 (fun c => absurd (by decide : i0 = i0) c) (fun _ => ?_)
  refine s_iconst 8 C X d6_7 kc_iconst_0 ?_
  refine s_nreturn C X d6_8 rfl (by simp) rfl ?_ (FG hG (by decide) (by decide))
  exact hQ _ _ ⟨rfl, Kp⟩
theorem own_lf0 {a : Int64} {y3 : Int64} {la5 : Int32} {ca6 : Int32} {cb7 : Int32} {y14 : Int32} {y18 : Int32} {y22 : Int32} {y120 : Int32} {y125 : Int32} {y154 : Int32} (D121 : (((¬ ((la5).toInt = (y14).toInt)) ∧ y120 = i0) ∨ (((la5).toInt = (y14).toInt) ∧ ((la5).toInt < (1 : Int)) ∧ ((la5).toInt < (2 : Int)) ∧ y120 = i1) ∨ (((la5).toInt = (y14).toInt) ∧ ((la5).toInt < (1 : Int)) ∧ (¬ ((la5).toInt < (2 : Int))) ∧ (¬ ((cb7).toInt = (y22).toInt)) ∧ y120 = i0) ∨ (((la5).toInt = (y14).toInt) ∧ ((la5).toInt < (1 : Int)) ∧ (¬ ((la5).toInt < (2 : Int))) ∧ ((cb7).toInt = (y22).toInt) ∧ y120 = i1) ∨ (((la5).toInt = (y14).toInt) ∧ (¬ ((la5).toInt < (1 : Int))) ∧ (¬ ((ca6).toInt = (y18).toInt)) ∧ y120 = i0) ∨ (((la5).toInt = (y14).toInt) ∧ (¬ ((la5).toInt < (1 : Int))) ∧ ((ca6).toInt = (y18).toInt) ∧ ((la5).toInt < (2 : Int)) ∧ y120 = i1) ∨ (((la5).toInt = (y14).toInt) ∧ (¬ ((la5).toInt < (1 : Int))) ∧ ((ca6).toInt = (y18).toInt) ∧ (¬ ((la5).toInt < (2 : Int))) ∧ (¬ ((cb7).toInt = (y22).toInt)) ∧ y120 = i0) ∨ (((la5).toInt = (y14).toInt) ∧ (¬ ((la5).toInt < (1 : Int))) ∧ ((ca6).toInt = (y18).toInt) ∧ (¬ ((la5).toInt < (2 : Int))) ∧ ((cb7).toInt = (y22).toInt) ∧ y120 = i1))) (D126 : (((¬ ((a).toInt = (y3).toInt)) ∧ y125 = i0) ∨ (((a).toInt = (y3).toInt) ∧ ((y120).toInt = (0 : Int)) ∧ y125 = i0) ∨ (((a).toInt = (y3).toInt) ∧ (¬ ((y120).toInt = (0 : Int))) ∧ y125 = i1))) (D155 : ((y154 = i1 ∧ (((a).toInt = (y3).toInt) ∧ (((((bv ca6)).toInt = ((bv y18)).toInt) ∧ (((bv cb7)).toInt = ((bv y22)).toInt))))) ∨ (y154 = i0 ∧ ¬ (((a).toInt = (y3).toInt) ∧ (((((bv ca6)).toInt = ((bv y18)).toInt) ∧ (((bv cb7)).toInt = ((bv y22)).toInt))))))) (t_c1_24 : (¬ ((la5).toInt = (0 : Int)))) (t_c17_25 : (¬ ((la5).toInt = (1 : Int)))) (t_c1_66 : (¬ ((y14).toInt = (0 : Int)))) (t_c17_67 : (¬ ((y14).toInt = (1 : Int)))) (t_c236_156 : (¬ ((y154).toInt = (y125).toInt))) (hv_ca6 : own_B ca6) (hv_y18 : own_B y18) (hv_cb7 : own_B cb7) (hv_y22 : own_B y22) (hv_la5 : own_L la5) (hv_y14 : own_L y14) : False := by
  have k0 : i0.toInt = 0 := by decide
  have k1 : i1.toInt = 1 := by decide
  have b0 := own_bv hv_ca6 hv_y18
  have e0 := own_bv2 (x := ca6) (y := y18)
  have b1 := own_bv hv_cb7 hv_y22
  have e1 := own_bv2 (x := cb7) (y := y22)
  unfold own_L at hv_la5 hv_y14
  rcases D155 with ⟨rfl, ⟨u1, ⟨u2, u3⟩⟩⟩ | ⟨rfl, u4⟩ <;> rcases D126 with ⟨u5, rfl⟩ | ⟨u6, u7, rfl⟩ | ⟨u8, u9, rfl⟩ <;> rcases D121 with ⟨u10, rfl⟩ | ⟨u11, u12, u13, rfl⟩ | ⟨u14, u15, u16, u17, rfl⟩ | ⟨u18, u19, u20, u21, rfl⟩ | ⟨u22, u23, u24, rfl⟩ | ⟨u25, u26, u27, u28, rfl⟩ | ⟨u29, u30, u31, u32, u33, rfl⟩ | ⟨u34, u35, u36, u37, u38, rfl⟩ <;> omega
theorem own_lf1 {a : Int64} {y3 : Int64} {la5 : Int32} {ca6 : Int32} {cb7 : Int32} {y14 : Int32} {y18 : Int32} {y22 : Int32} {y120 : Int32} {y125 : Int32} {y184 : Int32} (D121 : (((¬ ((la5).toInt = (y14).toInt)) ∧ y120 = i0) ∨ (((la5).toInt = (y14).toInt) ∧ ((la5).toInt < (1 : Int)) ∧ ((la5).toInt < (2 : Int)) ∧ y120 = i1) ∨ (((la5).toInt = (y14).toInt) ∧ ((la5).toInt < (1 : Int)) ∧ (¬ ((la5).toInt < (2 : Int))) ∧ (¬ ((cb7).toInt = (y22).toInt)) ∧ y120 = i0) ∨ (((la5).toInt = (y14).toInt) ∧ ((la5).toInt < (1 : Int)) ∧ (¬ ((la5).toInt < (2 : Int))) ∧ ((cb7).toInt = (y22).toInt) ∧ y120 = i1) ∨ (((la5).toInt = (y14).toInt) ∧ (¬ ((la5).toInt < (1 : Int))) ∧ (¬ ((ca6).toInt = (y18).toInt)) ∧ y120 = i0) ∨ (((la5).toInt = (y14).toInt) ∧ (¬ ((la5).toInt < (1 : Int))) ∧ ((ca6).toInt = (y18).toInt) ∧ ((la5).toInt < (2 : Int)) ∧ y120 = i1) ∨ (((la5).toInt = (y14).toInt) ∧ (¬ ((la5).toInt < (1 : Int))) ∧ ((ca6).toInt = (y18).toInt) ∧ (¬ ((la5).toInt < (2 : Int))) ∧ (¬ ((cb7).toInt = (y22).toInt)) ∧ y120 = i0) ∨ (((la5).toInt = (y14).toInt) ∧ (¬ ((la5).toInt < (1 : Int))) ∧ ((ca6).toInt = (y18).toInt) ∧ (¬ ((la5).toInt < (2 : Int))) ∧ ((cb7).toInt = (y22).toInt) ∧ y120 = i1))) (D126 : (((¬ ((a).toInt = (y3).toInt)) ∧ y125 = i0) ∨ (((a).toInt = (y3).toInt) ∧ ((y120).toInt = (0 : Int)) ∧ y125 = i0) ∨ (((a).toInt = (y3).toInt) ∧ (¬ ((y120).toInt = (0 : Int))) ∧ y125 = i1))) (D185 : ((y184 = i1 ∧ (((y3).toInt = (a).toInt) ∧ (((((bv y18)).toInt = ((bv ca6)).toInt) ∧ (((bv y22)).toInt = ((bv cb7)).toInt))))) ∨ (y184 = i0 ∧ ¬ (((y3).toInt = (a).toInt) ∧ (((((bv y18)).toInt = ((bv ca6)).toInt) ∧ (((bv y22)).toInt = ((bv cb7)).toInt))))))) (t_c1_24 : (¬ ((la5).toInt = (0 : Int)))) (t_c17_25 : (¬ ((la5).toInt = (1 : Int)))) (t_c1_66 : (¬ ((y14).toInt = (0 : Int)))) (t_c17_67 : (¬ ((y14).toInt = (1 : Int)))) (t_c248_186 : (¬ ((y184).toInt = (y125).toInt))) (hv_y18 : own_B y18) (hv_ca6 : own_B ca6) (hv_y22 : own_B y22) (hv_cb7 : own_B cb7) (hv_la5 : own_L la5) (hv_y14 : own_L y14) : False := by
  have k0 : i0.toInt = 0 := by decide
  have k1 : i1.toInt = 1 := by decide
  have b0 := own_bv hv_y18 hv_ca6
  have e0 := own_bv2 (x := y18) (y := ca6)
  have b1 := own_bv hv_y22 hv_cb7
  have e1 := own_bv2 (x := y22) (y := cb7)
  unfold own_L at hv_la5 hv_y14
  rcases D185 with ⟨rfl, ⟨u1, ⟨u2, u3⟩⟩⟩ | ⟨rfl, u4⟩ <;> rcases D126 with ⟨u5, rfl⟩ | ⟨u6, u7, rfl⟩ | ⟨u8, u9, rfl⟩ <;> rcases D121 with ⟨u10, rfl⟩ | ⟨u11, u12, u13, rfl⟩ | ⟨u14, u15, u16, u17, rfl⟩ | ⟨u18, u19, u20, u21, rfl⟩ | ⟨u22, u23, u24, rfl⟩ | ⟨u25, u26, u27, u28, rfl⟩ | ⟨u29, u30, u31, u32, u33, rfl⟩ | ⟨u34, u35, u36, u37, u38, rfl⟩ <;> omega
theorem own_lf2 {a : Int64} {y3 : Int64} {la5 : Int32} {ca6 : Int32} {cb7 : Int32} {y14 : Int32} {y18 : Int32} {y22 : Int32} {y212 : Int32} {y217 : Int32} {y231 : Int32} (D213 : (((¬ ((la5).toInt = (y14).toInt)) ∧ y212 = i0) ∨ (((la5).toInt = (y14).toInt) ∧ ((la5).toInt < (1 : Int)) ∧ ((la5).toInt < (2 : Int)) ∧ y212 = i1) ∨ (((la5).toInt = (y14).toInt) ∧ ((la5).toInt < (1 : Int)) ∧ (¬ ((la5).toInt < (2 : Int))) ∧ (¬ ((cb7).toInt = (y22).toInt)) ∧ y212 = i0) ∨ (((la5).toInt = (y14).toInt) ∧ ((la5).toInt < (1 : Int)) ∧ (¬ ((la5).toInt < (2 : Int))) ∧ ((cb7).toInt = (y22).toInt) ∧ y212 = i1) ∨ (((la5).toInt = (y14).toInt) ∧ (¬ ((la5).toInt < (1 : Int))) ∧ (¬ ((ca6).toInt = (y18).toInt)) ∧ y212 = i0) ∨ (((la5).toInt = (y14).toInt) ∧ (¬ ((la5).toInt < (1 : Int))) ∧ ((ca6).toInt = (y18).toInt) ∧ ((la5).toInt < (2 : Int)) ∧ y212 = i1) ∨ (((la5).toInt = (y14).toInt) ∧ (¬ ((la5).toInt < (1 : Int))) ∧ ((ca6).toInt = (y18).toInt) ∧ (¬ ((la5).toInt < (2 : Int))) ∧ (¬ ((cb7).toInt = (y22).toInt)) ∧ y212 = i0) ∨ (((la5).toInt = (y14).toInt) ∧ (¬ ((la5).toInt < (1 : Int))) ∧ ((ca6).toInt = (y18).toInt) ∧ (¬ ((la5).toInt < (2 : Int))) ∧ ((cb7).toInt = (y22).toInt) ∧ y212 = i1))) (D218 : (((¬ ((a).toInt = (y3).toInt)) ∧ y217 = i0) ∨ (((a).toInt = (y3).toInt) ∧ ((y212).toInt = (0 : Int)) ∧ y217 = i0) ∨ (((a).toInt = (y3).toInt) ∧ (¬ ((y212).toInt = (0 : Int))) ∧ y217 = i1))) (D232 : (((¬ ((a).toInt = (y3).toInt)) ∧ y231 = i0) ∨ (((a).toInt = (y3).toInt) ∧ y231 = i0))) (t_c1_24 : (¬ ((la5).toInt = (0 : Int)))) (t_c17_25 : (¬ ((la5).toInt = (1 : Int)))) (t_c1_66 : (¬ ((y14).toInt = (0 : Int)))) (t_c17_67 : ((y14).toInt = (1 : Int))) (t_c236_233 : (¬ ((y231).toInt = (y217).toInt))) (hv_la5 : own_L la5) (hv_y14 : own_L y14) : False := by
  have k0 : i0.toInt = 0 := by decide
  have k1 : i1.toInt = 1 := by decide
  unfold own_L at hv_la5 hv_y14
  rcases D232 with ⟨u1, rfl⟩ | ⟨u2, rfl⟩ <;> rcases D218 with ⟨u3, rfl⟩ | ⟨u4, u5, rfl⟩ | ⟨u6, u7, rfl⟩ <;> rcases D213 with ⟨u8, rfl⟩ | ⟨u9, u10, u11, rfl⟩ | ⟨u12, u13, u14, u15, rfl⟩ | ⟨u16, u17, u18, u19, rfl⟩ | ⟨u20, u21, u22, rfl⟩ | ⟨u23, u24, u25, u26, rfl⟩ | ⟨u27, u28, u29, u30, u31, rfl⟩ | ⟨u32, u33, u34, u35, u36, rfl⟩ <;> omega
theorem own_lf3 {a : Int64} {y3 : Int64} {la5 : Int32} {ca6 : Int32} {cb7 : Int32} {y14 : Int32} {y18 : Int32} {y22 : Int32} {y212 : Int32} {y217 : Int32} {y246 : Int32} (D213 : (((¬ ((la5).toInt = (y14).toInt)) ∧ y212 = i0) ∨ (((la5).toInt = (y14).toInt) ∧ ((la5).toInt < (1 : Int)) ∧ ((la5).toInt < (2 : Int)) ∧ y212 = i1) ∨ (((la5).toInt = (y14).toInt) ∧ ((la5).toInt < (1 : Int)) ∧ (¬ ((la5).toInt < (2 : Int))) ∧ (¬ ((cb7).toInt = (y22).toInt)) ∧ y212 = i0) ∨ (((la5).toInt = (y14).toInt) ∧ ((la5).toInt < (1 : Int)) ∧ (¬ ((la5).toInt < (2 : Int))) ∧ ((cb7).toInt = (y22).toInt) ∧ y212 = i1) ∨ (((la5).toInt = (y14).toInt) ∧ (¬ ((la5).toInt < (1 : Int))) ∧ (¬ ((ca6).toInt = (y18).toInt)) ∧ y212 = i0) ∨ (((la5).toInt = (y14).toInt) ∧ (¬ ((la5).toInt < (1 : Int))) ∧ ((ca6).toInt = (y18).toInt) ∧ ((la5).toInt < (2 : Int)) ∧ y212 = i1) ∨ (((la5).toInt = (y14).toInt) ∧ (¬ ((la5).toInt < (1 : Int))) ∧ ((ca6).toInt = (y18).toInt) ∧ (¬ ((la5).toInt < (2 : Int))) ∧ (¬ ((cb7).toInt = (y22).toInt)) ∧ y212 = i0) ∨ (((la5).toInt = (y14).toInt) ∧ (¬ ((la5).toInt < (1 : Int))) ∧ ((ca6).toInt = (y18).toInt) ∧ (¬ ((la5).toInt < (2 : Int))) ∧ ((cb7).toInt = (y22).toInt) ∧ y212 = i1))) (D218 : (((¬ ((a).toInt = (y3).toInt)) ∧ y217 = i0) ∨ (((a).toInt = (y3).toInt) ∧ ((y212).toInt = (0 : Int)) ∧ y217 = i0) ∨ (((a).toInt = (y3).toInt) ∧ (¬ ((y212).toInt = (0 : Int))) ∧ y217 = i1))) (D247 : (((¬ ((y3).toInt = (a).toInt)) ∧ y246 = i0) ∨ (((y3).toInt = (a).toInt) ∧ y246 = i0))) (t_c1_24 : (¬ ((la5).toInt = (0 : Int)))) (t_c17_25 : (¬ ((la5).toInt = (1 : Int)))) (t_c1_66 : (¬ ((y14).toInt = (0 : Int)))) (t_c17_67 : ((y14).toInt = (1 : Int))) (t_c248_248 : (¬ ((y246).toInt = (y217).toInt))) (hv_la5 : own_L la5) (hv_y14 : own_L y14) : False := by
  have k0 : i0.toInt = 0 := by decide
  have k1 : i1.toInt = 1 := by decide
  unfold own_L at hv_la5 hv_y14
  rcases D247 with ⟨u1, rfl⟩ | ⟨u2, rfl⟩ <;> rcases D218 with ⟨u3, rfl⟩ | ⟨u4, u5, rfl⟩ | ⟨u6, u7, rfl⟩ <;> rcases D213 with ⟨u8, rfl⟩ | ⟨u9, u10, u11, rfl⟩ | ⟨u12, u13, u14, u15, rfl⟩ | ⟨u16, u17, u18, u19, rfl⟩ | ⟨u20, u21, u22, rfl⟩ | ⟨u23, u24, u25, u26, rfl⟩ | ⟨u27, u28, u29, u30, u31, rfl⟩ | ⟨u32, u33, u34, u35, u36, rfl⟩ <;> omega
theorem own_lf4 {a : Int64} {y3 : Int64} {la5 : Int32} {ca6 : Int32} {cb7 : Int32} {y14 : Int32} {y18 : Int32} {y22 : Int32} {y274 : Int32} {y279 : Int32} {y293 : Int32} (D275 : (((¬ ((la5).toInt = (y14).toInt)) ∧ y274 = i0) ∨ (((la5).toInt = (y14).toInt) ∧ ((la5).toInt < (1 : Int)) ∧ ((la5).toInt < (2 : Int)) ∧ y274 = i1) ∨ (((la5).toInt = (y14).toInt) ∧ ((la5).toInt < (1 : Int)) ∧ (¬ ((la5).toInt < (2 : Int))) ∧ (¬ ((cb7).toInt = (y22).toInt)) ∧ y274 = i0) ∨ (((la5).toInt = (y14).toInt) ∧ ((la5).toInt < (1 : Int)) ∧ (¬ ((la5).toInt < (2 : Int))) ∧ ((cb7).toInt = (y22).toInt) ∧ y274 = i1) ∨ (((la5).toInt = (y14).toInt) ∧ (¬ ((la5).toInt < (1 : Int))) ∧ (¬ ((ca6).toInt = (y18).toInt)) ∧ y274 = i0) ∨ (((la5).toInt = (y14).toInt) ∧ (¬ ((la5).toInt < (1 : Int))) ∧ ((ca6).toInt = (y18).toInt) ∧ ((la5).toInt < (2 : Int)) ∧ y274 = i1) ∨ (((la5).toInt = (y14).toInt) ∧ (¬ ((la5).toInt < (1 : Int))) ∧ ((ca6).toInt = (y18).toInt) ∧ (¬ ((la5).toInt < (2 : Int))) ∧ (¬ ((cb7).toInt = (y22).toInt)) ∧ y274 = i0) ∨ (((la5).toInt = (y14).toInt) ∧ (¬ ((la5).toInt < (1 : Int))) ∧ ((ca6).toInt = (y18).toInt) ∧ (¬ ((la5).toInt < (2 : Int))) ∧ ((cb7).toInt = (y22).toInt) ∧ y274 = i1))) (D280 : (((¬ ((a).toInt = (y3).toInt)) ∧ y279 = i0) ∨ (((a).toInt = (y3).toInt) ∧ ((y274).toInt = (0 : Int)) ∧ y279 = i0) ∨ (((a).toInt = (y3).toInt) ∧ (¬ ((y274).toInt = (0 : Int))) ∧ y279 = i1))) (D294 : (((¬ ((a).toInt = (y3).toInt)) ∧ y293 = i0) ∨ (((a).toInt = (y3).toInt) ∧ y293 = i0))) (t_c1_24 : (¬ ((la5).toInt = (0 : Int)))) (t_c17_25 : (¬ ((la5).toInt = (1 : Int)))) (t_c1_66 : ((y14).toInt = (0 : Int))) (t_c236_295 : (¬ ((y293).toInt = (y279).toInt))) (hv_la5 : own_L la5) (hv_y14 : own_L y14) : False := by
  have k0 : i0.toInt = 0 := by decide
  have k1 : i1.toInt = 1 := by decide
  unfold own_L at hv_la5 hv_y14
  rcases D294 with ⟨u1, rfl⟩ | ⟨u2, rfl⟩ <;> rcases D280 with ⟨u3, rfl⟩ | ⟨u4, u5, rfl⟩ | ⟨u6, u7, rfl⟩ <;> rcases D275 with ⟨u8, rfl⟩ | ⟨u9, u10, u11, rfl⟩ | ⟨u12, u13, u14, u15, rfl⟩ | ⟨u16, u17, u18, u19, rfl⟩ | ⟨u20, u21, u22, rfl⟩ | ⟨u23, u24, u25, u26, rfl⟩ | ⟨u27, u28, u29, u30, u31, rfl⟩ | ⟨u32, u33, u34, u35, u36, rfl⟩ <;> omega
theorem own_lf5 {a : Int64} {y3 : Int64} {la5 : Int32} {ca6 : Int32} {cb7 : Int32} {y14 : Int32} {y18 : Int32} {y22 : Int32} {y274 : Int32} {y279 : Int32} {y308 : Int32} (D275 : (((¬ ((la5).toInt = (y14).toInt)) ∧ y274 = i0) ∨ (((la5).toInt = (y14).toInt) ∧ ((la5).toInt < (1 : Int)) ∧ ((la5).toInt < (2 : Int)) ∧ y274 = i1) ∨ (((la5).toInt = (y14).toInt) ∧ ((la5).toInt < (1 : Int)) ∧ (¬ ((la5).toInt < (2 : Int))) ∧ (¬ ((cb7).toInt = (y22).toInt)) ∧ y274 = i0) ∨ (((la5).toInt = (y14).toInt) ∧ ((la5).toInt < (1 : Int)) ∧ (¬ ((la5).toInt < (2 : Int))) ∧ ((cb7).toInt = (y22).toInt) ∧ y274 = i1) ∨ (((la5).toInt = (y14).toInt) ∧ (¬ ((la5).toInt < (1 : Int))) ∧ (¬ ((ca6).toInt = (y18).toInt)) ∧ y274 = i0) ∨ (((la5).toInt = (y14).toInt) ∧ (¬ ((la5).toInt < (1 : Int))) ∧ ((ca6).toInt = (y18).toInt) ∧ ((la5).toInt < (2 : Int)) ∧ y274 = i1) ∨ (((la5).toInt = (y14).toInt) ∧ (¬ ((la5).toInt < (1 : Int))) ∧ ((ca6).toInt = (y18).toInt) ∧ (¬ ((la5).toInt < (2 : Int))) ∧ (¬ ((cb7).toInt = (y22).toInt)) ∧ y274 = i0) ∨ (((la5).toInt = (y14).toInt) ∧ (¬ ((la5).toInt < (1 : Int))) ∧ ((ca6).toInt = (y18).toInt) ∧ (¬ ((la5).toInt < (2 : Int))) ∧ ((cb7).toInt = (y22).toInt) ∧ y274 = i1))) (D280 : (((¬ ((a).toInt = (y3).toInt)) ∧ y279 = i0) ∨ (((a).toInt = (y3).toInt) ∧ ((y274).toInt = (0 : Int)) ∧ y279 = i0) ∨ (((a).toInt = (y3).toInt) ∧ (¬ ((y274).toInt = (0 : Int))) ∧ y279 = i1))) (D309 : (((¬ ((y3).toInt = (a).toInt)) ∧ y308 = i0) ∨ (((y3).toInt = (a).toInt) ∧ y308 = i0))) (t_c1_24 : (¬ ((la5).toInt = (0 : Int)))) (t_c17_25 : (¬ ((la5).toInt = (1 : Int)))) (t_c1_66 : ((y14).toInt = (0 : Int))) (t_c248_310 : (¬ ((y308).toInt = (y279).toInt))) (hv_la5 : own_L la5) (hv_y14 : own_L y14) : False := by
  have k0 : i0.toInt = 0 := by decide
  have k1 : i1.toInt = 1 := by decide
  unfold own_L at hv_la5 hv_y14
  rcases D309 with ⟨u1, rfl⟩ | ⟨u2, rfl⟩ <;> rcases D280 with ⟨u3, rfl⟩ | ⟨u4, u5, rfl⟩ | ⟨u6, u7, rfl⟩ <;> rcases D275 with ⟨u8, rfl⟩ | ⟨u9, u10, u11, rfl⟩ | ⟨u12, u13, u14, u15, rfl⟩ | ⟨u16, u17, u18, u19, rfl⟩ | ⟨u20, u21, u22, rfl⟩ | ⟨u23, u24, u25, u26, rfl⟩ | ⟨u27, u28, u29, u30, u31, rfl⟩ | ⟨u32, u33, u34, u35, u36, rfl⟩ <;> omega
theorem own_lf6 {a : Int64} {y3 : Int64} {la5 : Int32} {ca6 : Int32} {cb7 : Int32} {y14 : Int32} {y18 : Int32} {y22 : Int32} {y378 : Int32} {y383 : Int32} {y397 : Int32} (D379 : (((¬ ((la5).toInt = (y14).toInt)) ∧ y378 = i0) ∨ (((la5).toInt = (y14).toInt) ∧ ((la5).toInt < (1 : Int)) ∧ ((la5).toInt < (2 : Int)) ∧ y378 = i1) ∨ (((la5).toInt = (y14).toInt) ∧ ((la5).toInt < (1 : Int)) ∧ (¬ ((la5).toInt < (2 : Int))) ∧ (¬ ((cb7).toInt = (y22).toInt)) ∧ y378 = i0) ∨ (((la5).toInt = (y14).toInt) ∧ ((la5).toInt < (1 : Int)) ∧ (¬ ((la5).toInt < (2 : Int))) ∧ ((cb7).toInt = (y22).toInt) ∧ y378 = i1) ∨ (((la5).toInt = (y14).toInt) ∧ (¬ ((la5).toInt < (1 : Int))) ∧ (¬ ((ca6).toInt = (y18).toInt)) ∧ y378 = i0) ∨ (((la5).toInt = (y14).toInt) ∧ (¬ ((la5).toInt < (1 : Int))) ∧ ((ca6).toInt = (y18).toInt) ∧ ((la5).toInt < (2 : Int)) ∧ y378 = i1) ∨ (((la5).toInt = (y14).toInt) ∧ (¬ ((la5).toInt < (1 : Int))) ∧ ((ca6).toInt = (y18).toInt) ∧ (¬ ((la5).toInt < (2 : Int))) ∧ (¬ ((cb7).toInt = (y22).toInt)) ∧ y378 = i0) ∨ (((la5).toInt = (y14).toInt) ∧ (¬ ((la5).toInt < (1 : Int))) ∧ ((ca6).toInt = (y18).toInt) ∧ (¬ ((la5).toInt < (2 : Int))) ∧ ((cb7).toInt = (y22).toInt) ∧ y378 = i1))) (D384 : (((¬ ((a).toInt = (y3).toInt)) ∧ y383 = i0) ∨ (((a).toInt = (y3).toInt) ∧ ((y378).toInt = (0 : Int)) ∧ y383 = i0) ∨ (((a).toInt = (y3).toInt) ∧ (¬ ((y378).toInt = (0 : Int))) ∧ y383 = i1))) (D398 : (((¬ ((a).toInt = (y3).toInt)) ∧ y397 = i0) ∨ (((a).toInt = (y3).toInt) ∧ y397 = i0))) (t_c1_24 : (¬ ((la5).toInt = (0 : Int)))) (t_c17_25 : ((la5).toInt = (1 : Int))) (t_c1_66 : (¬ ((y14).toInt = (0 : Int)))) (t_c17_67 : (¬ ((y14).toInt = (1 : Int)))) (t_c236_399 : (¬ ((y397).toInt = (y383).toInt))) (hv_la5 : own_L la5) (hv_y14 : own_L y14) : False := by
  have k0 : i0.toInt = 0 := by decide
  have k1 : i1.toInt = 1 := by decide
  unfold own_L at hv_la5 hv_y14
  rcases D398 with ⟨u1, rfl⟩ | ⟨u2, rfl⟩ <;> rcases D384 with ⟨u3, rfl⟩ | ⟨u4, u5, rfl⟩ | ⟨u6, u7, rfl⟩ <;> rcases D379 with ⟨u8, rfl⟩ | ⟨u9, u10, u11, rfl⟩ | ⟨u12, u13, u14, u15, rfl⟩ | ⟨u16, u17, u18, u19, rfl⟩ | ⟨u20, u21, u22, rfl⟩ | ⟨u23, u24, u25, u26, rfl⟩ | ⟨u27, u28, u29, u30, u31, rfl⟩ | ⟨u32, u33, u34, u35, u36, rfl⟩ <;> omega
theorem own_lf7 {a : Int64} {y3 : Int64} {la5 : Int32} {ca6 : Int32} {cb7 : Int32} {y14 : Int32} {y18 : Int32} {y22 : Int32} {y378 : Int32} {y383 : Int32} {y412 : Int32} (D379 : (((¬ ((la5).toInt = (y14).toInt)) ∧ y378 = i0) ∨ (((la5).toInt = (y14).toInt) ∧ ((la5).toInt < (1 : Int)) ∧ ((la5).toInt < (2 : Int)) ∧ y378 = i1) ∨ (((la5).toInt = (y14).toInt) ∧ ((la5).toInt < (1 : Int)) ∧ (¬ ((la5).toInt < (2 : Int))) ∧ (¬ ((cb7).toInt = (y22).toInt)) ∧ y378 = i0) ∨ (((la5).toInt = (y14).toInt) ∧ ((la5).toInt < (1 : Int)) ∧ (¬ ((la5).toInt < (2 : Int))) ∧ ((cb7).toInt = (y22).toInt) ∧ y378 = i1) ∨ (((la5).toInt = (y14).toInt) ∧ (¬ ((la5).toInt < (1 : Int))) ∧ (¬ ((ca6).toInt = (y18).toInt)) ∧ y378 = i0) ∨ (((la5).toInt = (y14).toInt) ∧ (¬ ((la5).toInt < (1 : Int))) ∧ ((ca6).toInt = (y18).toInt) ∧ ((la5).toInt < (2 : Int)) ∧ y378 = i1) ∨ (((la5).toInt = (y14).toInt) ∧ (¬ ((la5).toInt < (1 : Int))) ∧ ((ca6).toInt = (y18).toInt) ∧ (¬ ((la5).toInt < (2 : Int))) ∧ (¬ ((cb7).toInt = (y22).toInt)) ∧ y378 = i0) ∨ (((la5).toInt = (y14).toInt) ∧ (¬ ((la5).toInt < (1 : Int))) ∧ ((ca6).toInt = (y18).toInt) ∧ (¬ ((la5).toInt < (2 : Int))) ∧ ((cb7).toInt = (y22).toInt) ∧ y378 = i1))) (D384 : (((¬ ((a).toInt = (y3).toInt)) ∧ y383 = i0) ∨ (((a).toInt = (y3).toInt) ∧ ((y378).toInt = (0 : Int)) ∧ y383 = i0) ∨ (((a).toInt = (y3).toInt) ∧ (¬ ((y378).toInt = (0 : Int))) ∧ y383 = i1))) (D413 : (((¬ ((y3).toInt = (a).toInt)) ∧ y412 = i0) ∨ (((y3).toInt = (a).toInt) ∧ y412 = i0))) (t_c1_24 : (¬ ((la5).toInt = (0 : Int)))) (t_c17_25 : ((la5).toInt = (1 : Int))) (t_c1_66 : (¬ ((y14).toInt = (0 : Int)))) (t_c17_67 : (¬ ((y14).toInt = (1 : Int)))) (t_c248_414 : (¬ ((y412).toInt = (y383).toInt))) (hv_la5 : own_L la5) (hv_y14 : own_L y14) : False := by
  have k0 : i0.toInt = 0 := by decide
  have k1 : i1.toInt = 1 := by decide
  unfold own_L at hv_la5 hv_y14
  rcases D413 with ⟨u1, rfl⟩ | ⟨u2, rfl⟩ <;> rcases D384 with ⟨u3, rfl⟩ | ⟨u4, u5, rfl⟩ | ⟨u6, u7, rfl⟩ <;> rcases D379 with ⟨u8, rfl⟩ | ⟨u9, u10, u11, rfl⟩ | ⟨u12, u13, u14, u15, rfl⟩ | ⟨u16, u17, u18, u19, rfl⟩ | ⟨u20, u21, u22, rfl⟩ | ⟨u23, u24, u25, u26, rfl⟩ | ⟨u27, u28, u29, u30, u31, rfl⟩ | ⟨u32, u33, u34, u35, u36, rfl⟩ <;> omega
theorem own_lf8 {a : Int64} {y3 : Int64} {la5 : Int32} {ca6 : Int32} {cb7 : Int32} {y14 : Int32} {y18 : Int32} {y22 : Int32} {y440 : Int32} {y445 : Int32} {y472 : Int32} (D441 : (((¬ ((la5).toInt = (y14).toInt)) ∧ y440 = i0) ∨ (((la5).toInt = (y14).toInt) ∧ ((la5).toInt < (1 : Int)) ∧ ((la5).toInt < (2 : Int)) ∧ y440 = i1) ∨ (((la5).toInt = (y14).toInt) ∧ ((la5).toInt < (1 : Int)) ∧ (¬ ((la5).toInt < (2 : Int))) ∧ (¬ ((cb7).toInt = (y22).toInt)) ∧ y440 = i0) ∨ (((la5).toInt = (y14).toInt) ∧ ((la5).toInt < (1 : Int)) ∧ (¬ ((la5).toInt < (2 : Int))) ∧ ((cb7).toInt = (y22).toInt) ∧ y440 = i1) ∨ (((la5).toInt = (y14).toInt) ∧ (¬ ((la5).toInt < (1 : Int))) ∧ (¬ ((ca6).toInt = (y18).toInt)) ∧ y440 = i0) ∨ (((la5).toInt = (y14).toInt) ∧ (¬ ((la5).toInt < (1 : Int))) ∧ ((ca6).toInt = (y18).toInt) ∧ ((la5).toInt < (2 : Int)) ∧ y440 = i1) ∨ (((la5).toInt = (y14).toInt) ∧ (¬ ((la5).toInt < (1 : Int))) ∧ ((ca6).toInt = (y18).toInt) ∧ (¬ ((la5).toInt < (2 : Int))) ∧ (¬ ((cb7).toInt = (y22).toInt)) ∧ y440 = i0) ∨ (((la5).toInt = (y14).toInt) ∧ (¬ ((la5).toInt < (1 : Int))) ∧ ((ca6).toInt = (y18).toInt) ∧ (¬ ((la5).toInt < (2 : Int))) ∧ ((cb7).toInt = (y22).toInt) ∧ y440 = i1))) (D446 : (((¬ ((a).toInt = (y3).toInt)) ∧ y445 = i0) ∨ (((a).toInt = (y3).toInt) ∧ ((y440).toInt = (0 : Int)) ∧ y445 = i0) ∨ (((a).toInt = (y3).toInt) ∧ (¬ ((y440).toInt = (0 : Int))) ∧ y445 = i1))) (D473 : ((y472 = i1 ∧ (((a).toInt = (y3).toInt) ∧ (((((bv ca6)).toInt = ((bv y18)).toInt))))) ∨ (y472 = i0 ∧ ¬ (((a).toInt = (y3).toInt) ∧ (((((bv ca6)).toInt = ((bv y18)).toInt))))))) (t_c1_24 : (¬ ((la5).toInt = (0 : Int)))) (t_c17_25 : ((la5).toInt = (1 : Int))) (t_c1_66 : (¬ ((y14).toInt = (0 : Int)))) (t_c17_67 : ((y14).toInt = (1 : Int))) (t_c236_474 : (¬ ((y472).toInt = (y445).toInt))) (hv_ca6 : own_B ca6) (hv_y18 : own_B y18) (hv_la5 : own_L la5) (hv_y14 : own_L y14) : False := by
  have k0 : i0.toInt = 0 := by decide
  have k1 : i1.toInt = 1 := by decide
  have b0 := own_bv hv_ca6 hv_y18
  have e0 := own_bv2 (x := ca6) (y := y18)
  unfold own_L at hv_la5 hv_y14
  rcases D473 with ⟨rfl, ⟨u1, u2⟩⟩ | ⟨rfl, u3⟩ <;> rcases D446 with ⟨u4, rfl⟩ | ⟨u5, u6, rfl⟩ | ⟨u7, u8, rfl⟩ <;> rcases D441 with ⟨u9, rfl⟩ | ⟨u10, u11, u12, rfl⟩ | ⟨u13, u14, u15, u16, rfl⟩ | ⟨u17, u18, u19, u20, rfl⟩ | ⟨u21, u22, u23, rfl⟩ | ⟨u24, u25, u26, u27, rfl⟩ | ⟨u28, u29, u30, u31, u32, rfl⟩ | ⟨u33, u34, u35, u36, u37, rfl⟩ <;> omega
theorem own_lf9 {a : Int64} {y3 : Int64} {la5 : Int32} {ca6 : Int32} {cb7 : Int32} {y14 : Int32} {y18 : Int32} {y22 : Int32} {y440 : Int32} {y445 : Int32} {y500 : Int32} (D441 : (((¬ ((la5).toInt = (y14).toInt)) ∧ y440 = i0) ∨ (((la5).toInt = (y14).toInt) ∧ ((la5).toInt < (1 : Int)) ∧ ((la5).toInt < (2 : Int)) ∧ y440 = i1) ∨ (((la5).toInt = (y14).toInt) ∧ ((la5).toInt < (1 : Int)) ∧ (¬ ((la5).toInt < (2 : Int))) ∧ (¬ ((cb7).toInt = (y22).toInt)) ∧ y440 = i0) ∨ (((la5).toInt = (y14).toInt) ∧ ((la5).toInt < (1 : Int)) ∧ (¬ ((la5).toInt < (2 : Int))) ∧ ((cb7).toInt = (y22).toInt) ∧ y440 = i1) ∨ (((la5).toInt = (y14).toInt) ∧ (¬ ((la5).toInt < (1 : Int))) ∧ (¬ ((ca6).toInt = (y18).toInt)) ∧ y440 = i0) ∨ (((la5).toInt = (y14).toInt) ∧ (¬ ((la5).toInt < (1 : Int))) ∧ ((ca6).toInt = (y18).toInt) ∧ ((la5).toInt < (2 : Int)) ∧ y440 = i1) ∨ (((la5).toInt = (y14).toInt) ∧ (¬ ((la5).toInt < (1 : Int))) ∧ ((ca6).toInt = (y18).toInt) ∧ (¬ ((la5).toInt < (2 : Int))) ∧ (¬ ((cb7).toInt = (y22).toInt)) ∧ y440 = i0) ∨ (((la5).toInt = (y14).toInt) ∧ (¬ ((la5).toInt < (1 : Int))) ∧ ((ca6).toInt = (y18).toInt) ∧ (¬ ((la5).toInt < (2 : Int))) ∧ ((cb7).toInt = (y22).toInt) ∧ y440 = i1))) (D446 : (((¬ ((a).toInt = (y3).toInt)) ∧ y445 = i0) ∨ (((a).toInt = (y3).toInt) ∧ ((y440).toInt = (0 : Int)) ∧ y445 = i0) ∨ (((a).toInt = (y3).toInt) ∧ (¬ ((y440).toInt = (0 : Int))) ∧ y445 = i1))) (D501 : ((y500 = i1 ∧ (((y3).toInt = (a).toInt) ∧ (((((bv y18)).toInt = ((bv ca6)).toInt))))) ∨ (y500 = i0 ∧ ¬ (((y3).toInt = (a).toInt) ∧ (((((bv y18)).toInt = ((bv ca6)).toInt))))))) (t_c1_24 : (¬ ((la5).toInt = (0 : Int)))) (t_c17_25 : ((la5).toInt = (1 : Int))) (t_c1_66 : (¬ ((y14).toInt = (0 : Int)))) (t_c17_67 : ((y14).toInt = (1 : Int))) (t_c248_502 : (¬ ((y500).toInt = (y445).toInt))) (hv_y18 : own_B y18) (hv_ca6 : own_B ca6) (hv_la5 : own_L la5) (hv_y14 : own_L y14) : False := by
  have k0 : i0.toInt = 0 := by decide
  have k1 : i1.toInt = 1 := by decide
  have b0 := own_bv hv_y18 hv_ca6
  have e0 := own_bv2 (x := y18) (y := ca6)
  unfold own_L at hv_la5 hv_y14
  rcases D501 with ⟨rfl, ⟨u1, u2⟩⟩ | ⟨rfl, u3⟩ <;> rcases D446 with ⟨u4, rfl⟩ | ⟨u5, u6, rfl⟩ | ⟨u7, u8, rfl⟩ <;> rcases D441 with ⟨u9, rfl⟩ | ⟨u10, u11, u12, rfl⟩ | ⟨u13, u14, u15, u16, rfl⟩ | ⟨u17, u18, u19, u20, rfl⟩ | ⟨u21, u22, u23, rfl⟩ | ⟨u24, u25, u26, u27, rfl⟩ | ⟨u28, u29, u30, u31, u32, rfl⟩ | ⟨u33, u34, u35, u36, u37, rfl⟩ <;> omega
theorem own_lf10 {a : Int64} {y3 : Int64} {la5 : Int32} {ca6 : Int32} {cb7 : Int32} {y14 : Int32} {y18 : Int32} {y22 : Int32} {y528 : Int32} {y533 : Int32} {y547 : Int32} (D529 : (((¬ ((la5).toInt = (y14).toInt)) ∧ y528 = i0) ∨ (((la5).toInt = (y14).toInt) ∧ ((la5).toInt < (1 : Int)) ∧ ((la5).toInt < (2 : Int)) ∧ y528 = i1) ∨ (((la5).toInt = (y14).toInt) ∧ ((la5).toInt < (1 : Int)) ∧ (¬ ((la5).toInt < (2 : Int))) ∧ (¬ ((cb7).toInt = (y22).toInt)) ∧ y528 = i0) ∨ (((la5).toInt = (y14).toInt) ∧ ((la5).toInt < (1 : Int)) ∧ (¬ ((la5).toInt < (2 : Int))) ∧ ((cb7).toInt = (y22).toInt) ∧ y528 = i1) ∨ (((la5).toInt = (y14).toInt) ∧ (¬ ((la5).toInt < (1 : Int))) ∧ (¬ ((ca6).toInt = (y18).toInt)) ∧ y528 = i0) ∨ (((la5).toInt = (y14).toInt) ∧ (¬ ((la5).toInt < (1 : Int))) ∧ ((ca6).toInt = (y18).toInt) ∧ ((la5).toInt < (2 : Int)) ∧ y528 = i1) ∨ (((la5).toInt = (y14).toInt) ∧ (¬ ((la5).toInt < (1 : Int))) ∧ ((ca6).toInt = (y18).toInt) ∧ (¬ ((la5).toInt < (2 : Int))) ∧ (¬ ((cb7).toInt = (y22).toInt)) ∧ y528 = i0) ∨ (((la5).toInt = (y14).toInt) ∧ (¬ ((la5).toInt < (1 : Int))) ∧ ((ca6).toInt = (y18).toInt) ∧ (¬ ((la5).toInt < (2 : Int))) ∧ ((cb7).toInt = (y22).toInt) ∧ y528 = i1))) (D534 : (((¬ ((a).toInt = (y3).toInt)) ∧ y533 = i0) ∨ (((a).toInt = (y3).toInt) ∧ ((y528).toInt = (0 : Int)) ∧ y533 = i0) ∨ (((a).toInt = (y3).toInt) ∧ (¬ ((y528).toInt = (0 : Int))) ∧ y533 = i1))) (D548 : (((¬ ((a).toInt = (y3).toInt)) ∧ y547 = i0) ∨ (((a).toInt = (y3).toInt) ∧ y547 = i0))) (t_c1_24 : (¬ ((la5).toInt = (0 : Int)))) (t_c17_25 : ((la5).toInt = (1 : Int))) (t_c1_66 : ((y14).toInt = (0 : Int))) (t_c236_549 : (¬ ((y547).toInt = (y533).toInt))) (hv_la5 : own_L la5) (hv_y14 : own_L y14) : False := by
  have k0 : i0.toInt = 0 := by decide
  have k1 : i1.toInt = 1 := by decide
  unfold own_L at hv_la5 hv_y14
  rcases D548 with ⟨u1, rfl⟩ | ⟨u2, rfl⟩ <;> rcases D534 with ⟨u3, rfl⟩ | ⟨u4, u5, rfl⟩ | ⟨u6, u7, rfl⟩ <;> rcases D529 with ⟨u8, rfl⟩ | ⟨u9, u10, u11, rfl⟩ | ⟨u12, u13, u14, u15, rfl⟩ | ⟨u16, u17, u18, u19, rfl⟩ | ⟨u20, u21, u22, rfl⟩ | ⟨u23, u24, u25, u26, rfl⟩ | ⟨u27, u28, u29, u30, u31, rfl⟩ | ⟨u32, u33, u34, u35, u36, rfl⟩ <;> omega
theorem own_lf11 {a : Int64} {y3 : Int64} {la5 : Int32} {ca6 : Int32} {cb7 : Int32} {y14 : Int32} {y18 : Int32} {y22 : Int32} {y528 : Int32} {y533 : Int32} {y562 : Int32} (D529 : (((¬ ((la5).toInt = (y14).toInt)) ∧ y528 = i0) ∨ (((la5).toInt = (y14).toInt) ∧ ((la5).toInt < (1 : Int)) ∧ ((la5).toInt < (2 : Int)) ∧ y528 = i1) ∨ (((la5).toInt = (y14).toInt) ∧ ((la5).toInt < (1 : Int)) ∧ (¬ ((la5).toInt < (2 : Int))) ∧ (¬ ((cb7).toInt = (y22).toInt)) ∧ y528 = i0) ∨ (((la5).toInt = (y14).toInt) ∧ ((la5).toInt < (1 : Int)) ∧ (¬ ((la5).toInt < (2 : Int))) ∧ ((cb7).toInt = (y22).toInt) ∧ y528 = i1) ∨ (((la5).toInt = (y14).toInt) ∧ (¬ ((la5).toInt < (1 : Int))) ∧ (¬ ((ca6).toInt = (y18).toInt)) ∧ y528 = i0) ∨ (((la5).toInt = (y14).toInt) ∧ (¬ ((la5).toInt < (1 : Int))) ∧ ((ca6).toInt = (y18).toInt) ∧ ((la5).toInt < (2 : Int)) ∧ y528 = i1) ∨ (((la5).toInt = (y14).toInt) ∧ (¬ ((la5).toInt < (1 : Int))) ∧ ((ca6).toInt = (y18).toInt) ∧ (¬ ((la5).toInt < (2 : Int))) ∧ (¬ ((cb7).toInt = (y22).toInt)) ∧ y528 = i0) ∨ (((la5).toInt = (y14).toInt) ∧ (¬ ((la5).toInt < (1 : Int))) ∧ ((ca6).toInt = (y18).toInt) ∧ (¬ ((la5).toInt < (2 : Int))) ∧ ((cb7).toInt = (y22).toInt) ∧ y528 = i1))) (D534 : (((¬ ((a).toInt = (y3).toInt)) ∧ y533 = i0) ∨ (((a).toInt = (y3).toInt) ∧ ((y528).toInt = (0 : Int)) ∧ y533 = i0) ∨ (((a).toInt = (y3).toInt) ∧ (¬ ((y528).toInt = (0 : Int))) ∧ y533 = i1))) (D563 : (((¬ ((y3).toInt = (a).toInt)) ∧ y562 = i0) ∨ (((y3).toInt = (a).toInt) ∧ y562 = i0))) (t_c1_24 : (¬ ((la5).toInt = (0 : Int)))) (t_c17_25 : ((la5).toInt = (1 : Int))) (t_c1_66 : ((y14).toInt = (0 : Int))) (t_c248_564 : (¬ ((y562).toInt = (y533).toInt))) (hv_la5 : own_L la5) (hv_y14 : own_L y14) : False := by
  have k0 : i0.toInt = 0 := by decide
  have k1 : i1.toInt = 1 := by decide
  unfold own_L at hv_la5 hv_y14
  rcases D563 with ⟨u1, rfl⟩ | ⟨u2, rfl⟩ <;> rcases D534 with ⟨u3, rfl⟩ | ⟨u4, u5, rfl⟩ | ⟨u6, u7, rfl⟩ <;> rcases D529 with ⟨u8, rfl⟩ | ⟨u9, u10, u11, rfl⟩ | ⟨u12, u13, u14, u15, rfl⟩ | ⟨u16, u17, u18, u19, rfl⟩ | ⟨u20, u21, u22, rfl⟩ | ⟨u23, u24, u25, u26, rfl⟩ | ⟨u27, u28, u29, u30, u31, rfl⟩ | ⟨u32, u33, u34, u35, u36, rfl⟩ <;> omega
theorem own_lf12 {a : Int64} {y3 : Int64} {la5 : Int32} {ca6 : Int32} {cb7 : Int32} {y14 : Int32} {y18 : Int32} {y22 : Int32} {y632 : Int32} {y637 : Int32} {y651 : Int32} (D633 : (((¬ ((la5).toInt = (y14).toInt)) ∧ y632 = i0) ∨ (((la5).toInt = (y14).toInt) ∧ ((la5).toInt < (1 : Int)) ∧ ((la5).toInt < (2 : Int)) ∧ y632 = i1) ∨ (((la5).toInt = (y14).toInt) ∧ ((la5).toInt < (1 : Int)) ∧ (¬ ((la5).toInt < (2 : Int))) ∧ (¬ ((cb7).toInt = (y22).toInt)) ∧ y632 = i0) ∨ (((la5).toInt = (y14).toInt) ∧ ((la5).toInt < (1 : Int)) ∧ (¬ ((la5).toInt < (2 : Int))) ∧ ((cb7).toInt = (y22).toInt) ∧ y632 = i1) ∨ (((la5).toInt = (y14).toInt) ∧ (¬ ((la5).toInt < (1 : Int))) ∧ (¬ ((ca6).toInt = (y18).toInt)) ∧ y632 = i0) ∨ (((la5).toInt = (y14).toInt) ∧ (¬ ((la5).toInt < (1 : Int))) ∧ ((ca6).toInt = (y18).toInt) ∧ ((la5).toInt < (2 : Int)) ∧ y632 = i1) ∨ (((la5).toInt = (y14).toInt) ∧ (¬ ((la5).toInt < (1 : Int))) ∧ ((ca6).toInt = (y18).toInt) ∧ (¬ ((la5).toInt < (2 : Int))) ∧ (¬ ((cb7).toInt = (y22).toInt)) ∧ y632 = i0) ∨ (((la5).toInt = (y14).toInt) ∧ (¬ ((la5).toInt < (1 : Int))) ∧ ((ca6).toInt = (y18).toInt) ∧ (¬ ((la5).toInt < (2 : Int))) ∧ ((cb7).toInt = (y22).toInt) ∧ y632 = i1))) (D638 : (((¬ ((a).toInt = (y3).toInt)) ∧ y637 = i0) ∨ (((a).toInt = (y3).toInt) ∧ ((y632).toInt = (0 : Int)) ∧ y637 = i0) ∨ (((a).toInt = (y3).toInt) ∧ (¬ ((y632).toInt = (0 : Int))) ∧ y637 = i1))) (D652 : (((¬ ((a).toInt = (y3).toInt)) ∧ y651 = i0) ∨ (((a).toInt = (y3).toInt) ∧ y651 = i0))) (t_c1_24 : ((la5).toInt = (0 : Int))) (t_c1_66 : (¬ ((y14).toInt = (0 : Int)))) (t_c17_67 : (¬ ((y14).toInt = (1 : Int)))) (t_c236_653 : (¬ ((y651).toInt = (y637).toInt))) (hv_la5 : own_L la5) (hv_y14 : own_L y14) : False := by
  have k0 : i0.toInt = 0 := by decide
  have k1 : i1.toInt = 1 := by decide
  unfold own_L at hv_la5 hv_y14
  rcases D652 with ⟨u1, rfl⟩ | ⟨u2, rfl⟩ <;> rcases D638 with ⟨u3, rfl⟩ | ⟨u4, u5, rfl⟩ | ⟨u6, u7, rfl⟩ <;> rcases D633 with ⟨u8, rfl⟩ | ⟨u9, u10, u11, rfl⟩ | ⟨u12, u13, u14, u15, rfl⟩ | ⟨u16, u17, u18, u19, rfl⟩ | ⟨u20, u21, u22, rfl⟩ | ⟨u23, u24, u25, u26, rfl⟩ | ⟨u27, u28, u29, u30, u31, rfl⟩ | ⟨u32, u33, u34, u35, u36, rfl⟩ <;> omega
theorem own_lf13 {a : Int64} {y3 : Int64} {la5 : Int32} {ca6 : Int32} {cb7 : Int32} {y14 : Int32} {y18 : Int32} {y22 : Int32} {y632 : Int32} {y637 : Int32} {y666 : Int32} (D633 : (((¬ ((la5).toInt = (y14).toInt)) ∧ y632 = i0) ∨ (((la5).toInt = (y14).toInt) ∧ ((la5).toInt < (1 : Int)) ∧ ((la5).toInt < (2 : Int)) ∧ y632 = i1) ∨ (((la5).toInt = (y14).toInt) ∧ ((la5).toInt < (1 : Int)) ∧ (¬ ((la5).toInt < (2 : Int))) ∧ (¬ ((cb7).toInt = (y22).toInt)) ∧ y632 = i0) ∨ (((la5).toInt = (y14).toInt) ∧ ((la5).toInt < (1 : Int)) ∧ (¬ ((la5).toInt < (2 : Int))) ∧ ((cb7).toInt = (y22).toInt) ∧ y632 = i1) ∨ (((la5).toInt = (y14).toInt) ∧ (¬ ((la5).toInt < (1 : Int))) ∧ (¬ ((ca6).toInt = (y18).toInt)) ∧ y632 = i0) ∨ (((la5).toInt = (y14).toInt) ∧ (¬ ((la5).toInt < (1 : Int))) ∧ ((ca6).toInt = (y18).toInt) ∧ ((la5).toInt < (2 : Int)) ∧ y632 = i1) ∨ (((la5).toInt = (y14).toInt) ∧ (¬ ((la5).toInt < (1 : Int))) ∧ ((ca6).toInt = (y18).toInt) ∧ (¬ ((la5).toInt < (2 : Int))) ∧ (¬ ((cb7).toInt = (y22).toInt)) ∧ y632 = i0) ∨ (((la5).toInt = (y14).toInt) ∧ (¬ ((la5).toInt < (1 : Int))) ∧ ((ca6).toInt = (y18).toInt) ∧ (¬ ((la5).toInt < (2 : Int))) ∧ ((cb7).toInt = (y22).toInt) ∧ y632 = i1))) (D638 : (((¬ ((a).toInt = (y3).toInt)) ∧ y637 = i0) ∨ (((a).toInt = (y3).toInt) ∧ ((y632).toInt = (0 : Int)) ∧ y637 = i0) ∨ (((a).toInt = (y3).toInt) ∧ (¬ ((y632).toInt = (0 : Int))) ∧ y637 = i1))) (D667 : (((¬ ((y3).toInt = (a).toInt)) ∧ y666 = i0) ∨ (((y3).toInt = (a).toInt) ∧ y666 = i0))) (t_c1_24 : ((la5).toInt = (0 : Int))) (t_c1_66 : (¬ ((y14).toInt = (0 : Int)))) (t_c17_67 : (¬ ((y14).toInt = (1 : Int)))) (t_c248_668 : (¬ ((y666).toInt = (y637).toInt))) (hv_la5 : own_L la5) (hv_y14 : own_L y14) : False := by
  have k0 : i0.toInt = 0 := by decide
  have k1 : i1.toInt = 1 := by decide
  unfold own_L at hv_la5 hv_y14
  rcases D667 with ⟨u1, rfl⟩ | ⟨u2, rfl⟩ <;> rcases D638 with ⟨u3, rfl⟩ | ⟨u4, u5, rfl⟩ | ⟨u6, u7, rfl⟩ <;> rcases D633 with ⟨u8, rfl⟩ | ⟨u9, u10, u11, rfl⟩ | ⟨u12, u13, u14, u15, rfl⟩ | ⟨u16, u17, u18, u19, rfl⟩ | ⟨u20, u21, u22, rfl⟩ | ⟨u23, u24, u25, u26, rfl⟩ | ⟨u27, u28, u29, u30, u31, rfl⟩ | ⟨u32, u33, u34, u35, u36, rfl⟩ <;> omega
theorem own_lf14 {a : Int64} {y3 : Int64} {la5 : Int32} {ca6 : Int32} {cb7 : Int32} {y14 : Int32} {y18 : Int32} {y22 : Int32} {y694 : Int32} {y699 : Int32} {y713 : Int32} (D695 : (((¬ ((la5).toInt = (y14).toInt)) ∧ y694 = i0) ∨ (((la5).toInt = (y14).toInt) ∧ ((la5).toInt < (1 : Int)) ∧ ((la5).toInt < (2 : Int)) ∧ y694 = i1) ∨ (((la5).toInt = (y14).toInt) ∧ ((la5).toInt < (1 : Int)) ∧ (¬ ((la5).toInt < (2 : Int))) ∧ (¬ ((cb7).toInt = (y22).toInt)) ∧ y694 = i0) ∨ (((la5).toInt = (y14).toInt) ∧ ((la5).toInt < (1 : Int)) ∧ (¬ ((la5).toInt < (2 : Int))) ∧ ((cb7).toInt = (y22).toInt) ∧ y694 = i1) ∨ (((la5).toInt = (y14).toInt) ∧ (¬ ((la5).toInt < (1 : Int))) ∧ (¬ ((ca6).toInt = (y18).toInt)) ∧ y694 = i0) ∨ (((la5).toInt = (y14).toInt) ∧ (¬ ((la5).toInt < (1 : Int))) ∧ ((ca6).toInt = (y18).toInt) ∧ ((la5).toInt < (2 : Int)) ∧ y694 = i1) ∨ (((la5).toInt = (y14).toInt) ∧ (¬ ((la5).toInt < (1 : Int))) ∧ ((ca6).toInt = (y18).toInt) ∧ (¬ ((la5).toInt < (2 : Int))) ∧ (¬ ((cb7).toInt = (y22).toInt)) ∧ y694 = i0) ∨ (((la5).toInt = (y14).toInt) ∧ (¬ ((la5).toInt < (1 : Int))) ∧ ((ca6).toInt = (y18).toInt) ∧ (¬ ((la5).toInt < (2 : Int))) ∧ ((cb7).toInt = (y22).toInt) ∧ y694 = i1))) (D700 : (((¬ ((a).toInt = (y3).toInt)) ∧ y699 = i0) ∨ (((a).toInt = (y3).toInt) ∧ ((y694).toInt = (0 : Int)) ∧ y699 = i0) ∨ (((a).toInt = (y3).toInt) ∧ (¬ ((y694).toInt = (0 : Int))) ∧ y699 = i1))) (D714 : (((¬ ((a).toInt = (y3).toInt)) ∧ y713 = i0) ∨ (((a).toInt = (y3).toInt) ∧ y713 = i0))) (t_c1_24 : ((la5).toInt = (0 : Int))) (t_c1_66 : (¬ ((y14).toInt = (0 : Int)))) (t_c17_67 : ((y14).toInt = (1 : Int))) (t_c236_715 : (¬ ((y713).toInt = (y699).toInt))) (hv_la5 : own_L la5) (hv_y14 : own_L y14) : False := by
  have k0 : i0.toInt = 0 := by decide
  have k1 : i1.toInt = 1 := by decide
  unfold own_L at hv_la5 hv_y14
  rcases D714 with ⟨u1, rfl⟩ | ⟨u2, rfl⟩ <;> rcases D700 with ⟨u3, rfl⟩ | ⟨u4, u5, rfl⟩ | ⟨u6, u7, rfl⟩ <;> rcases D695 with ⟨u8, rfl⟩ | ⟨u9, u10, u11, rfl⟩ | ⟨u12, u13, u14, u15, rfl⟩ | ⟨u16, u17, u18, u19, rfl⟩ | ⟨u20, u21, u22, rfl⟩ | ⟨u23, u24, u25, u26, rfl⟩ | ⟨u27, u28, u29, u30, u31, rfl⟩ | ⟨u32, u33, u34, u35, u36, rfl⟩ <;> omega
theorem own_lf15 {a : Int64} {y3 : Int64} {la5 : Int32} {ca6 : Int32} {cb7 : Int32} {y14 : Int32} {y18 : Int32} {y22 : Int32} {y694 : Int32} {y699 : Int32} {y728 : Int32} (D695 : (((¬ ((la5).toInt = (y14).toInt)) ∧ y694 = i0) ∨ (((la5).toInt = (y14).toInt) ∧ ((la5).toInt < (1 : Int)) ∧ ((la5).toInt < (2 : Int)) ∧ y694 = i1) ∨ (((la5).toInt = (y14).toInt) ∧ ((la5).toInt < (1 : Int)) ∧ (¬ ((la5).toInt < (2 : Int))) ∧ (¬ ((cb7).toInt = (y22).toInt)) ∧ y694 = i0) ∨ (((la5).toInt = (y14).toInt) ∧ ((la5).toInt < (1 : Int)) ∧ (¬ ((la5).toInt < (2 : Int))) ∧ ((cb7).toInt = (y22).toInt) ∧ y694 = i1) ∨ (((la5).toInt = (y14).toInt) ∧ (¬ ((la5).toInt < (1 : Int))) ∧ (¬ ((ca6).toInt = (y18).toInt)) ∧ y694 = i0) ∨ (((la5).toInt = (y14).toInt) ∧ (¬ ((la5).toInt < (1 : Int))) ∧ ((ca6).toInt = (y18).toInt) ∧ ((la5).toInt < (2 : Int)) ∧ y694 = i1) ∨ (((la5).toInt = (y14).toInt) ∧ (¬ ((la5).toInt < (1 : Int))) ∧ ((ca6).toInt = (y18).toInt) ∧ (¬ ((la5).toInt < (2 : Int))) ∧ (¬ ((cb7).toInt = (y22).toInt)) ∧ y694 = i0) ∨ (((la5).toInt = (y14).toInt) ∧ (¬ ((la5).toInt < (1 : Int))) ∧ ((ca6).toInt = (y18).toInt) ∧ (¬ ((la5).toInt < (2 : Int))) ∧ ((cb7).toInt = (y22).toInt) ∧ y694 = i1))) (D700 : (((¬ ((a).toInt = (y3).toInt)) ∧ y699 = i0) ∨ (((a).toInt = (y3).toInt) ∧ ((y694).toInt = (0 : Int)) ∧ y699 = i0) ∨ (((a).toInt = (y3).toInt) ∧ (¬ ((y694).toInt = (0 : Int))) ∧ y699 = i1))) (D729 : (((¬ ((y3).toInt = (a).toInt)) ∧ y728 = i0) ∨ (((y3).toInt = (a).toInt) ∧ y728 = i0))) (t_c1_24 : ((la5).toInt = (0 : Int))) (t_c1_66 : (¬ ((y14).toInt = (0 : Int)))) (t_c17_67 : ((y14).toInt = (1 : Int))) (t_c248_730 : (¬ ((y728).toInt = (y699).toInt))) (hv_la5 : own_L la5) (hv_y14 : own_L y14) : False := by
  have k0 : i0.toInt = 0 := by decide
  have k1 : i1.toInt = 1 := by decide
  unfold own_L at hv_la5 hv_y14
  rcases D729 with ⟨u1, rfl⟩ | ⟨u2, rfl⟩ <;> rcases D700 with ⟨u3, rfl⟩ | ⟨u4, u5, rfl⟩ | ⟨u6, u7, rfl⟩ <;> rcases D695 with ⟨u8, rfl⟩ | ⟨u9, u10, u11, rfl⟩ | ⟨u12, u13, u14, u15, rfl⟩ | ⟨u16, u17, u18, u19, rfl⟩ | ⟨u20, u21, u22, rfl⟩ | ⟨u23, u24, u25, u26, rfl⟩ | ⟨u27, u28, u29, u30, u31, rfl⟩ | ⟨u32, u33, u34, u35, u36, rfl⟩ <;> omega
theorem own_lf16 {a : Int64} {y3 : Int64} {la5 : Int32} {ca6 : Int32} {cb7 : Int32} {y14 : Int32} {y18 : Int32} {y22 : Int32} {y756 : Int32} {y761 : Int32} {y776 : Int32} (D757 : (((¬ ((la5).toInt = (y14).toInt)) ∧ y756 = i0) ∨ (((la5).toInt = (y14).toInt) ∧ ((la5).toInt < (1 : Int)) ∧ ((la5).toInt < (2 : Int)) ∧ y756 = i1) ∨ (((la5).toInt = (y14).toInt) ∧ ((la5).toInt < (1 : Int)) ∧ (¬ ((la5).toInt < (2 : Int))) ∧ (¬ ((cb7).toInt = (y22).toInt)) ∧ y756 = i0) ∨ (((la5).toInt = (y14).toInt) ∧ ((la5).toInt < (1 : Int)) ∧ (¬ ((la5).toInt < (2 : Int))) ∧ ((cb7).toInt = (y22).toInt) ∧ y756 = i1) ∨ (((la5).toInt = (y14).toInt) ∧ (¬ ((la5).toInt < (1 : Int))) ∧ (¬ ((ca6).toInt = (y18).toInt)) ∧ y756 = i0) ∨ (((la5).toInt = (y14).toInt) ∧ (¬ ((la5).toInt < (1 : Int))) ∧ ((ca6).toInt = (y18).toInt) ∧ ((la5).toInt < (2 : Int)) ∧ y756 = i1) ∨ (((la5).toInt = (y14).toInt) ∧ (¬ ((la5).toInt < (1 : Int))) ∧ ((ca6).toInt = (y18).toInt) ∧ (¬ ((la5).toInt < (2 : Int))) ∧ (¬ ((cb7).toInt = (y22).toInt)) ∧ y756 = i0) ∨ (((la5).toInt = (y14).toInt) ∧ (¬ ((la5).toInt < (1 : Int))) ∧ ((ca6).toInt = (y18).toInt) ∧ (¬ ((la5).toInt < (2 : Int))) ∧ ((cb7).toInt = (y22).toInt) ∧ y756 = i1))) (D762 : (((¬ ((a).toInt = (y3).toInt)) ∧ y761 = i0) ∨ (((a).toInt = (y3).toInt) ∧ ((y756).toInt = (0 : Int)) ∧ y761 = i0) ∨ (((a).toInt = (y3).toInt) ∧ (¬ ((y756).toInt = (0 : Int))) ∧ y761 = i1))) (D777 : ((y776 = i1 ∧ (((a).toInt = (y3).toInt))) ∨ (y776 = i0 ∧ ¬ (((a).toInt = (y3).toInt))))) (t_c1_24 : ((la5).toInt = (0 : Int))) (t_c1_66 : ((y14).toInt = (0 : Int))) (t_c236_778 : (¬ ((y776).toInt = (y761).toInt))) (hv_la5 : own_L la5) (hv_y14 : own_L y14) : False := by
  have k0 : i0.toInt = 0 := by decide
  have k1 : i1.toInt = 1 := by decide
  unfold own_L at hv_la5 hv_y14
  rcases D777 with ⟨rfl, u1⟩ | ⟨rfl, u2⟩ <;> rcases D762 with ⟨u3, rfl⟩ | ⟨u4, u5, rfl⟩ | ⟨u6, u7, rfl⟩ <;> rcases D757 with ⟨u8, rfl⟩ | ⟨u9, u10, u11, rfl⟩ | ⟨u12, u13, u14, u15, rfl⟩ | ⟨u16, u17, u18, u19, rfl⟩ | ⟨u20, u21, u22, rfl⟩ | ⟨u23, u24, u25, u26, rfl⟩ | ⟨u27, u28, u29, u30, u31, rfl⟩ | ⟨u32, u33, u34, u35, u36, rfl⟩ <;> omega
theorem own_lf17 {a : Int64} {y3 : Int64} {la5 : Int32} {ca6 : Int32} {cb7 : Int32} {y14 : Int32} {y18 : Int32} {y22 : Int32} {y756 : Int32} {y761 : Int32} {y792 : Int32} (D757 : (((¬ ((la5).toInt = (y14).toInt)) ∧ y756 = i0) ∨ (((la5).toInt = (y14).toInt) ∧ ((la5).toInt < (1 : Int)) ∧ ((la5).toInt < (2 : Int)) ∧ y756 = i1) ∨ (((la5).toInt = (y14).toInt) ∧ ((la5).toInt < (1 : Int)) ∧ (¬ ((la5).toInt < (2 : Int))) ∧ (¬ ((cb7).toInt = (y22).toInt)) ∧ y756 = i0) ∨ (((la5).toInt = (y14).toInt) ∧ ((la5).toInt < (1 : Int)) ∧ (¬ ((la5).toInt < (2 : Int))) ∧ ((cb7).toInt = (y22).toInt) ∧ y756 = i1) ∨ (((la5).toInt = (y14).toInt) ∧ (¬ ((la5).toInt < (1 : Int))) ∧ (¬ ((ca6).toInt = (y18).toInt)) ∧ y756 = i0) ∨ (((la5).toInt = (y14).toInt) ∧ (¬ ((la5).toInt < (1 : Int))) ∧ ((ca6).toInt = (y18).toInt) ∧ ((la5).toInt < (2 : Int)) ∧ y756 = i1) ∨ (((la5).toInt = (y14).toInt) ∧ (¬ ((la5).toInt < (1 : Int))) ∧ ((ca6).toInt = (y18).toInt) ∧ (¬ ((la5).toInt < (2 : Int))) ∧ (¬ ((cb7).toInt = (y22).toInt)) ∧ y756 = i0) ∨ (((la5).toInt = (y14).toInt) ∧ (¬ ((la5).toInt < (1 : Int))) ∧ ((ca6).toInt = (y18).toInt) ∧ (¬ ((la5).toInt < (2 : Int))) ∧ ((cb7).toInt = (y22).toInt) ∧ y756 = i1))) (D762 : (((¬ ((a).toInt = (y3).toInt)) ∧ y761 = i0) ∨ (((a).toInt = (y3).toInt) ∧ ((y756).toInt = (0 : Int)) ∧ y761 = i0) ∨ (((a).toInt = (y3).toInt) ∧ (¬ ((y756).toInt = (0 : Int))) ∧ y761 = i1))) (D793 : ((y792 = i1 ∧ (((y3).toInt = (a).toInt))) ∨ (y792 = i0 ∧ ¬ (((y3).toInt = (a).toInt))))) (t_c1_24 : ((la5).toInt = (0 : Int))) (t_c1_66 : ((y14).toInt = (0 : Int))) (t_c248_794 : (¬ ((y792).toInt = (y761).toInt))) (hv_la5 : own_L la5) (hv_y14 : own_L y14) : False := by
  have k0 : i0.toInt = 0 := by decide
  have k1 : i1.toInt = 1 := by decide
  unfold own_L at hv_la5 hv_y14
  rcases D793 with ⟨rfl, u1⟩ | ⟨rfl, u2⟩ <;> rcases D762 with ⟨u3, rfl⟩ | ⟨u4, u5, rfl⟩ | ⟨u6, u7, rfl⟩ <;> rcases D757 with ⟨u8, rfl⟩ | ⟨u9, u10, u11, rfl⟩ | ⟨u12, u13, u14, u15, rfl⟩ | ⟨u16, u17, u18, u19, rfl⟩ | ⟨u20, u21, u22, rfl⟩ | ⟨u23, u24, u25, u26, rfl⟩ | ⟨u27, u28, u29, u30, u31, rfl⟩ | ⟨u32, u33, u34, u35, u36, rfl⟩ <;> omega
theorem rm0 (l : Launch) (Z : State) (a0 : Array Value) (hw : ∀ d ∈ tables_1, d.before a0 Z = true) (a b : Int64) (c_ d_ mo cs : Int32) (h0 : Heap) (n0 : Nat) (Z0 : n0 ≤ h0.size) (Od : Old Z n0 h0) (S_cs : Sta Z Z.heap "java/lang/String" "COMPACT_STRINGS" "Z" (.int cs)) (hv_cs : ¬ cs = i0) :
    MetH l Z EL1 [] x code maxLocals ret room_1 tables_1 #[(.long a), (.long b), (.int c_), (.int d_), (.int mo)] h0 n0 (fun v h => v = some (.int 1)) := by
  refine MetH.mkQ (tabs := tables_1) (a0 := a0) (ls0 := #[lv a, .second, lv b, .second, iv c_, iv d_, iv mo, .unset, .unset, .unset, .unset, .unset, .unset, .unset, .unset, .unset, .unset, .unset, .unset, .unset, .unset, .unset, .unset]) (plainFor_of_name pn_com_example_libring_libring_core_RingPointEqualsPinLaw) hw Z0 (fun m => by first | (simp [entryFrame, mkF, argsToLocals, Value.category, maxLocals]; done) | rfl) ?_
  intro p e s m below meth c T Q' G' vm k1 hQ hG C X hS Nk Rc hso
  have Kp : Keep h0 h0 [] := Keep.refl _ _
  refine s_iload 2 C X at_0 rfl ?_
  refine s_iconst 3 C X at_2 kc_iconst_1 ?_
  refine s_iand 4 C X at_3 ?_
  suffices J4 : ∀ (T : State) (hh : Heap) (vm : Vm) (k1 : Nat) (y3 : Int64) (D4 : ((((mo &&& i1)).toInt = (0 : Int)) ∧ y3 = b) ∨ ((¬ (((mo &&& i1)).toInt = (0 : Int))) ∧ y3 = a)) (C : Cx tables_1 a0 Z x.cls x.name code maxLocals ret p (s.setVm vm) m meth c) (X : St p l e room_1 (s.setVm vm) m #[(.long a), (.long b), (.int c_), (.int d_), (.int mo)] below meth c n0 T hh 0 0) (hS : s.Since vm k1) (Od : Old Z n0 hh) (Kp : Keep h0 hh []) (Nk : k1 ≤ hh.size) (Rc : CHr Z EL1 s.vm h0 vm hh), Run p e below n0 Q' G' m T 12 #[lv a, .second, lv b, .second, iv c_, iv d_, iv mo, .unset, .unset, .unset, .unset, .unset, .unset, .unset, .unset, .unset, .unset, .unset, .unset, .unset, .unset, .unset, .unset] [(.long y3)] by
    refine s_if_eq 11 7 C X at_4 (fun c4_1 => ?_) (fun c4_1 => ?_)
    · have t_c4_1 : ((mo &&& i1)).toInt = (0 : Int) := congrArg Int32.toInt c4_1
      refine s_lloadN 12 C X at_11 rfl ?_
      exact J4 T _ _ _ (b) ((Or.inl ⟨t_c4_1, rfl⟩)) C X hS Od Kp Nk Rc
    have t_c4_1 : ¬ (((mo &&& i1)).toInt = (0 : Int)) := fun q => c4_1 (Int32.toInt_inj.mp q)
    refine s_lloadN 8 C X at_7 rfl ?_
    refine s_goto 12 C X at_8 ?_
    exact J4 T _ _ _ (a) (Or.inr ⟨t_c4_1, rfl⟩) C X hS Od Kp Nk Rc
  intro T hh vm k1 y3 D4  C X hS Od Kp Nk Rc
  refine s_lstore 14 C X (l' := #[lv a, .second, lv b, .second, iv c_, iv d_, iv mo, lv y3, .second, .unset, .unset, .unset, .unset, .unset, .unset, .unset, .unset, .unset, .unset, .unset, .unset, .unset, .unset]) at_12 rfl ?_
  refine s_iload 16 C X at_14 rfl ?_
  refine s_iconst 17 C X at_16 kc_iconst_1 ?_
  refine s_iushr 18 C X at_17 ?_
  refine s_iconst 19 C X at_18 kc_iconst_3 ?_
  refine s_iand 20 C X at_19 ?_
  refine s_iconst 21 C X at_20 kc_iconst_3 ?_
  refine s_irem 22 C X at_21 (by decide) ?_
  obtain ⟨la5, e_la5⟩ : ∃ zz_ : Int32, zz_ = ((((mo).toUInt32 >>> (i1 &&& 31).toUInt32).toInt32 &&& i3) % i3) := ⟨_, rfl⟩
  refine Run.cast (st' := [(.int la5)]) (by subst e_la5; rfl) ?_
  have hv_la5 : own_L la5 := by rw [e_la5]; exact own_len _
  refine s_istore 24 C X (l' := #[lv a, .second, lv b, .second, iv c_, iv d_, iv mo, lv y3, .second, iv la5, .unset, .unset, .unset, .unset, .unset, .unset, .unset, .unset, .unset, .unset, .unset, .unset, .unset]) at_22 rfl ?_
  refine s_iload 26 C X at_24 rfl ?_
  refine s_sipush 29 C X at_26 kc_sipush_255 ?_
  refine s_iand 30 C X at_29 ?_
  obtain ⟨ca6, e_ca6⟩ : ∃ zz_ : Int32, zz_ = (c_ &&& i255) := ⟨_, rfl⟩
  refine Run.cast (st' := [(.int ca6)]) (by subst e_ca6; rfl) ?_
  have hv_ca6 : own_B ca6 := by rw [e_ca6]; exact own_and _
  refine s_istore 32 C X (l' := #[lv a, .second, lv b, .second, iv c_, iv d_, iv mo, lv y3, .second, iv la5, iv ca6, .unset, .unset, .unset, .unset, .unset, .unset, .unset, .unset, .unset, .unset, .unset, .unset]) at_30 rfl ?_
  refine s_iload 34 C X at_32 rfl ?_
  refine s_bipush 36 C X at_34 kc_bipush_8 ?_
  refine s_iushr 37 C X at_36 ?_
  refine s_sipush 40 C X at_37 kc_sipush_255 ?_
  refine s_iand 41 C X at_40 ?_
  obtain ⟨cb7, e_cb7⟩ : ∃ zz_ : Int32, zz_ = (((c_).toUInt32 >>> (i8 &&& 31).toUInt32).toInt32 &&& i255) := ⟨_, rfl⟩
  refine Run.cast (st' := [(.int cb7)]) (by subst e_cb7; rfl) ?_
  have hv_cb7 : own_B cb7 := by rw [e_cb7]; exact own_and _
  refine s_istore 43 C X (l' := #[lv a, .second, lv b, .second, iv c_, iv d_, iv mo, lv y3, .second, iv la5, iv ca6, iv cb7, .unset, .unset, .unset, .unset, .unset, .unset, .unset, .unset, .unset, .unset, .unset]) at_41 rfl ?_
  refine s_iload 45 C X at_43 rfl ?_
  refine s_bipush 47 C X at_45 kc_bipush_8 ?_
  refine s_iand 48 C X at_47 ?_
  suffices J11 : ∀ (T : State) (hh : Heap) (vm : Vm) (k1 : Nat) (y10 : Int32) (D11 : ((((mo &&& i8)).toInt = (0 : Int)) ∧ y10 = i0) ∨ ((¬ (((mo &&& i8)).toInt = (0 : Int))) ∧ y10 = i1)) (C : Cx tables_1 a0 Z x.cls x.name code maxLocals ret p (s.setVm vm) m meth c) (X : St p l e room_1 (s.setVm vm) m #[(.long a), (.long b), (.int c_), (.int d_), (.int mo)] below meth c n0 T hh 0 0) (hS : s.Since vm k1) (Od : Old Z n0 hh) (Kp : Keep h0 hh []) (Nk : k1 ≤ hh.size) (Rc : CHr Z EL1 s.vm h0 vm hh), Run p e below n0 Q' G' m T 56 #[lv a, .second, lv b, .second, iv c_, iv d_, iv mo, lv y3, .second, iv la5, iv ca6, iv cb7, .unset, .unset, .unset, .unset, .unset, .unset, .unset, .unset, .unset, .unset, .unset] [(.int y10)] by
    refine s_if_eq 55 51 C X at_48 (fun c48_8 => ?_) (fun c48_8 => ?_)
    · have t_c48_8 : ((mo &&& i8)).toInt = (0 : Int) := congrArg Int32.toInt c48_8
      refine s_iconst 56 C X at_55 kc_iconst_0 ?_
      exact J11 T _ _ _ (i0) ((Or.inl ⟨t_c48_8, rfl⟩)) C X hS Od Kp Nk Rc
    have t_c48_8 : ¬ (((mo &&& i8)).toInt = (0 : Int)) := fun q => c48_8 (Int32.toInt_inj.mp q)
    refine s_iconst 52 C X at_51 kc_iconst_1 ?_
    refine s_goto 56 C X at_52 ?_
    exact J11 T _ _ _ (i1) (Or.inr ⟨t_c48_8, rfl⟩) C X hS Od Kp Nk Rc
  intro T hh vm k1 y10 D11  C X hS Od Kp Nk Rc
  refine s_istore 58 C X (l' := #[lv a, .second, lv b, .second, iv c_, iv d_, iv mo, lv y3, .second, iv la5, iv ca6, iv cb7, iv y10, .unset, .unset, .unset, .unset, .unset, .unset, .unset, .unset, .unset, .unset]) at_56 rfl ?_
  refine s_iload 60 C X at_58 rfl ?_
  suffices J15 : ∀ (T : State) (hh : Heap) (vm : Vm) (k1 : Nat) (y14 : Int32) (D15 : (((y10).toInt = (0 : Int)) ∧ y14 = ((((mo).toUInt32 >>> (i4 &&& 31).toUInt32).toInt32 &&& i3) % i3)) ∨ ((¬ ((y10).toInt = (0 : Int))) ∧ y14 = la5)) (C : Cx tables_1 a0 Z x.cls x.name code maxLocals ret p (s.setVm vm) m meth c) (X : St p l e room_1 (s.setVm vm) m #[(.long a), (.long b), (.int c_), (.int d_), (.int mo)] below meth c n0 T hh 0 0) (hS : s.Since vm k1) (Od : Old Z n0 hh) (Kp : Keep h0 hh []) (Nk : k1 ≤ hh.size) (Rc : CHr Z EL1 s.vm h0 vm hh), Run p e below n0 Q' G' m T 76 #[lv a, .second, lv b, .second, iv c_, iv d_, iv mo, lv y3, .second, iv la5, iv ca6, iv cb7, iv y10, .unset, .unset, .unset, .unset, .unset, .unset, .unset, .unset, .unset, .unset] [(.int y14)] by
    refine s_if_eq 68 63 C X at_60 (fun c60_12 => ?_) (fun c60_12 => ?_)
    · have t_c60_12 : (y10).toInt = (0 : Int) := congrArg Int32.toInt c60_12
      refine s_iload 70 C X at_68 rfl ?_
      refine s_iconst 71 C X at_70 kc_iconst_4 ?_
      refine s_iushr 72 C X at_71 ?_
      refine s_iconst 73 C X at_72 kc_iconst_3 ?_
      refine s_iand 74 C X at_73 ?_
      refine s_iconst 75 C X at_74 kc_iconst_3 ?_
      refine s_irem 76 C X at_75 (by decide) ?_
      exact J15 T _ _ _ (((((mo).toUInt32 >>> (i4 &&& 31).toUInt32).toInt32 &&& i3) % i3)) ((Or.inl ⟨t_c60_12, rfl⟩)) C X hS Od Kp Nk Rc
    have t_c60_12 : ¬ ((y10).toInt = (0 : Int)) := fun q => c60_12 (Int32.toInt_inj.mp q)
    refine s_iload 65 C X at_63 rfl ?_
    refine s_goto 76 C X at_65 ?_
    exact J15 T _ _ _ (la5) (Or.inr ⟨t_c60_12, rfl⟩) C X hS Od Kp Nk Rc
  intro T hh vm k1 y14 D15  C X hS Od Kp Nk Rc
  have hv_y14 : own_L y14 := own_pL (own_len _) hv_la5 D15
  refine s_istore 78 C X (l' := #[lv a, .second, lv b, .second, iv c_, iv d_, iv mo, lv y3, .second, iv la5, iv ca6, iv cb7, iv y10, iv y14, .unset, .unset, .unset, .unset, .unset, .unset, .unset, .unset, .unset]) at_76 rfl ?_
  refine s_iload 80 C X at_78 rfl ?_
  suffices J19 : ∀ (T : State) (hh : Heap) (vm : Vm) (k1 : Nat) (y18 : Int32) (D19 : (((y10).toInt = (0 : Int)) ∧ y18 = (d_ &&& i255)) ∨ ((¬ ((y10).toInt = (0 : Int))) ∧ y18 = ca6)) (C : Cx tables_1 a0 Z x.cls x.name code maxLocals ret p (s.setVm vm) m meth c) (X : St p l e room_1 (s.setVm vm) m #[(.long a), (.long b), (.int c_), (.int d_), (.int mo)] below meth c n0 T hh 0 0) (hS : s.Since vm k1) (Od : Old Z n0 hh) (Kp : Keep h0 hh []) (Nk : k1 ≤ hh.size) (Rc : CHr Z EL1 s.vm h0 vm hh), Run p e below n0 Q' G' m T 94 #[lv a, .second, lv b, .second, iv c_, iv d_, iv mo, lv y3, .second, iv la5, iv ca6, iv cb7, iv y10, iv y14, .unset, .unset, .unset, .unset, .unset, .unset, .unset, .unset, .unset] [(.int y18)] by
    refine s_if_eq 88 83 C X at_80 (fun c80_16 => ?_) (fun c80_16 => ?_)
    · have t_c80_16 : (y10).toInt = (0 : Int) := congrArg Int32.toInt c80_16
      refine s_iload 90 C X at_88 rfl ?_
      refine s_sipush 93 C X at_90 kc_sipush_255 ?_
      refine s_iand 94 C X at_93 ?_
      exact J19 T _ _ _ ((d_ &&& i255)) ((Or.inl ⟨t_c80_16, rfl⟩)) C X hS Od Kp Nk Rc
    have t_c80_16 : ¬ ((y10).toInt = (0 : Int)) := fun q => c80_16 (Int32.toInt_inj.mp q)
    refine s_iload 85 C X at_83 rfl ?_
    refine s_goto 94 C X at_85 ?_
    exact J19 T _ _ _ (ca6) (Or.inr ⟨t_c80_16, rfl⟩) C X hS Od Kp Nk Rc
  intro T hh vm k1 y18 D19  C X hS Od Kp Nk Rc
  have hv_y18 : own_B y18 := own_pB (own_and _) hv_ca6 D19
  refine s_istore 96 C X (l' := #[lv a, .second, lv b, .second, iv c_, iv d_, iv mo, lv y3, .second, iv la5, iv ca6, iv cb7, iv y10, iv y14, iv y18, .unset, .unset, .unset, .unset, .unset, .unset, .unset, .unset]) at_94 rfl ?_
  refine s_iload 98 C X at_96 rfl ?_
  suffices J23 : ∀ (T : State) (hh : Heap) (vm : Vm) (k1 : Nat) (y22 : Int32) (D23 : (((y10).toInt = (0 : Int)) ∧ y22 = (((d_).toUInt32 >>> (i8 &&& 31).toUInt32).toInt32 &&& i255)) ∨ ((¬ ((y10).toInt = (0 : Int))) ∧ y22 = cb7)) (C : Cx tables_1 a0 Z x.cls x.name code maxLocals ret p (s.setVm vm) m meth c) (X : St p l e room_1 (s.setVm vm) m #[(.long a), (.long b), (.int c_), (.int d_), (.int mo)] below meth c n0 T hh 0 0) (hS : s.Since vm k1) (Od : Old Z n0 hh) (Kp : Keep h0 hh []) (Nk : k1 ≤ hh.size) (Rc : CHr Z EL1 s.vm h0 vm hh), Run p e below n0 Q' G' m T 115 #[lv a, .second, lv b, .second, iv c_, iv d_, iv mo, lv y3, .second, iv la5, iv ca6, iv cb7, iv y10, iv y14, iv y18, .unset, .unset, .unset, .unset, .unset, .unset, .unset, .unset] [(.int y22)] by
    refine s_if_eq 106 101 C X at_98 (fun c98_20 => ?_) (fun c98_20 => ?_)
    · have t_c98_20 : (y10).toInt = (0 : Int) := congrArg Int32.toInt c98_20
      refine s_iload 108 C X at_106 rfl ?_
      refine s_bipush 110 C X at_108 kc_bipush_8 ?_
      refine s_iushr 111 C X at_110 ?_
      refine s_sipush 114 C X at_111 kc_sipush_255 ?_
      refine s_iand 115 C X at_114 ?_
      exact J23 T _ _ _ ((((d_).toUInt32 >>> (i8 &&& 31).toUInt32).toInt32 &&& i255)) ((Or.inl ⟨t_c98_20, rfl⟩)) C X hS Od Kp Nk Rc
    have t_c98_20 : ¬ ((y10).toInt = (0 : Int)) := fun q => c98_20 (Int32.toInt_inj.mp q)
    refine s_iload 103 C X at_101 rfl ?_
    refine s_goto 115 C X at_103 ?_
    exact J23 T _ _ _ (cb7) (Or.inr ⟨t_c98_20, rfl⟩) C X hS Od Kp Nk Rc
  intro T hh vm k1 y22 D23  C X hS Od Kp Nk Rc
  have hv_y22 : own_B y22 := own_pB (own_and _) hv_cb7 D23
  refine s_istore 117 C X (l' := #[lv a, .second, lv b, .second, iv c_, iv d_, iv mo, lv y3, .second, iv la5, iv ca6, iv cb7, iv y10, iv y14, iv y18, iv y22, .unset, .unset, .unset, .unset, .unset, .unset, .unset]) at_115 rfl ?_
  refine s_iload 119 C X at_117 rfl ?_
  refine s_iload 121 C X at_119 rfl ?_
  refine s_iload 123 C X at_121 rfl ?_
  refine s_hcallS 126 [(.int la5), (.int ca6), (.int cb7)] [] 0 C X hS Nk (own_EL hw) Rc.1 at_123 (mW 0 rfl) (mW 1 rfl) (mW 2 rfl) (mW 3 rfl) (rm_a65 l Z a0 hw cs la5 ca6 cb7 _ n0 X.sz Od S_cs hv_cs hv_ca6 hv_cb7) (lenOf pd__III_Ljava_lang_String_ rfl) rfl rfl rfl so0 (fun T v hh vm k1 C X hS Nk Rn q => ?_)
  obtain ⟨o26, o30, k_o30, rfl, c1_24, c17_25, Kc, Od, E_o26, F_o26_value, F_o26_coder, A_o30, sz_o26', g_o26, sz_o30', g_o30, ne_o26_o30⟩ | ⟨o42, o46, k_o46, rfl, c1_24, c17_25, Kc, Od, E_o42, F_o42_value, F_o42_coder, A_o46, sz_o42', g_o42, sz_o46', g_o46, ne_o42_o46⟩ | ⟨o56, b60, k_b60, rfl, c1_24, Od, Kc, E_o56, F_o56_value, F_o56_coder, A_b60, sz_o56', g_o56, ne_o56_b60⟩ := q
  · have sz_o26 : h0.size ≤ o26 := Nat.le_trans Kp.1 sz_o26'
    have Rc := Rc.trans Rn
    have Kp := Kp.trans Kc all0
    have t_c1_24 : ¬ ((la5).toInt = (0 : Int)) := fun q => c1_24 (Int32.toInt_inj.mp q)
    have t_c17_25 : ¬ ((la5).toInt = (1 : Int)) := fun q => c17_25 (Int32.toInt_inj.mp q)
    refine Run.cast (st' := [(.ref o26)]) rfl ?_
    refine s_astore 128 C X (l' := #[lv a, .second, lv b, .second, iv c_, iv d_, iv mo, lv y3, .second, iv la5, iv ca6, iv cb7, iv y10, iv y14, iv y18, iv y22, rv o26, .unset, .unset, .unset, .unset, .unset, .unset]) at_126 rfl rfl ?_
    refine s_iload 130 C X at_128 rfl ?_
    refine s_iload 132 C X at_130 rfl ?_
    refine s_iload 134 C X at_132 rfl ?_
    refine s_hcallS 137 [(.int y14), (.int y18), (.int y22)] [] 0 C X hS Nk (own_EL hw) Rc.1 at_134 (mW 0 rfl) (mW 1 rfl) (mW 2 rfl) (mW 3 rfl) (rm_a107 l Z a0 hw cs y14 y18 y22 _ n0 X.sz S_cs Od hv_cs hv_y18 hv_y22) (lenOf pd__III_Ljava_lang_String_ rfl) rfl rfl rfl so0 (fun T v hh vm k1 C X hS Nk Rn q => ?_)
    obtain ⟨o68, o72, k_o72, rfl, c1_66, c17_67, Kc, Od, E_o68, F_o68_value, F_o68_coder, A_o72, sz_o68', g_o68, sz_o72', g_o72, ne_o68_o72⟩ | ⟨o84, o88, k_o88, rfl, c1_66, c17_67, Kc, Od, E_o84, F_o84_value, F_o84_coder, A_o88, sz_o84', g_o84, sz_o88', g_o88, ne_o84_o88⟩ | ⟨o98, b102, k_b102, rfl, c1_66, Od, Kc, E_o98, F_o98_value, F_o98_coder, A_b102, sz_o98', g_o98, ne_o98_b102⟩ := q
    · have ne_o26_o68 : o26 ≠ o68 := Nat.ne_of_lt (Nat.lt_of_lt_of_le E_o26.lt sz_o68')
      have Rc := Rc.trans Rn
      have Kp := Kp.trans Kc all0
      have E_o26 := E_o26.keep Kc
      have F_o26_value := F_o26_value.keep Kc nin0
      have F_o26_coder := F_o26_coder.keep Kc nin0
      have A_o30 := A_o30.keep Kc nin0
      have t_c1_66 : ¬ ((y14).toInt = (0 : Int)) := fun q => c1_66 (Int32.toInt_inj.mp q)
      have t_c17_67 : ¬ ((y14).toInt = (1 : Int)) := fun q => c17_67 (Int32.toInt_inj.mp q)
      refine Run.cast (st' := [(.ref o68)]) rfl ?_
      refine s_astore 139 C X (l' := #[lv a, .second, lv b, .second, iv c_, iv d_, iv mo, lv y3, .second, iv la5, iv ca6, iv cb7, iv y10, iv y14, iv y18, iv y22, rv o26, rv o68, .unset, .unset, .unset, .unset, .unset]) at_137 rfl rfl ?_
      refine s_new 142 C X at_139 (mW 26 rfl) (mW 27 rfl) (mW 28 rfl) (fun T hh o108 hb_o108 X E E_o108 D g_o108 => ?_)
      have H_o108 : Safe Z EL1 vm _ o108 := Safe.ext E Rc.1 (Safe.new (Nat.le_of_eq hb_o108))
      have Rc := Rc.trans (CHr.ext E Rc.1)
      have Nk := Nat.le_trans Nk E.1
      have sz_o108 : h0.size ≤ o108 := Nat.le_trans Kp.1 (Nat.le_of_eq hb_o108)
      have ne_o26_o108 : o26 ≠ o108 := Nat.ne_of_lt (Nat.lt_of_lt_of_le E_o26.lt (Nat.le_of_eq hb_o108))
      have ne_o30_o108 : o30 ≠ o108 := Nat.ne_of_lt (Nat.lt_of_lt_of_le A_o30.lt (Nat.le_of_eq hb_o108))
      have ne_o68_o108 : o68 ≠ o108 := Nat.ne_of_lt (Nat.lt_of_lt_of_le E_o68.lt (Nat.le_of_eq hb_o108))
      have ne_o72_o108 : o72 ≠ o108 := Nat.ne_of_lt (Nat.lt_of_lt_of_le A_o72.lt (Nat.le_of_eq hb_o108))
      have Kp := Kp.ext E
      have E_o26 := E_o26.ext E
      have F_o26_value := F_o26_value.ext E
      have F_o26_coder := F_o26_coder.ext E
      have A_o30 := A_o30.ext E
      have Od := Od.ext E
      have E_o68 := E_o68.ext E
      have F_o68_value := F_o68_value.ext E
      have F_o68_coder := F_o68_coder.ext E
      have A_o72 := A_o72.ext E
      have F_o108_position : Fld Z _ o108 "com/example/libring/libring/core/RingPoint" "position" "J" (.long j0) := D (Or.inr (hw _ (mW 34 rfl))) (ty := .long) (by decide)
      have F_o108_node : Fld Z _ o108 "com/example/libring/libring/core/RingPoint" "node" "Ljava/lang/String;" .null := D (Or.inr (hw _ (mW 36 rfl))) (ty := (.object "java/lang/String")) (by decide)
      refine s_dup 143 C X at_142 rfl ?_
      refine s_lloadN 144 C X at_143 rfl ?_
      refine s_aload 146 C X at_144 rfl rfl ?_
      have Sw_o108 : Safe Z EL1 vm _ o108 := H_o108
      refine s_callC 149 [(.long a), (.ref o26)] [(.ref o108)] 1 C X at_146 rfl (mW 29 rfl) (mW 30 rfl) (mW 28 rfl) (mW 31 rfl) (rm_a109 l Z a0 hw a o26 o108 _ n0 X.sz E_o108 F_o108_position F_o108_node g_o108) (lenOf pd__JLjava_lang_String__V rfl) rfl rfl rfl (fun T v hh X q => ?_)
      obtain ⟨rfl, E_o108, F_o108_position, F_o108_node, Kc⟩ := q
      have Hs : ∀ x ∈ [o108], Safe Z EL1 vm _ x := (soS Sw_o108 so0)
      have H_o108 := Safe.keep Kc Hs Rc.1 H_o108
      have Rc := Rc.trans (CHr.keep Kc Hs Rc.1)
      have Nk := Nat.le_trans Nk Kc.1
      have Kp := Kp.trans Kc (allS (Or.inr sz_o108) all0)
      have E_o26 := E_o26.keep Kc
      have F_o26_value := F_o26_value.keep Kc (ninS ne_o26_o108 nin0)
      have F_o26_coder := F_o26_coder.keep Kc (ninS ne_o26_o108 nin0)
      have A_o30 := A_o30.keep Kc (ninS ne_o30_o108 nin0)
      have Od := Od.keep Kc (allS g_o108 all0)
      have E_o68 := E_o68.keep Kc
      have F_o68_value := F_o68_value.keep Kc (ninS ne_o68_o108 nin0)
      have F_o68_coder := F_o68_coder.keep Kc (ninS ne_o68_o108 nin0)
      have A_o72 := A_o72.keep Kc (ninS ne_o72_o108 nin0)
      refine Run.cast (st' := [(.ref o108)]) rfl ?_
      refine s_astore 151 C X (l' := #[lv a, .second, lv b, .second, iv c_, iv d_, iv mo, lv y3, .second, iv la5, iv ca6, iv cb7, iv y10, iv y14, iv y18, iv y22, rv o26, rv o68, rv o108, .unset, .unset, .unset, .unset]) at_149 rfl rfl ?_
      refine s_new 154 C X at_151 (mW 26 rfl) (mW 27 rfl) (mW 28 rfl) (fun T hh o110 hb_o110 X E E_o110 D g_o110 => ?_)
      have H_o108 := Safe.ext E Rc.1 H_o108
      have H_o110 : Safe Z EL1 vm _ o110 := Safe.ext E Rc.1 (Safe.new (Nat.le_of_eq hb_o110))
      have Rc := Rc.trans (CHr.ext E Rc.1)
      have Nk := Nat.le_trans Nk E.1
      have sz_o110 : h0.size ≤ o110 := Nat.le_trans Kp.1 (Nat.le_of_eq hb_o110)
      have ne_o26_o110 : o26 ≠ o110 := Nat.ne_of_lt (Nat.lt_of_lt_of_le E_o26.lt (Nat.le_of_eq hb_o110))
      have ne_o30_o110 : o30 ≠ o110 := Nat.ne_of_lt (Nat.lt_of_lt_of_le A_o30.lt (Nat.le_of_eq hb_o110))
      have ne_o68_o110 : o68 ≠ o110 := Nat.ne_of_lt (Nat.lt_of_lt_of_le E_o68.lt (Nat.le_of_eq hb_o110))
      have ne_o72_o110 : o72 ≠ o110 := Nat.ne_of_lt (Nat.lt_of_lt_of_le A_o72.lt (Nat.le_of_eq hb_o110))
      have ne_o108_o110 : o108 ≠ o110 := Nat.ne_of_lt (Nat.lt_of_lt_of_le E_o108.lt (Nat.le_of_eq hb_o110))
      have Kp := Kp.ext E
      have E_o26 := E_o26.ext E
      have F_o26_value := F_o26_value.ext E
      have F_o26_coder := F_o26_coder.ext E
      have A_o30 := A_o30.ext E
      have Od := Od.ext E
      have E_o68 := E_o68.ext E
      have F_o68_value := F_o68_value.ext E
      have F_o68_coder := F_o68_coder.ext E
      have A_o72 := A_o72.ext E
      have E_o108 := E_o108.ext E
      have F_o108_position := F_o108_position.ext E
      have F_o108_node := F_o108_node.ext E
      have F_o110_position : Fld Z _ o110 "com/example/libring/libring/core/RingPoint" "position" "J" (.long j0) := D (Or.inr (hw _ (mW 34 rfl))) (ty := .long) (by decide)
      have F_o110_node : Fld Z _ o110 "com/example/libring/libring/core/RingPoint" "node" "Ljava/lang/String;" .null := D (Or.inr (hw _ (mW 36 rfl))) (ty := (.object "java/lang/String")) (by decide)
      refine s_dup 155 C X at_154 rfl ?_
      refine s_lload 157 C X at_155 rfl ?_
      refine s_aload 159 C X at_157 rfl rfl ?_
      have Sw_o110 : Safe Z EL1 vm _ o110 := H_o110
      refine s_callC 162 [(.long y3), (.ref o68)] [(.ref o110)] 1 C X at_159 rfl (mW 29 rfl) (mW 30 rfl) (mW 28 rfl) (mW 31 rfl) (rm_a111 l Z a0 hw y3 o68 o110 _ n0 X.sz E_o110 F_o110_position F_o110_node g_o110) (lenOf pd__JLjava_lang_String__V rfl) rfl rfl rfl (fun T v hh X q => ?_)
      obtain ⟨rfl, E_o110, F_o110_position, F_o110_node, Kc⟩ := q
      have Hs : ∀ x ∈ [o110], Safe Z EL1 vm _ x := (soS Sw_o110 so0)
      have H_o108 := Safe.keep Kc Hs Rc.1 H_o108
      have H_o110 := Safe.keep Kc Hs Rc.1 H_o110
      have Rc := Rc.trans (CHr.keep Kc Hs Rc.1)
      have Nk := Nat.le_trans Nk Kc.1
      have Kp := Kp.trans Kc (allS (Or.inr sz_o110) all0)
      have E_o26 := E_o26.keep Kc
      have F_o26_value := F_o26_value.keep Kc (ninS ne_o26_o110 nin0)
      have F_o26_coder := F_o26_coder.keep Kc (ninS ne_o26_o110 nin0)
      have A_o30 := A_o30.keep Kc (ninS ne_o30_o110 nin0)
      have Od := Od.keep Kc (allS g_o110 all0)
      have E_o68 := E_o68.keep Kc
      have F_o68_value := F_o68_value.keep Kc (ninS ne_o68_o110 nin0)
      have F_o68_coder := F_o68_coder.keep Kc (ninS ne_o68_o110 nin0)
      have A_o72 := A_o72.keep Kc (ninS ne_o72_o110 nin0)
      have E_o108 := E_o108.keep Kc
      have F_o108_position := F_o108_position.keep Kc (ninS ne_o108_o110 nin0)
      have F_o108_node := F_o108_node.keep Kc (ninS ne_o108_o110 nin0)
      refine Run.cast (st' := [(.ref o110)]) rfl ?_
      refine s_astore 164 C X (l' := #[lv a, .second, lv b, .second, iv c_, iv d_, iv mo, lv y3, .second, iv la5, iv ca6, iv cb7, iv y10, iv y14, iv y18, iv y22, rv o26, rv o68, rv o108, rv o110, .unset, .unset, .unset]) at_162 rfl rfl ?_
      refine s_iload 166 C X at_164 rfl ?_
      refine s_iload 168 C X at_166 rfl ?_
      suffices J121 : ∀ (T : State) (hh : Heap) (vm : Vm) (k1 : Nat) (y120 : Int32) (D121 : ((¬ ((la5).toInt = (y14).toInt)) ∧ y120 = i0) ∨ (((la5).toInt = (y14).toInt) ∧ ((la5).toInt < (1 : Int)) ∧ ((la5).toInt < (2 : Int)) ∧ y120 = i1) ∨ (((la5).toInt = (y14).toInt) ∧ ((la5).toInt < (1 : Int)) ∧ (¬ ((la5).toInt < (2 : Int))) ∧ (¬ ((cb7).toInt = (y22).toInt)) ∧ y120 = i0) ∨ (((la5).toInt = (y14).toInt) ∧ ((la5).toInt < (1 : Int)) ∧ (¬ ((la5).toInt < (2 : Int))) ∧ ((cb7).toInt = (y22).toInt) ∧ y120 = i1) ∨ (((la5).toInt = (y14).toInt) ∧ (¬ ((la5).toInt < (1 : Int))) ∧ (¬ ((ca6).toInt = (y18).toInt)) ∧ y120 = i0) ∨ (((la5).toInt = (y14).toInt) ∧ (¬ ((la5).toInt < (1 : Int))) ∧ ((ca6).toInt = (y18).toInt) ∧ ((la5).toInt < (2 : Int)) ∧ y120 = i1) ∨ (((la5).toInt = (y14).toInt) ∧ (¬ ((la5).toInt < (1 : Int))) ∧ ((ca6).toInt = (y18).toInt) ∧ (¬ ((la5).toInt < (2 : Int))) ∧ (¬ ((cb7).toInt = (y22).toInt)) ∧ y120 = i0) ∨ (((la5).toInt = (y14).toInt) ∧ (¬ ((la5).toInt < (1 : Int))) ∧ ((ca6).toInt = (y18).toInt) ∧ (¬ ((la5).toInt < (2 : Int))) ∧ ((cb7).toInt = (y22).toInt) ∧ y120 = i1)) (C : Cx tables_1 a0 Z x.cls x.name code maxLocals ret p (s.setVm vm) m meth c) (X : St p l e room_1 (s.setVm vm) m #[(.long a), (.long b), (.int c_), (.int d_), (.int mo)] below meth c n0 T hh 14 28) (hS : s.Since vm k1) (Kp : Keep h0 hh []) (E_o26 : Exa Z hh o26 "java/lang/String") (F_o26_value : Fld Z hh o26 "java/lang/String" "value" "[B" (.ref o30)) (F_o26_coder : Fld Z hh o26 "java/lang/String" "coder" "B" (.int i0)) (A_o30 : Arv Z hh o30 k_o30 .byte i2 [(.int (bv ca6)), (.int (bv cb7))] (.int i0)) (Od : Old Z n0 hh) (E_o68 : Exa Z hh o68 "java/lang/String") (F_o68_value : Fld Z hh o68 "java/lang/String" "value" "[B" (.ref o72)) (F_o68_coder : Fld Z hh o68 "java/lang/String" "coder" "B" (.int i0)) (A_o72 : Arv Z hh o72 k_o72 .byte i2 [(.int (bv y18)), (.int (bv y22))] (.int i0)) (E_o108 : Exa Z hh o108 "com/example/libring/libring/core/RingPoint") (F_o108_position : Fld Z hh o108 "com/example/libring/libring/core/RingPoint" "position" "J" (.long a)) (F_o108_node : Fld Z hh o108 "com/example/libring/libring/core/RingPoint" "node" "Ljava/lang/String;" (.ref o26)) (Nk : k1 ≤ hh.size) (Rc : CHr Z EL1 s.vm h0 vm hh) (H_o108 : Safe Z EL1 vm hh o108) (H_o110 : Safe Z EL1 vm hh o110) (E_o110 : Exa Z hh o110 "com/example/libring/libring/core/RingPoint") (F_o110_position : Fld Z hh o110 "com/example/libring/libring/core/RingPoint" "position" "J" (.long y3)) (F_o110_node : Fld Z hh o110 "com/example/libring/libring/core/RingPoint" "node" "Ljava/lang/String;" (.ref o68)), Run p e below n0 Q' G' m T 202 #[lv a, .second, lv b, .second, iv c_, iv d_, iv mo, lv y3, .second, iv la5, iv ca6, iv cb7, iv y10, iv y14, iv y18, iv y22, rv o26, rv o68, rv o108, rv o110, .unset, .unset, .unset] [(.int y120)] by
        refine s_icmp_ne 201 171 C X at_168 (fun c168_112 => ?_) (fun c168_112 => ?_)
        · have t_c168_112 : ¬ ((la5).toInt = (y14).toInt) := fun q => c168_112 (Int32.toInt_inj.mp q)
          refine s_iconst 202 C X at_201 kc_iconst_0 ?_
          exact J121 T _ _ _ (i0) ((Or.inl ⟨t_c168_112, rfl⟩)) C X hS Kp E_o26 F_o26_value F_o26_coder A_o30 Od E_o68 F_o68_value F_o68_coder A_o72 E_o108 F_o108_position F_o108_node Nk Rc H_o108 H_o110 E_o110 F_o110_position F_o110_node
        have t_c168_112 : (la5).toInt = (y14).toInt := congrArg Int32.toInt c168_112
        refine s_iload 173 C X at_171 rfl ?_
        refine s_iconst 174 C X at_173 kc_iconst_1 ?_
        refine s_icmp_lt 184 177 C X at_174 (fun c174_113 => ?_) (fun c174_113 => ?_)
        · have t_c174_113 : (la5).toInt < (1 : Int) := Int32.lt_iff_toInt_lt.mp c174_113
          refine s_iload 186 C X at_184 rfl ?_
          refine s_iconst 187 C X at_186 kc_iconst_2 ?_
          refine s_icmp_lt 197 190 C X at_187 (fun c187_114 => ?_) (fun c187_114 => ?_)
          · have t_c187_114 : (la5).toInt < (2 : Int) := Int32.lt_iff_toInt_lt.mp c187_114
            refine s_iconst 198 C X at_197 kc_iconst_1 ?_
            refine s_goto 202 C X at_198 ?_
            exact J121 T _ _ _ (i1) (Or.inr (Or.inl ⟨t_c168_112, t_c174_113, t_c187_114, rfl⟩)) C X hS Kp E_o26 F_o26_value F_o26_coder A_o30 Od E_o68 F_o68_value F_o68_coder A_o72 E_o108 F_o108_position F_o108_node Nk Rc H_o108 H_o110 E_o110 F_o110_position F_o110_node
          have t_c187_114 : ¬ ((la5).toInt < (2 : Int)) := fun q => c187_114 (Int32.lt_iff_toInt_lt.mpr q)
          refine s_iload 192 C X at_190 rfl ?_
          refine s_iload 194 C X at_192 rfl ?_
          refine s_icmp_ne 201 197 C X at_194 (fun c194_115 => ?_) (fun c194_115 => ?_)
          · have t_c194_115 : ¬ ((cb7).toInt = (y22).toInt) := fun q => c194_115 (Int32.toInt_inj.mp q)
            refine s_iconst 202 C X at_201 kc_iconst_0 ?_
            exact J121 T _ _ _ (i0) (Or.inr (Or.inr (Or.inl ⟨t_c168_112, t_c174_113, t_c187_114, t_c194_115, rfl⟩))) C X hS Kp E_o26 F_o26_value F_o26_coder A_o30 Od E_o68 F_o68_value F_o68_coder A_o72 E_o108 F_o108_position F_o108_node Nk Rc H_o108 H_o110 E_o110 F_o110_position F_o110_node
          have t_c194_115 : (cb7).toInt = (y22).toInt := congrArg Int32.toInt c194_115
          refine s_iconst 198 C X at_197 kc_iconst_1 ?_
          refine s_goto 202 C X at_198 ?_
          exact J121 T _ _ _ (i1) (Or.inr (Or.inr (Or.inr (Or.inl ⟨t_c168_112, t_c174_113, t_c187_114, t_c194_115, rfl⟩)))) C X hS Kp E_o26 F_o26_value F_o26_coder A_o30 Od E_o68 F_o68_value F_o68_coder A_o72 E_o108 F_o108_position F_o108_node Nk Rc H_o108 H_o110 E_o110 F_o110_position F_o110_node
        have t_c174_113 : ¬ ((la5).toInt < (1 : Int)) := fun q => c174_113 (Int32.lt_iff_toInt_lt.mpr q)
        refine s_iload 179 C X at_177 rfl ?_
        refine s_iload 181 C X at_179 rfl ?_
        refine s_icmp_ne 201 184 C X at_181 (fun c181_116 => ?_) (fun c181_116 => ?_)
        · have t_c181_116 : ¬ ((ca6).toInt = (y18).toInt) := fun q => c181_116 (Int32.toInt_inj.mp q)
          refine s_iconst 202 C X at_201 kc_iconst_0 ?_
          exact J121 T _ _ _ (i0) (Or.inr (Or.inr (Or.inr (Or.inr (Or.inl ⟨t_c168_112, t_c174_113, t_c181_116, rfl⟩))))) C X hS Kp E_o26 F_o26_value F_o26_coder A_o30 Od E_o68 F_o68_value F_o68_coder A_o72 E_o108 F_o108_position F_o108_node Nk Rc H_o108 H_o110 E_o110 F_o110_position F_o110_node
        have t_c181_116 : (ca6).toInt = (y18).toInt := congrArg Int32.toInt c181_116
        refine s_iload 186 C X at_184 rfl ?_
        refine s_iconst 187 C X at_186 kc_iconst_2 ?_
        refine s_icmp_lt 197 190 C X at_187 (fun c187_117 => ?_) (fun c187_117 => ?_)
        · have t_c187_117 : (la5).toInt < (2 : Int) := Int32.lt_iff_toInt_lt.mp c187_117
          refine s_iconst 198 C X at_197 kc_iconst_1 ?_
          refine s_goto 202 C X at_198 ?_
          exact J121 T _ _ _ (i1) (Or.inr (Or.inr (Or.inr (Or.inr (Or.inr (Or.inl ⟨t_c168_112, t_c174_113, t_c181_116, t_c187_117, rfl⟩)))))) C X hS Kp E_o26 F_o26_value F_o26_coder A_o30 Od E_o68 F_o68_value F_o68_coder A_o72 E_o108 F_o108_position F_o108_node Nk Rc H_o108 H_o110 E_o110 F_o110_position F_o110_node
        have t_c187_117 : ¬ ((la5).toInt < (2 : Int)) := fun q => c187_117 (Int32.lt_iff_toInt_lt.mpr q)
        refine s_iload 192 C X at_190 rfl ?_
        refine s_iload 194 C X at_192 rfl ?_
        refine s_icmp_ne 201 197 C X at_194 (fun c194_118 => ?_) (fun c194_118 => ?_)
        · have t_c194_118 : ¬ ((cb7).toInt = (y22).toInt) := fun q => c194_118 (Int32.toInt_inj.mp q)
          refine s_iconst 202 C X at_201 kc_iconst_0 ?_
          exact J121 T _ _ _ (i0) (Or.inr (Or.inr (Or.inr (Or.inr (Or.inr (Or.inr (Or.inl ⟨t_c168_112, t_c174_113, t_c181_116, t_c187_117, t_c194_118, rfl⟩))))))) C X hS Kp E_o26 F_o26_value F_o26_coder A_o30 Od E_o68 F_o68_value F_o68_coder A_o72 E_o108 F_o108_position F_o108_node Nk Rc H_o108 H_o110 E_o110 F_o110_position F_o110_node
        have t_c194_118 : (cb7).toInt = (y22).toInt := congrArg Int32.toInt c194_118
        refine s_iconst 198 C X at_197 kc_iconst_1 ?_
        refine s_goto 202 C X at_198 ?_
        exact J121 T _ _ _ (i1) (Or.inr (Or.inr (Or.inr (Or.inr (Or.inr (Or.inr (Or.inr ⟨t_c168_112, t_c174_113, t_c181_116, t_c187_117, t_c194_118, rfl⟩))))))) C X hS Kp E_o26 F_o26_value F_o26_coder A_o30 Od E_o68 F_o68_value F_o68_coder A_o72 E_o108 F_o108_position F_o108_node Nk Rc H_o108 H_o110 E_o110 F_o110_position F_o110_node
      intro T hh vm k1 y120 D121  C X hS Kp E_o26 F_o26_value F_o26_coder A_o30 Od E_o68 F_o68_value F_o68_coder A_o72 E_o108 F_o108_position F_o108_node Nk Rc H_o108 H_o110 E_o110 F_o110_position F_o110_node
      refine s_istore 204 C X (l' := #[lv a, .second, lv b, .second, iv c_, iv d_, iv mo, lv y3, .second, iv la5, iv ca6, iv cb7, iv y10, iv y14, iv y18, iv y22, rv o26, rv o68, rv o108, rv o110, iv y120, .unset, .unset]) at_202 rfl ?_
      refine s_lloadN 205 C X at_204 rfl ?_
      refine s_lload 207 C X at_205 rfl ?_
      refine s_lcmp 208 C X at_207 ?_
      suffices J126 : ∀ (T : State) (hh : Heap) (vm : Vm) (k1 : Nat) (y125 : Int32) (D126 : ((¬ ((a).toInt = (y3).toInt)) ∧ y125 = i0) ∨ (((a).toInt = (y3).toInt) ∧ ((y120).toInt = (0 : Int)) ∧ y125 = i0) ∨ (((a).toInt = (y3).toInt) ∧ (¬ ((y120).toInt = (0 : Int))) ∧ y125 = i1)) (C : Cx tables_1 a0 Z x.cls x.name code maxLocals ret p (s.setVm vm) m meth c) (X : St p l e room_1 (s.setVm vm) m #[(.long a), (.long b), (.int c_), (.int d_), (.int mo)] below meth c n0 T hh 14 28) (hS : s.Since vm k1) (Kp : Keep h0 hh []) (E_o26 : Exa Z hh o26 "java/lang/String") (F_o26_value : Fld Z hh o26 "java/lang/String" "value" "[B" (.ref o30)) (F_o26_coder : Fld Z hh o26 "java/lang/String" "coder" "B" (.int i0)) (A_o30 : Arv Z hh o30 k_o30 .byte i2 [(.int (bv ca6)), (.int (bv cb7))] (.int i0)) (Od : Old Z n0 hh) (E_o68 : Exa Z hh o68 "java/lang/String") (F_o68_value : Fld Z hh o68 "java/lang/String" "value" "[B" (.ref o72)) (F_o68_coder : Fld Z hh o68 "java/lang/String" "coder" "B" (.int i0)) (A_o72 : Arv Z hh o72 k_o72 .byte i2 [(.int (bv y18)), (.int (bv y22))] (.int i0)) (E_o108 : Exa Z hh o108 "com/example/libring/libring/core/RingPoint") (F_o108_position : Fld Z hh o108 "com/example/libring/libring/core/RingPoint" "position" "J" (.long a)) (F_o108_node : Fld Z hh o108 "com/example/libring/libring/core/RingPoint" "node" "Ljava/lang/String;" (.ref o26)) (Nk : k1 ≤ hh.size) (Rc : CHr Z EL1 s.vm h0 vm hh) (H_o108 : Safe Z EL1 vm hh o108) (H_o110 : Safe Z EL1 vm hh o110) (E_o110 : Exa Z hh o110 "com/example/libring/libring/core/RingPoint") (F_o110_position : Fld Z hh o110 "com/example/libring/libring/core/RingPoint" "position" "J" (.long y3)) (F_o110_node : Fld Z hh o110 "com/example/libring/libring/core/RingPoint" "node" "Ljava/lang/String;" (.ref o68)), Run p e below n0 Q' G' m T 221 #[lv a, .second, lv b, .second, iv c_, iv d_, iv mo, lv y3, .second, iv la5, iv ca6, iv cb7, iv y10, iv y14, iv y18, iv y22, rv o26, rv o68, rv o108, rv o110, iv y120, .unset, .unset] [(.int y125)] by
        refine s_if_ne 220 211 C X at_208 (fun c208_122 => ?_) (fun c208_122 => ?_)
        · have t_c208_122 : ¬ ((a).toInt = (y3).toInt) := fun q => c208_122 (cl_eq.mpr q)
          refine s_iconst 221 C X at_220 kc_iconst_0 ?_
          exact J126 T _ _ _ (i0) ((Or.inl ⟨t_c208_122, rfl⟩)) C X hS Kp E_o26 F_o26_value F_o26_coder A_o30 Od E_o68 F_o68_value F_o68_coder A_o72 E_o108 F_o108_position F_o108_node Nk Rc H_o108 H_o110 E_o110 F_o110_position F_o110_node
        have t_c208_122 : (a).toInt = (y3).toInt := cl_eq.mp c208_122
        refine s_iload 213 C X at_211 rfl ?_
        refine s_if_eq 220 216 C X at_213 (fun c213_123 => ?_) (fun c213_123 => ?_)
        · have t_c213_123 : (y120).toInt = (0 : Int) := congrArg Int32.toInt c213_123
          refine s_iconst 221 C X at_220 kc_iconst_0 ?_
          exact J126 T _ _ _ (i0) (Or.inr (Or.inl ⟨t_c208_122, t_c213_123, rfl⟩)) C X hS Kp E_o26 F_o26_value F_o26_coder A_o30 Od E_o68 F_o68_value F_o68_coder A_o72 E_o108 F_o108_position F_o108_node Nk Rc H_o108 H_o110 E_o110 F_o110_position F_o110_node
        have t_c213_123 : ¬ ((y120).toInt = (0 : Int)) := fun q => c213_123 (Int32.toInt_inj.mp q)
        refine s_iconst 217 C X at_216 kc_iconst_1 ?_
        refine s_goto 221 C X at_217 ?_
        exact J126 T _ _ _ (i1) (Or.inr (Or.inr ⟨t_c208_122, t_c213_123, rfl⟩)) C X hS Kp E_o26 F_o26_value F_o26_coder A_o30 Od E_o68 F_o68_value F_o68_coder A_o72 E_o108 F_o108_position F_o108_node Nk Rc H_o108 H_o110 E_o110 F_o110_position F_o110_node
      intro T hh vm k1 y125 D126  C X hS Kp E_o26 F_o26_value F_o26_coder A_o30 Od E_o68 F_o68_value F_o68_coder A_o72 E_o108 F_o108_position F_o108_node Nk Rc H_o108 H_o110 E_o110 F_o110_position F_o110_node
      refine s_istore 223 C X (l' := #[lv a, .second, lv b, .second, iv c_, iv d_, iv mo, lv y3, .second, iv la5, iv ca6, iv cb7, iv y10, iv y14, iv y18, iv y22, rv o26, rv o68, rv o108, rv o110, iv y120, iv y125, .unset]) at_221 rfl ?_
      refine s_aload 225 C X at_223 rfl rfl ?_
      refine s_astore 227 C X (l' := #[lv a, .second, lv b, .second, iv c_, iv d_, iv mo, lv y3, .second, iv la5, iv ca6, iv cb7, iv y10, iv y14, iv y18, iv y22, rv o26, rv o68, rv o108, rv o110, iv y120, iv y125, rv o26]) at_225 rfl rfl ?_
      refine s_aload 229 C X at_227 rfl rfl ?_
      refine s_aload 231 C X at_229 rfl rfl ?_
      refine s_callV 234 [(.ref o110)] [] 0 C X at_231 (mW 37 rfl) (mW 38 rfl) (notFace_of_selects (args := #[]) (mvT C.2.1 (C.w (mW 40 rfl)))) (mW 40 rfl) (mW 39 rfl) (mW 28 rfl) (mW 41 rfl) E_o108 (rm_a153 l Z a0 hw a cs y3 ca6 cb7 y18 y22 o26 o30 k_o30 o68 o72 k_o72 o108 o110 _ n0 X.sz S_cs E_o26 F_o26_value F_o26_coder A_o30 Od E_o68 F_o68_value F_o68_coder A_o72 F_o108_position F_o108_node E_o110 F_o110_position F_o110_node hv_cs ne_o26_o68) (lenOf pd__Ljava_lang_Object__Z rfl) rfl rfl rfl (fun T v hh X q => ?_)
      obtain ⟨y154, rfl, D155, Od, Kc⟩ := q
      have H_o108 := Safe.keep Kc so0 Rc.1 H_o108
      have H_o110 := Safe.keep Kc so0 Rc.1 H_o110
      have Rc := Rc.trans (CHr.keep Kc so0 Rc.1)
      have Nk := Nat.le_trans Nk Kc.1
      have Kp := Kp.trans Kc all0
      have E_o26 := E_o26.keep Kc
      have F_o26_value := F_o26_value.keep Kc nin0
      have F_o26_coder := F_o26_coder.keep Kc nin0
      have A_o30 := A_o30.keep Kc nin0
      have E_o68 := E_o68.keep Kc
      have F_o68_value := F_o68_value.keep Kc nin0
      have F_o68_coder := F_o68_coder.keep Kc nin0
      have A_o72 := A_o72.keep Kc nin0
      have E_o108 := E_o108.keep Kc
      have F_o108_position := F_o108_position.keep Kc nin0
      have F_o108_node := F_o108_node.keep Kc nin0
      have E_o110 := E_o110.keep Kc
      have F_o110_position := F_o110_position.keep Kc nin0
      have F_o110_node := F_o110_node.keep Kc nin0
      refine Run.cast (st' := [(.int y154)]) rfl ?_
      refine s_iload 236 C X at_234 rfl ?_
      refine s_icmp_ne 284 239 C X at_236 (fun c236_156 => ?_) (fun c236_156 => ?_)
      · have t_c236_156 : ¬ ((y154).toInt = (y125).toInt) := fun q => c236_156 (Int32.toInt_inj.mp q)
        refine s_iconst 285 C X at_284 kc_iconst_0 ?_
        refine s_nreturn C X at_285 rfl (by simp) rfl ?_ (FGH hG hS Nk Rc C (own_EL hw) (by decide) (by decide))
        exact (own_lf0 D121 D126 D155 t_c1_24 t_c17_25 t_c1_66 t_c17_67 t_c236_156 hv_ca6 hv_y18 hv_cb7 hv_y22 hv_la5 hv_y14).elim
      refine s_aload 241 C X at_239 rfl rfl ?_
      refine s_aload 243 C X at_241 rfl rfl ?_
      refine s_callV 246 [(.ref o108)] [] 0 C X at_243 (mW 37 rfl) (mW 38 rfl) (notFace_of_selects (args := #[]) (mvT C.2.1 (C.w (mW 40 rfl)))) (mW 40 rfl) (mW 39 rfl) (mW 28 rfl) (mW 41 rfl) E_o110 (rm_a183 l Z a0 hw a cs y3 ca6 cb7 y18 y22 o26 o30 k_o30 o68 o72 k_o72 o108 o110 _ n0 X.sz S_cs E_o26 F_o26_value F_o26_coder A_o30 E_o68 F_o68_value F_o68_coder A_o72 E_o108 F_o108_position F_o108_node F_o110_position F_o110_node Od hv_cs ne_o26_o68) (lenOf pd__Ljava_lang_Object__Z rfl) rfl rfl rfl (fun T v hh X q => ?_)
      obtain ⟨y184, rfl, D185, Od, Kc⟩ := q
      have H_o108 := Safe.keep Kc so0 Rc.1 H_o108
      have H_o110 := Safe.keep Kc so0 Rc.1 H_o110
      have Rc := Rc.trans (CHr.keep Kc so0 Rc.1)
      have Nk := Nat.le_trans Nk Kc.1
      have Kp := Kp.trans Kc all0
      have E_o26 := E_o26.keep Kc
      have E_o108 := E_o108.keep Kc
      have F_o108_position := F_o108_position.keep Kc nin0
      have F_o108_node := F_o108_node.keep Kc nin0
      refine Run.cast (st' := [(.int y184)]) rfl ?_
      refine s_iload 248 C X at_246 rfl ?_
      refine s_icmp_ne 284 251 C X at_248 (fun c248_186 => ?_) (fun c248_186 => ?_)
      · have t_c248_186 : ¬ ((y184).toInt = (y125).toInt) := fun q => c248_186 (Int32.toInt_inj.mp q)
        refine s_iconst 285 C X at_284 kc_iconst_0 ?_
        refine s_nreturn C X at_285 rfl (by simp) rfl ?_ (FGH hG hS Nk Rc C (own_EL hw) (by decide) (by decide))
        exact (own_lf1 D121 D126 D185 t_c1_24 t_c17_25 t_c1_66 t_c17_67 t_c248_186 hv_y18 hv_ca6 hv_y22 hv_cb7 hv_la5 hv_y14).elim
      refine s_aload 253 C X at_251 rfl rfl ?_
      refine s_aload 255 C X at_253 rfl rfl ?_
      refine s_callV 258 [(.ref o108)] [] 0 C X at_255 (mW 37 rfl) (mW 38 rfl) (notFace_of_selects (args := #[]) (mvT C.2.1 (C.w (mW 40 rfl)))) (mW 40 rfl) (mW 39 rfl) (mW 28 rfl) (mW 41 rfl) E_o108 (rm_a192 l Z a0 hw a o26 o108 _ n0 X.sz E_o26 E_o108 F_o108_position F_o108_node) (lenOf pd__Ljava_lang_Object__Z rfl) rfl rfl rfl (fun T v hh X q => ?_)
      obtain ⟨rfl, Kc⟩ := q
      have H_o108 := Safe.keep Kc so0 Rc.1 H_o108
      have H_o110 := Safe.keep Kc so0 Rc.1 H_o110
      have Rc := Rc.trans (CHr.keep Kc so0 Rc.1)
      have Nk := Nat.le_trans Nk Kc.1
      have Kp := Kp.trans Kc all0
      have E_o26 := E_o26.keep Kc
      have E_o108 := E_o108.keep Kc
      have Od := Od.keep Kc all0
      refine Run.cast (st' := [(.int i1)]) rfl ?_
      refine s_if_eq 284 261 C X at_258 (fun c => absurd c (by decide)) (fun _ => ?_)
      refine s_aload 263 C X at_261 rfl rfl ?_
      refine s_aload 265 C X at_263 rfl rfl ?_
      refine s_callV 268 [(.ref o26)] [] 0 C X at_265 (mW 37 rfl) (mW 38 rfl) (notFace_of_selects (args := #[]) (mvT C.2.1 (C.w (mW 40 rfl)))) (mW 40 rfl) (mW 39 rfl) (mW 28 rfl) (mW 41 rfl) E_o108 (rm_a195 l Z a0 hw o26 o108 _ n0 X.sz E_o26) (lenOf pd__Ljava_lang_Object__Z rfl) rfl rfl rfl (fun T v hh X q => ?_)
      obtain ⟨rfl, Kc⟩ := q
      have H_o108 := Safe.keep Kc so0 Rc.1 H_o108
      have H_o110 := Safe.keep Kc so0 Rc.1 H_o110
      have Rc := Rc.trans (CHr.keep Kc so0 Rc.1)
      have Nk := Nat.le_trans Nk Kc.1
      have Kp := Kp.trans Kc all0
      have E_o108 := E_o108.keep Kc
      have Od := Od.keep Kc all0
      refine Run.cast (st' := [(.int i0)]) rfl ?_
      refine s_if_ne 284 271 C X at_268 (fun c => absurd (by decide : i0 = i0) c) (fun _ => ?_)
      refine s_aload 273 C X at_271 rfl rfl ?_
      refine s_aconstNull 274 C X at_273 ?_
      refine s_callV 277 [.null] [] 0 C X at_274 (mW 37 rfl) (mW 38 rfl) (notFace_of_selects (args := #[]) (mvT C.2.1 (C.w (mW 40 rfl)))) (mW 40 rfl) (mW 39 rfl) (mW 28 rfl) (mW 41 rfl) E_o108 (rm_a198 l Z a0 hw o108 _ n0 X.sz ) (lenOf pd__Ljava_lang_Object__Z rfl) rfl rfl rfl (fun T v hh X q => ?_)
      obtain ⟨rfl, Kc⟩ := q
      have H_o108 := Safe.keep Kc so0 Rc.1 H_o108
      have H_o110 := Safe.keep Kc so0 Rc.1 H_o110
      have Rc := Rc.trans (CHr.keep Kc so0 Rc.1)
      have Nk := Nat.le_trans Nk Kc.1
      have Kp := Kp.trans Kc all0
      have Od := Od.keep Kc all0
      refine Run.cast (st' := [(.int i0)]) rfl ?_
      refine s_if_ne 284 280 C X at_277 (fun c => absurd (by decide : i0 = i0) c) (fun _ => ?_)
      refine s_iconst 281 C X at_280 kc_iconst_1 ?_
      refine s_goto 285 C X at_281 ?_
      refine s_nreturn C X at_285 rfl (by simp) rfl ?_ (FGH hG hS Nk Rc C (own_EL hw) (by decide) (by decide))
      exact hQ _ _ rfl
    · have ne_o26_o84 : o26 ≠ o84 := Nat.ne_of_lt (Nat.lt_of_lt_of_le E_o26.lt sz_o84')
      have Rc := Rc.trans Rn
      have Kp := Kp.trans Kc all0
      have E_o26 := E_o26.keep Kc
      have F_o26_value := F_o26_value.keep Kc nin0
      have F_o26_coder := F_o26_coder.keep Kc nin0
      have A_o30 := A_o30.keep Kc nin0
      have t_c1_66 : ¬ ((y14).toInt = (0 : Int)) := fun q => c1_66 (Int32.toInt_inj.mp q)
      have t_c17_67 : (y14).toInt = (1 : Int) := congrArg Int32.toInt c17_67
      refine Run.cast (st' := [(.ref o84)]) rfl ?_
      refine s_astore 139 C X (l' := #[lv a, .second, lv b, .second, iv c_, iv d_, iv mo, lv y3, .second, iv la5, iv ca6, iv cb7, iv y10, iv y14, iv y18, iv y22, rv o26, rv o84, .unset, .unset, .unset, .unset, .unset]) at_137 rfl rfl ?_
      refine s_new 142 C X at_139 (mW 26 rfl) (mW 27 rfl) (mW 28 rfl) (fun T hh o200 hb_o200 X E E_o200 D g_o200 => ?_)
      have H_o200 : Safe Z EL1 vm _ o200 := Safe.ext E Rc.1 (Safe.new (Nat.le_of_eq hb_o200))
      have Rc := Rc.trans (CHr.ext E Rc.1)
      have Nk := Nat.le_trans Nk E.1
      have sz_o200 : h0.size ≤ o200 := Nat.le_trans Kp.1 (Nat.le_of_eq hb_o200)
      have ne_o26_o200 : o26 ≠ o200 := Nat.ne_of_lt (Nat.lt_of_lt_of_le E_o26.lt (Nat.le_of_eq hb_o200))
      have ne_o30_o200 : o30 ≠ o200 := Nat.ne_of_lt (Nat.lt_of_lt_of_le A_o30.lt (Nat.le_of_eq hb_o200))
      have ne_o84_o200 : o84 ≠ o200 := Nat.ne_of_lt (Nat.lt_of_lt_of_le E_o84.lt (Nat.le_of_eq hb_o200))
      have ne_o88_o200 : o88 ≠ o200 := Nat.ne_of_lt (Nat.lt_of_lt_of_le A_o88.lt (Nat.le_of_eq hb_o200))
      have Kp := Kp.ext E
      have E_o26 := E_o26.ext E
      have F_o26_value := F_o26_value.ext E
      have F_o26_coder := F_o26_coder.ext E
      have A_o30 := A_o30.ext E
      have Od := Od.ext E
      have E_o84 := E_o84.ext E
      have F_o84_value := F_o84_value.ext E
      have F_o84_coder := F_o84_coder.ext E
      have A_o88 := A_o88.ext E
      have F_o200_position : Fld Z _ o200 "com/example/libring/libring/core/RingPoint" "position" "J" (.long j0) := D (Or.inr (hw _ (mW 34 rfl))) (ty := .long) (by decide)
      have F_o200_node : Fld Z _ o200 "com/example/libring/libring/core/RingPoint" "node" "Ljava/lang/String;" .null := D (Or.inr (hw _ (mW 36 rfl))) (ty := (.object "java/lang/String")) (by decide)
      refine s_dup 143 C X at_142 rfl ?_
      refine s_lloadN 144 C X at_143 rfl ?_
      refine s_aload 146 C X at_144 rfl rfl ?_
      have Sw_o200 : Safe Z EL1 vm _ o200 := H_o200
      refine s_callC 149 [(.long a), (.ref o26)] [(.ref o200)] 1 C X at_146 rfl (mW 29 rfl) (mW 30 rfl) (mW 28 rfl) (mW 31 rfl) (rm_a201 l Z a0 hw a o26 o200 _ n0 X.sz E_o200 F_o200_position F_o200_node g_o200) (lenOf pd__JLjava_lang_String__V rfl) rfl rfl rfl (fun T v hh X q => ?_)
      obtain ⟨rfl, E_o200, F_o200_position, F_o200_node, Kc⟩ := q
      have Hs : ∀ x ∈ [o200], Safe Z EL1 vm _ x := (soS Sw_o200 so0)
      have H_o200 := Safe.keep Kc Hs Rc.1 H_o200
      have Rc := Rc.trans (CHr.keep Kc Hs Rc.1)
      have Nk := Nat.le_trans Nk Kc.1
      have Kp := Kp.trans Kc (allS (Or.inr sz_o200) all0)
      have E_o26 := E_o26.keep Kc
      have F_o26_value := F_o26_value.keep Kc (ninS ne_o26_o200 nin0)
      have F_o26_coder := F_o26_coder.keep Kc (ninS ne_o26_o200 nin0)
      have A_o30 := A_o30.keep Kc (ninS ne_o30_o200 nin0)
      have Od := Od.keep Kc (allS g_o200 all0)
      have E_o84 := E_o84.keep Kc
      have F_o84_value := F_o84_value.keep Kc (ninS ne_o84_o200 nin0)
      have F_o84_coder := F_o84_coder.keep Kc (ninS ne_o84_o200 nin0)
      have A_o88 := A_o88.keep Kc (ninS ne_o88_o200 nin0)
      refine Run.cast (st' := [(.ref o200)]) rfl ?_
      refine s_astore 151 C X (l' := #[lv a, .second, lv b, .second, iv c_, iv d_, iv mo, lv y3, .second, iv la5, iv ca6, iv cb7, iv y10, iv y14, iv y18, iv y22, rv o26, rv o84, rv o200, .unset, .unset, .unset, .unset]) at_149 rfl rfl ?_
      refine s_new 154 C X at_151 (mW 26 rfl) (mW 27 rfl) (mW 28 rfl) (fun T hh o202 hb_o202 X E E_o202 D g_o202 => ?_)
      have H_o200 := Safe.ext E Rc.1 H_o200
      have H_o202 : Safe Z EL1 vm _ o202 := Safe.ext E Rc.1 (Safe.new (Nat.le_of_eq hb_o202))
      have Rc := Rc.trans (CHr.ext E Rc.1)
      have Nk := Nat.le_trans Nk E.1
      have sz_o202 : h0.size ≤ o202 := Nat.le_trans Kp.1 (Nat.le_of_eq hb_o202)
      have ne_o26_o202 : o26 ≠ o202 := Nat.ne_of_lt (Nat.lt_of_lt_of_le E_o26.lt (Nat.le_of_eq hb_o202))
      have ne_o30_o202 : o30 ≠ o202 := Nat.ne_of_lt (Nat.lt_of_lt_of_le A_o30.lt (Nat.le_of_eq hb_o202))
      have ne_o84_o202 : o84 ≠ o202 := Nat.ne_of_lt (Nat.lt_of_lt_of_le E_o84.lt (Nat.le_of_eq hb_o202))
      have ne_o88_o202 : o88 ≠ o202 := Nat.ne_of_lt (Nat.lt_of_lt_of_le A_o88.lt (Nat.le_of_eq hb_o202))
      have ne_o200_o202 : o200 ≠ o202 := Nat.ne_of_lt (Nat.lt_of_lt_of_le E_o200.lt (Nat.le_of_eq hb_o202))
      have Kp := Kp.ext E
      have E_o26 := E_o26.ext E
      have F_o26_value := F_o26_value.ext E
      have F_o26_coder := F_o26_coder.ext E
      have A_o30 := A_o30.ext E
      have Od := Od.ext E
      have E_o84 := E_o84.ext E
      have F_o84_value := F_o84_value.ext E
      have F_o84_coder := F_o84_coder.ext E
      have A_o88 := A_o88.ext E
      have E_o200 := E_o200.ext E
      have F_o200_position := F_o200_position.ext E
      have F_o200_node := F_o200_node.ext E
      have F_o202_position : Fld Z _ o202 "com/example/libring/libring/core/RingPoint" "position" "J" (.long j0) := D (Or.inr (hw _ (mW 34 rfl))) (ty := .long) (by decide)
      have F_o202_node : Fld Z _ o202 "com/example/libring/libring/core/RingPoint" "node" "Ljava/lang/String;" .null := D (Or.inr (hw _ (mW 36 rfl))) (ty := (.object "java/lang/String")) (by decide)
      refine s_dup 155 C X at_154 rfl ?_
      refine s_lload 157 C X at_155 rfl ?_
      refine s_aload 159 C X at_157 rfl rfl ?_
      have Sw_o202 : Safe Z EL1 vm _ o202 := H_o202
      refine s_callC 162 [(.long y3), (.ref o84)] [(.ref o202)] 1 C X at_159 rfl (mW 29 rfl) (mW 30 rfl) (mW 28 rfl) (mW 31 rfl) (rm_a203 l Z a0 hw y3 o84 o202 _ n0 X.sz E_o202 F_o202_position F_o202_node g_o202) (lenOf pd__JLjava_lang_String__V rfl) rfl rfl rfl (fun T v hh X q => ?_)
      obtain ⟨rfl, E_o202, F_o202_position, F_o202_node, Kc⟩ := q
      have Hs : ∀ x ∈ [o202], Safe Z EL1 vm _ x := (soS Sw_o202 so0)
      have H_o200 := Safe.keep Kc Hs Rc.1 H_o200
      have H_o202 := Safe.keep Kc Hs Rc.1 H_o202
      have Rc := Rc.trans (CHr.keep Kc Hs Rc.1)
      have Nk := Nat.le_trans Nk Kc.1
      have Kp := Kp.trans Kc (allS (Or.inr sz_o202) all0)
      have E_o26 := E_o26.keep Kc
      have F_o26_value := F_o26_value.keep Kc (ninS ne_o26_o202 nin0)
      have F_o26_coder := F_o26_coder.keep Kc (ninS ne_o26_o202 nin0)
      have A_o30 := A_o30.keep Kc (ninS ne_o30_o202 nin0)
      have Od := Od.keep Kc (allS g_o202 all0)
      have E_o84 := E_o84.keep Kc
      have F_o84_value := F_o84_value.keep Kc (ninS ne_o84_o202 nin0)
      have F_o84_coder := F_o84_coder.keep Kc (ninS ne_o84_o202 nin0)
      have A_o88 := A_o88.keep Kc (ninS ne_o88_o202 nin0)
      have E_o200 := E_o200.keep Kc
      have F_o200_position := F_o200_position.keep Kc (ninS ne_o200_o202 nin0)
      have F_o200_node := F_o200_node.keep Kc (ninS ne_o200_o202 nin0)
      refine Run.cast (st' := [(.ref o202)]) rfl ?_
      refine s_astore 164 C X (l' := #[lv a, .second, lv b, .second, iv c_, iv d_, iv mo, lv y3, .second, iv la5, iv ca6, iv cb7, iv y10, iv y14, iv y18, iv y22, rv o26, rv o84, rv o200, rv o202, .unset, .unset, .unset]) at_162 rfl rfl ?_
      refine s_iload 166 C X at_164 rfl ?_
      refine s_iload 168 C X at_166 rfl ?_
      suffices J213 : ∀ (T : State) (hh : Heap) (vm : Vm) (k1 : Nat) (y212 : Int32) (D213 : ((¬ ((la5).toInt = (y14).toInt)) ∧ y212 = i0) ∨ (((la5).toInt = (y14).toInt) ∧ ((la5).toInt < (1 : Int)) ∧ ((la5).toInt < (2 : Int)) ∧ y212 = i1) ∨ (((la5).toInt = (y14).toInt) ∧ ((la5).toInt < (1 : Int)) ∧ (¬ ((la5).toInt < (2 : Int))) ∧ (¬ ((cb7).toInt = (y22).toInt)) ∧ y212 = i0) ∨ (((la5).toInt = (y14).toInt) ∧ ((la5).toInt < (1 : Int)) ∧ (¬ ((la5).toInt < (2 : Int))) ∧ ((cb7).toInt = (y22).toInt) ∧ y212 = i1) ∨ (((la5).toInt = (y14).toInt) ∧ (¬ ((la5).toInt < (1 : Int))) ∧ (¬ ((ca6).toInt = (y18).toInt)) ∧ y212 = i0) ∨ (((la5).toInt = (y14).toInt) ∧ (¬ ((la5).toInt < (1 : Int))) ∧ ((ca6).toInt = (y18).toInt) ∧ ((la5).toInt < (2 : Int)) ∧ y212 = i1) ∨ (((la5).toInt = (y14).toInt) ∧ (¬ ((la5).toInt < (1 : Int))) ∧ ((ca6).toInt = (y18).toInt) ∧ (¬ ((la5).toInt < (2 : Int))) ∧ (¬ ((cb7).toInt = (y22).toInt)) ∧ y212 = i0) ∨ (((la5).toInt = (y14).toInt) ∧ (¬ ((la5).toInt < (1 : Int))) ∧ ((ca6).toInt = (y18).toInt) ∧ (¬ ((la5).toInt < (2 : Int))) ∧ ((cb7).toInt = (y22).toInt) ∧ y212 = i1)) (C : Cx tables_1 a0 Z x.cls x.name code maxLocals ret p (s.setVm vm) m meth c) (X : St p l e room_1 (s.setVm vm) m #[(.long a), (.long b), (.int c_), (.int d_), (.int mo)] below meth c n0 T hh 14 28) (hS : s.Since vm k1) (Kp : Keep h0 hh []) (E_o26 : Exa Z hh o26 "java/lang/String") (F_o26_value : Fld Z hh o26 "java/lang/String" "value" "[B" (.ref o30)) (F_o26_coder : Fld Z hh o26 "java/lang/String" "coder" "B" (.int i0)) (A_o30 : Arv Z hh o30 k_o30 .byte i2 [(.int (bv ca6)), (.int (bv cb7))] (.int i0)) (Od : Old Z n0 hh) (E_o84 : Exa Z hh o84 "java/lang/String") (F_o84_value : Fld Z hh o84 "java/lang/String" "value" "[B" (.ref o88)) (F_o84_coder : Fld Z hh o84 "java/lang/String" "coder" "B" (.int i0)) (A_o88 : Arv Z hh o88 k_o88 .byte i1 [(.int (bv y18))] (.int i0)) (E_o200 : Exa Z hh o200 "com/example/libring/libring/core/RingPoint") (F_o200_position : Fld Z hh o200 "com/example/libring/libring/core/RingPoint" "position" "J" (.long a)) (F_o200_node : Fld Z hh o200 "com/example/libring/libring/core/RingPoint" "node" "Ljava/lang/String;" (.ref o26)) (Nk : k1 ≤ hh.size) (Rc : CHr Z EL1 s.vm h0 vm hh) (H_o200 : Safe Z EL1 vm hh o200) (H_o202 : Safe Z EL1 vm hh o202) (E_o202 : Exa Z hh o202 "com/example/libring/libring/core/RingPoint") (F_o202_position : Fld Z hh o202 "com/example/libring/libring/core/RingPoint" "position" "J" (.long y3)) (F_o202_node : Fld Z hh o202 "com/example/libring/libring/core/RingPoint" "node" "Ljava/lang/String;" (.ref o84)), Run p e below n0 Q' G' m T 202 #[lv a, .second, lv b, .second, iv c_, iv d_, iv mo, lv y3, .second, iv la5, iv ca6, iv cb7, iv y10, iv y14, iv y18, iv y22, rv o26, rv o84, rv o200, rv o202, .unset, .unset, .unset] [(.int y212)] by
        refine s_icmp_ne 201 171 C X at_168 (fun c168_204 => ?_) (fun c168_204 => ?_)
        · have t_c168_204 : ¬ ((la5).toInt = (y14).toInt) := fun q => c168_204 (Int32.toInt_inj.mp q)
          refine s_iconst 202 C X at_201 kc_iconst_0 ?_
          exact J213 T _ _ _ (i0) ((Or.inl ⟨t_c168_204, rfl⟩)) C X hS Kp E_o26 F_o26_value F_o26_coder A_o30 Od E_o84 F_o84_value F_o84_coder A_o88 E_o200 F_o200_position F_o200_node Nk Rc H_o200 H_o202 E_o202 F_o202_position F_o202_node
        have t_c168_204 : (la5).toInt = (y14).toInt := congrArg Int32.toInt c168_204
        refine s_iload 173 C X at_171 rfl ?_
        refine s_iconst 174 C X at_173 kc_iconst_1 ?_
        refine s_icmp_lt 184 177 C X at_174 (fun c174_205 => ?_) (fun c174_205 => ?_)
        · have t_c174_205 : (la5).toInt < (1 : Int) := Int32.lt_iff_toInt_lt.mp c174_205
          refine s_iload 186 C X at_184 rfl ?_
          refine s_iconst 187 C X at_186 kc_iconst_2 ?_
          refine s_icmp_lt 197 190 C X at_187 (fun c187_206 => ?_) (fun c187_206 => ?_)
          · have t_c187_206 : (la5).toInt < (2 : Int) := Int32.lt_iff_toInt_lt.mp c187_206
            refine s_iconst 198 C X at_197 kc_iconst_1 ?_
            refine s_goto 202 C X at_198 ?_
            exact J213 T _ _ _ (i1) (Or.inr (Or.inl ⟨t_c168_204, t_c174_205, t_c187_206, rfl⟩)) C X hS Kp E_o26 F_o26_value F_o26_coder A_o30 Od E_o84 F_o84_value F_o84_coder A_o88 E_o200 F_o200_position F_o200_node Nk Rc H_o200 H_o202 E_o202 F_o202_position F_o202_node
          have t_c187_206 : ¬ ((la5).toInt < (2 : Int)) := fun q => c187_206 (Int32.lt_iff_toInt_lt.mpr q)
          refine s_iload 192 C X at_190 rfl ?_
          refine s_iload 194 C X at_192 rfl ?_
          refine s_icmp_ne 201 197 C X at_194 (fun c194_207 => ?_) (fun c194_207 => ?_)
          · have t_c194_207 : ¬ ((cb7).toInt = (y22).toInt) := fun q => c194_207 (Int32.toInt_inj.mp q)
            refine s_iconst 202 C X at_201 kc_iconst_0 ?_
            exact J213 T _ _ _ (i0) (Or.inr (Or.inr (Or.inl ⟨t_c168_204, t_c174_205, t_c187_206, t_c194_207, rfl⟩))) C X hS Kp E_o26 F_o26_value F_o26_coder A_o30 Od E_o84 F_o84_value F_o84_coder A_o88 E_o200 F_o200_position F_o200_node Nk Rc H_o200 H_o202 E_o202 F_o202_position F_o202_node
          have t_c194_207 : (cb7).toInt = (y22).toInt := congrArg Int32.toInt c194_207
          refine s_iconst 198 C X at_197 kc_iconst_1 ?_
          refine s_goto 202 C X at_198 ?_
          exact J213 T _ _ _ (i1) (Or.inr (Or.inr (Or.inr (Or.inl ⟨t_c168_204, t_c174_205, t_c187_206, t_c194_207, rfl⟩)))) C X hS Kp E_o26 F_o26_value F_o26_coder A_o30 Od E_o84 F_o84_value F_o84_coder A_o88 E_o200 F_o200_position F_o200_node Nk Rc H_o200 H_o202 E_o202 F_o202_position F_o202_node
        have t_c174_205 : ¬ ((la5).toInt < (1 : Int)) := fun q => c174_205 (Int32.lt_iff_toInt_lt.mpr q)
        refine s_iload 179 C X at_177 rfl ?_
        refine s_iload 181 C X at_179 rfl ?_
        refine s_icmp_ne 201 184 C X at_181 (fun c181_208 => ?_) (fun c181_208 => ?_)
        · have t_c181_208 : ¬ ((ca6).toInt = (y18).toInt) := fun q => c181_208 (Int32.toInt_inj.mp q)
          refine s_iconst 202 C X at_201 kc_iconst_0 ?_
          exact J213 T _ _ _ (i0) (Or.inr (Or.inr (Or.inr (Or.inr (Or.inl ⟨t_c168_204, t_c174_205, t_c181_208, rfl⟩))))) C X hS Kp E_o26 F_o26_value F_o26_coder A_o30 Od E_o84 F_o84_value F_o84_coder A_o88 E_o200 F_o200_position F_o200_node Nk Rc H_o200 H_o202 E_o202 F_o202_position F_o202_node
        have t_c181_208 : (ca6).toInt = (y18).toInt := congrArg Int32.toInt c181_208
        refine s_iload 186 C X at_184 rfl ?_
        refine s_iconst 187 C X at_186 kc_iconst_2 ?_
        refine s_icmp_lt 197 190 C X at_187 (fun c187_209 => ?_) (fun c187_209 => ?_)
        · have t_c187_209 : (la5).toInt < (2 : Int) := Int32.lt_iff_toInt_lt.mp c187_209
          refine s_iconst 198 C X at_197 kc_iconst_1 ?_
          refine s_goto 202 C X at_198 ?_
          exact J213 T _ _ _ (i1) (Or.inr (Or.inr (Or.inr (Or.inr (Or.inr (Or.inl ⟨t_c168_204, t_c174_205, t_c181_208, t_c187_209, rfl⟩)))))) C X hS Kp E_o26 F_o26_value F_o26_coder A_o30 Od E_o84 F_o84_value F_o84_coder A_o88 E_o200 F_o200_position F_o200_node Nk Rc H_o200 H_o202 E_o202 F_o202_position F_o202_node
        have t_c187_209 : ¬ ((la5).toInt < (2 : Int)) := fun q => c187_209 (Int32.lt_iff_toInt_lt.mpr q)
        refine s_iload 192 C X at_190 rfl ?_
        refine s_iload 194 C X at_192 rfl ?_
        refine s_icmp_ne 201 197 C X at_194 (fun c194_210 => ?_) (fun c194_210 => ?_)
        · have t_c194_210 : ¬ ((cb7).toInt = (y22).toInt) := fun q => c194_210 (Int32.toInt_inj.mp q)
          refine s_iconst 202 C X at_201 kc_iconst_0 ?_
          exact J213 T _ _ _ (i0) (Or.inr (Or.inr (Or.inr (Or.inr (Or.inr (Or.inr (Or.inl ⟨t_c168_204, t_c174_205, t_c181_208, t_c187_209, t_c194_210, rfl⟩))))))) C X hS Kp E_o26 F_o26_value F_o26_coder A_o30 Od E_o84 F_o84_value F_o84_coder A_o88 E_o200 F_o200_position F_o200_node Nk Rc H_o200 H_o202 E_o202 F_o202_position F_o202_node
        have t_c194_210 : (cb7).toInt = (y22).toInt := congrArg Int32.toInt c194_210
        refine s_iconst 198 C X at_197 kc_iconst_1 ?_
        refine s_goto 202 C X at_198 ?_
        exact J213 T _ _ _ (i1) (Or.inr (Or.inr (Or.inr (Or.inr (Or.inr (Or.inr (Or.inr ⟨t_c168_204, t_c174_205, t_c181_208, t_c187_209, t_c194_210, rfl⟩))))))) C X hS Kp E_o26 F_o26_value F_o26_coder A_o30 Od E_o84 F_o84_value F_o84_coder A_o88 E_o200 F_o200_position F_o200_node Nk Rc H_o200 H_o202 E_o202 F_o202_position F_o202_node
      intro T hh vm k1 y212 D213  C X hS Kp E_o26 F_o26_value F_o26_coder A_o30 Od E_o84 F_o84_value F_o84_coder A_o88 E_o200 F_o200_position F_o200_node Nk Rc H_o200 H_o202 E_o202 F_o202_position F_o202_node
      refine s_istore 204 C X (l' := #[lv a, .second, lv b, .second, iv c_, iv d_, iv mo, lv y3, .second, iv la5, iv ca6, iv cb7, iv y10, iv y14, iv y18, iv y22, rv o26, rv o84, rv o200, rv o202, iv y212, .unset, .unset]) at_202 rfl ?_
      refine s_lloadN 205 C X at_204 rfl ?_
      refine s_lload 207 C X at_205 rfl ?_
      refine s_lcmp 208 C X at_207 ?_
      suffices J218 : ∀ (T : State) (hh : Heap) (vm : Vm) (k1 : Nat) (y217 : Int32) (D218 : ((¬ ((a).toInt = (y3).toInt)) ∧ y217 = i0) ∨ (((a).toInt = (y3).toInt) ∧ ((y212).toInt = (0 : Int)) ∧ y217 = i0) ∨ (((a).toInt = (y3).toInt) ∧ (¬ ((y212).toInt = (0 : Int))) ∧ y217 = i1)) (C : Cx tables_1 a0 Z x.cls x.name code maxLocals ret p (s.setVm vm) m meth c) (X : St p l e room_1 (s.setVm vm) m #[(.long a), (.long b), (.int c_), (.int d_), (.int mo)] below meth c n0 T hh 14 28) (hS : s.Since vm k1) (Kp : Keep h0 hh []) (E_o26 : Exa Z hh o26 "java/lang/String") (F_o26_value : Fld Z hh o26 "java/lang/String" "value" "[B" (.ref o30)) (F_o26_coder : Fld Z hh o26 "java/lang/String" "coder" "B" (.int i0)) (A_o30 : Arv Z hh o30 k_o30 .byte i2 [(.int (bv ca6)), (.int (bv cb7))] (.int i0)) (Od : Old Z n0 hh) (E_o84 : Exa Z hh o84 "java/lang/String") (F_o84_value : Fld Z hh o84 "java/lang/String" "value" "[B" (.ref o88)) (F_o84_coder : Fld Z hh o84 "java/lang/String" "coder" "B" (.int i0)) (A_o88 : Arv Z hh o88 k_o88 .byte i1 [(.int (bv y18))] (.int i0)) (E_o200 : Exa Z hh o200 "com/example/libring/libring/core/RingPoint") (F_o200_position : Fld Z hh o200 "com/example/libring/libring/core/RingPoint" "position" "J" (.long a)) (F_o200_node : Fld Z hh o200 "com/example/libring/libring/core/RingPoint" "node" "Ljava/lang/String;" (.ref o26)) (Nk : k1 ≤ hh.size) (Rc : CHr Z EL1 s.vm h0 vm hh) (H_o200 : Safe Z EL1 vm hh o200) (H_o202 : Safe Z EL1 vm hh o202) (E_o202 : Exa Z hh o202 "com/example/libring/libring/core/RingPoint") (F_o202_position : Fld Z hh o202 "com/example/libring/libring/core/RingPoint" "position" "J" (.long y3)) (F_o202_node : Fld Z hh o202 "com/example/libring/libring/core/RingPoint" "node" "Ljava/lang/String;" (.ref o84)), Run p e below n0 Q' G' m T 221 #[lv a, .second, lv b, .second, iv c_, iv d_, iv mo, lv y3, .second, iv la5, iv ca6, iv cb7, iv y10, iv y14, iv y18, iv y22, rv o26, rv o84, rv o200, rv o202, iv y212, .unset, .unset] [(.int y217)] by
        refine s_if_ne 220 211 C X at_208 (fun c208_214 => ?_) (fun c208_214 => ?_)
        · have t_c208_214 : ¬ ((a).toInt = (y3).toInt) := fun q => c208_214 (cl_eq.mpr q)
          refine s_iconst 221 C X at_220 kc_iconst_0 ?_
          exact J218 T _ _ _ (i0) ((Or.inl ⟨t_c208_214, rfl⟩)) C X hS Kp E_o26 F_o26_value F_o26_coder A_o30 Od E_o84 F_o84_value F_o84_coder A_o88 E_o200 F_o200_position F_o200_node Nk Rc H_o200 H_o202 E_o202 F_o202_position F_o202_node
        have t_c208_214 : (a).toInt = (y3).toInt := cl_eq.mp c208_214
        refine s_iload 213 C X at_211 rfl ?_
        refine s_if_eq 220 216 C X at_213 (fun c213_215 => ?_) (fun c213_215 => ?_)
        · have t_c213_215 : (y212).toInt = (0 : Int) := congrArg Int32.toInt c213_215
          refine s_iconst 221 C X at_220 kc_iconst_0 ?_
          exact J218 T _ _ _ (i0) (Or.inr (Or.inl ⟨t_c208_214, t_c213_215, rfl⟩)) C X hS Kp E_o26 F_o26_value F_o26_coder A_o30 Od E_o84 F_o84_value F_o84_coder A_o88 E_o200 F_o200_position F_o200_node Nk Rc H_o200 H_o202 E_o202 F_o202_position F_o202_node
        have t_c213_215 : ¬ ((y212).toInt = (0 : Int)) := fun q => c213_215 (Int32.toInt_inj.mp q)
        refine s_iconst 217 C X at_216 kc_iconst_1 ?_
        refine s_goto 221 C X at_217 ?_
        exact J218 T _ _ _ (i1) (Or.inr (Or.inr ⟨t_c208_214, t_c213_215, rfl⟩)) C X hS Kp E_o26 F_o26_value F_o26_coder A_o30 Od E_o84 F_o84_value F_o84_coder A_o88 E_o200 F_o200_position F_o200_node Nk Rc H_o200 H_o202 E_o202 F_o202_position F_o202_node
      intro T hh vm k1 y217 D218  C X hS Kp E_o26 F_o26_value F_o26_coder A_o30 Od E_o84 F_o84_value F_o84_coder A_o88 E_o200 F_o200_position F_o200_node Nk Rc H_o200 H_o202 E_o202 F_o202_position F_o202_node
      refine s_istore 223 C X (l' := #[lv a, .second, lv b, .second, iv c_, iv d_, iv mo, lv y3, .second, iv la5, iv ca6, iv cb7, iv y10, iv y14, iv y18, iv y22, rv o26, rv o84, rv o200, rv o202, iv y212, iv y217, .unset]) at_221 rfl ?_
      refine s_aload 225 C X at_223 rfl rfl ?_
      refine s_astore 227 C X (l' := #[lv a, .second, lv b, .second, iv c_, iv d_, iv mo, lv y3, .second, iv la5, iv ca6, iv cb7, iv y10, iv y14, iv y18, iv y22, rv o26, rv o84, rv o200, rv o202, iv y212, iv y217, rv o26]) at_225 rfl rfl ?_
      refine s_aload 229 C X at_227 rfl rfl ?_
      refine s_aload 231 C X at_229 rfl rfl ?_
      refine s_callV 234 [(.ref o202)] [] 0 C X at_231 (mW 37 rfl) (mW 38 rfl) (notFace_of_selects (args := #[]) (mvT C.2.1 (C.w (mW 40 rfl)))) (mW 40 rfl) (mW 39 rfl) (mW 28 rfl) (mW 41 rfl) E_o200 (rm_a230 l Z a0 hw a cs y3 ca6 cb7 y18 o26 o30 k_o30 o84 o88 k_o88 o200 o202 _ n0 X.sz S_cs E_o26 F_o26_value F_o26_coder A_o30 Od E_o84 F_o84_value F_o84_coder A_o88 F_o200_position F_o200_node E_o202 F_o202_position F_o202_node hv_cs ne_o26_o84) (lenOf pd__Ljava_lang_Object__Z rfl) rfl rfl rfl (fun T v hh X q => ?_)
      obtain ⟨y231, rfl, D232, Od, Kc⟩ := q
      have H_o200 := Safe.keep Kc so0 Rc.1 H_o200
      have H_o202 := Safe.keep Kc so0 Rc.1 H_o202
      have Rc := Rc.trans (CHr.keep Kc so0 Rc.1)
      have Nk := Nat.le_trans Nk Kc.1
      have Kp := Kp.trans Kc all0
      have E_o26 := E_o26.keep Kc
      have F_o26_value := F_o26_value.keep Kc nin0
      have F_o26_coder := F_o26_coder.keep Kc nin0
      have A_o30 := A_o30.keep Kc nin0
      have E_o84 := E_o84.keep Kc
      have F_o84_value := F_o84_value.keep Kc nin0
      have F_o84_coder := F_o84_coder.keep Kc nin0
      have A_o88 := A_o88.keep Kc nin0
      have E_o200 := E_o200.keep Kc
      have F_o200_position := F_o200_position.keep Kc nin0
      have F_o200_node := F_o200_node.keep Kc nin0
      have E_o202 := E_o202.keep Kc
      have F_o202_position := F_o202_position.keep Kc nin0
      have F_o202_node := F_o202_node.keep Kc nin0
      refine Run.cast (st' := [(.int y231)]) rfl ?_
      refine s_iload 236 C X at_234 rfl ?_
      refine s_icmp_ne 284 239 C X at_236 (fun c236_233 => ?_) (fun c236_233 => ?_)
      · have t_c236_233 : ¬ ((y231).toInt = (y217).toInt) := fun q => c236_233 (Int32.toInt_inj.mp q)
        refine s_iconst 285 C X at_284 kc_iconst_0 ?_
        refine s_nreturn C X at_285 rfl (by simp) rfl ?_ (FGH hG hS Nk Rc C (own_EL hw) (by decide) (by decide))
        exact (own_lf2 D213 D218 D232 t_c1_24 t_c17_25 t_c1_66 t_c17_67 t_c236_233 hv_la5 hv_y14).elim
      refine s_aload 241 C X at_239 rfl rfl ?_
      refine s_aload 243 C X at_241 rfl rfl ?_
      refine s_callV 246 [(.ref o200)] [] 0 C X at_243 (mW 37 rfl) (mW 38 rfl) (notFace_of_selects (args := #[]) (mvT C.2.1 (C.w (mW 40 rfl)))) (mW 40 rfl) (mW 39 rfl) (mW 28 rfl) (mW 41 rfl) E_o202 (rm_a245 l Z a0 hw a cs y3 ca6 cb7 y18 o26 o30 k_o30 o84 o88 k_o88 o200 o202 _ n0 X.sz S_cs E_o26 F_o26_value F_o26_coder A_o30 E_o84 F_o84_value F_o84_coder A_o88 E_o200 F_o200_position F_o200_node F_o202_position F_o202_node Od hv_cs ne_o26_o84) (lenOf pd__Ljava_lang_Object__Z rfl) rfl rfl rfl (fun T v hh X q => ?_)
      obtain ⟨y246, rfl, D247, Od, Kc⟩ := q
      have H_o200 := Safe.keep Kc so0 Rc.1 H_o200
      have H_o202 := Safe.keep Kc so0 Rc.1 H_o202
      have Rc := Rc.trans (CHr.keep Kc so0 Rc.1)
      have Nk := Nat.le_trans Nk Kc.1
      have Kp := Kp.trans Kc all0
      have E_o26 := E_o26.keep Kc
      have E_o200 := E_o200.keep Kc
      have F_o200_position := F_o200_position.keep Kc nin0
      have F_o200_node := F_o200_node.keep Kc nin0
      refine Run.cast (st' := [(.int y246)]) rfl ?_
      refine s_iload 248 C X at_246 rfl ?_
      refine s_icmp_ne 284 251 C X at_248 (fun c248_248 => ?_) (fun c248_248 => ?_)
      · have t_c248_248 : ¬ ((y246).toInt = (y217).toInt) := fun q => c248_248 (Int32.toInt_inj.mp q)
        refine s_iconst 285 C X at_284 kc_iconst_0 ?_
        refine s_nreturn C X at_285 rfl (by simp) rfl ?_ (FGH hG hS Nk Rc C (own_EL hw) (by decide) (by decide))
        exact (own_lf3 D213 D218 D247 t_c1_24 t_c17_25 t_c1_66 t_c17_67 t_c248_248 hv_la5 hv_y14).elim
      refine s_aload 253 C X at_251 rfl rfl ?_
      refine s_aload 255 C X at_253 rfl rfl ?_
      refine s_callV 258 [(.ref o200)] [] 0 C X at_255 (mW 37 rfl) (mW 38 rfl) (notFace_of_selects (args := #[]) (mvT C.2.1 (C.w (mW 40 rfl)))) (mW 40 rfl) (mW 39 rfl) (mW 28 rfl) (mW 41 rfl) E_o200 (rm_a254 l Z a0 hw a o26 o200 _ n0 X.sz E_o26 E_o200 F_o200_position F_o200_node) (lenOf pd__Ljava_lang_Object__Z rfl) rfl rfl rfl (fun T v hh X q => ?_)
      obtain ⟨rfl, Kc⟩ := q
      have H_o200 := Safe.keep Kc so0 Rc.1 H_o200
      have H_o202 := Safe.keep Kc so0 Rc.1 H_o202
      have Rc := Rc.trans (CHr.keep Kc so0 Rc.1)
      have Nk := Nat.le_trans Nk Kc.1
      have Kp := Kp.trans Kc all0
      have E_o26 := E_o26.keep Kc
      have E_o200 := E_o200.keep Kc
      have Od := Od.keep Kc all0
      refine Run.cast (st' := [(.int i1)]) rfl ?_
      refine s_if_eq 284 261 C X at_258 (fun c => absurd c (by decide)) (fun _ => ?_)
      refine s_aload 263 C X at_261 rfl rfl ?_
      refine s_aload 265 C X at_263 rfl rfl ?_
      refine s_callV 268 [(.ref o26)] [] 0 C X at_265 (mW 37 rfl) (mW 38 rfl) (notFace_of_selects (args := #[]) (mvT C.2.1 (C.w (mW 40 rfl)))) (mW 40 rfl) (mW 39 rfl) (mW 28 rfl) (mW 41 rfl) E_o200 (rm_a257 l Z a0 hw o26 o200 _ n0 X.sz E_o26) (lenOf pd__Ljava_lang_Object__Z rfl) rfl rfl rfl (fun T v hh X q => ?_)
      obtain ⟨rfl, Kc⟩ := q
      have H_o200 := Safe.keep Kc so0 Rc.1 H_o200
      have H_o202 := Safe.keep Kc so0 Rc.1 H_o202
      have Rc := Rc.trans (CHr.keep Kc so0 Rc.1)
      have Nk := Nat.le_trans Nk Kc.1
      have Kp := Kp.trans Kc all0
      have E_o200 := E_o200.keep Kc
      have Od := Od.keep Kc all0
      refine Run.cast (st' := [(.int i0)]) rfl ?_
      refine s_if_ne 284 271 C X at_268 (fun c => absurd (by decide : i0 = i0) c) (fun _ => ?_)
      refine s_aload 273 C X at_271 rfl rfl ?_
      refine s_aconstNull 274 C X at_273 ?_
      refine s_callV 277 [.null] [] 0 C X at_274 (mW 37 rfl) (mW 38 rfl) (notFace_of_selects (args := #[]) (mvT C.2.1 (C.w (mW 40 rfl)))) (mW 40 rfl) (mW 39 rfl) (mW 28 rfl) (mW 41 rfl) E_o200 (rm_a260 l Z a0 hw o200 _ n0 X.sz ) (lenOf pd__Ljava_lang_Object__Z rfl) rfl rfl rfl (fun T v hh X q => ?_)
      obtain ⟨rfl, Kc⟩ := q
      have H_o200 := Safe.keep Kc so0 Rc.1 H_o200
      have H_o202 := Safe.keep Kc so0 Rc.1 H_o202
      have Rc := Rc.trans (CHr.keep Kc so0 Rc.1)
      have Nk := Nat.le_trans Nk Kc.1
      have Kp := Kp.trans Kc all0
      have Od := Od.keep Kc all0
      refine Run.cast (st' := [(.int i0)]) rfl ?_
      refine s_if_ne 284 280 C X at_277 (fun c => absurd (by decide : i0 = i0) c) (fun _ => ?_)
      refine s_iconst 281 C X at_280 kc_iconst_1 ?_
      refine s_goto 285 C X at_281 ?_
      refine s_nreturn C X at_285 rfl (by simp) rfl ?_ (FGH hG hS Nk Rc C (own_EL hw) (by decide) (by decide))
      exact hQ _ _ rfl
    · have ne_o26_o98 : o26 ≠ o98 := Nat.ne_of_lt (Nat.lt_of_lt_of_le E_o26.lt sz_o98')
      have Rc := Rc.trans Rn
      have Kp := Kp.trans Kc all0
      have E_o26 := E_o26.keep Kc
      have F_o26_value := F_o26_value.keep Kc nin0
      have F_o26_coder := F_o26_coder.keep Kc nin0
      have A_o30 := A_o30.keep Kc nin0
      have t_c1_66 : (y14).toInt = (0 : Int) := congrArg Int32.toInt c1_66
      refine Run.cast (st' := [(.ref o98)]) rfl ?_
      refine s_astore 139 C X (l' := #[lv a, .second, lv b, .second, iv c_, iv d_, iv mo, lv y3, .second, iv la5, iv ca6, iv cb7, iv y10, iv y14, iv y18, iv y22, rv o26, rv o98, .unset, .unset, .unset, .unset, .unset]) at_137 rfl rfl ?_
      refine s_new 142 C X at_139 (mW 26 rfl) (mW 27 rfl) (mW 28 rfl) (fun T hh o262 hb_o262 X E E_o262 D g_o262 => ?_)
      have H_o262 : Safe Z EL1 vm _ o262 := Safe.ext E Rc.1 (Safe.new (Nat.le_of_eq hb_o262))
      have Rc := Rc.trans (CHr.ext E Rc.1)
      have Nk := Nat.le_trans Nk E.1
      have sz_o262 : h0.size ≤ o262 := Nat.le_trans Kp.1 (Nat.le_of_eq hb_o262)
      have ne_o26_o262 : o26 ≠ o262 := Nat.ne_of_lt (Nat.lt_of_lt_of_le E_o26.lt (Nat.le_of_eq hb_o262))
      have ne_o30_o262 : o30 ≠ o262 := Nat.ne_of_lt (Nat.lt_of_lt_of_le A_o30.lt (Nat.le_of_eq hb_o262))
      have ne_o98_o262 : o98 ≠ o262 := Nat.ne_of_lt (Nat.lt_of_lt_of_le E_o98.lt (Nat.le_of_eq hb_o262))
      have ne_b102_o262 : b102 ≠ o262 := Nat.ne_of_lt (Nat.lt_of_lt_of_le A_b102.lt (Nat.le_of_eq hb_o262))
      have Kp := Kp.ext E
      have E_o26 := E_o26.ext E
      have F_o26_value := F_o26_value.ext E
      have F_o26_coder := F_o26_coder.ext E
      have A_o30 := A_o30.ext E
      have Od := Od.ext E
      have E_o98 := E_o98.ext E
      have F_o98_value := F_o98_value.ext E
      have F_o98_coder := F_o98_coder.ext E
      have A_b102 := A_b102.ext E
      have F_o262_position : Fld Z _ o262 "com/example/libring/libring/core/RingPoint" "position" "J" (.long j0) := D (Or.inr (hw _ (mW 34 rfl))) (ty := .long) (by decide)
      have F_o262_node : Fld Z _ o262 "com/example/libring/libring/core/RingPoint" "node" "Ljava/lang/String;" .null := D (Or.inr (hw _ (mW 36 rfl))) (ty := (.object "java/lang/String")) (by decide)
      refine s_dup 143 C X at_142 rfl ?_
      refine s_lloadN 144 C X at_143 rfl ?_
      refine s_aload 146 C X at_144 rfl rfl ?_
      have Sw_o262 : Safe Z EL1 vm _ o262 := H_o262
      refine s_callC 149 [(.long a), (.ref o26)] [(.ref o262)] 1 C X at_146 rfl (mW 29 rfl) (mW 30 rfl) (mW 28 rfl) (mW 31 rfl) (rm_a263 l Z a0 hw a o26 o262 _ n0 X.sz E_o262 F_o262_position F_o262_node g_o262) (lenOf pd__JLjava_lang_String__V rfl) rfl rfl rfl (fun T v hh X q => ?_)
      obtain ⟨rfl, E_o262, F_o262_position, F_o262_node, Kc⟩ := q
      have Hs : ∀ x ∈ [o262], Safe Z EL1 vm _ x := (soS Sw_o262 so0)
      have H_o262 := Safe.keep Kc Hs Rc.1 H_o262
      have Rc := Rc.trans (CHr.keep Kc Hs Rc.1)
      have Nk := Nat.le_trans Nk Kc.1
      have Kp := Kp.trans Kc (allS (Or.inr sz_o262) all0)
      have E_o26 := E_o26.keep Kc
      have F_o26_value := F_o26_value.keep Kc (ninS ne_o26_o262 nin0)
      have F_o26_coder := F_o26_coder.keep Kc (ninS ne_o26_o262 nin0)
      have A_o30 := A_o30.keep Kc (ninS ne_o30_o262 nin0)
      have Od := Od.keep Kc (allS g_o262 all0)
      have E_o98 := E_o98.keep Kc
      have F_o98_value := F_o98_value.keep Kc (ninS ne_o98_o262 nin0)
      have F_o98_coder := F_o98_coder.keep Kc (ninS ne_o98_o262 nin0)
      have A_b102 := A_b102.keep Kc (ninS ne_b102_o262 nin0)
      refine Run.cast (st' := [(.ref o262)]) rfl ?_
      refine s_astore 151 C X (l' := #[lv a, .second, lv b, .second, iv c_, iv d_, iv mo, lv y3, .second, iv la5, iv ca6, iv cb7, iv y10, iv y14, iv y18, iv y22, rv o26, rv o98, rv o262, .unset, .unset, .unset, .unset]) at_149 rfl rfl ?_
      refine s_new 154 C X at_151 (mW 26 rfl) (mW 27 rfl) (mW 28 rfl) (fun T hh o264 hb_o264 X E E_o264 D g_o264 => ?_)
      have H_o262 := Safe.ext E Rc.1 H_o262
      have H_o264 : Safe Z EL1 vm _ o264 := Safe.ext E Rc.1 (Safe.new (Nat.le_of_eq hb_o264))
      have Rc := Rc.trans (CHr.ext E Rc.1)
      have Nk := Nat.le_trans Nk E.1
      have sz_o264 : h0.size ≤ o264 := Nat.le_trans Kp.1 (Nat.le_of_eq hb_o264)
      have ne_o26_o264 : o26 ≠ o264 := Nat.ne_of_lt (Nat.lt_of_lt_of_le E_o26.lt (Nat.le_of_eq hb_o264))
      have ne_o30_o264 : o30 ≠ o264 := Nat.ne_of_lt (Nat.lt_of_lt_of_le A_o30.lt (Nat.le_of_eq hb_o264))
      have ne_o98_o264 : o98 ≠ o264 := Nat.ne_of_lt (Nat.lt_of_lt_of_le E_o98.lt (Nat.le_of_eq hb_o264))
      have ne_b102_o264 : b102 ≠ o264 := Nat.ne_of_lt (Nat.lt_of_lt_of_le A_b102.lt (Nat.le_of_eq hb_o264))
      have ne_o262_o264 : o262 ≠ o264 := Nat.ne_of_lt (Nat.lt_of_lt_of_le E_o262.lt (Nat.le_of_eq hb_o264))
      have Kp := Kp.ext E
      have E_o26 := E_o26.ext E
      have F_o26_value := F_o26_value.ext E
      have F_o26_coder := F_o26_coder.ext E
      have A_o30 := A_o30.ext E
      have Od := Od.ext E
      have E_o98 := E_o98.ext E
      have F_o98_value := F_o98_value.ext E
      have F_o98_coder := F_o98_coder.ext E
      have A_b102 := A_b102.ext E
      have E_o262 := E_o262.ext E
      have F_o262_position := F_o262_position.ext E
      have F_o262_node := F_o262_node.ext E
      have F_o264_position : Fld Z _ o264 "com/example/libring/libring/core/RingPoint" "position" "J" (.long j0) := D (Or.inr (hw _ (mW 34 rfl))) (ty := .long) (by decide)
      have F_o264_node : Fld Z _ o264 "com/example/libring/libring/core/RingPoint" "node" "Ljava/lang/String;" .null := D (Or.inr (hw _ (mW 36 rfl))) (ty := (.object "java/lang/String")) (by decide)
      refine s_dup 155 C X at_154 rfl ?_
      refine s_lload 157 C X at_155 rfl ?_
      refine s_aload 159 C X at_157 rfl rfl ?_
      have Sw_o264 : Safe Z EL1 vm _ o264 := H_o264
      refine s_callC 162 [(.long y3), (.ref o98)] [(.ref o264)] 1 C X at_159 rfl (mW 29 rfl) (mW 30 rfl) (mW 28 rfl) (mW 31 rfl) (rm_a265 l Z a0 hw y3 o98 o264 _ n0 X.sz E_o264 F_o264_position F_o264_node g_o264) (lenOf pd__JLjava_lang_String__V rfl) rfl rfl rfl (fun T v hh X q => ?_)
      obtain ⟨rfl, E_o264, F_o264_position, F_o264_node, Kc⟩ := q
      have Hs : ∀ x ∈ [o264], Safe Z EL1 vm _ x := (soS Sw_o264 so0)
      have H_o262 := Safe.keep Kc Hs Rc.1 H_o262
      have H_o264 := Safe.keep Kc Hs Rc.1 H_o264
      have Rc := Rc.trans (CHr.keep Kc Hs Rc.1)
      have Nk := Nat.le_trans Nk Kc.1
      have Kp := Kp.trans Kc (allS (Or.inr sz_o264) all0)
      have E_o26 := E_o26.keep Kc
      have F_o26_value := F_o26_value.keep Kc (ninS ne_o26_o264 nin0)
      have F_o26_coder := F_o26_coder.keep Kc (ninS ne_o26_o264 nin0)
      have A_o30 := A_o30.keep Kc (ninS ne_o30_o264 nin0)
      have Od := Od.keep Kc (allS g_o264 all0)
      have E_o98 := E_o98.keep Kc
      have F_o98_value := F_o98_value.keep Kc (ninS ne_o98_o264 nin0)
      have F_o98_coder := F_o98_coder.keep Kc (ninS ne_o98_o264 nin0)
      have A_b102 := A_b102.keep Kc (ninS ne_b102_o264 nin0)
      have E_o262 := E_o262.keep Kc
      have F_o262_position := F_o262_position.keep Kc (ninS ne_o262_o264 nin0)
      have F_o262_node := F_o262_node.keep Kc (ninS ne_o262_o264 nin0)
      refine Run.cast (st' := [(.ref o264)]) rfl ?_
      refine s_astore 164 C X (l' := #[lv a, .second, lv b, .second, iv c_, iv d_, iv mo, lv y3, .second, iv la5, iv ca6, iv cb7, iv y10, iv y14, iv y18, iv y22, rv o26, rv o98, rv o262, rv o264, .unset, .unset, .unset]) at_162 rfl rfl ?_
      refine s_iload 166 C X at_164 rfl ?_
      refine s_iload 168 C X at_166 rfl ?_
      suffices J275 : ∀ (T : State) (hh : Heap) (vm : Vm) (k1 : Nat) (y274 : Int32) (D275 : ((¬ ((la5).toInt = (y14).toInt)) ∧ y274 = i0) ∨ (((la5).toInt = (y14).toInt) ∧ ((la5).toInt < (1 : Int)) ∧ ((la5).toInt < (2 : Int)) ∧ y274 = i1) ∨ (((la5).toInt = (y14).toInt) ∧ ((la5).toInt < (1 : Int)) ∧ (¬ ((la5).toInt < (2 : Int))) ∧ (¬ ((cb7).toInt = (y22).toInt)) ∧ y274 = i0) ∨ (((la5).toInt = (y14).toInt) ∧ ((la5).toInt < (1 : Int)) ∧ (¬ ((la5).toInt < (2 : Int))) ∧ ((cb7).toInt = (y22).toInt) ∧ y274 = i1) ∨ (((la5).toInt = (y14).toInt) ∧ (¬ ((la5).toInt < (1 : Int))) ∧ (¬ ((ca6).toInt = (y18).toInt)) ∧ y274 = i0) ∨ (((la5).toInt = (y14).toInt) ∧ (¬ ((la5).toInt < (1 : Int))) ∧ ((ca6).toInt = (y18).toInt) ∧ ((la5).toInt < (2 : Int)) ∧ y274 = i1) ∨ (((la5).toInt = (y14).toInt) ∧ (¬ ((la5).toInt < (1 : Int))) ∧ ((ca6).toInt = (y18).toInt) ∧ (¬ ((la5).toInt < (2 : Int))) ∧ (¬ ((cb7).toInt = (y22).toInt)) ∧ y274 = i0) ∨ (((la5).toInt = (y14).toInt) ∧ (¬ ((la5).toInt < (1 : Int))) ∧ ((ca6).toInt = (y18).toInt) ∧ (¬ ((la5).toInt < (2 : Int))) ∧ ((cb7).toInt = (y22).toInt) ∧ y274 = i1)) (C : Cx tables_1 a0 Z x.cls x.name code maxLocals ret p (s.setVm vm) m meth c) (X : St p l e room_1 (s.setVm vm) m #[(.long a), (.long b), (.int c_), (.int d_), (.int mo)] below meth c n0 T hh 14 28) (hS : s.Since vm k1) (Kp : Keep h0 hh []) (E_o26 : Exa Z hh o26 "java/lang/String") (F_o26_value : Fld Z hh o26 "java/lang/String" "value" "[B" (.ref o30)) (F_o26_coder : Fld Z hh o26 "java/lang/String" "coder" "B" (.int i0)) (A_o30 : Arv Z hh o30 k_o30 .byte i2 [(.int (bv ca6)), (.int (bv cb7))] (.int i0)) (Od : Old Z n0 hh) (E_o98 : Exa Z hh o98 "java/lang/String") (F_o98_value : Fld Z hh o98 "java/lang/String" "value" "[B" (.ref b102)) (F_o98_coder : Fld Z hh o98 "java/lang/String" "coder" "B" (.int i0)) (A_b102 : Arv Z hh b102 k_b102 .byte i0 [] (.int i0)) (E_o262 : Exa Z hh o262 "com/example/libring/libring/core/RingPoint") (F_o262_position : Fld Z hh o262 "com/example/libring/libring/core/RingPoint" "position" "J" (.long a)) (F_o262_node : Fld Z hh o262 "com/example/libring/libring/core/RingPoint" "node" "Ljava/lang/String;" (.ref o26)) (Nk : k1 ≤ hh.size) (Rc : CHr Z EL1 s.vm h0 vm hh) (H_o262 : Safe Z EL1 vm hh o262) (H_o264 : Safe Z EL1 vm hh o264) (E_o264 : Exa Z hh o264 "com/example/libring/libring/core/RingPoint") (F_o264_position : Fld Z hh o264 "com/example/libring/libring/core/RingPoint" "position" "J" (.long y3)) (F_o264_node : Fld Z hh o264 "com/example/libring/libring/core/RingPoint" "node" "Ljava/lang/String;" (.ref o98)), Run p e below n0 Q' G' m T 202 #[lv a, .second, lv b, .second, iv c_, iv d_, iv mo, lv y3, .second, iv la5, iv ca6, iv cb7, iv y10, iv y14, iv y18, iv y22, rv o26, rv o98, rv o262, rv o264, .unset, .unset, .unset] [(.int y274)] by
        refine s_icmp_ne 201 171 C X at_168 (fun c168_266 => ?_) (fun c168_266 => ?_)
        · have t_c168_266 : ¬ ((la5).toInt = (y14).toInt) := fun q => c168_266 (Int32.toInt_inj.mp q)
          refine s_iconst 202 C X at_201 kc_iconst_0 ?_
          exact J275 T _ _ _ (i0) ((Or.inl ⟨t_c168_266, rfl⟩)) C X hS Kp E_o26 F_o26_value F_o26_coder A_o30 Od E_o98 F_o98_value F_o98_coder A_b102 E_o262 F_o262_position F_o262_node Nk Rc H_o262 H_o264 E_o264 F_o264_position F_o264_node
        have t_c168_266 : (la5).toInt = (y14).toInt := congrArg Int32.toInt c168_266
        refine s_iload 173 C X at_171 rfl ?_
        refine s_iconst 174 C X at_173 kc_iconst_1 ?_
        refine s_icmp_lt 184 177 C X at_174 (fun c174_267 => ?_) (fun c174_267 => ?_)
        · have t_c174_267 : (la5).toInt < (1 : Int) := Int32.lt_iff_toInt_lt.mp c174_267
          refine s_iload 186 C X at_184 rfl ?_
          refine s_iconst 187 C X at_186 kc_iconst_2 ?_
          refine s_icmp_lt 197 190 C X at_187 (fun c187_268 => ?_) (fun c187_268 => ?_)
          · have t_c187_268 : (la5).toInt < (2 : Int) := Int32.lt_iff_toInt_lt.mp c187_268
            refine s_iconst 198 C X at_197 kc_iconst_1 ?_
            refine s_goto 202 C X at_198 ?_
            exact J275 T _ _ _ (i1) (Or.inr (Or.inl ⟨t_c168_266, t_c174_267, t_c187_268, rfl⟩)) C X hS Kp E_o26 F_o26_value F_o26_coder A_o30 Od E_o98 F_o98_value F_o98_coder A_b102 E_o262 F_o262_position F_o262_node Nk Rc H_o262 H_o264 E_o264 F_o264_position F_o264_node
          have t_c187_268 : ¬ ((la5).toInt < (2 : Int)) := fun q => c187_268 (Int32.lt_iff_toInt_lt.mpr q)
          refine s_iload 192 C X at_190 rfl ?_
          refine s_iload 194 C X at_192 rfl ?_
          refine s_icmp_ne 201 197 C X at_194 (fun c194_269 => ?_) (fun c194_269 => ?_)
          · have t_c194_269 : ¬ ((cb7).toInt = (y22).toInt) := fun q => c194_269 (Int32.toInt_inj.mp q)
            refine s_iconst 202 C X at_201 kc_iconst_0 ?_
            exact J275 T _ _ _ (i0) (Or.inr (Or.inr (Or.inl ⟨t_c168_266, t_c174_267, t_c187_268, t_c194_269, rfl⟩))) C X hS Kp E_o26 F_o26_value F_o26_coder A_o30 Od E_o98 F_o98_value F_o98_coder A_b102 E_o262 F_o262_position F_o262_node Nk Rc H_o262 H_o264 E_o264 F_o264_position F_o264_node
          have t_c194_269 : (cb7).toInt = (y22).toInt := congrArg Int32.toInt c194_269
          refine s_iconst 198 C X at_197 kc_iconst_1 ?_
          refine s_goto 202 C X at_198 ?_
          exact J275 T _ _ _ (i1) (Or.inr (Or.inr (Or.inr (Or.inl ⟨t_c168_266, t_c174_267, t_c187_268, t_c194_269, rfl⟩)))) C X hS Kp E_o26 F_o26_value F_o26_coder A_o30 Od E_o98 F_o98_value F_o98_coder A_b102 E_o262 F_o262_position F_o262_node Nk Rc H_o262 H_o264 E_o264 F_o264_position F_o264_node
        have t_c174_267 : ¬ ((la5).toInt < (1 : Int)) := fun q => c174_267 (Int32.lt_iff_toInt_lt.mpr q)
        refine s_iload 179 C X at_177 rfl ?_
        refine s_iload 181 C X at_179 rfl ?_
        refine s_icmp_ne 201 184 C X at_181 (fun c181_270 => ?_) (fun c181_270 => ?_)
        · have t_c181_270 : ¬ ((ca6).toInt = (y18).toInt) := fun q => c181_270 (Int32.toInt_inj.mp q)
          refine s_iconst 202 C X at_201 kc_iconst_0 ?_
          exact J275 T _ _ _ (i0) (Or.inr (Or.inr (Or.inr (Or.inr (Or.inl ⟨t_c168_266, t_c174_267, t_c181_270, rfl⟩))))) C X hS Kp E_o26 F_o26_value F_o26_coder A_o30 Od E_o98 F_o98_value F_o98_coder A_b102 E_o262 F_o262_position F_o262_node Nk Rc H_o262 H_o264 E_o264 F_o264_position F_o264_node
        have t_c181_270 : (ca6).toInt = (y18).toInt := congrArg Int32.toInt c181_270
        refine s_iload 186 C X at_184 rfl ?_
        refine s_iconst 187 C X at_186 kc_iconst_2 ?_
        refine s_icmp_lt 197 190 C X at_187 (fun c187_271 => ?_) (fun c187_271 => ?_)
        · have t_c187_271 : (la5).toInt < (2 : Int) := Int32.lt_iff_toInt_lt.mp c187_271
          refine s_iconst 198 C X at_197 kc_iconst_1 ?_
          refine s_goto 202 C X at_198 ?_
          exact J275 T _ _ _ (i1) (Or.inr (Or.inr (Or.inr (Or.inr (Or.inr (Or.inl ⟨t_c168_266, t_c174_267, t_c181_270, t_c187_271, rfl⟩)))))) C X hS Kp E_o26 F_o26_value F_o26_coder A_o30 Od E_o98 F_o98_value F_o98_coder A_b102 E_o262 F_o262_position F_o262_node Nk Rc H_o262 H_o264 E_o264 F_o264_position F_o264_node
        have t_c187_271 : ¬ ((la5).toInt < (2 : Int)) := fun q => c187_271 (Int32.lt_iff_toInt_lt.mpr q)
        refine s_iload 192 C X at_190 rfl ?_
        refine s_iload 194 C X at_192 rfl ?_
        refine s_icmp_ne 201 197 C X at_194 (fun c194_272 => ?_) (fun c194_272 => ?_)
        · have t_c194_272 : ¬ ((cb7).toInt = (y22).toInt) := fun q => c194_272 (Int32.toInt_inj.mp q)
          refine s_iconst 202 C X at_201 kc_iconst_0 ?_
          exact J275 T _ _ _ (i0) (Or.inr (Or.inr (Or.inr (Or.inr (Or.inr (Or.inr (Or.inl ⟨t_c168_266, t_c174_267, t_c181_270, t_c187_271, t_c194_272, rfl⟩))))))) C X hS Kp E_o26 F_o26_value F_o26_coder A_o30 Od E_o98 F_o98_value F_o98_coder A_b102 E_o262 F_o262_position F_o262_node Nk Rc H_o262 H_o264 E_o264 F_o264_position F_o264_node
        have t_c194_272 : (cb7).toInt = (y22).toInt := congrArg Int32.toInt c194_272
        refine s_iconst 198 C X at_197 kc_iconst_1 ?_
        refine s_goto 202 C X at_198 ?_
        exact J275 T _ _ _ (i1) (Or.inr (Or.inr (Or.inr (Or.inr (Or.inr (Or.inr (Or.inr ⟨t_c168_266, t_c174_267, t_c181_270, t_c187_271, t_c194_272, rfl⟩))))))) C X hS Kp E_o26 F_o26_value F_o26_coder A_o30 Od E_o98 F_o98_value F_o98_coder A_b102 E_o262 F_o262_position F_o262_node Nk Rc H_o262 H_o264 E_o264 F_o264_position F_o264_node
      intro T hh vm k1 y274 D275  C X hS Kp E_o26 F_o26_value F_o26_coder A_o30 Od E_o98 F_o98_value F_o98_coder A_b102 E_o262 F_o262_position F_o262_node Nk Rc H_o262 H_o264 E_o264 F_o264_position F_o264_node
      refine s_istore 204 C X (l' := #[lv a, .second, lv b, .second, iv c_, iv d_, iv mo, lv y3, .second, iv la5, iv ca6, iv cb7, iv y10, iv y14, iv y18, iv y22, rv o26, rv o98, rv o262, rv o264, iv y274, .unset, .unset]) at_202 rfl ?_
      refine s_lloadN 205 C X at_204 rfl ?_
      refine s_lload 207 C X at_205 rfl ?_
      refine s_lcmp 208 C X at_207 ?_
      suffices J280 : ∀ (T : State) (hh : Heap) (vm : Vm) (k1 : Nat) (y279 : Int32) (D280 : ((¬ ((a).toInt = (y3).toInt)) ∧ y279 = i0) ∨ (((a).toInt = (y3).toInt) ∧ ((y274).toInt = (0 : Int)) ∧ y279 = i0) ∨ (((a).toInt = (y3).toInt) ∧ (¬ ((y274).toInt = (0 : Int))) ∧ y279 = i1)) (C : Cx tables_1 a0 Z x.cls x.name code maxLocals ret p (s.setVm vm) m meth c) (X : St p l e room_1 (s.setVm vm) m #[(.long a), (.long b), (.int c_), (.int d_), (.int mo)] below meth c n0 T hh 14 28) (hS : s.Since vm k1) (Kp : Keep h0 hh []) (E_o26 : Exa Z hh o26 "java/lang/String") (F_o26_value : Fld Z hh o26 "java/lang/String" "value" "[B" (.ref o30)) (F_o26_coder : Fld Z hh o26 "java/lang/String" "coder" "B" (.int i0)) (A_o30 : Arv Z hh o30 k_o30 .byte i2 [(.int (bv ca6)), (.int (bv cb7))] (.int i0)) (Od : Old Z n0 hh) (E_o98 : Exa Z hh o98 "java/lang/String") (F_o98_value : Fld Z hh o98 "java/lang/String" "value" "[B" (.ref b102)) (F_o98_coder : Fld Z hh o98 "java/lang/String" "coder" "B" (.int i0)) (A_b102 : Arv Z hh b102 k_b102 .byte i0 [] (.int i0)) (E_o262 : Exa Z hh o262 "com/example/libring/libring/core/RingPoint") (F_o262_position : Fld Z hh o262 "com/example/libring/libring/core/RingPoint" "position" "J" (.long a)) (F_o262_node : Fld Z hh o262 "com/example/libring/libring/core/RingPoint" "node" "Ljava/lang/String;" (.ref o26)) (Nk : k1 ≤ hh.size) (Rc : CHr Z EL1 s.vm h0 vm hh) (H_o262 : Safe Z EL1 vm hh o262) (H_o264 : Safe Z EL1 vm hh o264) (E_o264 : Exa Z hh o264 "com/example/libring/libring/core/RingPoint") (F_o264_position : Fld Z hh o264 "com/example/libring/libring/core/RingPoint" "position" "J" (.long y3)) (F_o264_node : Fld Z hh o264 "com/example/libring/libring/core/RingPoint" "node" "Ljava/lang/String;" (.ref o98)), Run p e below n0 Q' G' m T 221 #[lv a, .second, lv b, .second, iv c_, iv d_, iv mo, lv y3, .second, iv la5, iv ca6, iv cb7, iv y10, iv y14, iv y18, iv y22, rv o26, rv o98, rv o262, rv o264, iv y274, .unset, .unset] [(.int y279)] by
        refine s_if_ne 220 211 C X at_208 (fun c208_276 => ?_) (fun c208_276 => ?_)
        · have t_c208_276 : ¬ ((a).toInt = (y3).toInt) := fun q => c208_276 (cl_eq.mpr q)
          refine s_iconst 221 C X at_220 kc_iconst_0 ?_
          exact J280 T _ _ _ (i0) ((Or.inl ⟨t_c208_276, rfl⟩)) C X hS Kp E_o26 F_o26_value F_o26_coder A_o30 Od E_o98 F_o98_value F_o98_coder A_b102 E_o262 F_o262_position F_o262_node Nk Rc H_o262 H_o264 E_o264 F_o264_position F_o264_node
        have t_c208_276 : (a).toInt = (y3).toInt := cl_eq.mp c208_276
        refine s_iload 213 C X at_211 rfl ?_
        refine s_if_eq 220 216 C X at_213 (fun c213_277 => ?_) (fun c213_277 => ?_)
        · have t_c213_277 : (y274).toInt = (0 : Int) := congrArg Int32.toInt c213_277
          refine s_iconst 221 C X at_220 kc_iconst_0 ?_
          exact J280 T _ _ _ (i0) (Or.inr (Or.inl ⟨t_c208_276, t_c213_277, rfl⟩)) C X hS Kp E_o26 F_o26_value F_o26_coder A_o30 Od E_o98 F_o98_value F_o98_coder A_b102 E_o262 F_o262_position F_o262_node Nk Rc H_o262 H_o264 E_o264 F_o264_position F_o264_node
        have t_c213_277 : ¬ ((y274).toInt = (0 : Int)) := fun q => c213_277 (Int32.toInt_inj.mp q)
        refine s_iconst 217 C X at_216 kc_iconst_1 ?_
        refine s_goto 221 C X at_217 ?_
        exact J280 T _ _ _ (i1) (Or.inr (Or.inr ⟨t_c208_276, t_c213_277, rfl⟩)) C X hS Kp E_o26 F_o26_value F_o26_coder A_o30 Od E_o98 F_o98_value F_o98_coder A_b102 E_o262 F_o262_position F_o262_node Nk Rc H_o262 H_o264 E_o264 F_o264_position F_o264_node
      intro T hh vm k1 y279 D280  C X hS Kp E_o26 F_o26_value F_o26_coder A_o30 Od E_o98 F_o98_value F_o98_coder A_b102 E_o262 F_o262_position F_o262_node Nk Rc H_o262 H_o264 E_o264 F_o264_position F_o264_node
      refine s_istore 223 C X (l' := #[lv a, .second, lv b, .second, iv c_, iv d_, iv mo, lv y3, .second, iv la5, iv ca6, iv cb7, iv y10, iv y14, iv y18, iv y22, rv o26, rv o98, rv o262, rv o264, iv y274, iv y279, .unset]) at_221 rfl ?_
      refine s_aload 225 C X at_223 rfl rfl ?_
      refine s_astore 227 C X (l' := #[lv a, .second, lv b, .second, iv c_, iv d_, iv mo, lv y3, .second, iv la5, iv ca6, iv cb7, iv y10, iv y14, iv y18, iv y22, rv o26, rv o98, rv o262, rv o264, iv y274, iv y279, rv o26]) at_225 rfl rfl ?_
      refine s_aload 229 C X at_227 rfl rfl ?_
      refine s_aload 231 C X at_229 rfl rfl ?_
      refine s_callV 234 [(.ref o264)] [] 0 C X at_231 (mW 37 rfl) (mW 38 rfl) (notFace_of_selects (args := #[]) (mvT C.2.1 (C.w (mW 40 rfl)))) (mW 40 rfl) (mW 39 rfl) (mW 28 rfl) (mW 41 rfl) E_o262 (rm_a292 l Z a0 hw a cs y3 ca6 cb7 o26 o30 k_o30 o98 b102 k_b102 o262 o264 _ n0 X.sz S_cs E_o26 F_o26_value F_o26_coder A_o30 Od E_o98 F_o98_value F_o98_coder A_b102 F_o262_position F_o262_node E_o264 F_o264_position F_o264_node hv_cs ne_o26_o98) (lenOf pd__Ljava_lang_Object__Z rfl) rfl rfl rfl (fun T v hh X q => ?_)
      obtain ⟨y293, rfl, D294, Od, Kc⟩ := q
      have H_o262 := Safe.keep Kc so0 Rc.1 H_o262
      have H_o264 := Safe.keep Kc so0 Rc.1 H_o264
      have Rc := Rc.trans (CHr.keep Kc so0 Rc.1)
      have Nk := Nat.le_trans Nk Kc.1
      have Kp := Kp.trans Kc all0
      have E_o26 := E_o26.keep Kc
      have F_o26_value := F_o26_value.keep Kc nin0
      have F_o26_coder := F_o26_coder.keep Kc nin0
      have A_o30 := A_o30.keep Kc nin0
      have E_o98 := E_o98.keep Kc
      have F_o98_value := F_o98_value.keep Kc nin0
      have F_o98_coder := F_o98_coder.keep Kc nin0
      have A_b102 := A_b102.keep Kc nin0
      have E_o262 := E_o262.keep Kc
      have F_o262_position := F_o262_position.keep Kc nin0
      have F_o262_node := F_o262_node.keep Kc nin0
      have E_o264 := E_o264.keep Kc
      have F_o264_position := F_o264_position.keep Kc nin0
      have F_o264_node := F_o264_node.keep Kc nin0
      refine Run.cast (st' := [(.int y293)]) rfl ?_
      refine s_iload 236 C X at_234 rfl ?_
      refine s_icmp_ne 284 239 C X at_236 (fun c236_295 => ?_) (fun c236_295 => ?_)
      · have t_c236_295 : ¬ ((y293).toInt = (y279).toInt) := fun q => c236_295 (Int32.toInt_inj.mp q)
        refine s_iconst 285 C X at_284 kc_iconst_0 ?_
        refine s_nreturn C X at_285 rfl (by simp) rfl ?_ (FGH hG hS Nk Rc C (own_EL hw) (by decide) (by decide))
        exact (own_lf4 D275 D280 D294 t_c1_24 t_c17_25 t_c1_66 t_c236_295 hv_la5 hv_y14).elim
      refine s_aload 241 C X at_239 rfl rfl ?_
      refine s_aload 243 C X at_241 rfl rfl ?_
      refine s_callV 246 [(.ref o262)] [] 0 C X at_243 (mW 37 rfl) (mW 38 rfl) (notFace_of_selects (args := #[]) (mvT C.2.1 (C.w (mW 40 rfl)))) (mW 40 rfl) (mW 39 rfl) (mW 28 rfl) (mW 41 rfl) E_o264 (rm_a307 l Z a0 hw a cs y3 ca6 cb7 o26 o30 k_o30 o98 b102 k_b102 o262 o264 _ n0 X.sz S_cs E_o26 F_o26_value F_o26_coder A_o30 E_o98 F_o98_value F_o98_coder A_b102 E_o262 F_o262_position F_o262_node F_o264_position F_o264_node Od hv_cs ne_o26_o98) (lenOf pd__Ljava_lang_Object__Z rfl) rfl rfl rfl (fun T v hh X q => ?_)
      obtain ⟨y308, rfl, D309, Od, Kc⟩ := q
      have H_o262 := Safe.keep Kc so0 Rc.1 H_o262
      have H_o264 := Safe.keep Kc so0 Rc.1 H_o264
      have Rc := Rc.trans (CHr.keep Kc so0 Rc.1)
      have Nk := Nat.le_trans Nk Kc.1
      have Kp := Kp.trans Kc all0
      have E_o26 := E_o26.keep Kc
      have E_o262 := E_o262.keep Kc
      have F_o262_position := F_o262_position.keep Kc nin0
      have F_o262_node := F_o262_node.keep Kc nin0
      refine Run.cast (st' := [(.int y308)]) rfl ?_
      refine s_iload 248 C X at_246 rfl ?_
      refine s_icmp_ne 284 251 C X at_248 (fun c248_310 => ?_) (fun c248_310 => ?_)
      · have t_c248_310 : ¬ ((y308).toInt = (y279).toInt) := fun q => c248_310 (Int32.toInt_inj.mp q)
        refine s_iconst 285 C X at_284 kc_iconst_0 ?_
        refine s_nreturn C X at_285 rfl (by simp) rfl ?_ (FGH hG hS Nk Rc C (own_EL hw) (by decide) (by decide))
        exact (own_lf5 D275 D280 D309 t_c1_24 t_c17_25 t_c1_66 t_c248_310 hv_la5 hv_y14).elim
      refine s_aload 253 C X at_251 rfl rfl ?_
      refine s_aload 255 C X at_253 rfl rfl ?_
      refine s_callV 258 [(.ref o262)] [] 0 C X at_255 (mW 37 rfl) (mW 38 rfl) (notFace_of_selects (args := #[]) (mvT C.2.1 (C.w (mW 40 rfl)))) (mW 40 rfl) (mW 39 rfl) (mW 28 rfl) (mW 41 rfl) E_o262 (rm_a316 l Z a0 hw a o26 o262 _ n0 X.sz E_o26 E_o262 F_o262_position F_o262_node) (lenOf pd__Ljava_lang_Object__Z rfl) rfl rfl rfl (fun T v hh X q => ?_)
      obtain ⟨rfl, Kc⟩ := q
      have H_o262 := Safe.keep Kc so0 Rc.1 H_o262
      have H_o264 := Safe.keep Kc so0 Rc.1 H_o264
      have Rc := Rc.trans (CHr.keep Kc so0 Rc.1)
      have Nk := Nat.le_trans Nk Kc.1
      have Kp := Kp.trans Kc all0
      have E_o26 := E_o26.keep Kc
      have E_o262 := E_o262.keep Kc
      have Od := Od.keep Kc all0
      refine Run.cast (st' := [(.int i1)]) rfl ?_
      refine s_if_eq 284 261 C X at_258 (fun c => absurd c (by decide)) (fun _ => ?_)
      refine s_aload 263 C X at_261 rfl rfl ?_
      refine s_aload 265 C X at_263 rfl rfl ?_
      refine s_callV 268 [(.ref o26)] [] 0 C X at_265 (mW 37 rfl) (mW 38 rfl) (notFace_of_selects (args := #[]) (mvT C.2.1 (C.w (mW 40 rfl)))) (mW 40 rfl) (mW 39 rfl) (mW 28 rfl) (mW 41 rfl) E_o262 (rm_a319 l Z a0 hw o26 o262 _ n0 X.sz E_o26) (lenOf pd__Ljava_lang_Object__Z rfl) rfl rfl rfl (fun T v hh X q => ?_)
      obtain ⟨rfl, Kc⟩ := q
      have H_o262 := Safe.keep Kc so0 Rc.1 H_o262
      have H_o264 := Safe.keep Kc so0 Rc.1 H_o264
      have Rc := Rc.trans (CHr.keep Kc so0 Rc.1)
      have Nk := Nat.le_trans Nk Kc.1
      have Kp := Kp.trans Kc all0
      have E_o262 := E_o262.keep Kc
      have Od := Od.keep Kc all0
      refine Run.cast (st' := [(.int i0)]) rfl ?_
      refine s_if_ne 284 271 C X at_268 (fun c => absurd (by decide : i0 = i0) c) (fun _ => ?_)
      refine s_aload 273 C X at_271 rfl rfl ?_
      refine s_aconstNull 274 C X at_273 ?_
      refine s_callV 277 [.null] [] 0 C X at_274 (mW 37 rfl) (mW 38 rfl) (notFace_of_selects (args := #[]) (mvT C.2.1 (C.w (mW 40 rfl)))) (mW 40 rfl) (mW 39 rfl) (mW 28 rfl) (mW 41 rfl) E_o262 (rm_a322 l Z a0 hw o262 _ n0 X.sz ) (lenOf pd__Ljava_lang_Object__Z rfl) rfl rfl rfl (fun T v hh X q => ?_)
      obtain ⟨rfl, Kc⟩ := q
      have H_o262 := Safe.keep Kc so0 Rc.1 H_o262
      have H_o264 := Safe.keep Kc so0 Rc.1 H_o264
      have Rc := Rc.trans (CHr.keep Kc so0 Rc.1)
      have Nk := Nat.le_trans Nk Kc.1
      have Kp := Kp.trans Kc all0
      have Od := Od.keep Kc all0
      refine Run.cast (st' := [(.int i0)]) rfl ?_
      refine s_if_ne 284 280 C X at_277 (fun c => absurd (by decide : i0 = i0) c) (fun _ => ?_)
      refine s_iconst 281 C X at_280 kc_iconst_1 ?_
      refine s_goto 285 C X at_281 ?_
      refine s_nreturn C X at_285 rfl (by simp) rfl ?_ (FGH hG hS Nk Rc C (own_EL hw) (by decide) (by decide))
      exact hQ _ _ rfl
  · have sz_o42 : h0.size ≤ o42 := Nat.le_trans Kp.1 sz_o42'
    have Rc := Rc.trans Rn
    have Kp := Kp.trans Kc all0
    have t_c1_24 : ¬ ((la5).toInt = (0 : Int)) := fun q => c1_24 (Int32.toInt_inj.mp q)
    have t_c17_25 : (la5).toInt = (1 : Int) := congrArg Int32.toInt c17_25
    refine Run.cast (st' := [(.ref o42)]) rfl ?_
    refine s_astore 128 C X (l' := #[lv a, .second, lv b, .second, iv c_, iv d_, iv mo, lv y3, .second, iv la5, iv ca6, iv cb7, iv y10, iv y14, iv y18, iv y22, rv o42, .unset, .unset, .unset, .unset, .unset, .unset]) at_126 rfl rfl ?_
    refine s_iload 130 C X at_128 rfl ?_
    refine s_iload 132 C X at_130 rfl ?_
    refine s_iload 134 C X at_132 rfl ?_
    refine s_hcallS 137 [(.int y14), (.int y18), (.int y22)] [] 0 C X hS Nk (own_EL hw) Rc.1 at_134 (mW 0 rfl) (mW 1 rfl) (mW 2 rfl) (mW 3 rfl) (rm_a107 l Z a0 hw cs y14 y18 y22 _ n0 X.sz S_cs Od hv_cs hv_y18 hv_y22) (lenOf pd__III_Ljava_lang_String_ rfl) rfl rfl rfl so0 (fun T v hh vm k1 C X hS Nk Rn q => ?_)
    obtain ⟨o68, o72, k_o72, rfl, c1_66, c17_67, Kc, Od, E_o68, F_o68_value, F_o68_coder, A_o72, sz_o68', g_o68, sz_o72', g_o72, ne_o68_o72⟩ | ⟨o84, o88, k_o88, rfl, c1_66, c17_67, Kc, Od, E_o84, F_o84_value, F_o84_coder, A_o88, sz_o84', g_o84, sz_o88', g_o88, ne_o84_o88⟩ | ⟨o98, b102, k_b102, rfl, c1_66, Od, Kc, E_o98, F_o98_value, F_o98_coder, A_b102, sz_o98', g_o98, ne_o98_b102⟩ := q
    · have ne_o42_o68 : o42 ≠ o68 := Nat.ne_of_lt (Nat.lt_of_lt_of_le E_o42.lt sz_o68')
      have Rc := Rc.trans Rn
      have Kp := Kp.trans Kc all0
      have E_o42 := E_o42.keep Kc
      have F_o42_value := F_o42_value.keep Kc nin0
      have F_o42_coder := F_o42_coder.keep Kc nin0
      have A_o46 := A_o46.keep Kc nin0
      have t_c1_66 : ¬ ((y14).toInt = (0 : Int)) := fun q => c1_66 (Int32.toInt_inj.mp q)
      have t_c17_67 : ¬ ((y14).toInt = (1 : Int)) := fun q => c17_67 (Int32.toInt_inj.mp q)
      refine Run.cast (st' := [(.ref o68)]) rfl ?_
      refine s_astore 139 C X (l' := #[lv a, .second, lv b, .second, iv c_, iv d_, iv mo, lv y3, .second, iv la5, iv ca6, iv cb7, iv y10, iv y14, iv y18, iv y22, rv o42, rv o68, .unset, .unset, .unset, .unset, .unset]) at_137 rfl rfl ?_
      refine s_new 142 C X at_139 (mW 26 rfl) (mW 27 rfl) (mW 28 rfl) (fun T hh o366 hb_o366 X E E_o366 D g_o366 => ?_)
      have H_o366 : Safe Z EL1 vm _ o366 := Safe.ext E Rc.1 (Safe.new (Nat.le_of_eq hb_o366))
      have Rc := Rc.trans (CHr.ext E Rc.1)
      have Nk := Nat.le_trans Nk E.1
      have sz_o366 : h0.size ≤ o366 := Nat.le_trans Kp.1 (Nat.le_of_eq hb_o366)
      have ne_o42_o366 : o42 ≠ o366 := Nat.ne_of_lt (Nat.lt_of_lt_of_le E_o42.lt (Nat.le_of_eq hb_o366))
      have ne_o46_o366 : o46 ≠ o366 := Nat.ne_of_lt (Nat.lt_of_lt_of_le A_o46.lt (Nat.le_of_eq hb_o366))
      have ne_o68_o366 : o68 ≠ o366 := Nat.ne_of_lt (Nat.lt_of_lt_of_le E_o68.lt (Nat.le_of_eq hb_o366))
      have ne_o72_o366 : o72 ≠ o366 := Nat.ne_of_lt (Nat.lt_of_lt_of_le A_o72.lt (Nat.le_of_eq hb_o366))
      have Kp := Kp.ext E
      have E_o42 := E_o42.ext E
      have F_o42_value := F_o42_value.ext E
      have F_o42_coder := F_o42_coder.ext E
      have A_o46 := A_o46.ext E
      have Od := Od.ext E
      have E_o68 := E_o68.ext E
      have F_o68_value := F_o68_value.ext E
      have F_o68_coder := F_o68_coder.ext E
      have A_o72 := A_o72.ext E
      have F_o366_position : Fld Z _ o366 "com/example/libring/libring/core/RingPoint" "position" "J" (.long j0) := D (Or.inr (hw _ (mW 34 rfl))) (ty := .long) (by decide)
      have F_o366_node : Fld Z _ o366 "com/example/libring/libring/core/RingPoint" "node" "Ljava/lang/String;" .null := D (Or.inr (hw _ (mW 36 rfl))) (ty := (.object "java/lang/String")) (by decide)
      refine s_dup 143 C X at_142 rfl ?_
      refine s_lloadN 144 C X at_143 rfl ?_
      refine s_aload 146 C X at_144 rfl rfl ?_
      have Sw_o366 : Safe Z EL1 vm _ o366 := H_o366
      refine s_callC 149 [(.long a), (.ref o42)] [(.ref o366)] 1 C X at_146 rfl (mW 29 rfl) (mW 30 rfl) (mW 28 rfl) (mW 31 rfl) (rm_a367 l Z a0 hw a o42 o366 _ n0 X.sz E_o366 F_o366_position F_o366_node g_o366) (lenOf pd__JLjava_lang_String__V rfl) rfl rfl rfl (fun T v hh X q => ?_)
      obtain ⟨rfl, E_o366, F_o366_position, F_o366_node, Kc⟩ := q
      have Hs : ∀ x ∈ [o366], Safe Z EL1 vm _ x := (soS Sw_o366 so0)
      have H_o366 := Safe.keep Kc Hs Rc.1 H_o366
      have Rc := Rc.trans (CHr.keep Kc Hs Rc.1)
      have Nk := Nat.le_trans Nk Kc.1
      have Kp := Kp.trans Kc (allS (Or.inr sz_o366) all0)
      have E_o42 := E_o42.keep Kc
      have F_o42_value := F_o42_value.keep Kc (ninS ne_o42_o366 nin0)
      have F_o42_coder := F_o42_coder.keep Kc (ninS ne_o42_o366 nin0)
      have A_o46 := A_o46.keep Kc (ninS ne_o46_o366 nin0)
      have Od := Od.keep Kc (allS g_o366 all0)
      have E_o68 := E_o68.keep Kc
      have F_o68_value := F_o68_value.keep Kc (ninS ne_o68_o366 nin0)
      have F_o68_coder := F_o68_coder.keep Kc (ninS ne_o68_o366 nin0)
      have A_o72 := A_o72.keep Kc (ninS ne_o72_o366 nin0)
      refine Run.cast (st' := [(.ref o366)]) rfl ?_
      refine s_astore 151 C X (l' := #[lv a, .second, lv b, .second, iv c_, iv d_, iv mo, lv y3, .second, iv la5, iv ca6, iv cb7, iv y10, iv y14, iv y18, iv y22, rv o42, rv o68, rv o366, .unset, .unset, .unset, .unset]) at_149 rfl rfl ?_
      refine s_new 154 C X at_151 (mW 26 rfl) (mW 27 rfl) (mW 28 rfl) (fun T hh o368 hb_o368 X E E_o368 D g_o368 => ?_)
      have H_o366 := Safe.ext E Rc.1 H_o366
      have H_o368 : Safe Z EL1 vm _ o368 := Safe.ext E Rc.1 (Safe.new (Nat.le_of_eq hb_o368))
      have Rc := Rc.trans (CHr.ext E Rc.1)
      have Nk := Nat.le_trans Nk E.1
      have sz_o368 : h0.size ≤ o368 := Nat.le_trans Kp.1 (Nat.le_of_eq hb_o368)
      have ne_o42_o368 : o42 ≠ o368 := Nat.ne_of_lt (Nat.lt_of_lt_of_le E_o42.lt (Nat.le_of_eq hb_o368))
      have ne_o46_o368 : o46 ≠ o368 := Nat.ne_of_lt (Nat.lt_of_lt_of_le A_o46.lt (Nat.le_of_eq hb_o368))
      have ne_o68_o368 : o68 ≠ o368 := Nat.ne_of_lt (Nat.lt_of_lt_of_le E_o68.lt (Nat.le_of_eq hb_o368))
      have ne_o72_o368 : o72 ≠ o368 := Nat.ne_of_lt (Nat.lt_of_lt_of_le A_o72.lt (Nat.le_of_eq hb_o368))
      have ne_o366_o368 : o366 ≠ o368 := Nat.ne_of_lt (Nat.lt_of_lt_of_le E_o366.lt (Nat.le_of_eq hb_o368))
      have Kp := Kp.ext E
      have E_o42 := E_o42.ext E
      have F_o42_value := F_o42_value.ext E
      have F_o42_coder := F_o42_coder.ext E
      have A_o46 := A_o46.ext E
      have Od := Od.ext E
      have E_o68 := E_o68.ext E
      have F_o68_value := F_o68_value.ext E
      have F_o68_coder := F_o68_coder.ext E
      have A_o72 := A_o72.ext E
      have E_o366 := E_o366.ext E
      have F_o366_position := F_o366_position.ext E
      have F_o366_node := F_o366_node.ext E
      have F_o368_position : Fld Z _ o368 "com/example/libring/libring/core/RingPoint" "position" "J" (.long j0) := D (Or.inr (hw _ (mW 34 rfl))) (ty := .long) (by decide)
      have F_o368_node : Fld Z _ o368 "com/example/libring/libring/core/RingPoint" "node" "Ljava/lang/String;" .null := D (Or.inr (hw _ (mW 36 rfl))) (ty := (.object "java/lang/String")) (by decide)
      refine s_dup 155 C X at_154 rfl ?_
      refine s_lload 157 C X at_155 rfl ?_
      refine s_aload 159 C X at_157 rfl rfl ?_
      have Sw_o368 : Safe Z EL1 vm _ o368 := H_o368
      refine s_callC 162 [(.long y3), (.ref o68)] [(.ref o368)] 1 C X at_159 rfl (mW 29 rfl) (mW 30 rfl) (mW 28 rfl) (mW 31 rfl) (rm_a369 l Z a0 hw y3 o68 o368 _ n0 X.sz E_o368 F_o368_position F_o368_node g_o368) (lenOf pd__JLjava_lang_String__V rfl) rfl rfl rfl (fun T v hh X q => ?_)
      obtain ⟨rfl, E_o368, F_o368_position, F_o368_node, Kc⟩ := q
      have Hs : ∀ x ∈ [o368], Safe Z EL1 vm _ x := (soS Sw_o368 so0)
      have H_o366 := Safe.keep Kc Hs Rc.1 H_o366
      have H_o368 := Safe.keep Kc Hs Rc.1 H_o368
      have Rc := Rc.trans (CHr.keep Kc Hs Rc.1)
      have Nk := Nat.le_trans Nk Kc.1
      have Kp := Kp.trans Kc (allS (Or.inr sz_o368) all0)
      have E_o42 := E_o42.keep Kc
      have F_o42_value := F_o42_value.keep Kc (ninS ne_o42_o368 nin0)
      have F_o42_coder := F_o42_coder.keep Kc (ninS ne_o42_o368 nin0)
      have A_o46 := A_o46.keep Kc (ninS ne_o46_o368 nin0)
      have Od := Od.keep Kc (allS g_o368 all0)
      have E_o68 := E_o68.keep Kc
      have F_o68_value := F_o68_value.keep Kc (ninS ne_o68_o368 nin0)
      have F_o68_coder := F_o68_coder.keep Kc (ninS ne_o68_o368 nin0)
      have A_o72 := A_o72.keep Kc (ninS ne_o72_o368 nin0)
      have E_o366 := E_o366.keep Kc
      have F_o366_position := F_o366_position.keep Kc (ninS ne_o366_o368 nin0)
      have F_o366_node := F_o366_node.keep Kc (ninS ne_o366_o368 nin0)
      refine Run.cast (st' := [(.ref o368)]) rfl ?_
      refine s_astore 164 C X (l' := #[lv a, .second, lv b, .second, iv c_, iv d_, iv mo, lv y3, .second, iv la5, iv ca6, iv cb7, iv y10, iv y14, iv y18, iv y22, rv o42, rv o68, rv o366, rv o368, .unset, .unset, .unset]) at_162 rfl rfl ?_
      refine s_iload 166 C X at_164 rfl ?_
      refine s_iload 168 C X at_166 rfl ?_
      suffices J379 : ∀ (T : State) (hh : Heap) (vm : Vm) (k1 : Nat) (y378 : Int32) (D379 : ((¬ ((la5).toInt = (y14).toInt)) ∧ y378 = i0) ∨ (((la5).toInt = (y14).toInt) ∧ ((la5).toInt < (1 : Int)) ∧ ((la5).toInt < (2 : Int)) ∧ y378 = i1) ∨ (((la5).toInt = (y14).toInt) ∧ ((la5).toInt < (1 : Int)) ∧ (¬ ((la5).toInt < (2 : Int))) ∧ (¬ ((cb7).toInt = (y22).toInt)) ∧ y378 = i0) ∨ (((la5).toInt = (y14).toInt) ∧ ((la5).toInt < (1 : Int)) ∧ (¬ ((la5).toInt < (2 : Int))) ∧ ((cb7).toInt = (y22).toInt) ∧ y378 = i1) ∨ (((la5).toInt = (y14).toInt) ∧ (¬ ((la5).toInt < (1 : Int))) ∧ (¬ ((ca6).toInt = (y18).toInt)) ∧ y378 = i0) ∨ (((la5).toInt = (y14).toInt) ∧ (¬ ((la5).toInt < (1 : Int))) ∧ ((ca6).toInt = (y18).toInt) ∧ ((la5).toInt < (2 : Int)) ∧ y378 = i1) ∨ (((la5).toInt = (y14).toInt) ∧ (¬ ((la5).toInt < (1 : Int))) ∧ ((ca6).toInt = (y18).toInt) ∧ (¬ ((la5).toInt < (2 : Int))) ∧ (¬ ((cb7).toInt = (y22).toInt)) ∧ y378 = i0) ∨ (((la5).toInt = (y14).toInt) ∧ (¬ ((la5).toInt < (1 : Int))) ∧ ((ca6).toInt = (y18).toInt) ∧ (¬ ((la5).toInt < (2 : Int))) ∧ ((cb7).toInt = (y22).toInt) ∧ y378 = i1)) (C : Cx tables_1 a0 Z x.cls x.name code maxLocals ret p (s.setVm vm) m meth c) (X : St p l e room_1 (s.setVm vm) m #[(.long a), (.long b), (.int c_), (.int d_), (.int mo)] below meth c n0 T hh 14 28) (hS : s.Since vm k1) (Kp : Keep h0 hh []) (E_o42 : Exa Z hh o42 "java/lang/String") (F_o42_value : Fld Z hh o42 "java/lang/String" "value" "[B" (.ref o46)) (F_o42_coder : Fld Z hh o42 "java/lang/String" "coder" "B" (.int i0)) (A_o46 : Arv Z hh o46 k_o46 .byte i1 [(.int (bv ca6))] (.int i0)) (Od : Old Z n0 hh) (E_o68 : Exa Z hh o68 "java/lang/String") (F_o68_value : Fld Z hh o68 "java/lang/String" "value" "[B" (.ref o72)) (F_o68_coder : Fld Z hh o68 "java/lang/String" "coder" "B" (.int i0)) (A_o72 : Arv Z hh o72 k_o72 .byte i2 [(.int (bv y18)), (.int (bv y22))] (.int i0)) (E_o366 : Exa Z hh o366 "com/example/libring/libring/core/RingPoint") (F_o366_position : Fld Z hh o366 "com/example/libring/libring/core/RingPoint" "position" "J" (.long a)) (F_o366_node : Fld Z hh o366 "com/example/libring/libring/core/RingPoint" "node" "Ljava/lang/String;" (.ref o42)) (Nk : k1 ≤ hh.size) (Rc : CHr Z EL1 s.vm h0 vm hh) (H_o366 : Safe Z EL1 vm hh o366) (H_o368 : Safe Z EL1 vm hh o368) (E_o368 : Exa Z hh o368 "com/example/libring/libring/core/RingPoint") (F_o368_position : Fld Z hh o368 "com/example/libring/libring/core/RingPoint" "position" "J" (.long y3)) (F_o368_node : Fld Z hh o368 "com/example/libring/libring/core/RingPoint" "node" "Ljava/lang/String;" (.ref o68)), Run p e below n0 Q' G' m T 202 #[lv a, .second, lv b, .second, iv c_, iv d_, iv mo, lv y3, .second, iv la5, iv ca6, iv cb7, iv y10, iv y14, iv y18, iv y22, rv o42, rv o68, rv o366, rv o368, .unset, .unset, .unset] [(.int y378)] by
        refine s_icmp_ne 201 171 C X at_168 (fun c168_370 => ?_) (fun c168_370 => ?_)
        · have t_c168_370 : ¬ ((la5).toInt = (y14).toInt) := fun q => c168_370 (Int32.toInt_inj.mp q)
          refine s_iconst 202 C X at_201 kc_iconst_0 ?_
          exact J379 T _ _ _ (i0) ((Or.inl ⟨t_c168_370, rfl⟩)) C X hS Kp E_o42 F_o42_value F_o42_coder A_o46 Od E_o68 F_o68_value F_o68_coder A_o72 E_o366 F_o366_position F_o366_node Nk Rc H_o366 H_o368 E_o368 F_o368_position F_o368_node
        have t_c168_370 : (la5).toInt = (y14).toInt := congrArg Int32.toInt c168_370
        refine s_iload 173 C X at_171 rfl ?_
        refine s_iconst 174 C X at_173 kc_iconst_1 ?_
        refine s_icmp_lt 184 177 C X at_174 (fun c174_371 => ?_) (fun c174_371 => ?_)
        · have t_c174_371 : (la5).toInt < (1 : Int) := Int32.lt_iff_toInt_lt.mp c174_371
          refine s_iload 186 C X at_184 rfl ?_
          refine s_iconst 187 C X at_186 kc_iconst_2 ?_
          refine s_icmp_lt 197 190 C X at_187 (fun c187_372 => ?_) (fun c187_372 => ?_)
          · have t_c187_372 : (la5).toInt < (2 : Int) := Int32.lt_iff_toInt_lt.mp c187_372
            refine s_iconst 198 C X at_197 kc_iconst_1 ?_
            refine s_goto 202 C X at_198 ?_
            exact J379 T _ _ _ (i1) (Or.inr (Or.inl ⟨t_c168_370, t_c174_371, t_c187_372, rfl⟩)) C X hS Kp E_o42 F_o42_value F_o42_coder A_o46 Od E_o68 F_o68_value F_o68_coder A_o72 E_o366 F_o366_position F_o366_node Nk Rc H_o366 H_o368 E_o368 F_o368_position F_o368_node
          have t_c187_372 : ¬ ((la5).toInt < (2 : Int)) := fun q => c187_372 (Int32.lt_iff_toInt_lt.mpr q)
          refine s_iload 192 C X at_190 rfl ?_
          refine s_iload 194 C X at_192 rfl ?_
          refine s_icmp_ne 201 197 C X at_194 (fun c194_373 => ?_) (fun c194_373 => ?_)
          · have t_c194_373 : ¬ ((cb7).toInt = (y22).toInt) := fun q => c194_373 (Int32.toInt_inj.mp q)
            refine s_iconst 202 C X at_201 kc_iconst_0 ?_
            exact J379 T _ _ _ (i0) (Or.inr (Or.inr (Or.inl ⟨t_c168_370, t_c174_371, t_c187_372, t_c194_373, rfl⟩))) C X hS Kp E_o42 F_o42_value F_o42_coder A_o46 Od E_o68 F_o68_value F_o68_coder A_o72 E_o366 F_o366_position F_o366_node Nk Rc H_o366 H_o368 E_o368 F_o368_position F_o368_node
          have t_c194_373 : (cb7).toInt = (y22).toInt := congrArg Int32.toInt c194_373
          refine s_iconst 198 C X at_197 kc_iconst_1 ?_
          refine s_goto 202 C X at_198 ?_
          exact J379 T _ _ _ (i1) (Or.inr (Or.inr (Or.inr (Or.inl ⟨t_c168_370, t_c174_371, t_c187_372, t_c194_373, rfl⟩)))) C X hS Kp E_o42 F_o42_value F_o42_coder A_o46 Od E_o68 F_o68_value F_o68_coder A_o72 E_o366 F_o366_position F_o366_node Nk Rc H_o366 H_o368 E_o368 F_o368_position F_o368_node
        have t_c174_371 : ¬ ((la5).toInt < (1 : Int)) := fun q => c174_371 (Int32.lt_iff_toInt_lt.mpr q)
        refine s_iload 179 C X at_177 rfl ?_
        refine s_iload 181 C X at_179 rfl ?_
        refine s_icmp_ne 201 184 C X at_181 (fun c181_374 => ?_) (fun c181_374 => ?_)
        · have t_c181_374 : ¬ ((ca6).toInt = (y18).toInt) := fun q => c181_374 (Int32.toInt_inj.mp q)
          refine s_iconst 202 C X at_201 kc_iconst_0 ?_
          exact J379 T _ _ _ (i0) (Or.inr (Or.inr (Or.inr (Or.inr (Or.inl ⟨t_c168_370, t_c174_371, t_c181_374, rfl⟩))))) C X hS Kp E_o42 F_o42_value F_o42_coder A_o46 Od E_o68 F_o68_value F_o68_coder A_o72 E_o366 F_o366_position F_o366_node Nk Rc H_o366 H_o368 E_o368 F_o368_position F_o368_node
        have t_c181_374 : (ca6).toInt = (y18).toInt := congrArg Int32.toInt c181_374
        refine s_iload 186 C X at_184 rfl ?_
        refine s_iconst 187 C X at_186 kc_iconst_2 ?_
        refine s_icmp_lt 197 190 C X at_187 (fun c187_375 => ?_) (fun c187_375 => ?_)
        · have t_c187_375 : (la5).toInt < (2 : Int) := Int32.lt_iff_toInt_lt.mp c187_375
          refine s_iconst 198 C X at_197 kc_iconst_1 ?_
          refine s_goto 202 C X at_198 ?_
          exact J379 T _ _ _ (i1) (Or.inr (Or.inr (Or.inr (Or.inr (Or.inr (Or.inl ⟨t_c168_370, t_c174_371, t_c181_374, t_c187_375, rfl⟩)))))) C X hS Kp E_o42 F_o42_value F_o42_coder A_o46 Od E_o68 F_o68_value F_o68_coder A_o72 E_o366 F_o366_position F_o366_node Nk Rc H_o366 H_o368 E_o368 F_o368_position F_o368_node
        have t_c187_375 : ¬ ((la5).toInt < (2 : Int)) := fun q => c187_375 (Int32.lt_iff_toInt_lt.mpr q)
        refine s_iload 192 C X at_190 rfl ?_
        refine s_iload 194 C X at_192 rfl ?_
        refine s_icmp_ne 201 197 C X at_194 (fun c194_376 => ?_) (fun c194_376 => ?_)
        · have t_c194_376 : ¬ ((cb7).toInt = (y22).toInt) := fun q => c194_376 (Int32.toInt_inj.mp q)
          refine s_iconst 202 C X at_201 kc_iconst_0 ?_
          exact J379 T _ _ _ (i0) (Or.inr (Or.inr (Or.inr (Or.inr (Or.inr (Or.inr (Or.inl ⟨t_c168_370, t_c174_371, t_c181_374, t_c187_375, t_c194_376, rfl⟩))))))) C X hS Kp E_o42 F_o42_value F_o42_coder A_o46 Od E_o68 F_o68_value F_o68_coder A_o72 E_o366 F_o366_position F_o366_node Nk Rc H_o366 H_o368 E_o368 F_o368_position F_o368_node
        have t_c194_376 : (cb7).toInt = (y22).toInt := congrArg Int32.toInt c194_376
        refine s_iconst 198 C X at_197 kc_iconst_1 ?_
        refine s_goto 202 C X at_198 ?_
        exact J379 T _ _ _ (i1) (Or.inr (Or.inr (Or.inr (Or.inr (Or.inr (Or.inr (Or.inr ⟨t_c168_370, t_c174_371, t_c181_374, t_c187_375, t_c194_376, rfl⟩))))))) C X hS Kp E_o42 F_o42_value F_o42_coder A_o46 Od E_o68 F_o68_value F_o68_coder A_o72 E_o366 F_o366_position F_o366_node Nk Rc H_o366 H_o368 E_o368 F_o368_position F_o368_node
      intro T hh vm k1 y378 D379  C X hS Kp E_o42 F_o42_value F_o42_coder A_o46 Od E_o68 F_o68_value F_o68_coder A_o72 E_o366 F_o366_position F_o366_node Nk Rc H_o366 H_o368 E_o368 F_o368_position F_o368_node
      refine s_istore 204 C X (l' := #[lv a, .second, lv b, .second, iv c_, iv d_, iv mo, lv y3, .second, iv la5, iv ca6, iv cb7, iv y10, iv y14, iv y18, iv y22, rv o42, rv o68, rv o366, rv o368, iv y378, .unset, .unset]) at_202 rfl ?_
      refine s_lloadN 205 C X at_204 rfl ?_
      refine s_lload 207 C X at_205 rfl ?_
      refine s_lcmp 208 C X at_207 ?_
      suffices J384 : ∀ (T : State) (hh : Heap) (vm : Vm) (k1 : Nat) (y383 : Int32) (D384 : ((¬ ((a).toInt = (y3).toInt)) ∧ y383 = i0) ∨ (((a).toInt = (y3).toInt) ∧ ((y378).toInt = (0 : Int)) ∧ y383 = i0) ∨ (((a).toInt = (y3).toInt) ∧ (¬ ((y378).toInt = (0 : Int))) ∧ y383 = i1)) (C : Cx tables_1 a0 Z x.cls x.name code maxLocals ret p (s.setVm vm) m meth c) (X : St p l e room_1 (s.setVm vm) m #[(.long a), (.long b), (.int c_), (.int d_), (.int mo)] below meth c n0 T hh 14 28) (hS : s.Since vm k1) (Kp : Keep h0 hh []) (E_o42 : Exa Z hh o42 "java/lang/String") (F_o42_value : Fld Z hh o42 "java/lang/String" "value" "[B" (.ref o46)) (F_o42_coder : Fld Z hh o42 "java/lang/String" "coder" "B" (.int i0)) (A_o46 : Arv Z hh o46 k_o46 .byte i1 [(.int (bv ca6))] (.int i0)) (Od : Old Z n0 hh) (E_o68 : Exa Z hh o68 "java/lang/String") (F_o68_value : Fld Z hh o68 "java/lang/String" "value" "[B" (.ref o72)) (F_o68_coder : Fld Z hh o68 "java/lang/String" "coder" "B" (.int i0)) (A_o72 : Arv Z hh o72 k_o72 .byte i2 [(.int (bv y18)), (.int (bv y22))] (.int i0)) (E_o366 : Exa Z hh o366 "com/example/libring/libring/core/RingPoint") (F_o366_position : Fld Z hh o366 "com/example/libring/libring/core/RingPoint" "position" "J" (.long a)) (F_o366_node : Fld Z hh o366 "com/example/libring/libring/core/RingPoint" "node" "Ljava/lang/String;" (.ref o42)) (Nk : k1 ≤ hh.size) (Rc : CHr Z EL1 s.vm h0 vm hh) (H_o366 : Safe Z EL1 vm hh o366) (H_o368 : Safe Z EL1 vm hh o368) (E_o368 : Exa Z hh o368 "com/example/libring/libring/core/RingPoint") (F_o368_position : Fld Z hh o368 "com/example/libring/libring/core/RingPoint" "position" "J" (.long y3)) (F_o368_node : Fld Z hh o368 "com/example/libring/libring/core/RingPoint" "node" "Ljava/lang/String;" (.ref o68)), Run p e below n0 Q' G' m T 221 #[lv a, .second, lv b, .second, iv c_, iv d_, iv mo, lv y3, .second, iv la5, iv ca6, iv cb7, iv y10, iv y14, iv y18, iv y22, rv o42, rv o68, rv o366, rv o368, iv y378, .unset, .unset] [(.int y383)] by
        refine s_if_ne 220 211 C X at_208 (fun c208_380 => ?_) (fun c208_380 => ?_)
        · have t_c208_380 : ¬ ((a).toInt = (y3).toInt) := fun q => c208_380 (cl_eq.mpr q)
          refine s_iconst 221 C X at_220 kc_iconst_0 ?_
          exact J384 T _ _ _ (i0) ((Or.inl ⟨t_c208_380, rfl⟩)) C X hS Kp E_o42 F_o42_value F_o42_coder A_o46 Od E_o68 F_o68_value F_o68_coder A_o72 E_o366 F_o366_position F_o366_node Nk Rc H_o366 H_o368 E_o368 F_o368_position F_o368_node
        have t_c208_380 : (a).toInt = (y3).toInt := cl_eq.mp c208_380
        refine s_iload 213 C X at_211 rfl ?_
        refine s_if_eq 220 216 C X at_213 (fun c213_381 => ?_) (fun c213_381 => ?_)
        · have t_c213_381 : (y378).toInt = (0 : Int) := congrArg Int32.toInt c213_381
          refine s_iconst 221 C X at_220 kc_iconst_0 ?_
          exact J384 T _ _ _ (i0) (Or.inr (Or.inl ⟨t_c208_380, t_c213_381, rfl⟩)) C X hS Kp E_o42 F_o42_value F_o42_coder A_o46 Od E_o68 F_o68_value F_o68_coder A_o72 E_o366 F_o366_position F_o366_node Nk Rc H_o366 H_o368 E_o368 F_o368_position F_o368_node
        have t_c213_381 : ¬ ((y378).toInt = (0 : Int)) := fun q => c213_381 (Int32.toInt_inj.mp q)
        refine s_iconst 217 C X at_216 kc_iconst_1 ?_
        refine s_goto 221 C X at_217 ?_
        exact J384 T _ _ _ (i1) (Or.inr (Or.inr ⟨t_c208_380, t_c213_381, rfl⟩)) C X hS Kp E_o42 F_o42_value F_o42_coder A_o46 Od E_o68 F_o68_value F_o68_coder A_o72 E_o366 F_o366_position F_o366_node Nk Rc H_o366 H_o368 E_o368 F_o368_position F_o368_node
      intro T hh vm k1 y383 D384  C X hS Kp E_o42 F_o42_value F_o42_coder A_o46 Od E_o68 F_o68_value F_o68_coder A_o72 E_o366 F_o366_position F_o366_node Nk Rc H_o366 H_o368 E_o368 F_o368_position F_o368_node
      refine s_istore 223 C X (l' := #[lv a, .second, lv b, .second, iv c_, iv d_, iv mo, lv y3, .second, iv la5, iv ca6, iv cb7, iv y10, iv y14, iv y18, iv y22, rv o42, rv o68, rv o366, rv o368, iv y378, iv y383, .unset]) at_221 rfl ?_
      refine s_aload 225 C X at_223 rfl rfl ?_
      refine s_astore 227 C X (l' := #[lv a, .second, lv b, .second, iv c_, iv d_, iv mo, lv y3, .second, iv la5, iv ca6, iv cb7, iv y10, iv y14, iv y18, iv y22, rv o42, rv o68, rv o366, rv o368, iv y378, iv y383, rv o42]) at_225 rfl rfl ?_
      refine s_aload 229 C X at_227 rfl rfl ?_
      refine s_aload 231 C X at_229 rfl rfl ?_
      refine s_callV 234 [(.ref o368)] [] 0 C X at_231 (mW 37 rfl) (mW 38 rfl) (notFace_of_selects (args := #[]) (mvT C.2.1 (C.w (mW 40 rfl)))) (mW 40 rfl) (mW 39 rfl) (mW 28 rfl) (mW 41 rfl) E_o366 (rm_a396 l Z a0 hw a cs y3 ca6 y18 y22 o42 o46 k_o46 o68 o72 k_o72 o366 o368 _ n0 X.sz S_cs E_o42 F_o42_value F_o42_coder A_o46 Od E_o68 F_o68_value F_o68_coder A_o72 F_o366_position F_o366_node E_o368 F_o368_position F_o368_node hv_cs ne_o42_o68) (lenOf pd__Ljava_lang_Object__Z rfl) rfl rfl rfl (fun T v hh X q => ?_)
      obtain ⟨y397, rfl, D398, Od, Kc⟩ := q
      have H_o366 := Safe.keep Kc so0 Rc.1 H_o366
      have H_o368 := Safe.keep Kc so0 Rc.1 H_o368
      have Rc := Rc.trans (CHr.keep Kc so0 Rc.1)
      have Nk := Nat.le_trans Nk Kc.1
      have Kp := Kp.trans Kc all0
      have E_o42 := E_o42.keep Kc
      have F_o42_value := F_o42_value.keep Kc nin0
      have F_o42_coder := F_o42_coder.keep Kc nin0
      have A_o46 := A_o46.keep Kc nin0
      have E_o68 := E_o68.keep Kc
      have F_o68_value := F_o68_value.keep Kc nin0
      have F_o68_coder := F_o68_coder.keep Kc nin0
      have A_o72 := A_o72.keep Kc nin0
      have E_o366 := E_o366.keep Kc
      have F_o366_position := F_o366_position.keep Kc nin0
      have F_o366_node := F_o366_node.keep Kc nin0
      have E_o368 := E_o368.keep Kc
      have F_o368_position := F_o368_position.keep Kc nin0
      have F_o368_node := F_o368_node.keep Kc nin0
      refine Run.cast (st' := [(.int y397)]) rfl ?_
      refine s_iload 236 C X at_234 rfl ?_
      refine s_icmp_ne 284 239 C X at_236 (fun c236_399 => ?_) (fun c236_399 => ?_)
      · have t_c236_399 : ¬ ((y397).toInt = (y383).toInt) := fun q => c236_399 (Int32.toInt_inj.mp q)
        refine s_iconst 285 C X at_284 kc_iconst_0 ?_
        refine s_nreturn C X at_285 rfl (by simp) rfl ?_ (FGH hG hS Nk Rc C (own_EL hw) (by decide) (by decide))
        exact (own_lf6 D379 D384 D398 t_c1_24 t_c17_25 t_c1_66 t_c17_67 t_c236_399 hv_la5 hv_y14).elim
      refine s_aload 241 C X at_239 rfl rfl ?_
      refine s_aload 243 C X at_241 rfl rfl ?_
      refine s_callV 246 [(.ref o366)] [] 0 C X at_243 (mW 37 rfl) (mW 38 rfl) (notFace_of_selects (args := #[]) (mvT C.2.1 (C.w (mW 40 rfl)))) (mW 40 rfl) (mW 39 rfl) (mW 28 rfl) (mW 41 rfl) E_o368 (rm_a411 l Z a0 hw a cs y3 ca6 y18 y22 o42 o46 k_o46 o68 o72 k_o72 o366 o368 _ n0 X.sz S_cs E_o42 F_o42_value F_o42_coder A_o46 E_o68 F_o68_value F_o68_coder A_o72 E_o366 F_o366_position F_o366_node F_o368_position F_o368_node Od hv_cs ne_o42_o68) (lenOf pd__Ljava_lang_Object__Z rfl) rfl rfl rfl (fun T v hh X q => ?_)
      obtain ⟨y412, rfl, D413, Od, Kc⟩ := q
      have H_o366 := Safe.keep Kc so0 Rc.1 H_o366
      have H_o368 := Safe.keep Kc so0 Rc.1 H_o368
      have Rc := Rc.trans (CHr.keep Kc so0 Rc.1)
      have Nk := Nat.le_trans Nk Kc.1
      have Kp := Kp.trans Kc all0
      have E_o42 := E_o42.keep Kc
      have E_o366 := E_o366.keep Kc
      have F_o366_position := F_o366_position.keep Kc nin0
      have F_o366_node := F_o366_node.keep Kc nin0
      refine Run.cast (st' := [(.int y412)]) rfl ?_
      refine s_iload 248 C X at_246 rfl ?_
      refine s_icmp_ne 284 251 C X at_248 (fun c248_414 => ?_) (fun c248_414 => ?_)
      · have t_c248_414 : ¬ ((y412).toInt = (y383).toInt) := fun q => c248_414 (Int32.toInt_inj.mp q)
        refine s_iconst 285 C X at_284 kc_iconst_0 ?_
        refine s_nreturn C X at_285 rfl (by simp) rfl ?_ (FGH hG hS Nk Rc C (own_EL hw) (by decide) (by decide))
        exact (own_lf7 D379 D384 D413 t_c1_24 t_c17_25 t_c1_66 t_c17_67 t_c248_414 hv_la5 hv_y14).elim
      refine s_aload 253 C X at_251 rfl rfl ?_
      refine s_aload 255 C X at_253 rfl rfl ?_
      refine s_callV 258 [(.ref o366)] [] 0 C X at_255 (mW 37 rfl) (mW 38 rfl) (notFace_of_selects (args := #[]) (mvT C.2.1 (C.w (mW 40 rfl)))) (mW 40 rfl) (mW 39 rfl) (mW 28 rfl) (mW 41 rfl) E_o366 (rm_a420 l Z a0 hw a o42 o366 _ n0 X.sz E_o42 E_o366 F_o366_position F_o366_node) (lenOf pd__Ljava_lang_Object__Z rfl) rfl rfl rfl (fun T v hh X q => ?_)
      obtain ⟨rfl, Kc⟩ := q
      have H_o366 := Safe.keep Kc so0 Rc.1 H_o366
      have H_o368 := Safe.keep Kc so0 Rc.1 H_o368
      have Rc := Rc.trans (CHr.keep Kc so0 Rc.1)
      have Nk := Nat.le_trans Nk Kc.1
      have Kp := Kp.trans Kc all0
      have E_o42 := E_o42.keep Kc
      have E_o366 := E_o366.keep Kc
      have Od := Od.keep Kc all0
      refine Run.cast (st' := [(.int i1)]) rfl ?_
      refine s_if_eq 284 261 C X at_258 (fun c => absurd c (by decide)) (fun _ => ?_)
      refine s_aload 263 C X at_261 rfl rfl ?_
      refine s_aload 265 C X at_263 rfl rfl ?_
      refine s_callV 268 [(.ref o42)] [] 0 C X at_265 (mW 37 rfl) (mW 38 rfl) (notFace_of_selects (args := #[]) (mvT C.2.1 (C.w (mW 40 rfl)))) (mW 40 rfl) (mW 39 rfl) (mW 28 rfl) (mW 41 rfl) E_o366 (rm_a423 l Z a0 hw o42 o366 _ n0 X.sz E_o42) (lenOf pd__Ljava_lang_Object__Z rfl) rfl rfl rfl (fun T v hh X q => ?_)
      obtain ⟨rfl, Kc⟩ := q
      have H_o366 := Safe.keep Kc so0 Rc.1 H_o366
      have H_o368 := Safe.keep Kc so0 Rc.1 H_o368
      have Rc := Rc.trans (CHr.keep Kc so0 Rc.1)
      have Nk := Nat.le_trans Nk Kc.1
      have Kp := Kp.trans Kc all0
      have E_o366 := E_o366.keep Kc
      have Od := Od.keep Kc all0
      refine Run.cast (st' := [(.int i0)]) rfl ?_
      refine s_if_ne 284 271 C X at_268 (fun c => absurd (by decide : i0 = i0) c) (fun _ => ?_)
      refine s_aload 273 C X at_271 rfl rfl ?_
      refine s_aconstNull 274 C X at_273 ?_
      refine s_callV 277 [.null] [] 0 C X at_274 (mW 37 rfl) (mW 38 rfl) (notFace_of_selects (args := #[]) (mvT C.2.1 (C.w (mW 40 rfl)))) (mW 40 rfl) (mW 39 rfl) (mW 28 rfl) (mW 41 rfl) E_o366 (rm_a426 l Z a0 hw o366 _ n0 X.sz ) (lenOf pd__Ljava_lang_Object__Z rfl) rfl rfl rfl (fun T v hh X q => ?_)
      obtain ⟨rfl, Kc⟩ := q
      have H_o366 := Safe.keep Kc so0 Rc.1 H_o366
      have H_o368 := Safe.keep Kc so0 Rc.1 H_o368
      have Rc := Rc.trans (CHr.keep Kc so0 Rc.1)
      have Nk := Nat.le_trans Nk Kc.1
      have Kp := Kp.trans Kc all0
      have Od := Od.keep Kc all0
      refine Run.cast (st' := [(.int i0)]) rfl ?_
      refine s_if_ne 284 280 C X at_277 (fun c => absurd (by decide : i0 = i0) c) (fun _ => ?_)
      refine s_iconst 281 C X at_280 kc_iconst_1 ?_
      refine s_goto 285 C X at_281 ?_
      refine s_nreturn C X at_285 rfl (by simp) rfl ?_ (FGH hG hS Nk Rc C (own_EL hw) (by decide) (by decide))
      exact hQ _ _ rfl
    · have ne_o42_o84 : o42 ≠ o84 := Nat.ne_of_lt (Nat.lt_of_lt_of_le E_o42.lt sz_o84')
      have Rc := Rc.trans Rn
      have Kp := Kp.trans Kc all0
      have E_o42 := E_o42.keep Kc
      have F_o42_value := F_o42_value.keep Kc nin0
      have F_o42_coder := F_o42_coder.keep Kc nin0
      have A_o46 := A_o46.keep Kc nin0
      have t_c1_66 : ¬ ((y14).toInt = (0 : Int)) := fun q => c1_66 (Int32.toInt_inj.mp q)
      have t_c17_67 : (y14).toInt = (1 : Int) := congrArg Int32.toInt c17_67
      refine Run.cast (st' := [(.ref o84)]) rfl ?_
      refine s_astore 139 C X (l' := #[lv a, .second, lv b, .second, iv c_, iv d_, iv mo, lv y3, .second, iv la5, iv ca6, iv cb7, iv y10, iv y14, iv y18, iv y22, rv o42, rv o84, .unset, .unset, .unset, .unset, .unset]) at_137 rfl rfl ?_
      refine s_new 142 C X at_139 (mW 26 rfl) (mW 27 rfl) (mW 28 rfl) (fun T hh o428 hb_o428 X E E_o428 D g_o428 => ?_)
      have H_o428 : Safe Z EL1 vm _ o428 := Safe.ext E Rc.1 (Safe.new (Nat.le_of_eq hb_o428))
      have Rc := Rc.trans (CHr.ext E Rc.1)
      have Nk := Nat.le_trans Nk E.1
      have sz_o428 : h0.size ≤ o428 := Nat.le_trans Kp.1 (Nat.le_of_eq hb_o428)
      have ne_o42_o428 : o42 ≠ o428 := Nat.ne_of_lt (Nat.lt_of_lt_of_le E_o42.lt (Nat.le_of_eq hb_o428))
      have ne_o46_o428 : o46 ≠ o428 := Nat.ne_of_lt (Nat.lt_of_lt_of_le A_o46.lt (Nat.le_of_eq hb_o428))
      have ne_o84_o428 : o84 ≠ o428 := Nat.ne_of_lt (Nat.lt_of_lt_of_le E_o84.lt (Nat.le_of_eq hb_o428))
      have ne_o88_o428 : o88 ≠ o428 := Nat.ne_of_lt (Nat.lt_of_lt_of_le A_o88.lt (Nat.le_of_eq hb_o428))
      have Kp := Kp.ext E
      have E_o42 := E_o42.ext E
      have F_o42_value := F_o42_value.ext E
      have F_o42_coder := F_o42_coder.ext E
      have A_o46 := A_o46.ext E
      have Od := Od.ext E
      have E_o84 := E_o84.ext E
      have F_o84_value := F_o84_value.ext E
      have F_o84_coder := F_o84_coder.ext E
      have A_o88 := A_o88.ext E
      have F_o428_position : Fld Z _ o428 "com/example/libring/libring/core/RingPoint" "position" "J" (.long j0) := D (Or.inr (hw _ (mW 34 rfl))) (ty := .long) (by decide)
      have F_o428_node : Fld Z _ o428 "com/example/libring/libring/core/RingPoint" "node" "Ljava/lang/String;" .null := D (Or.inr (hw _ (mW 36 rfl))) (ty := (.object "java/lang/String")) (by decide)
      refine s_dup 143 C X at_142 rfl ?_
      refine s_lloadN 144 C X at_143 rfl ?_
      refine s_aload 146 C X at_144 rfl rfl ?_
      have Sw_o428 : Safe Z EL1 vm _ o428 := H_o428
      refine s_callC 149 [(.long a), (.ref o42)] [(.ref o428)] 1 C X at_146 rfl (mW 29 rfl) (mW 30 rfl) (mW 28 rfl) (mW 31 rfl) (rm_a429 l Z a0 hw a o42 o428 _ n0 X.sz E_o428 F_o428_position F_o428_node g_o428) (lenOf pd__JLjava_lang_String__V rfl) rfl rfl rfl (fun T v hh X q => ?_)
      obtain ⟨rfl, E_o428, F_o428_position, F_o428_node, Kc⟩ := q
      have Hs : ∀ x ∈ [o428], Safe Z EL1 vm _ x := (soS Sw_o428 so0)
      have H_o428 := Safe.keep Kc Hs Rc.1 H_o428
      have Rc := Rc.trans (CHr.keep Kc Hs Rc.1)
      have Nk := Nat.le_trans Nk Kc.1
      have Kp := Kp.trans Kc (allS (Or.inr sz_o428) all0)
      have E_o42 := E_o42.keep Kc
      have F_o42_value := F_o42_value.keep Kc (ninS ne_o42_o428 nin0)
      have F_o42_coder := F_o42_coder.keep Kc (ninS ne_o42_o428 nin0)
      have A_o46 := A_o46.keep Kc (ninS ne_o46_o428 nin0)
      have Od := Od.keep Kc (allS g_o428 all0)
      have E_o84 := E_o84.keep Kc
      have F_o84_value := F_o84_value.keep Kc (ninS ne_o84_o428 nin0)
      have F_o84_coder := F_o84_coder.keep Kc (ninS ne_o84_o428 nin0)
      have A_o88 := A_o88.keep Kc (ninS ne_o88_o428 nin0)
      refine Run.cast (st' := [(.ref o428)]) rfl ?_
      refine s_astore 151 C X (l' := #[lv a, .second, lv b, .second, iv c_, iv d_, iv mo, lv y3, .second, iv la5, iv ca6, iv cb7, iv y10, iv y14, iv y18, iv y22, rv o42, rv o84, rv o428, .unset, .unset, .unset, .unset]) at_149 rfl rfl ?_
      refine s_new 154 C X at_151 (mW 26 rfl) (mW 27 rfl) (mW 28 rfl) (fun T hh o430 hb_o430 X E E_o430 D g_o430 => ?_)
      have H_o428 := Safe.ext E Rc.1 H_o428
      have H_o430 : Safe Z EL1 vm _ o430 := Safe.ext E Rc.1 (Safe.new (Nat.le_of_eq hb_o430))
      have Rc := Rc.trans (CHr.ext E Rc.1)
      have Nk := Nat.le_trans Nk E.1
      have sz_o430 : h0.size ≤ o430 := Nat.le_trans Kp.1 (Nat.le_of_eq hb_o430)
      have ne_o42_o430 : o42 ≠ o430 := Nat.ne_of_lt (Nat.lt_of_lt_of_le E_o42.lt (Nat.le_of_eq hb_o430))
      have ne_o46_o430 : o46 ≠ o430 := Nat.ne_of_lt (Nat.lt_of_lt_of_le A_o46.lt (Nat.le_of_eq hb_o430))
      have ne_o84_o430 : o84 ≠ o430 := Nat.ne_of_lt (Nat.lt_of_lt_of_le E_o84.lt (Nat.le_of_eq hb_o430))
      have ne_o88_o430 : o88 ≠ o430 := Nat.ne_of_lt (Nat.lt_of_lt_of_le A_o88.lt (Nat.le_of_eq hb_o430))
      have ne_o428_o430 : o428 ≠ o430 := Nat.ne_of_lt (Nat.lt_of_lt_of_le E_o428.lt (Nat.le_of_eq hb_o430))
      have Kp := Kp.ext E
      have E_o42 := E_o42.ext E
      have F_o42_value := F_o42_value.ext E
      have F_o42_coder := F_o42_coder.ext E
      have A_o46 := A_o46.ext E
      have Od := Od.ext E
      have E_o84 := E_o84.ext E
      have F_o84_value := F_o84_value.ext E
      have F_o84_coder := F_o84_coder.ext E
      have A_o88 := A_o88.ext E
      have E_o428 := E_o428.ext E
      have F_o428_position := F_o428_position.ext E
      have F_o428_node := F_o428_node.ext E
      have F_o430_position : Fld Z _ o430 "com/example/libring/libring/core/RingPoint" "position" "J" (.long j0) := D (Or.inr (hw _ (mW 34 rfl))) (ty := .long) (by decide)
      have F_o430_node : Fld Z _ o430 "com/example/libring/libring/core/RingPoint" "node" "Ljava/lang/String;" .null := D (Or.inr (hw _ (mW 36 rfl))) (ty := (.object "java/lang/String")) (by decide)
      refine s_dup 155 C X at_154 rfl ?_
      refine s_lload 157 C X at_155 rfl ?_
      refine s_aload 159 C X at_157 rfl rfl ?_
      have Sw_o430 : Safe Z EL1 vm _ o430 := H_o430
      refine s_callC 162 [(.long y3), (.ref o84)] [(.ref o430)] 1 C X at_159 rfl (mW 29 rfl) (mW 30 rfl) (mW 28 rfl) (mW 31 rfl) (rm_a431 l Z a0 hw y3 o84 o430 _ n0 X.sz E_o430 F_o430_position F_o430_node g_o430) (lenOf pd__JLjava_lang_String__V rfl) rfl rfl rfl (fun T v hh X q => ?_)
      obtain ⟨rfl, E_o430, F_o430_position, F_o430_node, Kc⟩ := q
      have Hs : ∀ x ∈ [o430], Safe Z EL1 vm _ x := (soS Sw_o430 so0)
      have H_o428 := Safe.keep Kc Hs Rc.1 H_o428
      have H_o430 := Safe.keep Kc Hs Rc.1 H_o430
      have Rc := Rc.trans (CHr.keep Kc Hs Rc.1)
      have Nk := Nat.le_trans Nk Kc.1
      have Kp := Kp.trans Kc (allS (Or.inr sz_o430) all0)
      have E_o42 := E_o42.keep Kc
      have F_o42_value := F_o42_value.keep Kc (ninS ne_o42_o430 nin0)
      have F_o42_coder := F_o42_coder.keep Kc (ninS ne_o42_o430 nin0)
      have A_o46 := A_o46.keep Kc (ninS ne_o46_o430 nin0)
      have Od := Od.keep Kc (allS g_o430 all0)
      have E_o84 := E_o84.keep Kc
      have F_o84_value := F_o84_value.keep Kc (ninS ne_o84_o430 nin0)
      have F_o84_coder := F_o84_coder.keep Kc (ninS ne_o84_o430 nin0)
      have A_o88 := A_o88.keep Kc (ninS ne_o88_o430 nin0)
      have E_o428 := E_o428.keep Kc
      have F_o428_position := F_o428_position.keep Kc (ninS ne_o428_o430 nin0)
      have F_o428_node := F_o428_node.keep Kc (ninS ne_o428_o430 nin0)
      refine Run.cast (st' := [(.ref o430)]) rfl ?_
      refine s_astore 164 C X (l' := #[lv a, .second, lv b, .second, iv c_, iv d_, iv mo, lv y3, .second, iv la5, iv ca6, iv cb7, iv y10, iv y14, iv y18, iv y22, rv o42, rv o84, rv o428, rv o430, .unset, .unset, .unset]) at_162 rfl rfl ?_
      refine s_iload 166 C X at_164 rfl ?_
      refine s_iload 168 C X at_166 rfl ?_
      suffices J441 : ∀ (T : State) (hh : Heap) (vm : Vm) (k1 : Nat) (y440 : Int32) (D441 : ((¬ ((la5).toInt = (y14).toInt)) ∧ y440 = i0) ∨ (((la5).toInt = (y14).toInt) ∧ ((la5).toInt < (1 : Int)) ∧ ((la5).toInt < (2 : Int)) ∧ y440 = i1) ∨ (((la5).toInt = (y14).toInt) ∧ ((la5).toInt < (1 : Int)) ∧ (¬ ((la5).toInt < (2 : Int))) ∧ (¬ ((cb7).toInt = (y22).toInt)) ∧ y440 = i0) ∨ (((la5).toInt = (y14).toInt) ∧ ((la5).toInt < (1 : Int)) ∧ (¬ ((la5).toInt < (2 : Int))) ∧ ((cb7).toInt = (y22).toInt) ∧ y440 = i1) ∨ (((la5).toInt = (y14).toInt) ∧ (¬ ((la5).toInt < (1 : Int))) ∧ (¬ ((ca6).toInt = (y18).toInt)) ∧ y440 = i0) ∨ (((la5).toInt = (y14).toInt) ∧ (¬ ((la5).toInt < (1 : Int))) ∧ ((ca6).toInt = (y18).toInt) ∧ ((la5).toInt < (2 : Int)) ∧ y440 = i1) ∨ (((la5).toInt = (y14).toInt) ∧ (¬ ((la5).toInt < (1 : Int))) ∧ ((ca6).toInt = (y18).toInt) ∧ (¬ ((la5).toInt < (2 : Int))) ∧ (¬ ((cb7).toInt = (y22).toInt)) ∧ y440 = i0) ∨ (((la5).toInt = (y14).toInt) ∧ (¬ ((la5).toInt < (1 : Int))) ∧ ((ca6).toInt = (y18).toInt) ∧ (¬ ((la5).toInt < (2 : Int))) ∧ ((cb7).toInt = (y22).toInt) ∧ y440 = i1)) (C : Cx tables_1 a0 Z x.cls x.name code maxLocals ret p (s.setVm vm) m meth c) (X : St p l e room_1 (s.setVm vm) m #[(.long a), (.long b), (.int c_), (.int d_), (.int mo)] below meth c n0 T hh 14 28) (hS : s.Since vm k1) (Kp : Keep h0 hh []) (E_o42 : Exa Z hh o42 "java/lang/String") (F_o42_value : Fld Z hh o42 "java/lang/String" "value" "[B" (.ref o46)) (F_o42_coder : Fld Z hh o42 "java/lang/String" "coder" "B" (.int i0)) (A_o46 : Arv Z hh o46 k_o46 .byte i1 [(.int (bv ca6))] (.int i0)) (Od : Old Z n0 hh) (E_o84 : Exa Z hh o84 "java/lang/String") (F_o84_value : Fld Z hh o84 "java/lang/String" "value" "[B" (.ref o88)) (F_o84_coder : Fld Z hh o84 "java/lang/String" "coder" "B" (.int i0)) (A_o88 : Arv Z hh o88 k_o88 .byte i1 [(.int (bv y18))] (.int i0)) (E_o428 : Exa Z hh o428 "com/example/libring/libring/core/RingPoint") (F_o428_position : Fld Z hh o428 "com/example/libring/libring/core/RingPoint" "position" "J" (.long a)) (F_o428_node : Fld Z hh o428 "com/example/libring/libring/core/RingPoint" "node" "Ljava/lang/String;" (.ref o42)) (Nk : k1 ≤ hh.size) (Rc : CHr Z EL1 s.vm h0 vm hh) (H_o428 : Safe Z EL1 vm hh o428) (H_o430 : Safe Z EL1 vm hh o430) (E_o430 : Exa Z hh o430 "com/example/libring/libring/core/RingPoint") (F_o430_position : Fld Z hh o430 "com/example/libring/libring/core/RingPoint" "position" "J" (.long y3)) (F_o430_node : Fld Z hh o430 "com/example/libring/libring/core/RingPoint" "node" "Ljava/lang/String;" (.ref o84)), Run p e below n0 Q' G' m T 202 #[lv a, .second, lv b, .second, iv c_, iv d_, iv mo, lv y3, .second, iv la5, iv ca6, iv cb7, iv y10, iv y14, iv y18, iv y22, rv o42, rv o84, rv o428, rv o430, .unset, .unset, .unset] [(.int y440)] by
        refine s_icmp_ne 201 171 C X at_168 (fun c168_432 => ?_) (fun c168_432 => ?_)
        · have t_c168_432 : ¬ ((la5).toInt = (y14).toInt) := fun q => c168_432 (Int32.toInt_inj.mp q)
          refine s_iconst 202 C X at_201 kc_iconst_0 ?_
          exact J441 T _ _ _ (i0) ((Or.inl ⟨t_c168_432, rfl⟩)) C X hS Kp E_o42 F_o42_value F_o42_coder A_o46 Od E_o84 F_o84_value F_o84_coder A_o88 E_o428 F_o428_position F_o428_node Nk Rc H_o428 H_o430 E_o430 F_o430_position F_o430_node
        have t_c168_432 : (la5).toInt = (y14).toInt := congrArg Int32.toInt c168_432
        refine s_iload 173 C X at_171 rfl ?_
        refine s_iconst 174 C X at_173 kc_iconst_1 ?_
        refine s_icmp_lt 184 177 C X at_174 (fun c174_433 => ?_) (fun c174_433 => ?_)
        · have t_c174_433 : (la5).toInt < (1 : Int) := Int32.lt_iff_toInt_lt.mp c174_433
          refine s_iload 186 C X at_184 rfl ?_
          refine s_iconst 187 C X at_186 kc_iconst_2 ?_
          refine s_icmp_lt 197 190 C X at_187 (fun c187_434 => ?_) (fun c187_434 => ?_)
          · have t_c187_434 : (la5).toInt < (2 : Int) := Int32.lt_iff_toInt_lt.mp c187_434
            refine s_iconst 198 C X at_197 kc_iconst_1 ?_
            refine s_goto 202 C X at_198 ?_
            exact J441 T _ _ _ (i1) (Or.inr (Or.inl ⟨t_c168_432, t_c174_433, t_c187_434, rfl⟩)) C X hS Kp E_o42 F_o42_value F_o42_coder A_o46 Od E_o84 F_o84_value F_o84_coder A_o88 E_o428 F_o428_position F_o428_node Nk Rc H_o428 H_o430 E_o430 F_o430_position F_o430_node
          have t_c187_434 : ¬ ((la5).toInt < (2 : Int)) := fun q => c187_434 (Int32.lt_iff_toInt_lt.mpr q)
          refine s_iload 192 C X at_190 rfl ?_
          refine s_iload 194 C X at_192 rfl ?_
          refine s_icmp_ne 201 197 C X at_194 (fun c194_435 => ?_) (fun c194_435 => ?_)
          · have t_c194_435 : ¬ ((cb7).toInt = (y22).toInt) := fun q => c194_435 (Int32.toInt_inj.mp q)
            refine s_iconst 202 C X at_201 kc_iconst_0 ?_
            exact J441 T _ _ _ (i0) (Or.inr (Or.inr (Or.inl ⟨t_c168_432, t_c174_433, t_c187_434, t_c194_435, rfl⟩))) C X hS Kp E_o42 F_o42_value F_o42_coder A_o46 Od E_o84 F_o84_value F_o84_coder A_o88 E_o428 F_o428_position F_o428_node Nk Rc H_o428 H_o430 E_o430 F_o430_position F_o430_node
          have t_c194_435 : (cb7).toInt = (y22).toInt := congrArg Int32.toInt c194_435
          refine s_iconst 198 C X at_197 kc_iconst_1 ?_
          refine s_goto 202 C X at_198 ?_
          exact J441 T _ _ _ (i1) (Or.inr (Or.inr (Or.inr (Or.inl ⟨t_c168_432, t_c174_433, t_c187_434, t_c194_435, rfl⟩)))) C X hS Kp E_o42 F_o42_value F_o42_coder A_o46 Od E_o84 F_o84_value F_o84_coder A_o88 E_o428 F_o428_position F_o428_node Nk Rc H_o428 H_o430 E_o430 F_o430_position F_o430_node
        have t_c174_433 : ¬ ((la5).toInt < (1 : Int)) := fun q => c174_433 (Int32.lt_iff_toInt_lt.mpr q)
        refine s_iload 179 C X at_177 rfl ?_
        refine s_iload 181 C X at_179 rfl ?_
        refine s_icmp_ne 201 184 C X at_181 (fun c181_436 => ?_) (fun c181_436 => ?_)
        · have t_c181_436 : ¬ ((ca6).toInt = (y18).toInt) := fun q => c181_436 (Int32.toInt_inj.mp q)
          refine s_iconst 202 C X at_201 kc_iconst_0 ?_
          exact J441 T _ _ _ (i0) (Or.inr (Or.inr (Or.inr (Or.inr (Or.inl ⟨t_c168_432, t_c174_433, t_c181_436, rfl⟩))))) C X hS Kp E_o42 F_o42_value F_o42_coder A_o46 Od E_o84 F_o84_value F_o84_coder A_o88 E_o428 F_o428_position F_o428_node Nk Rc H_o428 H_o430 E_o430 F_o430_position F_o430_node
        have t_c181_436 : (ca6).toInt = (y18).toInt := congrArg Int32.toInt c181_436
        refine s_iload 186 C X at_184 rfl ?_
        refine s_iconst 187 C X at_186 kc_iconst_2 ?_
        refine s_icmp_lt 197 190 C X at_187 (fun c187_437 => ?_) (fun c187_437 => ?_)
        · have t_c187_437 : (la5).toInt < (2 : Int) := Int32.lt_iff_toInt_lt.mp c187_437
          refine s_iconst 198 C X at_197 kc_iconst_1 ?_
          refine s_goto 202 C X at_198 ?_
          exact J441 T _ _ _ (i1) (Or.inr (Or.inr (Or.inr (Or.inr (Or.inr (Or.inl ⟨t_c168_432, t_c174_433, t_c181_436, t_c187_437, rfl⟩)))))) C X hS Kp E_o42 F_o42_value F_o42_coder A_o46 Od E_o84 F_o84_value F_o84_coder A_o88 E_o428 F_o428_position F_o428_node Nk Rc H_o428 H_o430 E_o430 F_o430_position F_o430_node
        have t_c187_437 : ¬ ((la5).toInt < (2 : Int)) := fun q => c187_437 (Int32.lt_iff_toInt_lt.mpr q)
        refine s_iload 192 C X at_190 rfl ?_
        refine s_iload 194 C X at_192 rfl ?_
        refine s_icmp_ne 201 197 C X at_194 (fun c194_438 => ?_) (fun c194_438 => ?_)
        · have t_c194_438 : ¬ ((cb7).toInt = (y22).toInt) := fun q => c194_438 (Int32.toInt_inj.mp q)
          refine s_iconst 202 C X at_201 kc_iconst_0 ?_
          exact J441 T _ _ _ (i0) (Or.inr (Or.inr (Or.inr (Or.inr (Or.inr (Or.inr (Or.inl ⟨t_c168_432, t_c174_433, t_c181_436, t_c187_437, t_c194_438, rfl⟩))))))) C X hS Kp E_o42 F_o42_value F_o42_coder A_o46 Od E_o84 F_o84_value F_o84_coder A_o88 E_o428 F_o428_position F_o428_node Nk Rc H_o428 H_o430 E_o430 F_o430_position F_o430_node
        have t_c194_438 : (cb7).toInt = (y22).toInt := congrArg Int32.toInt c194_438
        refine s_iconst 198 C X at_197 kc_iconst_1 ?_
        refine s_goto 202 C X at_198 ?_
        exact J441 T _ _ _ (i1) (Or.inr (Or.inr (Or.inr (Or.inr (Or.inr (Or.inr (Or.inr ⟨t_c168_432, t_c174_433, t_c181_436, t_c187_437, t_c194_438, rfl⟩))))))) C X hS Kp E_o42 F_o42_value F_o42_coder A_o46 Od E_o84 F_o84_value F_o84_coder A_o88 E_o428 F_o428_position F_o428_node Nk Rc H_o428 H_o430 E_o430 F_o430_position F_o430_node
      intro T hh vm k1 y440 D441  C X hS Kp E_o42 F_o42_value F_o42_coder A_o46 Od E_o84 F_o84_value F_o84_coder A_o88 E_o428 F_o428_position F_o428_node Nk Rc H_o428 H_o430 E_o430 F_o430_position F_o430_node
      refine s_istore 204 C X (l' := #[lv a, .second, lv b, .second, iv c_, iv d_, iv mo, lv y3, .second, iv la5, iv ca6, iv cb7, iv y10, iv y14, iv y18, iv y22, rv o42, rv o84, rv o428, rv o430, iv y440, .unset, .unset]) at_202 rfl ?_
      refine s_lloadN 205 C X at_204 rfl ?_
      refine s_lload 207 C X at_205 rfl ?_
      refine s_lcmp 208 C X at_207 ?_
      suffices J446 : ∀ (T : State) (hh : Heap) (vm : Vm) (k1 : Nat) (y445 : Int32) (D446 : ((¬ ((a).toInt = (y3).toInt)) ∧ y445 = i0) ∨ (((a).toInt = (y3).toInt) ∧ ((y440).toInt = (0 : Int)) ∧ y445 = i0) ∨ (((a).toInt = (y3).toInt) ∧ (¬ ((y440).toInt = (0 : Int))) ∧ y445 = i1)) (C : Cx tables_1 a0 Z x.cls x.name code maxLocals ret p (s.setVm vm) m meth c) (X : St p l e room_1 (s.setVm vm) m #[(.long a), (.long b), (.int c_), (.int d_), (.int mo)] below meth c n0 T hh 14 28) (hS : s.Since vm k1) (Kp : Keep h0 hh []) (E_o42 : Exa Z hh o42 "java/lang/String") (F_o42_value : Fld Z hh o42 "java/lang/String" "value" "[B" (.ref o46)) (F_o42_coder : Fld Z hh o42 "java/lang/String" "coder" "B" (.int i0)) (A_o46 : Arv Z hh o46 k_o46 .byte i1 [(.int (bv ca6))] (.int i0)) (Od : Old Z n0 hh) (E_o84 : Exa Z hh o84 "java/lang/String") (F_o84_value : Fld Z hh o84 "java/lang/String" "value" "[B" (.ref o88)) (F_o84_coder : Fld Z hh o84 "java/lang/String" "coder" "B" (.int i0)) (A_o88 : Arv Z hh o88 k_o88 .byte i1 [(.int (bv y18))] (.int i0)) (E_o428 : Exa Z hh o428 "com/example/libring/libring/core/RingPoint") (F_o428_position : Fld Z hh o428 "com/example/libring/libring/core/RingPoint" "position" "J" (.long a)) (F_o428_node : Fld Z hh o428 "com/example/libring/libring/core/RingPoint" "node" "Ljava/lang/String;" (.ref o42)) (Nk : k1 ≤ hh.size) (Rc : CHr Z EL1 s.vm h0 vm hh) (H_o428 : Safe Z EL1 vm hh o428) (H_o430 : Safe Z EL1 vm hh o430) (E_o430 : Exa Z hh o430 "com/example/libring/libring/core/RingPoint") (F_o430_position : Fld Z hh o430 "com/example/libring/libring/core/RingPoint" "position" "J" (.long y3)) (F_o430_node : Fld Z hh o430 "com/example/libring/libring/core/RingPoint" "node" "Ljava/lang/String;" (.ref o84)), Run p e below n0 Q' G' m T 221 #[lv a, .second, lv b, .second, iv c_, iv d_, iv mo, lv y3, .second, iv la5, iv ca6, iv cb7, iv y10, iv y14, iv y18, iv y22, rv o42, rv o84, rv o428, rv o430, iv y440, .unset, .unset] [(.int y445)] by
        refine s_if_ne 220 211 C X at_208 (fun c208_442 => ?_) (fun c208_442 => ?_)
        · have t_c208_442 : ¬ ((a).toInt = (y3).toInt) := fun q => c208_442 (cl_eq.mpr q)
          refine s_iconst 221 C X at_220 kc_iconst_0 ?_
          exact J446 T _ _ _ (i0) ((Or.inl ⟨t_c208_442, rfl⟩)) C X hS Kp E_o42 F_o42_value F_o42_coder A_o46 Od E_o84 F_o84_value F_o84_coder A_o88 E_o428 F_o428_position F_o428_node Nk Rc H_o428 H_o430 E_o430 F_o430_position F_o430_node
        have t_c208_442 : (a).toInt = (y3).toInt := cl_eq.mp c208_442
        refine s_iload 213 C X at_211 rfl ?_
        refine s_if_eq 220 216 C X at_213 (fun c213_443 => ?_) (fun c213_443 => ?_)
        · have t_c213_443 : (y440).toInt = (0 : Int) := congrArg Int32.toInt c213_443
          refine s_iconst 221 C X at_220 kc_iconst_0 ?_
          exact J446 T _ _ _ (i0) (Or.inr (Or.inl ⟨t_c208_442, t_c213_443, rfl⟩)) C X hS Kp E_o42 F_o42_value F_o42_coder A_o46 Od E_o84 F_o84_value F_o84_coder A_o88 E_o428 F_o428_position F_o428_node Nk Rc H_o428 H_o430 E_o430 F_o430_position F_o430_node
        have t_c213_443 : ¬ ((y440).toInt = (0 : Int)) := fun q => c213_443 (Int32.toInt_inj.mp q)
        refine s_iconst 217 C X at_216 kc_iconst_1 ?_
        refine s_goto 221 C X at_217 ?_
        exact J446 T _ _ _ (i1) (Or.inr (Or.inr ⟨t_c208_442, t_c213_443, rfl⟩)) C X hS Kp E_o42 F_o42_value F_o42_coder A_o46 Od E_o84 F_o84_value F_o84_coder A_o88 E_o428 F_o428_position F_o428_node Nk Rc H_o428 H_o430 E_o430 F_o430_position F_o430_node
      intro T hh vm k1 y445 D446  C X hS Kp E_o42 F_o42_value F_o42_coder A_o46 Od E_o84 F_o84_value F_o84_coder A_o88 E_o428 F_o428_position F_o428_node Nk Rc H_o428 H_o430 E_o430 F_o430_position F_o430_node
      refine s_istore 223 C X (l' := #[lv a, .second, lv b, .second, iv c_, iv d_, iv mo, lv y3, .second, iv la5, iv ca6, iv cb7, iv y10, iv y14, iv y18, iv y22, rv o42, rv o84, rv o428, rv o430, iv y440, iv y445, .unset]) at_221 rfl ?_
      refine s_aload 225 C X at_223 rfl rfl ?_
      refine s_astore 227 C X (l' := #[lv a, .second, lv b, .second, iv c_, iv d_, iv mo, lv y3, .second, iv la5, iv ca6, iv cb7, iv y10, iv y14, iv y18, iv y22, rv o42, rv o84, rv o428, rv o430, iv y440, iv y445, rv o42]) at_225 rfl rfl ?_
      refine s_aload 229 C X at_227 rfl rfl ?_
      refine s_aload 231 C X at_229 rfl rfl ?_
      refine s_callV 234 [(.ref o430)] [] 0 C X at_231 (mW 37 rfl) (mW 38 rfl) (notFace_of_selects (args := #[]) (mvT C.2.1 (C.w (mW 40 rfl)))) (mW 40 rfl) (mW 39 rfl) (mW 28 rfl) (mW 41 rfl) E_o428 (rm_a471 l Z a0 hw a cs y3 ca6 y18 o42 o46 k_o46 o84 o88 k_o88 o428 o430 _ n0 X.sz S_cs E_o42 F_o42_value F_o42_coder A_o46 Od E_o84 F_o84_value F_o84_coder A_o88 F_o428_position F_o428_node E_o430 F_o430_position F_o430_node hv_cs ne_o42_o84) (lenOf pd__Ljava_lang_Object__Z rfl) rfl rfl rfl (fun T v hh X q => ?_)
      obtain ⟨y472, rfl, D473, Od, Kc⟩ := q
      have H_o428 := Safe.keep Kc so0 Rc.1 H_o428
      have H_o430 := Safe.keep Kc so0 Rc.1 H_o430
      have Rc := Rc.trans (CHr.keep Kc so0 Rc.1)
      have Nk := Nat.le_trans Nk Kc.1
      have Kp := Kp.trans Kc all0
      have E_o42 := E_o42.keep Kc
      have F_o42_value := F_o42_value.keep Kc nin0
      have F_o42_coder := F_o42_coder.keep Kc nin0
      have A_o46 := A_o46.keep Kc nin0
      have E_o84 := E_o84.keep Kc
      have F_o84_value := F_o84_value.keep Kc nin0
      have F_o84_coder := F_o84_coder.keep Kc nin0
      have A_o88 := A_o88.keep Kc nin0
      have E_o428 := E_o428.keep Kc
      have F_o428_position := F_o428_position.keep Kc nin0
      have F_o428_node := F_o428_node.keep Kc nin0
      have E_o430 := E_o430.keep Kc
      have F_o430_position := F_o430_position.keep Kc nin0
      have F_o430_node := F_o430_node.keep Kc nin0
      refine Run.cast (st' := [(.int y472)]) rfl ?_
      refine s_iload 236 C X at_234 rfl ?_
      refine s_icmp_ne 284 239 C X at_236 (fun c236_474 => ?_) (fun c236_474 => ?_)
      · have t_c236_474 : ¬ ((y472).toInt = (y445).toInt) := fun q => c236_474 (Int32.toInt_inj.mp q)
        refine s_iconst 285 C X at_284 kc_iconst_0 ?_
        refine s_nreturn C X at_285 rfl (by simp) rfl ?_ (FGH hG hS Nk Rc C (own_EL hw) (by decide) (by decide))
        exact (own_lf8 D441 D446 D473 t_c1_24 t_c17_25 t_c1_66 t_c17_67 t_c236_474 hv_ca6 hv_y18 hv_la5 hv_y14).elim
      refine s_aload 241 C X at_239 rfl rfl ?_
      refine s_aload 243 C X at_241 rfl rfl ?_
      refine s_callV 246 [(.ref o428)] [] 0 C X at_243 (mW 37 rfl) (mW 38 rfl) (notFace_of_selects (args := #[]) (mvT C.2.1 (C.w (mW 40 rfl)))) (mW 40 rfl) (mW 39 rfl) (mW 28 rfl) (mW 41 rfl) E_o430 (rm_a499 l Z a0 hw a cs y3 ca6 y18 o42 o46 k_o46 o84 o88 k_o88 o428 o430 _ n0 X.sz S_cs E_o42 F_o42_value F_o42_coder A_o46 E_o84 F_o84_value F_o84_coder A_o88 E_o428 F_o428_position F_o428_node F_o430_position F_o430_node Od hv_cs ne_o42_o84) (lenOf pd__Ljava_lang_Object__Z rfl) rfl rfl rfl (fun T v hh X q => ?_)
      obtain ⟨y500, rfl, D501, Od, Kc⟩ := q
      have H_o428 := Safe.keep Kc so0 Rc.1 H_o428
      have H_o430 := Safe.keep Kc so0 Rc.1 H_o430
      have Rc := Rc.trans (CHr.keep Kc so0 Rc.1)
      have Nk := Nat.le_trans Nk Kc.1
      have Kp := Kp.trans Kc all0
      have E_o42 := E_o42.keep Kc
      have E_o428 := E_o428.keep Kc
      have F_o428_position := F_o428_position.keep Kc nin0
      have F_o428_node := F_o428_node.keep Kc nin0
      refine Run.cast (st' := [(.int y500)]) rfl ?_
      refine s_iload 248 C X at_246 rfl ?_
      refine s_icmp_ne 284 251 C X at_248 (fun c248_502 => ?_) (fun c248_502 => ?_)
      · have t_c248_502 : ¬ ((y500).toInt = (y445).toInt) := fun q => c248_502 (Int32.toInt_inj.mp q)
        refine s_iconst 285 C X at_284 kc_iconst_0 ?_
        refine s_nreturn C X at_285 rfl (by simp) rfl ?_ (FGH hG hS Nk Rc C (own_EL hw) (by decide) (by decide))
        exact (own_lf9 D441 D446 D501 t_c1_24 t_c17_25 t_c1_66 t_c17_67 t_c248_502 hv_y18 hv_ca6 hv_la5 hv_y14).elim
      refine s_aload 253 C X at_251 rfl rfl ?_
      refine s_aload 255 C X at_253 rfl rfl ?_
      refine s_callV 258 [(.ref o428)] [] 0 C X at_255 (mW 37 rfl) (mW 38 rfl) (notFace_of_selects (args := #[]) (mvT C.2.1 (C.w (mW 40 rfl)))) (mW 40 rfl) (mW 39 rfl) (mW 28 rfl) (mW 41 rfl) E_o428 (rm_a508 l Z a0 hw a o42 o428 _ n0 X.sz E_o42 E_o428 F_o428_position F_o428_node) (lenOf pd__Ljava_lang_Object__Z rfl) rfl rfl rfl (fun T v hh X q => ?_)
      obtain ⟨rfl, Kc⟩ := q
      have H_o428 := Safe.keep Kc so0 Rc.1 H_o428
      have H_o430 := Safe.keep Kc so0 Rc.1 H_o430
      have Rc := Rc.trans (CHr.keep Kc so0 Rc.1)
      have Nk := Nat.le_trans Nk Kc.1
      have Kp := Kp.trans Kc all0
      have E_o42 := E_o42.keep Kc
      have E_o428 := E_o428.keep Kc
      have Od := Od.keep Kc all0
      refine Run.cast (st' := [(.int i1)]) rfl ?_
      refine s_if_eq 284 261 C X at_258 (fun c => absurd c (by decide)) (fun _ => ?_)
      refine s_aload 263 C X at_261 rfl rfl ?_
      refine s_aload 265 C X at_263 rfl rfl ?_
      refine s_callV 268 [(.ref o42)] [] 0 C X at_265 (mW 37 rfl) (mW 38 rfl) (notFace_of_selects (args := #[]) (mvT C.2.1 (C.w (mW 40 rfl)))) (mW 40 rfl) (mW 39 rfl) (mW 28 rfl) (mW 41 rfl) E_o428 (rm_a511 l Z a0 hw o42 o428 _ n0 X.sz E_o42) (lenOf pd__Ljava_lang_Object__Z rfl) rfl rfl rfl (fun T v hh X q => ?_)
      obtain ⟨rfl, Kc⟩ := q
      have H_o428 := Safe.keep Kc so0 Rc.1 H_o428
      have H_o430 := Safe.keep Kc so0 Rc.1 H_o430
      have Rc := Rc.trans (CHr.keep Kc so0 Rc.1)
      have Nk := Nat.le_trans Nk Kc.1
      have Kp := Kp.trans Kc all0
      have E_o428 := E_o428.keep Kc
      have Od := Od.keep Kc all0
      refine Run.cast (st' := [(.int i0)]) rfl ?_
      refine s_if_ne 284 271 C X at_268 (fun c => absurd (by decide : i0 = i0) c) (fun _ => ?_)
      refine s_aload 273 C X at_271 rfl rfl ?_
      refine s_aconstNull 274 C X at_273 ?_
      refine s_callV 277 [.null] [] 0 C X at_274 (mW 37 rfl) (mW 38 rfl) (notFace_of_selects (args := #[]) (mvT C.2.1 (C.w (mW 40 rfl)))) (mW 40 rfl) (mW 39 rfl) (mW 28 rfl) (mW 41 rfl) E_o428 (rm_a514 l Z a0 hw o428 _ n0 X.sz ) (lenOf pd__Ljava_lang_Object__Z rfl) rfl rfl rfl (fun T v hh X q => ?_)
      obtain ⟨rfl, Kc⟩ := q
      have H_o428 := Safe.keep Kc so0 Rc.1 H_o428
      have H_o430 := Safe.keep Kc so0 Rc.1 H_o430
      have Rc := Rc.trans (CHr.keep Kc so0 Rc.1)
      have Nk := Nat.le_trans Nk Kc.1
      have Kp := Kp.trans Kc all0
      have Od := Od.keep Kc all0
      refine Run.cast (st' := [(.int i0)]) rfl ?_
      refine s_if_ne 284 280 C X at_277 (fun c => absurd (by decide : i0 = i0) c) (fun _ => ?_)
      refine s_iconst 281 C X at_280 kc_iconst_1 ?_
      refine s_goto 285 C X at_281 ?_
      refine s_nreturn C X at_285 rfl (by simp) rfl ?_ (FGH hG hS Nk Rc C (own_EL hw) (by decide) (by decide))
      exact hQ _ _ rfl
    · have ne_o42_o98 : o42 ≠ o98 := Nat.ne_of_lt (Nat.lt_of_lt_of_le E_o42.lt sz_o98')
      have Rc := Rc.trans Rn
      have Kp := Kp.trans Kc all0
      have E_o42 := E_o42.keep Kc
      have F_o42_value := F_o42_value.keep Kc nin0
      have F_o42_coder := F_o42_coder.keep Kc nin0
      have A_o46 := A_o46.keep Kc nin0
      have t_c1_66 : (y14).toInt = (0 : Int) := congrArg Int32.toInt c1_66
      refine Run.cast (st' := [(.ref o98)]) rfl ?_
      refine s_astore 139 C X (l' := #[lv a, .second, lv b, .second, iv c_, iv d_, iv mo, lv y3, .second, iv la5, iv ca6, iv cb7, iv y10, iv y14, iv y18, iv y22, rv o42, rv o98, .unset, .unset, .unset, .unset, .unset]) at_137 rfl rfl ?_
      refine s_new 142 C X at_139 (mW 26 rfl) (mW 27 rfl) (mW 28 rfl) (fun T hh o516 hb_o516 X E E_o516 D g_o516 => ?_)
      have H_o516 : Safe Z EL1 vm _ o516 := Safe.ext E Rc.1 (Safe.new (Nat.le_of_eq hb_o516))
      have Rc := Rc.trans (CHr.ext E Rc.1)
      have Nk := Nat.le_trans Nk E.1
      have sz_o516 : h0.size ≤ o516 := Nat.le_trans Kp.1 (Nat.le_of_eq hb_o516)
      have ne_o42_o516 : o42 ≠ o516 := Nat.ne_of_lt (Nat.lt_of_lt_of_le E_o42.lt (Nat.le_of_eq hb_o516))
      have ne_o46_o516 : o46 ≠ o516 := Nat.ne_of_lt (Nat.lt_of_lt_of_le A_o46.lt (Nat.le_of_eq hb_o516))
      have ne_o98_o516 : o98 ≠ o516 := Nat.ne_of_lt (Nat.lt_of_lt_of_le E_o98.lt (Nat.le_of_eq hb_o516))
      have ne_b102_o516 : b102 ≠ o516 := Nat.ne_of_lt (Nat.lt_of_lt_of_le A_b102.lt (Nat.le_of_eq hb_o516))
      have Kp := Kp.ext E
      have E_o42 := E_o42.ext E
      have F_o42_value := F_o42_value.ext E
      have F_o42_coder := F_o42_coder.ext E
      have A_o46 := A_o46.ext E
      have Od := Od.ext E
      have E_o98 := E_o98.ext E
      have F_o98_value := F_o98_value.ext E
      have F_o98_coder := F_o98_coder.ext E
      have A_b102 := A_b102.ext E
      have F_o516_position : Fld Z _ o516 "com/example/libring/libring/core/RingPoint" "position" "J" (.long j0) := D (Or.inr (hw _ (mW 34 rfl))) (ty := .long) (by decide)
      have F_o516_node : Fld Z _ o516 "com/example/libring/libring/core/RingPoint" "node" "Ljava/lang/String;" .null := D (Or.inr (hw _ (mW 36 rfl))) (ty := (.object "java/lang/String")) (by decide)
      refine s_dup 143 C X at_142 rfl ?_
      refine s_lloadN 144 C X at_143 rfl ?_
      refine s_aload 146 C X at_144 rfl rfl ?_
      have Sw_o516 : Safe Z EL1 vm _ o516 := H_o516
      refine s_callC 149 [(.long a), (.ref o42)] [(.ref o516)] 1 C X at_146 rfl (mW 29 rfl) (mW 30 rfl) (mW 28 rfl) (mW 31 rfl) (rm_a517 l Z a0 hw a o42 o516 _ n0 X.sz E_o516 F_o516_position F_o516_node g_o516) (lenOf pd__JLjava_lang_String__V rfl) rfl rfl rfl (fun T v hh X q => ?_)
      obtain ⟨rfl, E_o516, F_o516_position, F_o516_node, Kc⟩ := q
      have Hs : ∀ x ∈ [o516], Safe Z EL1 vm _ x := (soS Sw_o516 so0)
      have H_o516 := Safe.keep Kc Hs Rc.1 H_o516
      have Rc := Rc.trans (CHr.keep Kc Hs Rc.1)
      have Nk := Nat.le_trans Nk Kc.1
      have Kp := Kp.trans Kc (allS (Or.inr sz_o516) all0)
      have E_o42 := E_o42.keep Kc
      have F_o42_value := F_o42_value.keep Kc (ninS ne_o42_o516 nin0)
      have F_o42_coder := F_o42_coder.keep Kc (ninS ne_o42_o516 nin0)
      have A_o46 := A_o46.keep Kc (ninS ne_o46_o516 nin0)
      have Od := Od.keep Kc (allS g_o516 all0)
      have E_o98 := E_o98.keep Kc
      have F_o98_value := F_o98_value.keep Kc (ninS ne_o98_o516 nin0)
      have F_o98_coder := F_o98_coder.keep Kc (ninS ne_o98_o516 nin0)
      have A_b102 := A_b102.keep Kc (ninS ne_b102_o516 nin0)
      refine Run.cast (st' := [(.ref o516)]) rfl ?_
      refine s_astore 151 C X (l' := #[lv a, .second, lv b, .second, iv c_, iv d_, iv mo, lv y3, .second, iv la5, iv ca6, iv cb7, iv y10, iv y14, iv y18, iv y22, rv o42, rv o98, rv o516, .unset, .unset, .unset, .unset]) at_149 rfl rfl ?_
      refine s_new 154 C X at_151 (mW 26 rfl) (mW 27 rfl) (mW 28 rfl) (fun T hh o518 hb_o518 X E E_o518 D g_o518 => ?_)
      have H_o516 := Safe.ext E Rc.1 H_o516
      have H_o518 : Safe Z EL1 vm _ o518 := Safe.ext E Rc.1 (Safe.new (Nat.le_of_eq hb_o518))
      have Rc := Rc.trans (CHr.ext E Rc.1)
      have Nk := Nat.le_trans Nk E.1
      have sz_o518 : h0.size ≤ o518 := Nat.le_trans Kp.1 (Nat.le_of_eq hb_o518)
      have ne_o42_o518 : o42 ≠ o518 := Nat.ne_of_lt (Nat.lt_of_lt_of_le E_o42.lt (Nat.le_of_eq hb_o518))
      have ne_o46_o518 : o46 ≠ o518 := Nat.ne_of_lt (Nat.lt_of_lt_of_le A_o46.lt (Nat.le_of_eq hb_o518))
      have ne_o98_o518 : o98 ≠ o518 := Nat.ne_of_lt (Nat.lt_of_lt_of_le E_o98.lt (Nat.le_of_eq hb_o518))
      have ne_b102_o518 : b102 ≠ o518 := Nat.ne_of_lt (Nat.lt_of_lt_of_le A_b102.lt (Nat.le_of_eq hb_o518))
      have ne_o516_o518 : o516 ≠ o518 := Nat.ne_of_lt (Nat.lt_of_lt_of_le E_o516.lt (Nat.le_of_eq hb_o518))
      have Kp := Kp.ext E
      have E_o42 := E_o42.ext E
      have F_o42_value := F_o42_value.ext E
      have F_o42_coder := F_o42_coder.ext E
      have A_o46 := A_o46.ext E
      have Od := Od.ext E
      have E_o98 := E_o98.ext E
      have F_o98_value := F_o98_value.ext E
      have F_o98_coder := F_o98_coder.ext E
      have A_b102 := A_b102.ext E
      have E_o516 := E_o516.ext E
      have F_o516_position := F_o516_position.ext E
      have F_o516_node := F_o516_node.ext E
      have F_o518_position : Fld Z _ o518 "com/example/libring/libring/core/RingPoint" "position" "J" (.long j0) := D (Or.inr (hw _ (mW 34 rfl))) (ty := .long) (by decide)
      have F_o518_node : Fld Z _ o518 "com/example/libring/libring/core/RingPoint" "node" "Ljava/lang/String;" .null := D (Or.inr (hw _ (mW 36 rfl))) (ty := (.object "java/lang/String")) (by decide)
      refine s_dup 155 C X at_154 rfl ?_
      refine s_lload 157 C X at_155 rfl ?_
      refine s_aload 159 C X at_157 rfl rfl ?_
      have Sw_o518 : Safe Z EL1 vm _ o518 := H_o518
      refine s_callC 162 [(.long y3), (.ref o98)] [(.ref o518)] 1 C X at_159 rfl (mW 29 rfl) (mW 30 rfl) (mW 28 rfl) (mW 31 rfl) (rm_a519 l Z a0 hw y3 o98 o518 _ n0 X.sz E_o518 F_o518_position F_o518_node g_o518) (lenOf pd__JLjava_lang_String__V rfl) rfl rfl rfl (fun T v hh X q => ?_)
      obtain ⟨rfl, E_o518, F_o518_position, F_o518_node, Kc⟩ := q
      have Hs : ∀ x ∈ [o518], Safe Z EL1 vm _ x := (soS Sw_o518 so0)
      have H_o516 := Safe.keep Kc Hs Rc.1 H_o516
      have H_o518 := Safe.keep Kc Hs Rc.1 H_o518
      have Rc := Rc.trans (CHr.keep Kc Hs Rc.1)
      have Nk := Nat.le_trans Nk Kc.1
      have Kp := Kp.trans Kc (allS (Or.inr sz_o518) all0)
      have E_o42 := E_o42.keep Kc
      have F_o42_value := F_o42_value.keep Kc (ninS ne_o42_o518 nin0)
      have F_o42_coder := F_o42_coder.keep Kc (ninS ne_o42_o518 nin0)
      have A_o46 := A_o46.keep Kc (ninS ne_o46_o518 nin0)
      have Od := Od.keep Kc (allS g_o518 all0)
      have E_o98 := E_o98.keep Kc
      have F_o98_value := F_o98_value.keep Kc (ninS ne_o98_o518 nin0)
      have F_o98_coder := F_o98_coder.keep Kc (ninS ne_o98_o518 nin0)
      have A_b102 := A_b102.keep Kc (ninS ne_b102_o518 nin0)
      have E_o516 := E_o516.keep Kc
      have F_o516_position := F_o516_position.keep Kc (ninS ne_o516_o518 nin0)
      have F_o516_node := F_o516_node.keep Kc (ninS ne_o516_o518 nin0)
      refine Run.cast (st' := [(.ref o518)]) rfl ?_
      refine s_astore 164 C X (l' := #[lv a, .second, lv b, .second, iv c_, iv d_, iv mo, lv y3, .second, iv la5, iv ca6, iv cb7, iv y10, iv y14, iv y18, iv y22, rv o42, rv o98, rv o516, rv o518, .unset, .unset, .unset]) at_162 rfl rfl ?_
      refine s_iload 166 C X at_164 rfl ?_
      refine s_iload 168 C X at_166 rfl ?_
      suffices J529 : ∀ (T : State) (hh : Heap) (vm : Vm) (k1 : Nat) (y528 : Int32) (D529 : ((¬ ((la5).toInt = (y14).toInt)) ∧ y528 = i0) ∨ (((la5).toInt = (y14).toInt) ∧ ((la5).toInt < (1 : Int)) ∧ ((la5).toInt < (2 : Int)) ∧ y528 = i1) ∨ (((la5).toInt = (y14).toInt) ∧ ((la5).toInt < (1 : Int)) ∧ (¬ ((la5).toInt < (2 : Int))) ∧ (¬ ((cb7).toInt = (y22).toInt)) ∧ y528 = i0) ∨ (((la5).toInt = (y14).toInt) ∧ ((la5).toInt < (1 : Int)) ∧ (¬ ((la5).toInt < (2 : Int))) ∧ ((cb7).toInt = (y22).toInt) ∧ y528 = i1) ∨ (((la5).toInt = (y14).toInt) ∧ (¬ ((la5).toInt < (1 : Int))) ∧ (¬ ((ca6).toInt = (y18).toInt)) ∧ y528 = i0) ∨ (((la5).toInt = (y14).toInt) ∧ (¬ ((la5).toInt < (1 : Int))) ∧ ((ca6).toInt = (y18).toInt) ∧ ((la5).toInt < (2 : Int)) ∧ y528 = i1) ∨ (((la5).toInt = (y14).toInt) ∧ (¬ ((la5).toInt < (1 : Int))) ∧ ((ca6).toInt = (y18).toInt) ∧ (¬ ((la5).toInt < (2 : Int))) ∧ (¬ ((cb7).toInt = (y22).toInt)) ∧ y528 = i0) ∨ (((la5).toInt = (y14).toInt) ∧ (¬ ((la5).toInt < (1 : Int))) ∧ ((ca6).toInt = (y18).toInt) ∧ (¬ ((la5).toInt < (2 : Int))) ∧ ((cb7).toInt = (y22).toInt) ∧ y528 = i1)) (C : Cx tables_1 a0 Z x.cls x.name code maxLocals ret p (s.setVm vm) m meth c) (X : St p l e room_1 (s.setVm vm) m #[(.long a), (.long b), (.int c_), (.int d_), (.int mo)] below meth c n0 T hh 14 28) (hS : s.Since vm k1) (Kp : Keep h0 hh []) (E_o42 : Exa Z hh o42 "java/lang/String") (F_o42_value : Fld Z hh o42 "java/lang/String" "value" "[B" (.ref o46)) (F_o42_coder : Fld Z hh o42 "java/lang/String" "coder" "B" (.int i0)) (A_o46 : Arv Z hh o46 k_o46 .byte i1 [(.int (bv ca6))] (.int i0)) (Od : Old Z n0 hh) (E_o98 : Exa Z hh o98 "java/lang/String") (F_o98_value : Fld Z hh o98 "java/lang/String" "value" "[B" (.ref b102)) (F_o98_coder : Fld Z hh o98 "java/lang/String" "coder" "B" (.int i0)) (A_b102 : Arv Z hh b102 k_b102 .byte i0 [] (.int i0)) (E_o516 : Exa Z hh o516 "com/example/libring/libring/core/RingPoint") (F_o516_position : Fld Z hh o516 "com/example/libring/libring/core/RingPoint" "position" "J" (.long a)) (F_o516_node : Fld Z hh o516 "com/example/libring/libring/core/RingPoint" "node" "Ljava/lang/String;" (.ref o42)) (Nk : k1 ≤ hh.size) (Rc : CHr Z EL1 s.vm h0 vm hh) (H_o516 : Safe Z EL1 vm hh o516) (H_o518 : Safe Z EL1 vm hh o518) (E_o518 : Exa Z hh o518 "com/example/libring/libring/core/RingPoint") (F_o518_position : Fld Z hh o518 "com/example/libring/libring/core/RingPoint" "position" "J" (.long y3)) (F_o518_node : Fld Z hh o518 "com/example/libring/libring/core/RingPoint" "node" "Ljava/lang/String;" (.ref o98)), Run p e below n0 Q' G' m T 202 #[lv a, .second, lv b, .second, iv c_, iv d_, iv mo, lv y3, .second, iv la5, iv ca6, iv cb7, iv y10, iv y14, iv y18, iv y22, rv o42, rv o98, rv o516, rv o518, .unset, .unset, .unset] [(.int y528)] by
        refine s_icmp_ne 201 171 C X at_168 (fun c168_520 => ?_) (fun c168_520 => ?_)
        · have t_c168_520 : ¬ ((la5).toInt = (y14).toInt) := fun q => c168_520 (Int32.toInt_inj.mp q)
          refine s_iconst 202 C X at_201 kc_iconst_0 ?_
          exact J529 T _ _ _ (i0) ((Or.inl ⟨t_c168_520, rfl⟩)) C X hS Kp E_o42 F_o42_value F_o42_coder A_o46 Od E_o98 F_o98_value F_o98_coder A_b102 E_o516 F_o516_position F_o516_node Nk Rc H_o516 H_o518 E_o518 F_o518_position F_o518_node
        have t_c168_520 : (la5).toInt = (y14).toInt := congrArg Int32.toInt c168_520
        refine s_iload 173 C X at_171 rfl ?_
        refine s_iconst 174 C X at_173 kc_iconst_1 ?_
        refine s_icmp_lt 184 177 C X at_174 (fun c174_521 => ?_) (fun c174_521 => ?_)
        · have t_c174_521 : (la5).toInt < (1 : Int) := Int32.lt_iff_toInt_lt.mp c174_521
          refine s_iload 186 C X at_184 rfl ?_
          refine s_iconst 187 C X at_186 kc_iconst_2 ?_
          refine s_icmp_lt 197 190 C X at_187 (fun c187_522 => ?_) (fun c187_522 => ?_)
          · have t_c187_522 : (la5).toInt < (2 : Int) := Int32.lt_iff_toInt_lt.mp c187_522
            refine s_iconst 198 C X at_197 kc_iconst_1 ?_
            refine s_goto 202 C X at_198 ?_
            exact J529 T _ _ _ (i1) (Or.inr (Or.inl ⟨t_c168_520, t_c174_521, t_c187_522, rfl⟩)) C X hS Kp E_o42 F_o42_value F_o42_coder A_o46 Od E_o98 F_o98_value F_o98_coder A_b102 E_o516 F_o516_position F_o516_node Nk Rc H_o516 H_o518 E_o518 F_o518_position F_o518_node
          have t_c187_522 : ¬ ((la5).toInt < (2 : Int)) := fun q => c187_522 (Int32.lt_iff_toInt_lt.mpr q)
          refine s_iload 192 C X at_190 rfl ?_
          refine s_iload 194 C X at_192 rfl ?_
          refine s_icmp_ne 201 197 C X at_194 (fun c194_523 => ?_) (fun c194_523 => ?_)
          · have t_c194_523 : ¬ ((cb7).toInt = (y22).toInt) := fun q => c194_523 (Int32.toInt_inj.mp q)
            refine s_iconst 202 C X at_201 kc_iconst_0 ?_
            exact J529 T _ _ _ (i0) (Or.inr (Or.inr (Or.inl ⟨t_c168_520, t_c174_521, t_c187_522, t_c194_523, rfl⟩))) C X hS Kp E_o42 F_o42_value F_o42_coder A_o46 Od E_o98 F_o98_value F_o98_coder A_b102 E_o516 F_o516_position F_o516_node Nk Rc H_o516 H_o518 E_o518 F_o518_position F_o518_node
          have t_c194_523 : (cb7).toInt = (y22).toInt := congrArg Int32.toInt c194_523
          refine s_iconst 198 C X at_197 kc_iconst_1 ?_
          refine s_goto 202 C X at_198 ?_
          exact J529 T _ _ _ (i1) (Or.inr (Or.inr (Or.inr (Or.inl ⟨t_c168_520, t_c174_521, t_c187_522, t_c194_523, rfl⟩)))) C X hS Kp E_o42 F_o42_value F_o42_coder A_o46 Od E_o98 F_o98_value F_o98_coder A_b102 E_o516 F_o516_position F_o516_node Nk Rc H_o516 H_o518 E_o518 F_o518_position F_o518_node
        have t_c174_521 : ¬ ((la5).toInt < (1 : Int)) := fun q => c174_521 (Int32.lt_iff_toInt_lt.mpr q)
        refine s_iload 179 C X at_177 rfl ?_
        refine s_iload 181 C X at_179 rfl ?_
        refine s_icmp_ne 201 184 C X at_181 (fun c181_524 => ?_) (fun c181_524 => ?_)
        · have t_c181_524 : ¬ ((ca6).toInt = (y18).toInt) := fun q => c181_524 (Int32.toInt_inj.mp q)
          refine s_iconst 202 C X at_201 kc_iconst_0 ?_
          exact J529 T _ _ _ (i0) (Or.inr (Or.inr (Or.inr (Or.inr (Or.inl ⟨t_c168_520, t_c174_521, t_c181_524, rfl⟩))))) C X hS Kp E_o42 F_o42_value F_o42_coder A_o46 Od E_o98 F_o98_value F_o98_coder A_b102 E_o516 F_o516_position F_o516_node Nk Rc H_o516 H_o518 E_o518 F_o518_position F_o518_node
        have t_c181_524 : (ca6).toInt = (y18).toInt := congrArg Int32.toInt c181_524
        refine s_iload 186 C X at_184 rfl ?_
        refine s_iconst 187 C X at_186 kc_iconst_2 ?_
        refine s_icmp_lt 197 190 C X at_187 (fun c187_525 => ?_) (fun c187_525 => ?_)
        · have t_c187_525 : (la5).toInt < (2 : Int) := Int32.lt_iff_toInt_lt.mp c187_525
          refine s_iconst 198 C X at_197 kc_iconst_1 ?_
          refine s_goto 202 C X at_198 ?_
          exact J529 T _ _ _ (i1) (Or.inr (Or.inr (Or.inr (Or.inr (Or.inr (Or.inl ⟨t_c168_520, t_c174_521, t_c181_524, t_c187_525, rfl⟩)))))) C X hS Kp E_o42 F_o42_value F_o42_coder A_o46 Od E_o98 F_o98_value F_o98_coder A_b102 E_o516 F_o516_position F_o516_node Nk Rc H_o516 H_o518 E_o518 F_o518_position F_o518_node
        have t_c187_525 : ¬ ((la5).toInt < (2 : Int)) := fun q => c187_525 (Int32.lt_iff_toInt_lt.mpr q)
        refine s_iload 192 C X at_190 rfl ?_
        refine s_iload 194 C X at_192 rfl ?_
        refine s_icmp_ne 201 197 C X at_194 (fun c194_526 => ?_) (fun c194_526 => ?_)
        · have t_c194_526 : ¬ ((cb7).toInt = (y22).toInt) := fun q => c194_526 (Int32.toInt_inj.mp q)
          refine s_iconst 202 C X at_201 kc_iconst_0 ?_
          exact J529 T _ _ _ (i0) (Or.inr (Or.inr (Or.inr (Or.inr (Or.inr (Or.inr (Or.inl ⟨t_c168_520, t_c174_521, t_c181_524, t_c187_525, t_c194_526, rfl⟩))))))) C X hS Kp E_o42 F_o42_value F_o42_coder A_o46 Od E_o98 F_o98_value F_o98_coder A_b102 E_o516 F_o516_position F_o516_node Nk Rc H_o516 H_o518 E_o518 F_o518_position F_o518_node
        have t_c194_526 : (cb7).toInt = (y22).toInt := congrArg Int32.toInt c194_526
        refine s_iconst 198 C X at_197 kc_iconst_1 ?_
        refine s_goto 202 C X at_198 ?_
        exact J529 T _ _ _ (i1) (Or.inr (Or.inr (Or.inr (Or.inr (Or.inr (Or.inr (Or.inr ⟨t_c168_520, t_c174_521, t_c181_524, t_c187_525, t_c194_526, rfl⟩))))))) C X hS Kp E_o42 F_o42_value F_o42_coder A_o46 Od E_o98 F_o98_value F_o98_coder A_b102 E_o516 F_o516_position F_o516_node Nk Rc H_o516 H_o518 E_o518 F_o518_position F_o518_node
      intro T hh vm k1 y528 D529  C X hS Kp E_o42 F_o42_value F_o42_coder A_o46 Od E_o98 F_o98_value F_o98_coder A_b102 E_o516 F_o516_position F_o516_node Nk Rc H_o516 H_o518 E_o518 F_o518_position F_o518_node
      refine s_istore 204 C X (l' := #[lv a, .second, lv b, .second, iv c_, iv d_, iv mo, lv y3, .second, iv la5, iv ca6, iv cb7, iv y10, iv y14, iv y18, iv y22, rv o42, rv o98, rv o516, rv o518, iv y528, .unset, .unset]) at_202 rfl ?_
      refine s_lloadN 205 C X at_204 rfl ?_
      refine s_lload 207 C X at_205 rfl ?_
      refine s_lcmp 208 C X at_207 ?_
      suffices J534 : ∀ (T : State) (hh : Heap) (vm : Vm) (k1 : Nat) (y533 : Int32) (D534 : ((¬ ((a).toInt = (y3).toInt)) ∧ y533 = i0) ∨ (((a).toInt = (y3).toInt) ∧ ((y528).toInt = (0 : Int)) ∧ y533 = i0) ∨ (((a).toInt = (y3).toInt) ∧ (¬ ((y528).toInt = (0 : Int))) ∧ y533 = i1)) (C : Cx tables_1 a0 Z x.cls x.name code maxLocals ret p (s.setVm vm) m meth c) (X : St p l e room_1 (s.setVm vm) m #[(.long a), (.long b), (.int c_), (.int d_), (.int mo)] below meth c n0 T hh 14 28) (hS : s.Since vm k1) (Kp : Keep h0 hh []) (E_o42 : Exa Z hh o42 "java/lang/String") (F_o42_value : Fld Z hh o42 "java/lang/String" "value" "[B" (.ref o46)) (F_o42_coder : Fld Z hh o42 "java/lang/String" "coder" "B" (.int i0)) (A_o46 : Arv Z hh o46 k_o46 .byte i1 [(.int (bv ca6))] (.int i0)) (Od : Old Z n0 hh) (E_o98 : Exa Z hh o98 "java/lang/String") (F_o98_value : Fld Z hh o98 "java/lang/String" "value" "[B" (.ref b102)) (F_o98_coder : Fld Z hh o98 "java/lang/String" "coder" "B" (.int i0)) (A_b102 : Arv Z hh b102 k_b102 .byte i0 [] (.int i0)) (E_o516 : Exa Z hh o516 "com/example/libring/libring/core/RingPoint") (F_o516_position : Fld Z hh o516 "com/example/libring/libring/core/RingPoint" "position" "J" (.long a)) (F_o516_node : Fld Z hh o516 "com/example/libring/libring/core/RingPoint" "node" "Ljava/lang/String;" (.ref o42)) (Nk : k1 ≤ hh.size) (Rc : CHr Z EL1 s.vm h0 vm hh) (H_o516 : Safe Z EL1 vm hh o516) (H_o518 : Safe Z EL1 vm hh o518) (E_o518 : Exa Z hh o518 "com/example/libring/libring/core/RingPoint") (F_o518_position : Fld Z hh o518 "com/example/libring/libring/core/RingPoint" "position" "J" (.long y3)) (F_o518_node : Fld Z hh o518 "com/example/libring/libring/core/RingPoint" "node" "Ljava/lang/String;" (.ref o98)), Run p e below n0 Q' G' m T 221 #[lv a, .second, lv b, .second, iv c_, iv d_, iv mo, lv y3, .second, iv la5, iv ca6, iv cb7, iv y10, iv y14, iv y18, iv y22, rv o42, rv o98, rv o516, rv o518, iv y528, .unset, .unset] [(.int y533)] by
        refine s_if_ne 220 211 C X at_208 (fun c208_530 => ?_) (fun c208_530 => ?_)
        · have t_c208_530 : ¬ ((a).toInt = (y3).toInt) := fun q => c208_530 (cl_eq.mpr q)
          refine s_iconst 221 C X at_220 kc_iconst_0 ?_
          exact J534 T _ _ _ (i0) ((Or.inl ⟨t_c208_530, rfl⟩)) C X hS Kp E_o42 F_o42_value F_o42_coder A_o46 Od E_o98 F_o98_value F_o98_coder A_b102 E_o516 F_o516_position F_o516_node Nk Rc H_o516 H_o518 E_o518 F_o518_position F_o518_node
        have t_c208_530 : (a).toInt = (y3).toInt := cl_eq.mp c208_530
        refine s_iload 213 C X at_211 rfl ?_
        refine s_if_eq 220 216 C X at_213 (fun c213_531 => ?_) (fun c213_531 => ?_)
        · have t_c213_531 : (y528).toInt = (0 : Int) := congrArg Int32.toInt c213_531
          refine s_iconst 221 C X at_220 kc_iconst_0 ?_
          exact J534 T _ _ _ (i0) (Or.inr (Or.inl ⟨t_c208_530, t_c213_531, rfl⟩)) C X hS Kp E_o42 F_o42_value F_o42_coder A_o46 Od E_o98 F_o98_value F_o98_coder A_b102 E_o516 F_o516_position F_o516_node Nk Rc H_o516 H_o518 E_o518 F_o518_position F_o518_node
        have t_c213_531 : ¬ ((y528).toInt = (0 : Int)) := fun q => c213_531 (Int32.toInt_inj.mp q)
        refine s_iconst 217 C X at_216 kc_iconst_1 ?_
        refine s_goto 221 C X at_217 ?_
        exact J534 T _ _ _ (i1) (Or.inr (Or.inr ⟨t_c208_530, t_c213_531, rfl⟩)) C X hS Kp E_o42 F_o42_value F_o42_coder A_o46 Od E_o98 F_o98_value F_o98_coder A_b102 E_o516 F_o516_position F_o516_node Nk Rc H_o516 H_o518 E_o518 F_o518_position F_o518_node
      intro T hh vm k1 y533 D534  C X hS Kp E_o42 F_o42_value F_o42_coder A_o46 Od E_o98 F_o98_value F_o98_coder A_b102 E_o516 F_o516_position F_o516_node Nk Rc H_o516 H_o518 E_o518 F_o518_position F_o518_node
      refine s_istore 223 C X (l' := #[lv a, .second, lv b, .second, iv c_, iv d_, iv mo, lv y3, .second, iv la5, iv ca6, iv cb7, iv y10, iv y14, iv y18, iv y22, rv o42, rv o98, rv o516, rv o518, iv y528, iv y533, .unset]) at_221 rfl ?_
      refine s_aload 225 C X at_223 rfl rfl ?_
      refine s_astore 227 C X (l' := #[lv a, .second, lv b, .second, iv c_, iv d_, iv mo, lv y3, .second, iv la5, iv ca6, iv cb7, iv y10, iv y14, iv y18, iv y22, rv o42, rv o98, rv o516, rv o518, iv y528, iv y533, rv o42]) at_225 rfl rfl ?_
      refine s_aload 229 C X at_227 rfl rfl ?_
      refine s_aload 231 C X at_229 rfl rfl ?_
      refine s_callV 234 [(.ref o518)] [] 0 C X at_231 (mW 37 rfl) (mW 38 rfl) (notFace_of_selects (args := #[]) (mvT C.2.1 (C.w (mW 40 rfl)))) (mW 40 rfl) (mW 39 rfl) (mW 28 rfl) (mW 41 rfl) E_o516 (rm_a546 l Z a0 hw a cs y3 ca6 o42 o46 k_o46 o98 b102 k_b102 o516 o518 _ n0 X.sz S_cs E_o42 F_o42_value F_o42_coder A_o46 Od E_o98 F_o98_value F_o98_coder A_b102 F_o516_position F_o516_node E_o518 F_o518_position F_o518_node hv_cs ne_o42_o98) (lenOf pd__Ljava_lang_Object__Z rfl) rfl rfl rfl (fun T v hh X q => ?_)
      obtain ⟨y547, rfl, D548, Od, Kc⟩ := q
      have H_o516 := Safe.keep Kc so0 Rc.1 H_o516
      have H_o518 := Safe.keep Kc so0 Rc.1 H_o518
      have Rc := Rc.trans (CHr.keep Kc so0 Rc.1)
      have Nk := Nat.le_trans Nk Kc.1
      have Kp := Kp.trans Kc all0
      have E_o42 := E_o42.keep Kc
      have F_o42_value := F_o42_value.keep Kc nin0
      have F_o42_coder := F_o42_coder.keep Kc nin0
      have A_o46 := A_o46.keep Kc nin0
      have E_o98 := E_o98.keep Kc
      have F_o98_value := F_o98_value.keep Kc nin0
      have F_o98_coder := F_o98_coder.keep Kc nin0
      have A_b102 := A_b102.keep Kc nin0
      have E_o516 := E_o516.keep Kc
      have F_o516_position := F_o516_position.keep Kc nin0
      have F_o516_node := F_o516_node.keep Kc nin0
      have E_o518 := E_o518.keep Kc
      have F_o518_position := F_o518_position.keep Kc nin0
      have F_o518_node := F_o518_node.keep Kc nin0
      refine Run.cast (st' := [(.int y547)]) rfl ?_
      refine s_iload 236 C X at_234 rfl ?_
      refine s_icmp_ne 284 239 C X at_236 (fun c236_549 => ?_) (fun c236_549 => ?_)
      · have t_c236_549 : ¬ ((y547).toInt = (y533).toInt) := fun q => c236_549 (Int32.toInt_inj.mp q)
        refine s_iconst 285 C X at_284 kc_iconst_0 ?_
        refine s_nreturn C X at_285 rfl (by simp) rfl ?_ (FGH hG hS Nk Rc C (own_EL hw) (by decide) (by decide))
        exact (own_lf10 D529 D534 D548 t_c1_24 t_c17_25 t_c1_66 t_c236_549 hv_la5 hv_y14).elim
      refine s_aload 241 C X at_239 rfl rfl ?_
      refine s_aload 243 C X at_241 rfl rfl ?_
      refine s_callV 246 [(.ref o516)] [] 0 C X at_243 (mW 37 rfl) (mW 38 rfl) (notFace_of_selects (args := #[]) (mvT C.2.1 (C.w (mW 40 rfl)))) (mW 40 rfl) (mW 39 rfl) (mW 28 rfl) (mW 41 rfl) E_o518 (rm_a561 l Z a0 hw a cs y3 ca6 o42 o46 k_o46 o98 b102 k_b102 o516 o518 _ n0 X.sz S_cs E_o42 F_o42_value F_o42_coder A_o46 E_o98 F_o98_value F_o98_coder A_b102 E_o516 F_o516_position F_o516_node F_o518_position F_o518_node Od hv_cs ne_o42_o98) (lenOf pd__Ljava_lang_Object__Z rfl) rfl rfl rfl (fun T v hh X q => ?_)
      obtain ⟨y562, rfl, D563, Od, Kc⟩ := q
      have H_o516 := Safe.keep Kc so0 Rc.1 H_o516
      have H_o518 := Safe.keep Kc so0 Rc.1 H_o518
      have Rc := Rc.trans (CHr.keep Kc so0 Rc.1)
      have Nk := Nat.le_trans Nk Kc.1
      have Kp := Kp.trans Kc all0
      have E_o42 := E_o42.keep Kc
      have E_o516 := E_o516.keep Kc
      have F_o516_position := F_o516_position.keep Kc nin0
      have F_o516_node := F_o516_node.keep Kc nin0
      refine Run.cast (st' := [(.int y562)]) rfl ?_
      refine s_iload 248 C X at_246 rfl ?_
      refine s_icmp_ne 284 251 C X at_248 (fun c248_564 => ?_) (fun c248_564 => ?_)
      · have t_c248_564 : ¬ ((y562).toInt = (y533).toInt) := fun q => c248_564 (Int32.toInt_inj.mp q)
        refine s_iconst 285 C X at_284 kc_iconst_0 ?_
        refine s_nreturn C X at_285 rfl (by simp) rfl ?_ (FGH hG hS Nk Rc C (own_EL hw) (by decide) (by decide))
        exact (own_lf11 D529 D534 D563 t_c1_24 t_c17_25 t_c1_66 t_c248_564 hv_la5 hv_y14).elim
      refine s_aload 253 C X at_251 rfl rfl ?_
      refine s_aload 255 C X at_253 rfl rfl ?_
      refine s_callV 258 [(.ref o516)] [] 0 C X at_255 (mW 37 rfl) (mW 38 rfl) (notFace_of_selects (args := #[]) (mvT C.2.1 (C.w (mW 40 rfl)))) (mW 40 rfl) (mW 39 rfl) (mW 28 rfl) (mW 41 rfl) E_o516 (rm_a570 l Z a0 hw a o42 o516 _ n0 X.sz E_o42 E_o516 F_o516_position F_o516_node) (lenOf pd__Ljava_lang_Object__Z rfl) rfl rfl rfl (fun T v hh X q => ?_)
      obtain ⟨rfl, Kc⟩ := q
      have H_o516 := Safe.keep Kc so0 Rc.1 H_o516
      have H_o518 := Safe.keep Kc so0 Rc.1 H_o518
      have Rc := Rc.trans (CHr.keep Kc so0 Rc.1)
      have Nk := Nat.le_trans Nk Kc.1
      have Kp := Kp.trans Kc all0
      have E_o42 := E_o42.keep Kc
      have E_o516 := E_o516.keep Kc
      have Od := Od.keep Kc all0
      refine Run.cast (st' := [(.int i1)]) rfl ?_
      refine s_if_eq 284 261 C X at_258 (fun c => absurd c (by decide)) (fun _ => ?_)
      refine s_aload 263 C X at_261 rfl rfl ?_
      refine s_aload 265 C X at_263 rfl rfl ?_
      refine s_callV 268 [(.ref o42)] [] 0 C X at_265 (mW 37 rfl) (mW 38 rfl) (notFace_of_selects (args := #[]) (mvT C.2.1 (C.w (mW 40 rfl)))) (mW 40 rfl) (mW 39 rfl) (mW 28 rfl) (mW 41 rfl) E_o516 (rm_a573 l Z a0 hw o42 o516 _ n0 X.sz E_o42) (lenOf pd__Ljava_lang_Object__Z rfl) rfl rfl rfl (fun T v hh X q => ?_)
      obtain ⟨rfl, Kc⟩ := q
      have H_o516 := Safe.keep Kc so0 Rc.1 H_o516
      have H_o518 := Safe.keep Kc so0 Rc.1 H_o518
      have Rc := Rc.trans (CHr.keep Kc so0 Rc.1)
      have Nk := Nat.le_trans Nk Kc.1
      have Kp := Kp.trans Kc all0
      have E_o516 := E_o516.keep Kc
      have Od := Od.keep Kc all0
      refine Run.cast (st' := [(.int i0)]) rfl ?_
      refine s_if_ne 284 271 C X at_268 (fun c => absurd (by decide : i0 = i0) c) (fun _ => ?_)
      refine s_aload 273 C X at_271 rfl rfl ?_
      refine s_aconstNull 274 C X at_273 ?_
      refine s_callV 277 [.null] [] 0 C X at_274 (mW 37 rfl) (mW 38 rfl) (notFace_of_selects (args := #[]) (mvT C.2.1 (C.w (mW 40 rfl)))) (mW 40 rfl) (mW 39 rfl) (mW 28 rfl) (mW 41 rfl) E_o516 (rm_a576 l Z a0 hw o516 _ n0 X.sz ) (lenOf pd__Ljava_lang_Object__Z rfl) rfl rfl rfl (fun T v hh X q => ?_)
      obtain ⟨rfl, Kc⟩ := q
      have H_o516 := Safe.keep Kc so0 Rc.1 H_o516
      have H_o518 := Safe.keep Kc so0 Rc.1 H_o518
      have Rc := Rc.trans (CHr.keep Kc so0 Rc.1)
      have Nk := Nat.le_trans Nk Kc.1
      have Kp := Kp.trans Kc all0
      have Od := Od.keep Kc all0
      refine Run.cast (st' := [(.int i0)]) rfl ?_
      refine s_if_ne 284 280 C X at_277 (fun c => absurd (by decide : i0 = i0) c) (fun _ => ?_)
      refine s_iconst 281 C X at_280 kc_iconst_1 ?_
      refine s_goto 285 C X at_281 ?_
      refine s_nreturn C X at_285 rfl (by simp) rfl ?_ (FGH hG hS Nk Rc C (own_EL hw) (by decide) (by decide))
      exact hQ _ _ rfl
  · have sz_o56 : h0.size ≤ o56 := Nat.le_trans Kp.1 sz_o56'
    have Rc := Rc.trans Rn
    have Kp := Kp.trans Kc all0
    have t_c1_24 : (la5).toInt = (0 : Int) := congrArg Int32.toInt c1_24
    refine Run.cast (st' := [(.ref o56)]) rfl ?_
    refine s_astore 128 C X (l' := #[lv a, .second, lv b, .second, iv c_, iv d_, iv mo, lv y3, .second, iv la5, iv ca6, iv cb7, iv y10, iv y14, iv y18, iv y22, rv o56, .unset, .unset, .unset, .unset, .unset, .unset]) at_126 rfl rfl ?_
    refine s_iload 130 C X at_128 rfl ?_
    refine s_iload 132 C X at_130 rfl ?_
    refine s_iload 134 C X at_132 rfl ?_
    refine s_hcallS 137 [(.int y14), (.int y18), (.int y22)] [] 0 C X hS Nk (own_EL hw) Rc.1 at_134 (mW 0 rfl) (mW 1 rfl) (mW 2 rfl) (mW 3 rfl) (rm_a107 l Z a0 hw cs y14 y18 y22 _ n0 X.sz S_cs Od hv_cs hv_y18 hv_y22) (lenOf pd__III_Ljava_lang_String_ rfl) rfl rfl rfl so0 (fun T v hh vm k1 C X hS Nk Rn q => ?_)
    obtain ⟨o68, o72, k_o72, rfl, c1_66, c17_67, Kc, Od, E_o68, F_o68_value, F_o68_coder, A_o72, sz_o68', g_o68, sz_o72', g_o72, ne_o68_o72⟩ | ⟨o84, o88, k_o88, rfl, c1_66, c17_67, Kc, Od, E_o84, F_o84_value, F_o84_coder, A_o88, sz_o84', g_o84, sz_o88', g_o88, ne_o84_o88⟩ | ⟨o98, b102, k_b102, rfl, c1_66, Od, Kc, E_o98, F_o98_value, F_o98_coder, A_b102, sz_o98', g_o98, ne_o98_b102⟩ := q
    · have ne_o56_o68 : o56 ≠ o68 := Nat.ne_of_lt (Nat.lt_of_lt_of_le E_o56.lt sz_o68')
      have Rc := Rc.trans Rn
      have Kp := Kp.trans Kc all0
      have E_o56 := E_o56.keep Kc
      have F_o56_value := F_o56_value.keep Kc nin0
      have F_o56_coder := F_o56_coder.keep Kc nin0
      have A_b60 := A_b60.keep Kc nin0
      have t_c1_66 : ¬ ((y14).toInt = (0 : Int)) := fun q => c1_66 (Int32.toInt_inj.mp q)
      have t_c17_67 : ¬ ((y14).toInt = (1 : Int)) := fun q => c17_67 (Int32.toInt_inj.mp q)
      refine Run.cast (st' := [(.ref o68)]) rfl ?_
      refine s_astore 139 C X (l' := #[lv a, .second, lv b, .second, iv c_, iv d_, iv mo, lv y3, .second, iv la5, iv ca6, iv cb7, iv y10, iv y14, iv y18, iv y22, rv o56, rv o68, .unset, .unset, .unset, .unset, .unset]) at_137 rfl rfl ?_
      refine s_new 142 C X at_139 (mW 26 rfl) (mW 27 rfl) (mW 28 rfl) (fun T hh o620 hb_o620 X E E_o620 D g_o620 => ?_)
      have H_o620 : Safe Z EL1 vm _ o620 := Safe.ext E Rc.1 (Safe.new (Nat.le_of_eq hb_o620))
      have Rc := Rc.trans (CHr.ext E Rc.1)
      have Nk := Nat.le_trans Nk E.1
      have sz_o620 : h0.size ≤ o620 := Nat.le_trans Kp.1 (Nat.le_of_eq hb_o620)
      have ne_o56_o620 : o56 ≠ o620 := Nat.ne_of_lt (Nat.lt_of_lt_of_le E_o56.lt (Nat.le_of_eq hb_o620))
      have ne_b60_o620 : b60 ≠ o620 := Nat.ne_of_lt (Nat.lt_of_lt_of_le A_b60.lt (Nat.le_of_eq hb_o620))
      have ne_o68_o620 : o68 ≠ o620 := Nat.ne_of_lt (Nat.lt_of_lt_of_le E_o68.lt (Nat.le_of_eq hb_o620))
      have ne_o72_o620 : o72 ≠ o620 := Nat.ne_of_lt (Nat.lt_of_lt_of_le A_o72.lt (Nat.le_of_eq hb_o620))
      have Kp := Kp.ext E
      have E_o56 := E_o56.ext E
      have F_o56_value := F_o56_value.ext E
      have F_o56_coder := F_o56_coder.ext E
      have A_b60 := A_b60.ext E
      have Od := Od.ext E
      have E_o68 := E_o68.ext E
      have F_o68_value := F_o68_value.ext E
      have F_o68_coder := F_o68_coder.ext E
      have A_o72 := A_o72.ext E
      have F_o620_position : Fld Z _ o620 "com/example/libring/libring/core/RingPoint" "position" "J" (.long j0) := D (Or.inr (hw _ (mW 34 rfl))) (ty := .long) (by decide)
      have F_o620_node : Fld Z _ o620 "com/example/libring/libring/core/RingPoint" "node" "Ljava/lang/String;" .null := D (Or.inr (hw _ (mW 36 rfl))) (ty := (.object "java/lang/String")) (by decide)
      refine s_dup 143 C X at_142 rfl ?_
      refine s_lloadN 144 C X at_143 rfl ?_
      refine s_aload 146 C X at_144 rfl rfl ?_
      have Sw_o620 : Safe Z EL1 vm _ o620 := H_o620
      refine s_callC 149 [(.long a), (.ref o56)] [(.ref o620)] 1 C X at_146 rfl (mW 29 rfl) (mW 30 rfl) (mW 28 rfl) (mW 31 rfl) (rm_a621 l Z a0 hw a o56 o620 _ n0 X.sz E_o620 F_o620_position F_o620_node g_o620) (lenOf pd__JLjava_lang_String__V rfl) rfl rfl rfl (fun T v hh X q => ?_)
      obtain ⟨rfl, E_o620, F_o620_position, F_o620_node, Kc⟩ := q
      have Hs : ∀ x ∈ [o620], Safe Z EL1 vm _ x := (soS Sw_o620 so0)
      have H_o620 := Safe.keep Kc Hs Rc.1 H_o620
      have Rc := Rc.trans (CHr.keep Kc Hs Rc.1)
      have Nk := Nat.le_trans Nk Kc.1
      have Kp := Kp.trans Kc (allS (Or.inr sz_o620) all0)
      have E_o56 := E_o56.keep Kc
      have F_o56_value := F_o56_value.keep Kc (ninS ne_o56_o620 nin0)
      have F_o56_coder := F_o56_coder.keep Kc (ninS ne_o56_o620 nin0)
      have A_b60 := A_b60.keep Kc (ninS ne_b60_o620 nin0)
      have Od := Od.keep Kc (allS g_o620 all0)
      have E_o68 := E_o68.keep Kc
      have F_o68_value := F_o68_value.keep Kc (ninS ne_o68_o620 nin0)
      have F_o68_coder := F_o68_coder.keep Kc (ninS ne_o68_o620 nin0)
      have A_o72 := A_o72.keep Kc (ninS ne_o72_o620 nin0)
      refine Run.cast (st' := [(.ref o620)]) rfl ?_
      refine s_astore 151 C X (l' := #[lv a, .second, lv b, .second, iv c_, iv d_, iv mo, lv y3, .second, iv la5, iv ca6, iv cb7, iv y10, iv y14, iv y18, iv y22, rv o56, rv o68, rv o620, .unset, .unset, .unset, .unset]) at_149 rfl rfl ?_
      refine s_new 154 C X at_151 (mW 26 rfl) (mW 27 rfl) (mW 28 rfl) (fun T hh o622 hb_o622 X E E_o622 D g_o622 => ?_)
      have H_o620 := Safe.ext E Rc.1 H_o620
      have H_o622 : Safe Z EL1 vm _ o622 := Safe.ext E Rc.1 (Safe.new (Nat.le_of_eq hb_o622))
      have Rc := Rc.trans (CHr.ext E Rc.1)
      have Nk := Nat.le_trans Nk E.1
      have sz_o622 : h0.size ≤ o622 := Nat.le_trans Kp.1 (Nat.le_of_eq hb_o622)
      have ne_o56_o622 : o56 ≠ o622 := Nat.ne_of_lt (Nat.lt_of_lt_of_le E_o56.lt (Nat.le_of_eq hb_o622))
      have ne_b60_o622 : b60 ≠ o622 := Nat.ne_of_lt (Nat.lt_of_lt_of_le A_b60.lt (Nat.le_of_eq hb_o622))
      have ne_o68_o622 : o68 ≠ o622 := Nat.ne_of_lt (Nat.lt_of_lt_of_le E_o68.lt (Nat.le_of_eq hb_o622))
      have ne_o72_o622 : o72 ≠ o622 := Nat.ne_of_lt (Nat.lt_of_lt_of_le A_o72.lt (Nat.le_of_eq hb_o622))
      have ne_o620_o622 : o620 ≠ o622 := Nat.ne_of_lt (Nat.lt_of_lt_of_le E_o620.lt (Nat.le_of_eq hb_o622))
      have Kp := Kp.ext E
      have E_o56 := E_o56.ext E
      have F_o56_value := F_o56_value.ext E
      have F_o56_coder := F_o56_coder.ext E
      have A_b60 := A_b60.ext E
      have Od := Od.ext E
      have E_o68 := E_o68.ext E
      have F_o68_value := F_o68_value.ext E
      have F_o68_coder := F_o68_coder.ext E
      have A_o72 := A_o72.ext E
      have E_o620 := E_o620.ext E
      have F_o620_position := F_o620_position.ext E
      have F_o620_node := F_o620_node.ext E
      have F_o622_position : Fld Z _ o622 "com/example/libring/libring/core/RingPoint" "position" "J" (.long j0) := D (Or.inr (hw _ (mW 34 rfl))) (ty := .long) (by decide)
      have F_o622_node : Fld Z _ o622 "com/example/libring/libring/core/RingPoint" "node" "Ljava/lang/String;" .null := D (Or.inr (hw _ (mW 36 rfl))) (ty := (.object "java/lang/String")) (by decide)
      refine s_dup 155 C X at_154 rfl ?_
      refine s_lload 157 C X at_155 rfl ?_
      refine s_aload 159 C X at_157 rfl rfl ?_
      have Sw_o622 : Safe Z EL1 vm _ o622 := H_o622
      refine s_callC 162 [(.long y3), (.ref o68)] [(.ref o622)] 1 C X at_159 rfl (mW 29 rfl) (mW 30 rfl) (mW 28 rfl) (mW 31 rfl) (rm_a623 l Z a0 hw y3 o68 o622 _ n0 X.sz E_o622 F_o622_position F_o622_node g_o622) (lenOf pd__JLjava_lang_String__V rfl) rfl rfl rfl (fun T v hh X q => ?_)
      obtain ⟨rfl, E_o622, F_o622_position, F_o622_node, Kc⟩ := q
      have Hs : ∀ x ∈ [o622], Safe Z EL1 vm _ x := (soS Sw_o622 so0)
      have H_o620 := Safe.keep Kc Hs Rc.1 H_o620
      have H_o622 := Safe.keep Kc Hs Rc.1 H_o622
      have Rc := Rc.trans (CHr.keep Kc Hs Rc.1)
      have Nk := Nat.le_trans Nk Kc.1
      have Kp := Kp.trans Kc (allS (Or.inr sz_o622) all0)
      have E_o56 := E_o56.keep Kc
      have F_o56_value := F_o56_value.keep Kc (ninS ne_o56_o622 nin0)
      have F_o56_coder := F_o56_coder.keep Kc (ninS ne_o56_o622 nin0)
      have A_b60 := A_b60.keep Kc (ninS ne_b60_o622 nin0)
      have Od := Od.keep Kc (allS g_o622 all0)
      have E_o68 := E_o68.keep Kc
      have F_o68_value := F_o68_value.keep Kc (ninS ne_o68_o622 nin0)
      have F_o68_coder := F_o68_coder.keep Kc (ninS ne_o68_o622 nin0)
      have A_o72 := A_o72.keep Kc (ninS ne_o72_o622 nin0)
      have E_o620 := E_o620.keep Kc
      have F_o620_position := F_o620_position.keep Kc (ninS ne_o620_o622 nin0)
      have F_o620_node := F_o620_node.keep Kc (ninS ne_o620_o622 nin0)
      refine Run.cast (st' := [(.ref o622)]) rfl ?_
      refine s_astore 164 C X (l' := #[lv a, .second, lv b, .second, iv c_, iv d_, iv mo, lv y3, .second, iv la5, iv ca6, iv cb7, iv y10, iv y14, iv y18, iv y22, rv o56, rv o68, rv o620, rv o622, .unset, .unset, .unset]) at_162 rfl rfl ?_
      refine s_iload 166 C X at_164 rfl ?_
      refine s_iload 168 C X at_166 rfl ?_
      suffices J633 : ∀ (T : State) (hh : Heap) (vm : Vm) (k1 : Nat) (y632 : Int32) (D633 : ((¬ ((la5).toInt = (y14).toInt)) ∧ y632 = i0) ∨ (((la5).toInt = (y14).toInt) ∧ ((la5).toInt < (1 : Int)) ∧ ((la5).toInt < (2 : Int)) ∧ y632 = i1) ∨ (((la5).toInt = (y14).toInt) ∧ ((la5).toInt < (1 : Int)) ∧ (¬ ((la5).toInt < (2 : Int))) ∧ (¬ ((cb7).toInt = (y22).toInt)) ∧ y632 = i0) ∨ (((la5).toInt = (y14).toInt) ∧ ((la5).toInt < (1 : Int)) ∧ (¬ ((la5).toInt < (2 : Int))) ∧ ((cb7).toInt = (y22).toInt) ∧ y632 = i1) ∨ (((la5).toInt = (y14).toInt) ∧ (¬ ((la5).toInt < (1 : Int))) ∧ (¬ ((ca6).toInt = (y18).toInt)) ∧ y632 = i0) ∨ (((la5).toInt = (y14).toInt) ∧ (¬ ((la5).toInt < (1 : Int))) ∧ ((ca6).toInt = (y18).toInt) ∧ ((la5).toInt < (2 : Int)) ∧ y632 = i1) ∨ (((la5).toInt = (y14).toInt) ∧ (¬ ((la5).toInt < (1 : Int))) ∧ ((ca6).toInt = (y18).toInt) ∧ (¬ ((la5).toInt < (2 : Int))) ∧ (¬ ((cb7).toInt = (y22).toInt)) ∧ y632 = i0) ∨ (((la5).toInt = (y14).toInt) ∧ (¬ ((la5).toInt < (1 : Int))) ∧ ((ca6).toInt = (y18).toInt) ∧ (¬ ((la5).toInt < (2 : Int))) ∧ ((cb7).toInt = (y22).toInt) ∧ y632 = i1)) (C : Cx tables_1 a0 Z x.cls x.name code maxLocals ret p (s.setVm vm) m meth c) (X : St p l e room_1 (s.setVm vm) m #[(.long a), (.long b), (.int c_), (.int d_), (.int mo)] below meth c n0 T hh 14 28) (hS : s.Since vm k1) (Kp : Keep h0 hh []) (E_o56 : Exa Z hh o56 "java/lang/String") (F_o56_value : Fld Z hh o56 "java/lang/String" "value" "[B" (.ref b60)) (F_o56_coder : Fld Z hh o56 "java/lang/String" "coder" "B" (.int i0)) (A_b60 : Arv Z hh b60 k_b60 .byte i0 [] (.int i0)) (Od : Old Z n0 hh) (E_o68 : Exa Z hh o68 "java/lang/String") (F_o68_value : Fld Z hh o68 "java/lang/String" "value" "[B" (.ref o72)) (F_o68_coder : Fld Z hh o68 "java/lang/String" "coder" "B" (.int i0)) (A_o72 : Arv Z hh o72 k_o72 .byte i2 [(.int (bv y18)), (.int (bv y22))] (.int i0)) (E_o620 : Exa Z hh o620 "com/example/libring/libring/core/RingPoint") (F_o620_position : Fld Z hh o620 "com/example/libring/libring/core/RingPoint" "position" "J" (.long a)) (F_o620_node : Fld Z hh o620 "com/example/libring/libring/core/RingPoint" "node" "Ljava/lang/String;" (.ref o56)) (Nk : k1 ≤ hh.size) (Rc : CHr Z EL1 s.vm h0 vm hh) (H_o620 : Safe Z EL1 vm hh o620) (H_o622 : Safe Z EL1 vm hh o622) (E_o622 : Exa Z hh o622 "com/example/libring/libring/core/RingPoint") (F_o622_position : Fld Z hh o622 "com/example/libring/libring/core/RingPoint" "position" "J" (.long y3)) (F_o622_node : Fld Z hh o622 "com/example/libring/libring/core/RingPoint" "node" "Ljava/lang/String;" (.ref o68)), Run p e below n0 Q' G' m T 202 #[lv a, .second, lv b, .second, iv c_, iv d_, iv mo, lv y3, .second, iv la5, iv ca6, iv cb7, iv y10, iv y14, iv y18, iv y22, rv o56, rv o68, rv o620, rv o622, .unset, .unset, .unset] [(.int y632)] by
        refine s_icmp_ne 201 171 C X at_168 (fun c168_624 => ?_) (fun c168_624 => ?_)
        · have t_c168_624 : ¬ ((la5).toInt = (y14).toInt) := fun q => c168_624 (Int32.toInt_inj.mp q)
          refine s_iconst 202 C X at_201 kc_iconst_0 ?_
          exact J633 T _ _ _ (i0) ((Or.inl ⟨t_c168_624, rfl⟩)) C X hS Kp E_o56 F_o56_value F_o56_coder A_b60 Od E_o68 F_o68_value F_o68_coder A_o72 E_o620 F_o620_position F_o620_node Nk Rc H_o620 H_o622 E_o622 F_o622_position F_o622_node
        have t_c168_624 : (la5).toInt = (y14).toInt := congrArg Int32.toInt c168_624
        refine s_iload 173 C X at_171 rfl ?_
        refine s_iconst 174 C X at_173 kc_iconst_1 ?_
        refine s_icmp_lt 184 177 C X at_174 (fun c174_625 => ?_) (fun c174_625 => ?_)
        · have t_c174_625 : (la5).toInt < (1 : Int) := Int32.lt_iff_toInt_lt.mp c174_625
          refine s_iload 186 C X at_184 rfl ?_
          refine s_iconst 187 C X at_186 kc_iconst_2 ?_
          refine s_icmp_lt 197 190 C X at_187 (fun c187_626 => ?_) (fun c187_626 => ?_)
          · have t_c187_626 : (la5).toInt < (2 : Int) := Int32.lt_iff_toInt_lt.mp c187_626
            refine s_iconst 198 C X at_197 kc_iconst_1 ?_
            refine s_goto 202 C X at_198 ?_
            exact J633 T _ _ _ (i1) (Or.inr (Or.inl ⟨t_c168_624, t_c174_625, t_c187_626, rfl⟩)) C X hS Kp E_o56 F_o56_value F_o56_coder A_b60 Od E_o68 F_o68_value F_o68_coder A_o72 E_o620 F_o620_position F_o620_node Nk Rc H_o620 H_o622 E_o622 F_o622_position F_o622_node
          have t_c187_626 : ¬ ((la5).toInt < (2 : Int)) := fun q => c187_626 (Int32.lt_iff_toInt_lt.mpr q)
          refine s_iload 192 C X at_190 rfl ?_
          refine s_iload 194 C X at_192 rfl ?_
          refine s_icmp_ne 201 197 C X at_194 (fun c194_627 => ?_) (fun c194_627 => ?_)
          · have t_c194_627 : ¬ ((cb7).toInt = (y22).toInt) := fun q => c194_627 (Int32.toInt_inj.mp q)
            refine s_iconst 202 C X at_201 kc_iconst_0 ?_
            exact J633 T _ _ _ (i0) (Or.inr (Or.inr (Or.inl ⟨t_c168_624, t_c174_625, t_c187_626, t_c194_627, rfl⟩))) C X hS Kp E_o56 F_o56_value F_o56_coder A_b60 Od E_o68 F_o68_value F_o68_coder A_o72 E_o620 F_o620_position F_o620_node Nk Rc H_o620 H_o622 E_o622 F_o622_position F_o622_node
          have t_c194_627 : (cb7).toInt = (y22).toInt := congrArg Int32.toInt c194_627
          refine s_iconst 198 C X at_197 kc_iconst_1 ?_
          refine s_goto 202 C X at_198 ?_
          exact J633 T _ _ _ (i1) (Or.inr (Or.inr (Or.inr (Or.inl ⟨t_c168_624, t_c174_625, t_c187_626, t_c194_627, rfl⟩)))) C X hS Kp E_o56 F_o56_value F_o56_coder A_b60 Od E_o68 F_o68_value F_o68_coder A_o72 E_o620 F_o620_position F_o620_node Nk Rc H_o620 H_o622 E_o622 F_o622_position F_o622_node
        have t_c174_625 : ¬ ((la5).toInt < (1 : Int)) := fun q => c174_625 (Int32.lt_iff_toInt_lt.mpr q)
        refine s_iload 179 C X at_177 rfl ?_
        refine s_iload 181 C X at_179 rfl ?_
        refine s_icmp_ne 201 184 C X at_181 (fun c181_628 => ?_) (fun c181_628 => ?_)
        · have t_c181_628 : ¬ ((ca6).toInt = (y18).toInt) := fun q => c181_628 (Int32.toInt_inj.mp q)
          refine s_iconst 202 C X at_201 kc_iconst_0 ?_
          exact J633 T _ _ _ (i0) (Or.inr (Or.inr (Or.inr (Or.inr (Or.inl ⟨t_c168_624, t_c174_625, t_c181_628, rfl⟩))))) C X hS Kp E_o56 F_o56_value F_o56_coder A_b60 Od E_o68 F_o68_value F_o68_coder A_o72 E_o620 F_o620_position F_o620_node Nk Rc H_o620 H_o622 E_o622 F_o622_position F_o622_node
        have t_c181_628 : (ca6).toInt = (y18).toInt := congrArg Int32.toInt c181_628
        refine s_iload 186 C X at_184 rfl ?_
        refine s_iconst 187 C X at_186 kc_iconst_2 ?_
        refine s_icmp_lt 197 190 C X at_187 (fun c187_629 => ?_) (fun c187_629 => ?_)
        · have t_c187_629 : (la5).toInt < (2 : Int) := Int32.lt_iff_toInt_lt.mp c187_629
          refine s_iconst 198 C X at_197 kc_iconst_1 ?_
          refine s_goto 202 C X at_198 ?_
          exact J633 T _ _ _ (i1) (Or.inr (Or.inr (Or.inr (Or.inr (Or.inr (Or.inl ⟨t_c168_624, t_c174_625, t_c181_628, t_c187_629, rfl⟩)))))) C X hS Kp E_o56 F_o56_value F_o56_coder A_b60 Od E_o68 F_o68_value F_o68_coder A_o72 E_o620 F_o620_position F_o620_node Nk Rc H_o620 H_o622 E_o622 F_o622_position F_o622_node
        have t_c187_629 : ¬ ((la5).toInt < (2 : Int)) := fun q => c187_629 (Int32.lt_iff_toInt_lt.mpr q)
        refine s_iload 192 C X at_190 rfl ?_
        refine s_iload 194 C X at_192 rfl ?_
        refine s_icmp_ne 201 197 C X at_194 (fun c194_630 => ?_) (fun c194_630 => ?_)
        · have t_c194_630 : ¬ ((cb7).toInt = (y22).toInt) := fun q => c194_630 (Int32.toInt_inj.mp q)
          refine s_iconst 202 C X at_201 kc_iconst_0 ?_
          exact J633 T _ _ _ (i0) (Or.inr (Or.inr (Or.inr (Or.inr (Or.inr (Or.inr (Or.inl ⟨t_c168_624, t_c174_625, t_c181_628, t_c187_629, t_c194_630, rfl⟩))))))) C X hS Kp E_o56 F_o56_value F_o56_coder A_b60 Od E_o68 F_o68_value F_o68_coder A_o72 E_o620 F_o620_position F_o620_node Nk Rc H_o620 H_o622 E_o622 F_o622_position F_o622_node
        have t_c194_630 : (cb7).toInt = (y22).toInt := congrArg Int32.toInt c194_630
        refine s_iconst 198 C X at_197 kc_iconst_1 ?_
        refine s_goto 202 C X at_198 ?_
        exact J633 T _ _ _ (i1) (Or.inr (Or.inr (Or.inr (Or.inr (Or.inr (Or.inr (Or.inr ⟨t_c168_624, t_c174_625, t_c181_628, t_c187_629, t_c194_630, rfl⟩))))))) C X hS Kp E_o56 F_o56_value F_o56_coder A_b60 Od E_o68 F_o68_value F_o68_coder A_o72 E_o620 F_o620_position F_o620_node Nk Rc H_o620 H_o622 E_o622 F_o622_position F_o622_node
      intro T hh vm k1 y632 D633  C X hS Kp E_o56 F_o56_value F_o56_coder A_b60 Od E_o68 F_o68_value F_o68_coder A_o72 E_o620 F_o620_position F_o620_node Nk Rc H_o620 H_o622 E_o622 F_o622_position F_o622_node
      refine s_istore 204 C X (l' := #[lv a, .second, lv b, .second, iv c_, iv d_, iv mo, lv y3, .second, iv la5, iv ca6, iv cb7, iv y10, iv y14, iv y18, iv y22, rv o56, rv o68, rv o620, rv o622, iv y632, .unset, .unset]) at_202 rfl ?_
      refine s_lloadN 205 C X at_204 rfl ?_
      refine s_lload 207 C X at_205 rfl ?_
      refine s_lcmp 208 C X at_207 ?_
      suffices J638 : ∀ (T : State) (hh : Heap) (vm : Vm) (k1 : Nat) (y637 : Int32) (D638 : ((¬ ((a).toInt = (y3).toInt)) ∧ y637 = i0) ∨ (((a).toInt = (y3).toInt) ∧ ((y632).toInt = (0 : Int)) ∧ y637 = i0) ∨ (((a).toInt = (y3).toInt) ∧ (¬ ((y632).toInt = (0 : Int))) ∧ y637 = i1)) (C : Cx tables_1 a0 Z x.cls x.name code maxLocals ret p (s.setVm vm) m meth c) (X : St p l e room_1 (s.setVm vm) m #[(.long a), (.long b), (.int c_), (.int d_), (.int mo)] below meth c n0 T hh 14 28) (hS : s.Since vm k1) (Kp : Keep h0 hh []) (E_o56 : Exa Z hh o56 "java/lang/String") (F_o56_value : Fld Z hh o56 "java/lang/String" "value" "[B" (.ref b60)) (F_o56_coder : Fld Z hh o56 "java/lang/String" "coder" "B" (.int i0)) (A_b60 : Arv Z hh b60 k_b60 .byte i0 [] (.int i0)) (Od : Old Z n0 hh) (E_o68 : Exa Z hh o68 "java/lang/String") (F_o68_value : Fld Z hh o68 "java/lang/String" "value" "[B" (.ref o72)) (F_o68_coder : Fld Z hh o68 "java/lang/String" "coder" "B" (.int i0)) (A_o72 : Arv Z hh o72 k_o72 .byte i2 [(.int (bv y18)), (.int (bv y22))] (.int i0)) (E_o620 : Exa Z hh o620 "com/example/libring/libring/core/RingPoint") (F_o620_position : Fld Z hh o620 "com/example/libring/libring/core/RingPoint" "position" "J" (.long a)) (F_o620_node : Fld Z hh o620 "com/example/libring/libring/core/RingPoint" "node" "Ljava/lang/String;" (.ref o56)) (Nk : k1 ≤ hh.size) (Rc : CHr Z EL1 s.vm h0 vm hh) (H_o620 : Safe Z EL1 vm hh o620) (H_o622 : Safe Z EL1 vm hh o622) (E_o622 : Exa Z hh o622 "com/example/libring/libring/core/RingPoint") (F_o622_position : Fld Z hh o622 "com/example/libring/libring/core/RingPoint" "position" "J" (.long y3)) (F_o622_node : Fld Z hh o622 "com/example/libring/libring/core/RingPoint" "node" "Ljava/lang/String;" (.ref o68)), Run p e below n0 Q' G' m T 221 #[lv a, .second, lv b, .second, iv c_, iv d_, iv mo, lv y3, .second, iv la5, iv ca6, iv cb7, iv y10, iv y14, iv y18, iv y22, rv o56, rv o68, rv o620, rv o622, iv y632, .unset, .unset] [(.int y637)] by
        refine s_if_ne 220 211 C X at_208 (fun c208_634 => ?_) (fun c208_634 => ?_)
        · have t_c208_634 : ¬ ((a).toInt = (y3).toInt) := fun q => c208_634 (cl_eq.mpr q)
          refine s_iconst 221 C X at_220 kc_iconst_0 ?_
          exact J638 T _ _ _ (i0) ((Or.inl ⟨t_c208_634, rfl⟩)) C X hS Kp E_o56 F_o56_value F_o56_coder A_b60 Od E_o68 F_o68_value F_o68_coder A_o72 E_o620 F_o620_position F_o620_node Nk Rc H_o620 H_o622 E_o622 F_o622_position F_o622_node
        have t_c208_634 : (a).toInt = (y3).toInt := cl_eq.mp c208_634
        refine s_iload 213 C X at_211 rfl ?_
        refine s_if_eq 220 216 C X at_213 (fun c213_635 => ?_) (fun c213_635 => ?_)
        · have t_c213_635 : (y632).toInt = (0 : Int) := congrArg Int32.toInt c213_635
          refine s_iconst 221 C X at_220 kc_iconst_0 ?_
          exact J638 T _ _ _ (i0) (Or.inr (Or.inl ⟨t_c208_634, t_c213_635, rfl⟩)) C X hS Kp E_o56 F_o56_value F_o56_coder A_b60 Od E_o68 F_o68_value F_o68_coder A_o72 E_o620 F_o620_position F_o620_node Nk Rc H_o620 H_o622 E_o622 F_o622_position F_o622_node
        have t_c213_635 : ¬ ((y632).toInt = (0 : Int)) := fun q => c213_635 (Int32.toInt_inj.mp q)
        refine s_iconst 217 C X at_216 kc_iconst_1 ?_
        refine s_goto 221 C X at_217 ?_
        exact J638 T _ _ _ (i1) (Or.inr (Or.inr ⟨t_c208_634, t_c213_635, rfl⟩)) C X hS Kp E_o56 F_o56_value F_o56_coder A_b60 Od E_o68 F_o68_value F_o68_coder A_o72 E_o620 F_o620_position F_o620_node Nk Rc H_o620 H_o622 E_o622 F_o622_position F_o622_node
      intro T hh vm k1 y637 D638  C X hS Kp E_o56 F_o56_value F_o56_coder A_b60 Od E_o68 F_o68_value F_o68_coder A_o72 E_o620 F_o620_position F_o620_node Nk Rc H_o620 H_o622 E_o622 F_o622_position F_o622_node
      refine s_istore 223 C X (l' := #[lv a, .second, lv b, .second, iv c_, iv d_, iv mo, lv y3, .second, iv la5, iv ca6, iv cb7, iv y10, iv y14, iv y18, iv y22, rv o56, rv o68, rv o620, rv o622, iv y632, iv y637, .unset]) at_221 rfl ?_
      refine s_aload 225 C X at_223 rfl rfl ?_
      refine s_astore 227 C X (l' := #[lv a, .second, lv b, .second, iv c_, iv d_, iv mo, lv y3, .second, iv la5, iv ca6, iv cb7, iv y10, iv y14, iv y18, iv y22, rv o56, rv o68, rv o620, rv o622, iv y632, iv y637, rv o56]) at_225 rfl rfl ?_
      refine s_aload 229 C X at_227 rfl rfl ?_
      refine s_aload 231 C X at_229 rfl rfl ?_
      refine s_callV 234 [(.ref o622)] [] 0 C X at_231 (mW 37 rfl) (mW 38 rfl) (notFace_of_selects (args := #[]) (mvT C.2.1 (C.w (mW 40 rfl)))) (mW 40 rfl) (mW 39 rfl) (mW 28 rfl) (mW 41 rfl) E_o620 (rm_a650 l Z a0 hw a cs y3 y18 y22 o56 b60 k_b60 o68 o72 k_o72 o620 o622 _ n0 X.sz S_cs E_o56 F_o56_value F_o56_coder A_b60 Od E_o68 F_o68_value F_o68_coder A_o72 F_o620_position F_o620_node E_o622 F_o622_position F_o622_node hv_cs ne_o56_o68) (lenOf pd__Ljava_lang_Object__Z rfl) rfl rfl rfl (fun T v hh X q => ?_)
      obtain ⟨y651, rfl, D652, Od, Kc⟩ := q
      have H_o620 := Safe.keep Kc so0 Rc.1 H_o620
      have H_o622 := Safe.keep Kc so0 Rc.1 H_o622
      have Rc := Rc.trans (CHr.keep Kc so0 Rc.1)
      have Nk := Nat.le_trans Nk Kc.1
      have Kp := Kp.trans Kc all0
      have E_o56 := E_o56.keep Kc
      have F_o56_value := F_o56_value.keep Kc nin0
      have F_o56_coder := F_o56_coder.keep Kc nin0
      have A_b60 := A_b60.keep Kc nin0
      have E_o68 := E_o68.keep Kc
      have F_o68_value := F_o68_value.keep Kc nin0
      have F_o68_coder := F_o68_coder.keep Kc nin0
      have A_o72 := A_o72.keep Kc nin0
      have E_o620 := E_o620.keep Kc
      have F_o620_position := F_o620_position.keep Kc nin0
      have F_o620_node := F_o620_node.keep Kc nin0
      have E_o622 := E_o622.keep Kc
      have F_o622_position := F_o622_position.keep Kc nin0
      have F_o622_node := F_o622_node.keep Kc nin0
      refine Run.cast (st' := [(.int y651)]) rfl ?_
      refine s_iload 236 C X at_234 rfl ?_
      refine s_icmp_ne 284 239 C X at_236 (fun c236_653 => ?_) (fun c236_653 => ?_)
      · have t_c236_653 : ¬ ((y651).toInt = (y637).toInt) := fun q => c236_653 (Int32.toInt_inj.mp q)
        refine s_iconst 285 C X at_284 kc_iconst_0 ?_
        refine s_nreturn C X at_285 rfl (by simp) rfl ?_ (FGH hG hS Nk Rc C (own_EL hw) (by decide) (by decide))
        exact (own_lf12 D633 D638 D652 t_c1_24 t_c1_66 t_c17_67 t_c236_653 hv_la5 hv_y14).elim
      refine s_aload 241 C X at_239 rfl rfl ?_
      refine s_aload 243 C X at_241 rfl rfl ?_
      refine s_callV 246 [(.ref o620)] [] 0 C X at_243 (mW 37 rfl) (mW 38 rfl) (notFace_of_selects (args := #[]) (mvT C.2.1 (C.w (mW 40 rfl)))) (mW 40 rfl) (mW 39 rfl) (mW 28 rfl) (mW 41 rfl) E_o622 (rm_a665 l Z a0 hw a cs y3 y18 y22 o56 b60 k_b60 o68 o72 k_o72 o620 o622 _ n0 X.sz S_cs E_o56 F_o56_value F_o56_coder A_b60 E_o68 F_o68_value F_o68_coder A_o72 E_o620 F_o620_position F_o620_node F_o622_position F_o622_node Od hv_cs ne_o56_o68) (lenOf pd__Ljava_lang_Object__Z rfl) rfl rfl rfl (fun T v hh X q => ?_)
      obtain ⟨y666, rfl, D667, Od, Kc⟩ := q
      have H_o620 := Safe.keep Kc so0 Rc.1 H_o620
      have H_o622 := Safe.keep Kc so0 Rc.1 H_o622
      have Rc := Rc.trans (CHr.keep Kc so0 Rc.1)
      have Nk := Nat.le_trans Nk Kc.1
      have Kp := Kp.trans Kc all0
      have E_o56 := E_o56.keep Kc
      have E_o620 := E_o620.keep Kc
      have F_o620_position := F_o620_position.keep Kc nin0
      have F_o620_node := F_o620_node.keep Kc nin0
      refine Run.cast (st' := [(.int y666)]) rfl ?_
      refine s_iload 248 C X at_246 rfl ?_
      refine s_icmp_ne 284 251 C X at_248 (fun c248_668 => ?_) (fun c248_668 => ?_)
      · have t_c248_668 : ¬ ((y666).toInt = (y637).toInt) := fun q => c248_668 (Int32.toInt_inj.mp q)
        refine s_iconst 285 C X at_284 kc_iconst_0 ?_
        refine s_nreturn C X at_285 rfl (by simp) rfl ?_ (FGH hG hS Nk Rc C (own_EL hw) (by decide) (by decide))
        exact (own_lf13 D633 D638 D667 t_c1_24 t_c1_66 t_c17_67 t_c248_668 hv_la5 hv_y14).elim
      refine s_aload 253 C X at_251 rfl rfl ?_
      refine s_aload 255 C X at_253 rfl rfl ?_
      refine s_callV 258 [(.ref o620)] [] 0 C X at_255 (mW 37 rfl) (mW 38 rfl) (notFace_of_selects (args := #[]) (mvT C.2.1 (C.w (mW 40 rfl)))) (mW 40 rfl) (mW 39 rfl) (mW 28 rfl) (mW 41 rfl) E_o620 (rm_a674 l Z a0 hw a o56 o620 _ n0 X.sz E_o56 E_o620 F_o620_position F_o620_node) (lenOf pd__Ljava_lang_Object__Z rfl) rfl rfl rfl (fun T v hh X q => ?_)
      obtain ⟨rfl, Kc⟩ := q
      have H_o620 := Safe.keep Kc so0 Rc.1 H_o620
      have H_o622 := Safe.keep Kc so0 Rc.1 H_o622
      have Rc := Rc.trans (CHr.keep Kc so0 Rc.1)
      have Nk := Nat.le_trans Nk Kc.1
      have Kp := Kp.trans Kc all0
      have E_o56 := E_o56.keep Kc
      have E_o620 := E_o620.keep Kc
      have Od := Od.keep Kc all0
      refine Run.cast (st' := [(.int i1)]) rfl ?_
      refine s_if_eq 284 261 C X at_258 (fun c => absurd c (by decide)) (fun _ => ?_)
      refine s_aload 263 C X at_261 rfl rfl ?_
      refine s_aload 265 C X at_263 rfl rfl ?_
      refine s_callV 268 [(.ref o56)] [] 0 C X at_265 (mW 37 rfl) (mW 38 rfl) (notFace_of_selects (args := #[]) (mvT C.2.1 (C.w (mW 40 rfl)))) (mW 40 rfl) (mW 39 rfl) (mW 28 rfl) (mW 41 rfl) E_o620 (rm_a677 l Z a0 hw o56 o620 _ n0 X.sz E_o56) (lenOf pd__Ljava_lang_Object__Z rfl) rfl rfl rfl (fun T v hh X q => ?_)
      obtain ⟨rfl, Kc⟩ := q
      have H_o620 := Safe.keep Kc so0 Rc.1 H_o620
      have H_o622 := Safe.keep Kc so0 Rc.1 H_o622
      have Rc := Rc.trans (CHr.keep Kc so0 Rc.1)
      have Nk := Nat.le_trans Nk Kc.1
      have Kp := Kp.trans Kc all0
      have E_o620 := E_o620.keep Kc
      have Od := Od.keep Kc all0
      refine Run.cast (st' := [(.int i0)]) rfl ?_
      refine s_if_ne 284 271 C X at_268 (fun c => absurd (by decide : i0 = i0) c) (fun _ => ?_)
      refine s_aload 273 C X at_271 rfl rfl ?_
      refine s_aconstNull 274 C X at_273 ?_
      refine s_callV 277 [.null] [] 0 C X at_274 (mW 37 rfl) (mW 38 rfl) (notFace_of_selects (args := #[]) (mvT C.2.1 (C.w (mW 40 rfl)))) (mW 40 rfl) (mW 39 rfl) (mW 28 rfl) (mW 41 rfl) E_o620 (rm_a680 l Z a0 hw o620 _ n0 X.sz ) (lenOf pd__Ljava_lang_Object__Z rfl) rfl rfl rfl (fun T v hh X q => ?_)
      obtain ⟨rfl, Kc⟩ := q
      have H_o620 := Safe.keep Kc so0 Rc.1 H_o620
      have H_o622 := Safe.keep Kc so0 Rc.1 H_o622
      have Rc := Rc.trans (CHr.keep Kc so0 Rc.1)
      have Nk := Nat.le_trans Nk Kc.1
      have Kp := Kp.trans Kc all0
      have Od := Od.keep Kc all0
      refine Run.cast (st' := [(.int i0)]) rfl ?_
      refine s_if_ne 284 280 C X at_277 (fun c => absurd (by decide : i0 = i0) c) (fun _ => ?_)
      refine s_iconst 281 C X at_280 kc_iconst_1 ?_
      refine s_goto 285 C X at_281 ?_
      refine s_nreturn C X at_285 rfl (by simp) rfl ?_ (FGH hG hS Nk Rc C (own_EL hw) (by decide) (by decide))
      exact hQ _ _ rfl
    · have ne_o56_o84 : o56 ≠ o84 := Nat.ne_of_lt (Nat.lt_of_lt_of_le E_o56.lt sz_o84')
      have Rc := Rc.trans Rn
      have Kp := Kp.trans Kc all0
      have E_o56 := E_o56.keep Kc
      have F_o56_value := F_o56_value.keep Kc nin0
      have F_o56_coder := F_o56_coder.keep Kc nin0
      have A_b60 := A_b60.keep Kc nin0
      have t_c1_66 : ¬ ((y14).toInt = (0 : Int)) := fun q => c1_66 (Int32.toInt_inj.mp q)
      have t_c17_67 : (y14).toInt = (1 : Int) := congrArg Int32.toInt c17_67
      refine Run.cast (st' := [(.ref o84)]) rfl ?_
      refine s_astore 139 C X (l' := #[lv a, .second, lv b, .second, iv c_, iv d_, iv mo, lv y3, .second, iv la5, iv ca6, iv cb7, iv y10, iv y14, iv y18, iv y22, rv o56, rv o84, .unset, .unset, .unset, .unset, .unset]) at_137 rfl rfl ?_
      refine s_new 142 C X at_139 (mW 26 rfl) (mW 27 rfl) (mW 28 rfl) (fun T hh o682 hb_o682 X E E_o682 D g_o682 => ?_)
      have H_o682 : Safe Z EL1 vm _ o682 := Safe.ext E Rc.1 (Safe.new (Nat.le_of_eq hb_o682))
      have Rc := Rc.trans (CHr.ext E Rc.1)
      have Nk := Nat.le_trans Nk E.1
      have sz_o682 : h0.size ≤ o682 := Nat.le_trans Kp.1 (Nat.le_of_eq hb_o682)
      have ne_o56_o682 : o56 ≠ o682 := Nat.ne_of_lt (Nat.lt_of_lt_of_le E_o56.lt (Nat.le_of_eq hb_o682))
      have ne_b60_o682 : b60 ≠ o682 := Nat.ne_of_lt (Nat.lt_of_lt_of_le A_b60.lt (Nat.le_of_eq hb_o682))
      have ne_o84_o682 : o84 ≠ o682 := Nat.ne_of_lt (Nat.lt_of_lt_of_le E_o84.lt (Nat.le_of_eq hb_o682))
      have ne_o88_o682 : o88 ≠ o682 := Nat.ne_of_lt (Nat.lt_of_lt_of_le A_o88.lt (Nat.le_of_eq hb_o682))
      have Kp := Kp.ext E
      have E_o56 := E_o56.ext E
      have F_o56_value := F_o56_value.ext E
      have F_o56_coder := F_o56_coder.ext E
      have A_b60 := A_b60.ext E
      have Od := Od.ext E
      have E_o84 := E_o84.ext E
      have F_o84_value := F_o84_value.ext E
      have F_o84_coder := F_o84_coder.ext E
      have A_o88 := A_o88.ext E
      have F_o682_position : Fld Z _ o682 "com/example/libring/libring/core/RingPoint" "position" "J" (.long j0) := D (Or.inr (hw _ (mW 34 rfl))) (ty := .long) (by decide)
      have F_o682_node : Fld Z _ o682 "com/example/libring/libring/core/RingPoint" "node" "Ljava/lang/String;" .null := D (Or.inr (hw _ (mW 36 rfl))) (ty := (.object "java/lang/String")) (by decide)
      refine s_dup 143 C X at_142 rfl ?_
      refine s_lloadN 144 C X at_143 rfl ?_
      refine s_aload 146 C X at_144 rfl rfl ?_
      have Sw_o682 : Safe Z EL1 vm _ o682 := H_o682
      refine s_callC 149 [(.long a), (.ref o56)] [(.ref o682)] 1 C X at_146 rfl (mW 29 rfl) (mW 30 rfl) (mW 28 rfl) (mW 31 rfl) (rm_a683 l Z a0 hw a o56 o682 _ n0 X.sz E_o682 F_o682_position F_o682_node g_o682) (lenOf pd__JLjava_lang_String__V rfl) rfl rfl rfl (fun T v hh X q => ?_)
      obtain ⟨rfl, E_o682, F_o682_position, F_o682_node, Kc⟩ := q
      have Hs : ∀ x ∈ [o682], Safe Z EL1 vm _ x := (soS Sw_o682 so0)
      have H_o682 := Safe.keep Kc Hs Rc.1 H_o682
      have Rc := Rc.trans (CHr.keep Kc Hs Rc.1)
      have Nk := Nat.le_trans Nk Kc.1
      have Kp := Kp.trans Kc (allS (Or.inr sz_o682) all0)
      have E_o56 := E_o56.keep Kc
      have F_o56_value := F_o56_value.keep Kc (ninS ne_o56_o682 nin0)
      have F_o56_coder := F_o56_coder.keep Kc (ninS ne_o56_o682 nin0)
      have A_b60 := A_b60.keep Kc (ninS ne_b60_o682 nin0)
      have Od := Od.keep Kc (allS g_o682 all0)
      have E_o84 := E_o84.keep Kc
      have F_o84_value := F_o84_value.keep Kc (ninS ne_o84_o682 nin0)
      have F_o84_coder := F_o84_coder.keep Kc (ninS ne_o84_o682 nin0)
      have A_o88 := A_o88.keep Kc (ninS ne_o88_o682 nin0)
      refine Run.cast (st' := [(.ref o682)]) rfl ?_
      refine s_astore 151 C X (l' := #[lv a, .second, lv b, .second, iv c_, iv d_, iv mo, lv y3, .second, iv la5, iv ca6, iv cb7, iv y10, iv y14, iv y18, iv y22, rv o56, rv o84, rv o682, .unset, .unset, .unset, .unset]) at_149 rfl rfl ?_
      refine s_new 154 C X at_151 (mW 26 rfl) (mW 27 rfl) (mW 28 rfl) (fun T hh o684 hb_o684 X E E_o684 D g_o684 => ?_)
      have H_o682 := Safe.ext E Rc.1 H_o682
      have H_o684 : Safe Z EL1 vm _ o684 := Safe.ext E Rc.1 (Safe.new (Nat.le_of_eq hb_o684))
      have Rc := Rc.trans (CHr.ext E Rc.1)
      have Nk := Nat.le_trans Nk E.1
      have sz_o684 : h0.size ≤ o684 := Nat.le_trans Kp.1 (Nat.le_of_eq hb_o684)
      have ne_o56_o684 : o56 ≠ o684 := Nat.ne_of_lt (Nat.lt_of_lt_of_le E_o56.lt (Nat.le_of_eq hb_o684))
      have ne_b60_o684 : b60 ≠ o684 := Nat.ne_of_lt (Nat.lt_of_lt_of_le A_b60.lt (Nat.le_of_eq hb_o684))
      have ne_o84_o684 : o84 ≠ o684 := Nat.ne_of_lt (Nat.lt_of_lt_of_le E_o84.lt (Nat.le_of_eq hb_o684))
      have ne_o88_o684 : o88 ≠ o684 := Nat.ne_of_lt (Nat.lt_of_lt_of_le A_o88.lt (Nat.le_of_eq hb_o684))
      have ne_o682_o684 : o682 ≠ o684 := Nat.ne_of_lt (Nat.lt_of_lt_of_le E_o682.lt (Nat.le_of_eq hb_o684))
      have Kp := Kp.ext E
      have E_o56 := E_o56.ext E
      have F_o56_value := F_o56_value.ext E
      have F_o56_coder := F_o56_coder.ext E
      have A_b60 := A_b60.ext E
      have Od := Od.ext E
      have E_o84 := E_o84.ext E
      have F_o84_value := F_o84_value.ext E
      have F_o84_coder := F_o84_coder.ext E
      have A_o88 := A_o88.ext E
      have E_o682 := E_o682.ext E
      have F_o682_position := F_o682_position.ext E
      have F_o682_node := F_o682_node.ext E
      have F_o684_position : Fld Z _ o684 "com/example/libring/libring/core/RingPoint" "position" "J" (.long j0) := D (Or.inr (hw _ (mW 34 rfl))) (ty := .long) (by decide)
      have F_o684_node : Fld Z _ o684 "com/example/libring/libring/core/RingPoint" "node" "Ljava/lang/String;" .null := D (Or.inr (hw _ (mW 36 rfl))) (ty := (.object "java/lang/String")) (by decide)
      refine s_dup 155 C X at_154 rfl ?_
      refine s_lload 157 C X at_155 rfl ?_
      refine s_aload 159 C X at_157 rfl rfl ?_
      have Sw_o684 : Safe Z EL1 vm _ o684 := H_o684
      refine s_callC 162 [(.long y3), (.ref o84)] [(.ref o684)] 1 C X at_159 rfl (mW 29 rfl) (mW 30 rfl) (mW 28 rfl) (mW 31 rfl) (rm_a685 l Z a0 hw y3 o84 o684 _ n0 X.sz E_o684 F_o684_position F_o684_node g_o684) (lenOf pd__JLjava_lang_String__V rfl) rfl rfl rfl (fun T v hh X q => ?_)
      obtain ⟨rfl, E_o684, F_o684_position, F_o684_node, Kc⟩ := q
      have Hs : ∀ x ∈ [o684], Safe Z EL1 vm _ x := (soS Sw_o684 so0)
      have H_o682 := Safe.keep Kc Hs Rc.1 H_o682
      have H_o684 := Safe.keep Kc Hs Rc.1 H_o684
      have Rc := Rc.trans (CHr.keep Kc Hs Rc.1)
      have Nk := Nat.le_trans Nk Kc.1
      have Kp := Kp.trans Kc (allS (Or.inr sz_o684) all0)
      have E_o56 := E_o56.keep Kc
      have F_o56_value := F_o56_value.keep Kc (ninS ne_o56_o684 nin0)
      have F_o56_coder := F_o56_coder.keep Kc (ninS ne_o56_o684 nin0)
      have A_b60 := A_b60.keep Kc (ninS ne_b60_o684 nin0)
      have Od := Od.keep Kc (allS g_o684 all0)
      have E_o84 := E_o84.keep Kc
      have F_o84_value := F_o84_value.keep Kc (ninS ne_o84_o684 nin0)
      have F_o84_coder := F_o84_coder.keep Kc (ninS ne_o84_o684 nin0)
      have A_o88 := A_o88.keep Kc (ninS ne_o88_o684 nin0)
      have E_o682 := E_o682.keep Kc
      have F_o682_position := F_o682_position.keep Kc (ninS ne_o682_o684 nin0)
      have F_o682_node := F_o682_node.keep Kc (ninS ne_o682_o684 nin0)
      refine Run.cast (st' := [(.ref o684)]) rfl ?_
      refine s_astore 164 C X (l' := #[lv a, .second, lv b, .second, iv c_, iv d_, iv mo, lv y3, .second, iv la5, iv ca6, iv cb7, iv y10, iv y14, iv y18, iv y22, rv o56, rv o84, rv o682, rv o684, .unset, .unset, .unset]) at_162 rfl rfl ?_
      refine s_iload 166 C X at_164 rfl ?_
      refine s_iload 168 C X at_166 rfl ?_
      suffices J695 : ∀ (T : State) (hh : Heap) (vm : Vm) (k1 : Nat) (y694 : Int32) (D695 : ((¬ ((la5).toInt = (y14).toInt)) ∧ y694 = i0) ∨ (((la5).toInt = (y14).toInt) ∧ ((la5).toInt < (1 : Int)) ∧ ((la5).toInt < (2 : Int)) ∧ y694 = i1) ∨ (((la5).toInt = (y14).toInt) ∧ ((la5).toInt < (1 : Int)) ∧ (¬ ((la5).toInt < (2 : Int))) ∧ (¬ ((cb7).toInt = (y22).toInt)) ∧ y694 = i0) ∨ (((la5).toInt = (y14).toInt) ∧ ((la5).toInt < (1 : Int)) ∧ (¬ ((la5).toInt < (2 : Int))) ∧ ((cb7).toInt = (y22).toInt) ∧ y694 = i1) ∨ (((la5).toInt = (y14).toInt) ∧ (¬ ((la5).toInt < (1 : Int))) ∧ (¬ ((ca6).toInt = (y18).toInt)) ∧ y694 = i0) ∨ (((la5).toInt = (y14).toInt) ∧ (¬ ((la5).toInt < (1 : Int))) ∧ ((ca6).toInt = (y18).toInt) ∧ ((la5).toInt < (2 : Int)) ∧ y694 = i1) ∨ (((la5).toInt = (y14).toInt) ∧ (¬ ((la5).toInt < (1 : Int))) ∧ ((ca6).toInt = (y18).toInt) ∧ (¬ ((la5).toInt < (2 : Int))) ∧ (¬ ((cb7).toInt = (y22).toInt)) ∧ y694 = i0) ∨ (((la5).toInt = (y14).toInt) ∧ (¬ ((la5).toInt < (1 : Int))) ∧ ((ca6).toInt = (y18).toInt) ∧ (¬ ((la5).toInt < (2 : Int))) ∧ ((cb7).toInt = (y22).toInt) ∧ y694 = i1)) (C : Cx tables_1 a0 Z x.cls x.name code maxLocals ret p (s.setVm vm) m meth c) (X : St p l e room_1 (s.setVm vm) m #[(.long a), (.long b), (.int c_), (.int d_), (.int mo)] below meth c n0 T hh 14 28) (hS : s.Since vm k1) (Kp : Keep h0 hh []) (E_o56 : Exa Z hh o56 "java/lang/String") (F_o56_value : Fld Z hh o56 "java/lang/String" "value" "[B" (.ref b60)) (F_o56_coder : Fld Z hh o56 "java/lang/String" "coder" "B" (.int i0)) (A_b60 : Arv Z hh b60 k_b60 .byte i0 [] (.int i0)) (Od : Old Z n0 hh) (E_o84 : Exa Z hh o84 "java/lang/String") (F_o84_value : Fld Z hh o84 "java/lang/String" "value" "[B" (.ref o88)) (F_o84_coder : Fld Z hh o84 "java/lang/String" "coder" "B" (.int i0)) (A_o88 : Arv Z hh o88 k_o88 .byte i1 [(.int (bv y18))] (.int i0)) (E_o682 : Exa Z hh o682 "com/example/libring/libring/core/RingPoint") (F_o682_position : Fld Z hh o682 "com/example/libring/libring/core/RingPoint" "position" "J" (.long a)) (F_o682_node : Fld Z hh o682 "com/example/libring/libring/core/RingPoint" "node" "Ljava/lang/String;" (.ref o56)) (Nk : k1 ≤ hh.size) (Rc : CHr Z EL1 s.vm h0 vm hh) (H_o682 : Safe Z EL1 vm hh o682) (H_o684 : Safe Z EL1 vm hh o684) (E_o684 : Exa Z hh o684 "com/example/libring/libring/core/RingPoint") (F_o684_position : Fld Z hh o684 "com/example/libring/libring/core/RingPoint" "position" "J" (.long y3)) (F_o684_node : Fld Z hh o684 "com/example/libring/libring/core/RingPoint" "node" "Ljava/lang/String;" (.ref o84)), Run p e below n0 Q' G' m T 202 #[lv a, .second, lv b, .second, iv c_, iv d_, iv mo, lv y3, .second, iv la5, iv ca6, iv cb7, iv y10, iv y14, iv y18, iv y22, rv o56, rv o84, rv o682, rv o684, .unset, .unset, .unset] [(.int y694)] by
        refine s_icmp_ne 201 171 C X at_168 (fun c168_686 => ?_) (fun c168_686 => ?_)
        · have t_c168_686 : ¬ ((la5).toInt = (y14).toInt) := fun q => c168_686 (Int32.toInt_inj.mp q)
          refine s_iconst 202 C X at_201 kc_iconst_0 ?_
          exact J695 T _ _ _ (i0) ((Or.inl ⟨t_c168_686, rfl⟩)) C X hS Kp E_o56 F_o56_value F_o56_coder A_b60 Od E_o84 F_o84_value F_o84_coder A_o88 E_o682 F_o682_position F_o682_node Nk Rc H_o682 H_o684 E_o684 F_o684_position F_o684_node
        have t_c168_686 : (la5).toInt = (y14).toInt := congrArg Int32.toInt c168_686
        refine s_iload 173 C X at_171 rfl ?_
        refine s_iconst 174 C X at_173 kc_iconst_1 ?_
        refine s_icmp_lt 184 177 C X at_174 (fun c174_687 => ?_) (fun c174_687 => ?_)
        · have t_c174_687 : (la5).toInt < (1 : Int) := Int32.lt_iff_toInt_lt.mp c174_687
          refine s_iload 186 C X at_184 rfl ?_
          refine s_iconst 187 C X at_186 kc_iconst_2 ?_
          refine s_icmp_lt 197 190 C X at_187 (fun c187_688 => ?_) (fun c187_688 => ?_)
          · have t_c187_688 : (la5).toInt < (2 : Int) := Int32.lt_iff_toInt_lt.mp c187_688
            refine s_iconst 198 C X at_197 kc_iconst_1 ?_
            refine s_goto 202 C X at_198 ?_
            exact J695 T _ _ _ (i1) (Or.inr (Or.inl ⟨t_c168_686, t_c174_687, t_c187_688, rfl⟩)) C X hS Kp E_o56 F_o56_value F_o56_coder A_b60 Od E_o84 F_o84_value F_o84_coder A_o88 E_o682 F_o682_position F_o682_node Nk Rc H_o682 H_o684 E_o684 F_o684_position F_o684_node
          have t_c187_688 : ¬ ((la5).toInt < (2 : Int)) := fun q => c187_688 (Int32.lt_iff_toInt_lt.mpr q)
          refine s_iload 192 C X at_190 rfl ?_
          refine s_iload 194 C X at_192 rfl ?_
          refine s_icmp_ne 201 197 C X at_194 (fun c194_689 => ?_) (fun c194_689 => ?_)
          · have t_c194_689 : ¬ ((cb7).toInt = (y22).toInt) := fun q => c194_689 (Int32.toInt_inj.mp q)
            refine s_iconst 202 C X at_201 kc_iconst_0 ?_
            exact J695 T _ _ _ (i0) (Or.inr (Or.inr (Or.inl ⟨t_c168_686, t_c174_687, t_c187_688, t_c194_689, rfl⟩))) C X hS Kp E_o56 F_o56_value F_o56_coder A_b60 Od E_o84 F_o84_value F_o84_coder A_o88 E_o682 F_o682_position F_o682_node Nk Rc H_o682 H_o684 E_o684 F_o684_position F_o684_node
          have t_c194_689 : (cb7).toInt = (y22).toInt := congrArg Int32.toInt c194_689
          refine s_iconst 198 C X at_197 kc_iconst_1 ?_
          refine s_goto 202 C X at_198 ?_
          exact J695 T _ _ _ (i1) (Or.inr (Or.inr (Or.inr (Or.inl ⟨t_c168_686, t_c174_687, t_c187_688, t_c194_689, rfl⟩)))) C X hS Kp E_o56 F_o56_value F_o56_coder A_b60 Od E_o84 F_o84_value F_o84_coder A_o88 E_o682 F_o682_position F_o682_node Nk Rc H_o682 H_o684 E_o684 F_o684_position F_o684_node
        have t_c174_687 : ¬ ((la5).toInt < (1 : Int)) := fun q => c174_687 (Int32.lt_iff_toInt_lt.mpr q)
        refine s_iload 179 C X at_177 rfl ?_
        refine s_iload 181 C X at_179 rfl ?_
        refine s_icmp_ne 201 184 C X at_181 (fun c181_690 => ?_) (fun c181_690 => ?_)
        · have t_c181_690 : ¬ ((ca6).toInt = (y18).toInt) := fun q => c181_690 (Int32.toInt_inj.mp q)
          refine s_iconst 202 C X at_201 kc_iconst_0 ?_
          exact J695 T _ _ _ (i0) (Or.inr (Or.inr (Or.inr (Or.inr (Or.inl ⟨t_c168_686, t_c174_687, t_c181_690, rfl⟩))))) C X hS Kp E_o56 F_o56_value F_o56_coder A_b60 Od E_o84 F_o84_value F_o84_coder A_o88 E_o682 F_o682_position F_o682_node Nk Rc H_o682 H_o684 E_o684 F_o684_position F_o684_node
        have t_c181_690 : (ca6).toInt = (y18).toInt := congrArg Int32.toInt c181_690
        refine s_iload 186 C X at_184 rfl ?_
        refine s_iconst 187 C X at_186 kc_iconst_2 ?_
        refine s_icmp_lt 197 190 C X at_187 (fun c187_691 => ?_) (fun c187_691 => ?_)
        · have t_c187_691 : (la5).toInt < (2 : Int) := Int32.lt_iff_toInt_lt.mp c187_691
          refine s_iconst 198 C X at_197 kc_iconst_1 ?_
          refine s_goto 202 C X at_198 ?_
          exact J695 T _ _ _ (i1) (Or.inr (Or.inr (Or.inr (Or.inr (Or.inr (Or.inl ⟨t_c168_686, t_c174_687, t_c181_690, t_c187_691, rfl⟩)))))) C X hS Kp E_o56 F_o56_value F_o56_coder A_b60 Od E_o84 F_o84_value F_o84_coder A_o88 E_o682 F_o682_position F_o682_node Nk Rc H_o682 H_o684 E_o684 F_o684_position F_o684_node
        have t_c187_691 : ¬ ((la5).toInt < (2 : Int)) := fun q => c187_691 (Int32.lt_iff_toInt_lt.mpr q)
        refine s_iload 192 C X at_190 rfl ?_
        refine s_iload 194 C X at_192 rfl ?_
        refine s_icmp_ne 201 197 C X at_194 (fun c194_692 => ?_) (fun c194_692 => ?_)
        · have t_c194_692 : ¬ ((cb7).toInt = (y22).toInt) := fun q => c194_692 (Int32.toInt_inj.mp q)
          refine s_iconst 202 C X at_201 kc_iconst_0 ?_
          exact J695 T _ _ _ (i0) (Or.inr (Or.inr (Or.inr (Or.inr (Or.inr (Or.inr (Or.inl ⟨t_c168_686, t_c174_687, t_c181_690, t_c187_691, t_c194_692, rfl⟩))))))) C X hS Kp E_o56 F_o56_value F_o56_coder A_b60 Od E_o84 F_o84_value F_o84_coder A_o88 E_o682 F_o682_position F_o682_node Nk Rc H_o682 H_o684 E_o684 F_o684_position F_o684_node
        have t_c194_692 : (cb7).toInt = (y22).toInt := congrArg Int32.toInt c194_692
        refine s_iconst 198 C X at_197 kc_iconst_1 ?_
        refine s_goto 202 C X at_198 ?_
        exact J695 T _ _ _ (i1) (Or.inr (Or.inr (Or.inr (Or.inr (Or.inr (Or.inr (Or.inr ⟨t_c168_686, t_c174_687, t_c181_690, t_c187_691, t_c194_692, rfl⟩))))))) C X hS Kp E_o56 F_o56_value F_o56_coder A_b60 Od E_o84 F_o84_value F_o84_coder A_o88 E_o682 F_o682_position F_o682_node Nk Rc H_o682 H_o684 E_o684 F_o684_position F_o684_node
      intro T hh vm k1 y694 D695  C X hS Kp E_o56 F_o56_value F_o56_coder A_b60 Od E_o84 F_o84_value F_o84_coder A_o88 E_o682 F_o682_position F_o682_node Nk Rc H_o682 H_o684 E_o684 F_o684_position F_o684_node
      refine s_istore 204 C X (l' := #[lv a, .second, lv b, .second, iv c_, iv d_, iv mo, lv y3, .second, iv la5, iv ca6, iv cb7, iv y10, iv y14, iv y18, iv y22, rv o56, rv o84, rv o682, rv o684, iv y694, .unset, .unset]) at_202 rfl ?_
      refine s_lloadN 205 C X at_204 rfl ?_
      refine s_lload 207 C X at_205 rfl ?_
      refine s_lcmp 208 C X at_207 ?_
      suffices J700 : ∀ (T : State) (hh : Heap) (vm : Vm) (k1 : Nat) (y699 : Int32) (D700 : ((¬ ((a).toInt = (y3).toInt)) ∧ y699 = i0) ∨ (((a).toInt = (y3).toInt) ∧ ((y694).toInt = (0 : Int)) ∧ y699 = i0) ∨ (((a).toInt = (y3).toInt) ∧ (¬ ((y694).toInt = (0 : Int))) ∧ y699 = i1)) (C : Cx tables_1 a0 Z x.cls x.name code maxLocals ret p (s.setVm vm) m meth c) (X : St p l e room_1 (s.setVm vm) m #[(.long a), (.long b), (.int c_), (.int d_), (.int mo)] below meth c n0 T hh 14 28) (hS : s.Since vm k1) (Kp : Keep h0 hh []) (E_o56 : Exa Z hh o56 "java/lang/String") (F_o56_value : Fld Z hh o56 "java/lang/String" "value" "[B" (.ref b60)) (F_o56_coder : Fld Z hh o56 "java/lang/String" "coder" "B" (.int i0)) (A_b60 : Arv Z hh b60 k_b60 .byte i0 [] (.int i0)) (Od : Old Z n0 hh) (E_o84 : Exa Z hh o84 "java/lang/String") (F_o84_value : Fld Z hh o84 "java/lang/String" "value" "[B" (.ref o88)) (F_o84_coder : Fld Z hh o84 "java/lang/String" "coder" "B" (.int i0)) (A_o88 : Arv Z hh o88 k_o88 .byte i1 [(.int (bv y18))] (.int i0)) (E_o682 : Exa Z hh o682 "com/example/libring/libring/core/RingPoint") (F_o682_position : Fld Z hh o682 "com/example/libring/libring/core/RingPoint" "position" "J" (.long a)) (F_o682_node : Fld Z hh o682 "com/example/libring/libring/core/RingPoint" "node" "Ljava/lang/String;" (.ref o56)) (Nk : k1 ≤ hh.size) (Rc : CHr Z EL1 s.vm h0 vm hh) (H_o682 : Safe Z EL1 vm hh o682) (H_o684 : Safe Z EL1 vm hh o684) (E_o684 : Exa Z hh o684 "com/example/libring/libring/core/RingPoint") (F_o684_position : Fld Z hh o684 "com/example/libring/libring/core/RingPoint" "position" "J" (.long y3)) (F_o684_node : Fld Z hh o684 "com/example/libring/libring/core/RingPoint" "node" "Ljava/lang/String;" (.ref o84)), Run p e below n0 Q' G' m T 221 #[lv a, .second, lv b, .second, iv c_, iv d_, iv mo, lv y3, .second, iv la5, iv ca6, iv cb7, iv y10, iv y14, iv y18, iv y22, rv o56, rv o84, rv o682, rv o684, iv y694, .unset, .unset] [(.int y699)] by
        refine s_if_ne 220 211 C X at_208 (fun c208_696 => ?_) (fun c208_696 => ?_)
        · have t_c208_696 : ¬ ((a).toInt = (y3).toInt) := fun q => c208_696 (cl_eq.mpr q)
          refine s_iconst 221 C X at_220 kc_iconst_0 ?_
          exact J700 T _ _ _ (i0) ((Or.inl ⟨t_c208_696, rfl⟩)) C X hS Kp E_o56 F_o56_value F_o56_coder A_b60 Od E_o84 F_o84_value F_o84_coder A_o88 E_o682 F_o682_position F_o682_node Nk Rc H_o682 H_o684 E_o684 F_o684_position F_o684_node
        have t_c208_696 : (a).toInt = (y3).toInt := cl_eq.mp c208_696
        refine s_iload 213 C X at_211 rfl ?_
        refine s_if_eq 220 216 C X at_213 (fun c213_697 => ?_) (fun c213_697 => ?_)
        · have t_c213_697 : (y694).toInt = (0 : Int) := congrArg Int32.toInt c213_697
          refine s_iconst 221 C X at_220 kc_iconst_0 ?_
          exact J700 T _ _ _ (i0) (Or.inr (Or.inl ⟨t_c208_696, t_c213_697, rfl⟩)) C X hS Kp E_o56 F_o56_value F_o56_coder A_b60 Od E_o84 F_o84_value F_o84_coder A_o88 E_o682 F_o682_position F_o682_node Nk Rc H_o682 H_o684 E_o684 F_o684_position F_o684_node
        have t_c213_697 : ¬ ((y694).toInt = (0 : Int)) := fun q => c213_697 (Int32.toInt_inj.mp q)
        refine s_iconst 217 C X at_216 kc_iconst_1 ?_
        refine s_goto 221 C X at_217 ?_
        exact J700 T _ _ _ (i1) (Or.inr (Or.inr ⟨t_c208_696, t_c213_697, rfl⟩)) C X hS Kp E_o56 F_o56_value F_o56_coder A_b60 Od E_o84 F_o84_value F_o84_coder A_o88 E_o682 F_o682_position F_o682_node Nk Rc H_o682 H_o684 E_o684 F_o684_position F_o684_node
      intro T hh vm k1 y699 D700  C X hS Kp E_o56 F_o56_value F_o56_coder A_b60 Od E_o84 F_o84_value F_o84_coder A_o88 E_o682 F_o682_position F_o682_node Nk Rc H_o682 H_o684 E_o684 F_o684_position F_o684_node
      refine s_istore 223 C X (l' := #[lv a, .second, lv b, .second, iv c_, iv d_, iv mo, lv y3, .second, iv la5, iv ca6, iv cb7, iv y10, iv y14, iv y18, iv y22, rv o56, rv o84, rv o682, rv o684, iv y694, iv y699, .unset]) at_221 rfl ?_
      refine s_aload 225 C X at_223 rfl rfl ?_
      refine s_astore 227 C X (l' := #[lv a, .second, lv b, .second, iv c_, iv d_, iv mo, lv y3, .second, iv la5, iv ca6, iv cb7, iv y10, iv y14, iv y18, iv y22, rv o56, rv o84, rv o682, rv o684, iv y694, iv y699, rv o56]) at_225 rfl rfl ?_
      refine s_aload 229 C X at_227 rfl rfl ?_
      refine s_aload 231 C X at_229 rfl rfl ?_
      refine s_callV 234 [(.ref o684)] [] 0 C X at_231 (mW 37 rfl) (mW 38 rfl) (notFace_of_selects (args := #[]) (mvT C.2.1 (C.w (mW 40 rfl)))) (mW 40 rfl) (mW 39 rfl) (mW 28 rfl) (mW 41 rfl) E_o682 (rm_a712 l Z a0 hw a cs y3 y18 o56 b60 k_b60 o84 o88 k_o88 o682 o684 _ n0 X.sz S_cs E_o56 F_o56_value F_o56_coder A_b60 Od E_o84 F_o84_value F_o84_coder A_o88 F_o682_position F_o682_node E_o684 F_o684_position F_o684_node hv_cs ne_o56_o84) (lenOf pd__Ljava_lang_Object__Z rfl) rfl rfl rfl (fun T v hh X q => ?_)
      obtain ⟨y713, rfl, D714, Od, Kc⟩ := q
      have H_o682 := Safe.keep Kc so0 Rc.1 H_o682
      have H_o684 := Safe.keep Kc so0 Rc.1 H_o684
      have Rc := Rc.trans (CHr.keep Kc so0 Rc.1)
      have Nk := Nat.le_trans Nk Kc.1
      have Kp := Kp.trans Kc all0
      have E_o56 := E_o56.keep Kc
      have F_o56_value := F_o56_value.keep Kc nin0
      have F_o56_coder := F_o56_coder.keep Kc nin0
      have A_b60 := A_b60.keep Kc nin0
      have E_o84 := E_o84.keep Kc
      have F_o84_value := F_o84_value.keep Kc nin0
      have F_o84_coder := F_o84_coder.keep Kc nin0
      have A_o88 := A_o88.keep Kc nin0
      have E_o682 := E_o682.keep Kc
      have F_o682_position := F_o682_position.keep Kc nin0
      have F_o682_node := F_o682_node.keep Kc nin0
      have E_o684 := E_o684.keep Kc
      have F_o684_position := F_o684_position.keep Kc nin0
      have F_o684_node := F_o684_node.keep Kc nin0
      refine Run.cast (st' := [(.int y713)]) rfl ?_
      refine s_iload 236 C X at_234 rfl ?_
      refine s_icmp_ne 284 239 C X at_236 (fun c236_715 => ?_) (fun c236_715 => ?_)
      · have t_c236_715 : ¬ ((y713).toInt = (y699).toInt) := fun q => c236_715 (Int32.toInt_inj.mp q)
        refine s_iconst 285 C X at_284 kc_iconst_0 ?_
        refine s_nreturn C X at_285 rfl (by simp) rfl ?_ (FGH hG hS Nk Rc C (own_EL hw) (by decide) (by decide))
        exact (own_lf14 D695 D700 D714 t_c1_24 t_c1_66 t_c17_67 t_c236_715 hv_la5 hv_y14).elim
      refine s_aload 241 C X at_239 rfl rfl ?_
      refine s_aload 243 C X at_241 rfl rfl ?_
      refine s_callV 246 [(.ref o682)] [] 0 C X at_243 (mW 37 rfl) (mW 38 rfl) (notFace_of_selects (args := #[]) (mvT C.2.1 (C.w (mW 40 rfl)))) (mW 40 rfl) (mW 39 rfl) (mW 28 rfl) (mW 41 rfl) E_o684 (rm_a727 l Z a0 hw a cs y3 y18 o56 b60 k_b60 o84 o88 k_o88 o682 o684 _ n0 X.sz S_cs E_o56 F_o56_value F_o56_coder A_b60 E_o84 F_o84_value F_o84_coder A_o88 E_o682 F_o682_position F_o682_node F_o684_position F_o684_node Od hv_cs ne_o56_o84) (lenOf pd__Ljava_lang_Object__Z rfl) rfl rfl rfl (fun T v hh X q => ?_)
      obtain ⟨y728, rfl, D729, Od, Kc⟩ := q
      have H_o682 := Safe.keep Kc so0 Rc.1 H_o682
      have H_o684 := Safe.keep Kc so0 Rc.1 H_o684
      have Rc := Rc.trans (CHr.keep Kc so0 Rc.1)
      have Nk := Nat.le_trans Nk Kc.1
      have Kp := Kp.trans Kc all0
      have E_o56 := E_o56.keep Kc
      have E_o682 := E_o682.keep Kc
      have F_o682_position := F_o682_position.keep Kc nin0
      have F_o682_node := F_o682_node.keep Kc nin0
      refine Run.cast (st' := [(.int y728)]) rfl ?_
      refine s_iload 248 C X at_246 rfl ?_
      refine s_icmp_ne 284 251 C X at_248 (fun c248_730 => ?_) (fun c248_730 => ?_)
      · have t_c248_730 : ¬ ((y728).toInt = (y699).toInt) := fun q => c248_730 (Int32.toInt_inj.mp q)
        refine s_iconst 285 C X at_284 kc_iconst_0 ?_
        refine s_nreturn C X at_285 rfl (by simp) rfl ?_ (FGH hG hS Nk Rc C (own_EL hw) (by decide) (by decide))
        exact (own_lf15 D695 D700 D729 t_c1_24 t_c1_66 t_c17_67 t_c248_730 hv_la5 hv_y14).elim
      refine s_aload 253 C X at_251 rfl rfl ?_
      refine s_aload 255 C X at_253 rfl rfl ?_
      refine s_callV 258 [(.ref o682)] [] 0 C X at_255 (mW 37 rfl) (mW 38 rfl) (notFace_of_selects (args := #[]) (mvT C.2.1 (C.w (mW 40 rfl)))) (mW 40 rfl) (mW 39 rfl) (mW 28 rfl) (mW 41 rfl) E_o682 (rm_a736 l Z a0 hw a o56 o682 _ n0 X.sz E_o56 E_o682 F_o682_position F_o682_node) (lenOf pd__Ljava_lang_Object__Z rfl) rfl rfl rfl (fun T v hh X q => ?_)
      obtain ⟨rfl, Kc⟩ := q
      have H_o682 := Safe.keep Kc so0 Rc.1 H_o682
      have H_o684 := Safe.keep Kc so0 Rc.1 H_o684
      have Rc := Rc.trans (CHr.keep Kc so0 Rc.1)
      have Nk := Nat.le_trans Nk Kc.1
      have Kp := Kp.trans Kc all0
      have E_o56 := E_o56.keep Kc
      have E_o682 := E_o682.keep Kc
      have Od := Od.keep Kc all0
      refine Run.cast (st' := [(.int i1)]) rfl ?_
      refine s_if_eq 284 261 C X at_258 (fun c => absurd c (by decide)) (fun _ => ?_)
      refine s_aload 263 C X at_261 rfl rfl ?_
      refine s_aload 265 C X at_263 rfl rfl ?_
      refine s_callV 268 [(.ref o56)] [] 0 C X at_265 (mW 37 rfl) (mW 38 rfl) (notFace_of_selects (args := #[]) (mvT C.2.1 (C.w (mW 40 rfl)))) (mW 40 rfl) (mW 39 rfl) (mW 28 rfl) (mW 41 rfl) E_o682 (rm_a739 l Z a0 hw o56 o682 _ n0 X.sz E_o56) (lenOf pd__Ljava_lang_Object__Z rfl) rfl rfl rfl (fun T v hh X q => ?_)
      obtain ⟨rfl, Kc⟩ := q
      have H_o682 := Safe.keep Kc so0 Rc.1 H_o682
      have H_o684 := Safe.keep Kc so0 Rc.1 H_o684
      have Rc := Rc.trans (CHr.keep Kc so0 Rc.1)
      have Nk := Nat.le_trans Nk Kc.1
      have Kp := Kp.trans Kc all0
      have E_o682 := E_o682.keep Kc
      have Od := Od.keep Kc all0
      refine Run.cast (st' := [(.int i0)]) rfl ?_
      refine s_if_ne 284 271 C X at_268 (fun c => absurd (by decide : i0 = i0) c) (fun _ => ?_)
      refine s_aload 273 C X at_271 rfl rfl ?_
      refine s_aconstNull 274 C X at_273 ?_
      refine s_callV 277 [.null] [] 0 C X at_274 (mW 37 rfl) (mW 38 rfl) (notFace_of_selects (args := #[]) (mvT C.2.1 (C.w (mW 40 rfl)))) (mW 40 rfl) (mW 39 rfl) (mW 28 rfl) (mW 41 rfl) E_o682 (rm_a742 l Z a0 hw o682 _ n0 X.sz ) (lenOf pd__Ljava_lang_Object__Z rfl) rfl rfl rfl (fun T v hh X q => ?_)
      obtain ⟨rfl, Kc⟩ := q
      have H_o682 := Safe.keep Kc so0 Rc.1 H_o682
      have H_o684 := Safe.keep Kc so0 Rc.1 H_o684
      have Rc := Rc.trans (CHr.keep Kc so0 Rc.1)
      have Nk := Nat.le_trans Nk Kc.1
      have Kp := Kp.trans Kc all0
      have Od := Od.keep Kc all0
      refine Run.cast (st' := [(.int i0)]) rfl ?_
      refine s_if_ne 284 280 C X at_277 (fun c => absurd (by decide : i0 = i0) c) (fun _ => ?_)
      refine s_iconst 281 C X at_280 kc_iconst_1 ?_
      refine s_goto 285 C X at_281 ?_
      refine s_nreturn C X at_285 rfl (by simp) rfl ?_ (FGH hG hS Nk Rc C (own_EL hw) (by decide) (by decide))
      exact hQ _ _ rfl
    · have ne_o56_o98 : o56 ≠ o98 := Nat.ne_of_lt (Nat.lt_of_lt_of_le E_o56.lt sz_o98')
      have Rc := Rc.trans Rn
      have Kp := Kp.trans Kc all0
      have E_o56 := E_o56.keep Kc
      have F_o56_value := F_o56_value.keep Kc nin0
      have F_o56_coder := F_o56_coder.keep Kc nin0
      have A_b60 := A_b60.keep Kc nin0
      have t_c1_66 : (y14).toInt = (0 : Int) := congrArg Int32.toInt c1_66
      refine Run.cast (st' := [(.ref o98)]) rfl ?_
      refine s_astore 139 C X (l' := #[lv a, .second, lv b, .second, iv c_, iv d_, iv mo, lv y3, .second, iv la5, iv ca6, iv cb7, iv y10, iv y14, iv y18, iv y22, rv o56, rv o98, .unset, .unset, .unset, .unset, .unset]) at_137 rfl rfl ?_
      refine s_new 142 C X at_139 (mW 26 rfl) (mW 27 rfl) (mW 28 rfl) (fun T hh o744 hb_o744 X E E_o744 D g_o744 => ?_)
      have H_o744 : Safe Z EL1 vm _ o744 := Safe.ext E Rc.1 (Safe.new (Nat.le_of_eq hb_o744))
      have Rc := Rc.trans (CHr.ext E Rc.1)
      have Nk := Nat.le_trans Nk E.1
      have sz_o744 : h0.size ≤ o744 := Nat.le_trans Kp.1 (Nat.le_of_eq hb_o744)
      have ne_o56_o744 : o56 ≠ o744 := Nat.ne_of_lt (Nat.lt_of_lt_of_le E_o56.lt (Nat.le_of_eq hb_o744))
      have ne_b60_o744 : b60 ≠ o744 := Nat.ne_of_lt (Nat.lt_of_lt_of_le A_b60.lt (Nat.le_of_eq hb_o744))
      have ne_o98_o744 : o98 ≠ o744 := Nat.ne_of_lt (Nat.lt_of_lt_of_le E_o98.lt (Nat.le_of_eq hb_o744))
      have ne_b102_o744 : b102 ≠ o744 := Nat.ne_of_lt (Nat.lt_of_lt_of_le A_b102.lt (Nat.le_of_eq hb_o744))
      have Kp := Kp.ext E
      have E_o56 := E_o56.ext E
      have F_o56_value := F_o56_value.ext E
      have F_o56_coder := F_o56_coder.ext E
      have A_b60 := A_b60.ext E
      have Od := Od.ext E
      have E_o98 := E_o98.ext E
      have F_o98_value := F_o98_value.ext E
      have F_o98_coder := F_o98_coder.ext E
      have A_b102 := A_b102.ext E
      have F_o744_position : Fld Z _ o744 "com/example/libring/libring/core/RingPoint" "position" "J" (.long j0) := D (Or.inr (hw _ (mW 34 rfl))) (ty := .long) (by decide)
      have F_o744_node : Fld Z _ o744 "com/example/libring/libring/core/RingPoint" "node" "Ljava/lang/String;" .null := D (Or.inr (hw _ (mW 36 rfl))) (ty := (.object "java/lang/String")) (by decide)
      refine s_dup 143 C X at_142 rfl ?_
      refine s_lloadN 144 C X at_143 rfl ?_
      refine s_aload 146 C X at_144 rfl rfl ?_
      have Sw_o744 : Safe Z EL1 vm _ o744 := H_o744
      refine s_callC 149 [(.long a), (.ref o56)] [(.ref o744)] 1 C X at_146 rfl (mW 29 rfl) (mW 30 rfl) (mW 28 rfl) (mW 31 rfl) (rm_a745 l Z a0 hw a o56 o744 _ n0 X.sz E_o744 F_o744_position F_o744_node g_o744) (lenOf pd__JLjava_lang_String__V rfl) rfl rfl rfl (fun T v hh X q => ?_)
      obtain ⟨rfl, E_o744, F_o744_position, F_o744_node, Kc⟩ := q
      have Hs : ∀ x ∈ [o744], Safe Z EL1 vm _ x := (soS Sw_o744 so0)
      have H_o744 := Safe.keep Kc Hs Rc.1 H_o744
      have Rc := Rc.trans (CHr.keep Kc Hs Rc.1)
      have Nk := Nat.le_trans Nk Kc.1
      have Kp := Kp.trans Kc (allS (Or.inr sz_o744) all0)
      have E_o56 := E_o56.keep Kc
      have F_o56_value := F_o56_value.keep Kc (ninS ne_o56_o744 nin0)
      have F_o56_coder := F_o56_coder.keep Kc (ninS ne_o56_o744 nin0)
      have A_b60 := A_b60.keep Kc (ninS ne_b60_o744 nin0)
      have Od := Od.keep Kc (allS g_o744 all0)
      have E_o98 := E_o98.keep Kc
      have F_o98_value := F_o98_value.keep Kc (ninS ne_o98_o744 nin0)
      have F_o98_coder := F_o98_coder.keep Kc (ninS ne_o98_o744 nin0)
      have A_b102 := A_b102.keep Kc (ninS ne_b102_o744 nin0)
      refine Run.cast (st' := [(.ref o744)]) rfl ?_
      refine s_astore 151 C X (l' := #[lv a, .second, lv b, .second, iv c_, iv d_, iv mo, lv y3, .second, iv la5, iv ca6, iv cb7, iv y10, iv y14, iv y18, iv y22, rv o56, rv o98, rv o744, .unset, .unset, .unset, .unset]) at_149 rfl rfl ?_
      refine s_new 154 C X at_151 (mW 26 rfl) (mW 27 rfl) (mW 28 rfl) (fun T hh o746 hb_o746 X E E_o746 D g_o746 => ?_)
      have H_o744 := Safe.ext E Rc.1 H_o744
      have H_o746 : Safe Z EL1 vm _ o746 := Safe.ext E Rc.1 (Safe.new (Nat.le_of_eq hb_o746))
      have Rc := Rc.trans (CHr.ext E Rc.1)
      have Nk := Nat.le_trans Nk E.1
      have sz_o746 : h0.size ≤ o746 := Nat.le_trans Kp.1 (Nat.le_of_eq hb_o746)
      have ne_o56_o746 : o56 ≠ o746 := Nat.ne_of_lt (Nat.lt_of_lt_of_le E_o56.lt (Nat.le_of_eq hb_o746))
      have ne_b60_o746 : b60 ≠ o746 := Nat.ne_of_lt (Nat.lt_of_lt_of_le A_b60.lt (Nat.le_of_eq hb_o746))
      have ne_o98_o746 : o98 ≠ o746 := Nat.ne_of_lt (Nat.lt_of_lt_of_le E_o98.lt (Nat.le_of_eq hb_o746))
      have ne_b102_o746 : b102 ≠ o746 := Nat.ne_of_lt (Nat.lt_of_lt_of_le A_b102.lt (Nat.le_of_eq hb_o746))
      have ne_o744_o746 : o744 ≠ o746 := Nat.ne_of_lt (Nat.lt_of_lt_of_le E_o744.lt (Nat.le_of_eq hb_o746))
      have Kp := Kp.ext E
      have E_o56 := E_o56.ext E
      have F_o56_value := F_o56_value.ext E
      have F_o56_coder := F_o56_coder.ext E
      have A_b60 := A_b60.ext E
      have Od := Od.ext E
      have E_o98 := E_o98.ext E
      have F_o98_value := F_o98_value.ext E
      have F_o98_coder := F_o98_coder.ext E
      have A_b102 := A_b102.ext E
      have E_o744 := E_o744.ext E
      have F_o744_position := F_o744_position.ext E
      have F_o744_node := F_o744_node.ext E
      have F_o746_position : Fld Z _ o746 "com/example/libring/libring/core/RingPoint" "position" "J" (.long j0) := D (Or.inr (hw _ (mW 34 rfl))) (ty := .long) (by decide)
      have F_o746_node : Fld Z _ o746 "com/example/libring/libring/core/RingPoint" "node" "Ljava/lang/String;" .null := D (Or.inr (hw _ (mW 36 rfl))) (ty := (.object "java/lang/String")) (by decide)
      refine s_dup 155 C X at_154 rfl ?_
      refine s_lload 157 C X at_155 rfl ?_
      refine s_aload 159 C X at_157 rfl rfl ?_
      have Sw_o746 : Safe Z EL1 vm _ o746 := H_o746
      refine s_callC 162 [(.long y3), (.ref o98)] [(.ref o746)] 1 C X at_159 rfl (mW 29 rfl) (mW 30 rfl) (mW 28 rfl) (mW 31 rfl) (rm_a747 l Z a0 hw y3 o98 o746 _ n0 X.sz E_o746 F_o746_position F_o746_node g_o746) (lenOf pd__JLjava_lang_String__V rfl) rfl rfl rfl (fun T v hh X q => ?_)
      obtain ⟨rfl, E_o746, F_o746_position, F_o746_node, Kc⟩ := q
      have Hs : ∀ x ∈ [o746], Safe Z EL1 vm _ x := (soS Sw_o746 so0)
      have H_o744 := Safe.keep Kc Hs Rc.1 H_o744
      have H_o746 := Safe.keep Kc Hs Rc.1 H_o746
      have Rc := Rc.trans (CHr.keep Kc Hs Rc.1)
      have Nk := Nat.le_trans Nk Kc.1
      have Kp := Kp.trans Kc (allS (Or.inr sz_o746) all0)
      have E_o56 := E_o56.keep Kc
      have F_o56_value := F_o56_value.keep Kc (ninS ne_o56_o746 nin0)
      have F_o56_coder := F_o56_coder.keep Kc (ninS ne_o56_o746 nin0)
      have A_b60 := A_b60.keep Kc (ninS ne_b60_o746 nin0)
      have Od := Od.keep Kc (allS g_o746 all0)
      have E_o98 := E_o98.keep Kc
      have F_o98_value := F_o98_value.keep Kc (ninS ne_o98_o746 nin0)
      have F_o98_coder := F_o98_coder.keep Kc (ninS ne_o98_o746 nin0)
      have A_b102 := A_b102.keep Kc (ninS ne_b102_o746 nin0)
      have E_o744 := E_o744.keep Kc
      have F_o744_position := F_o744_position.keep Kc (ninS ne_o744_o746 nin0)
      have F_o744_node := F_o744_node.keep Kc (ninS ne_o744_o746 nin0)
      refine Run.cast (st' := [(.ref o746)]) rfl ?_
      refine s_astore 164 C X (l' := #[lv a, .second, lv b, .second, iv c_, iv d_, iv mo, lv y3, .second, iv la5, iv ca6, iv cb7, iv y10, iv y14, iv y18, iv y22, rv o56, rv o98, rv o744, rv o746, .unset, .unset, .unset]) at_162 rfl rfl ?_
      refine s_iload 166 C X at_164 rfl ?_
      refine s_iload 168 C X at_166 rfl ?_
      suffices J757 : ∀ (T : State) (hh : Heap) (vm : Vm) (k1 : Nat) (y756 : Int32) (D757 : ((¬ ((la5).toInt = (y14).toInt)) ∧ y756 = i0) ∨ (((la5).toInt = (y14).toInt) ∧ ((la5).toInt < (1 : Int)) ∧ ((la5).toInt < (2 : Int)) ∧ y756 = i1) ∨ (((la5).toInt = (y14).toInt) ∧ ((la5).toInt < (1 : Int)) ∧ (¬ ((la5).toInt < (2 : Int))) ∧ (¬ ((cb7).toInt = (y22).toInt)) ∧ y756 = i0) ∨ (((la5).toInt = (y14).toInt) ∧ ((la5).toInt < (1 : Int)) ∧ (¬ ((la5).toInt < (2 : Int))) ∧ ((cb7).toInt = (y22).toInt) ∧ y756 = i1) ∨ (((la5).toInt = (y14).toInt) ∧ (¬ ((la5).toInt < (1 : Int))) ∧ (¬ ((ca6).toInt = (y18).toInt)) ∧ y756 = i0) ∨ (((la5).toInt = (y14).toInt) ∧ (¬ ((la5).toInt < (1 : Int))) ∧ ((ca6).toInt = (y18).toInt) ∧ ((la5).toInt < (2 : Int)) ∧ y756 = i1) ∨ (((la5).toInt = (y14).toInt) ∧ (¬ ((la5).toInt < (1 : Int))) ∧ ((ca6).toInt = (y18).toInt) ∧ (¬ ((la5).toInt < (2 : Int))) ∧ (¬ ((cb7).toInt = (y22).toInt)) ∧ y756 = i0) ∨ (((la5).toInt = (y14).toInt) ∧ (¬ ((la5).toInt < (1 : Int))) ∧ ((ca6).toInt = (y18).toInt) ∧ (¬ ((la5).toInt < (2 : Int))) ∧ ((cb7).toInt = (y22).toInt) ∧ y756 = i1)) (C : Cx tables_1 a0 Z x.cls x.name code maxLocals ret p (s.setVm vm) m meth c) (X : St p l e room_1 (s.setVm vm) m #[(.long a), (.long b), (.int c_), (.int d_), (.int mo)] below meth c n0 T hh 14 28) (hS : s.Since vm k1) (Kp : Keep h0 hh []) (E_o56 : Exa Z hh o56 "java/lang/String") (F_o56_value : Fld Z hh o56 "java/lang/String" "value" "[B" (.ref b60)) (F_o56_coder : Fld Z hh o56 "java/lang/String" "coder" "B" (.int i0)) (A_b60 : Arv Z hh b60 k_b60 .byte i0 [] (.int i0)) (Od : Old Z n0 hh) (E_o98 : Exa Z hh o98 "java/lang/String") (F_o98_value : Fld Z hh o98 "java/lang/String" "value" "[B" (.ref b102)) (F_o98_coder : Fld Z hh o98 "java/lang/String" "coder" "B" (.int i0)) (A_b102 : Arv Z hh b102 k_b102 .byte i0 [] (.int i0)) (E_o744 : Exa Z hh o744 "com/example/libring/libring/core/RingPoint") (F_o744_position : Fld Z hh o744 "com/example/libring/libring/core/RingPoint" "position" "J" (.long a)) (F_o744_node : Fld Z hh o744 "com/example/libring/libring/core/RingPoint" "node" "Ljava/lang/String;" (.ref o56)) (Nk : k1 ≤ hh.size) (Rc : CHr Z EL1 s.vm h0 vm hh) (H_o744 : Safe Z EL1 vm hh o744) (H_o746 : Safe Z EL1 vm hh o746) (E_o746 : Exa Z hh o746 "com/example/libring/libring/core/RingPoint") (F_o746_position : Fld Z hh o746 "com/example/libring/libring/core/RingPoint" "position" "J" (.long y3)) (F_o746_node : Fld Z hh o746 "com/example/libring/libring/core/RingPoint" "node" "Ljava/lang/String;" (.ref o98)), Run p e below n0 Q' G' m T 202 #[lv a, .second, lv b, .second, iv c_, iv d_, iv mo, lv y3, .second, iv la5, iv ca6, iv cb7, iv y10, iv y14, iv y18, iv y22, rv o56, rv o98, rv o744, rv o746, .unset, .unset, .unset] [(.int y756)] by
        refine s_icmp_ne 201 171 C X at_168 (fun c168_748 => ?_) (fun c168_748 => ?_)
        · have t_c168_748 : ¬ ((la5).toInt = (y14).toInt) := fun q => c168_748 (Int32.toInt_inj.mp q)
          refine s_iconst 202 C X at_201 kc_iconst_0 ?_
          exact J757 T _ _ _ (i0) ((Or.inl ⟨t_c168_748, rfl⟩)) C X hS Kp E_o56 F_o56_value F_o56_coder A_b60 Od E_o98 F_o98_value F_o98_coder A_b102 E_o744 F_o744_position F_o744_node Nk Rc H_o744 H_o746 E_o746 F_o746_position F_o746_node
        have t_c168_748 : (la5).toInt = (y14).toInt := congrArg Int32.toInt c168_748
        refine s_iload 173 C X at_171 rfl ?_
        refine s_iconst 174 C X at_173 kc_iconst_1 ?_
        refine s_icmp_lt 184 177 C X at_174 (fun c174_749 => ?_) (fun c174_749 => ?_)
        · have t_c174_749 : (la5).toInt < (1 : Int) := Int32.lt_iff_toInt_lt.mp c174_749
          refine s_iload 186 C X at_184 rfl ?_
          refine s_iconst 187 C X at_186 kc_iconst_2 ?_
          refine s_icmp_lt 197 190 C X at_187 (fun c187_750 => ?_) (fun c187_750 => ?_)
          · have t_c187_750 : (la5).toInt < (2 : Int) := Int32.lt_iff_toInt_lt.mp c187_750
            refine s_iconst 198 C X at_197 kc_iconst_1 ?_
            refine s_goto 202 C X at_198 ?_
            exact J757 T _ _ _ (i1) (Or.inr (Or.inl ⟨t_c168_748, t_c174_749, t_c187_750, rfl⟩)) C X hS Kp E_o56 F_o56_value F_o56_coder A_b60 Od E_o98 F_o98_value F_o98_coder A_b102 E_o744 F_o744_position F_o744_node Nk Rc H_o744 H_o746 E_o746 F_o746_position F_o746_node
          have t_c187_750 : ¬ ((la5).toInt < (2 : Int)) := fun q => c187_750 (Int32.lt_iff_toInt_lt.mpr q)
          refine s_iload 192 C X at_190 rfl ?_
          refine s_iload 194 C X at_192 rfl ?_
          refine s_icmp_ne 201 197 C X at_194 (fun c194_751 => ?_) (fun c194_751 => ?_)
          · have t_c194_751 : ¬ ((cb7).toInt = (y22).toInt) := fun q => c194_751 (Int32.toInt_inj.mp q)
            refine s_iconst 202 C X at_201 kc_iconst_0 ?_
            exact J757 T _ _ _ (i0) (Or.inr (Or.inr (Or.inl ⟨t_c168_748, t_c174_749, t_c187_750, t_c194_751, rfl⟩))) C X hS Kp E_o56 F_o56_value F_o56_coder A_b60 Od E_o98 F_o98_value F_o98_coder A_b102 E_o744 F_o744_position F_o744_node Nk Rc H_o744 H_o746 E_o746 F_o746_position F_o746_node
          have t_c194_751 : (cb7).toInt = (y22).toInt := congrArg Int32.toInt c194_751
          refine s_iconst 198 C X at_197 kc_iconst_1 ?_
          refine s_goto 202 C X at_198 ?_
          exact J757 T _ _ _ (i1) (Or.inr (Or.inr (Or.inr (Or.inl ⟨t_c168_748, t_c174_749, t_c187_750, t_c194_751, rfl⟩)))) C X hS Kp E_o56 F_o56_value F_o56_coder A_b60 Od E_o98 F_o98_value F_o98_coder A_b102 E_o744 F_o744_position F_o744_node Nk Rc H_o744 H_o746 E_o746 F_o746_position F_o746_node
        have t_c174_749 : ¬ ((la5).toInt < (1 : Int)) := fun q => c174_749 (Int32.lt_iff_toInt_lt.mpr q)
        refine s_iload 179 C X at_177 rfl ?_
        refine s_iload 181 C X at_179 rfl ?_
        refine s_icmp_ne 201 184 C X at_181 (fun c181_752 => ?_) (fun c181_752 => ?_)
        · have t_c181_752 : ¬ ((ca6).toInt = (y18).toInt) := fun q => c181_752 (Int32.toInt_inj.mp q)
          refine s_iconst 202 C X at_201 kc_iconst_0 ?_
          exact J757 T _ _ _ (i0) (Or.inr (Or.inr (Or.inr (Or.inr (Or.inl ⟨t_c168_748, t_c174_749, t_c181_752, rfl⟩))))) C X hS Kp E_o56 F_o56_value F_o56_coder A_b60 Od E_o98 F_o98_value F_o98_coder A_b102 E_o744 F_o744_position F_o744_node Nk Rc H_o744 H_o746 E_o746 F_o746_position F_o746_node
        have t_c181_752 : (ca6).toInt = (y18).toInt := congrArg Int32.toInt c181_752
        refine s_iload 186 C X at_184 rfl ?_
        refine s_iconst 187 C X at_186 kc_iconst_2 ?_
        refine s_icmp_lt 197 190 C X at_187 (fun c187_753 => ?_) (fun c187_753 => ?_)
        · have t_c187_753 : (la5).toInt < (2 : Int) := Int32.lt_iff_toInt_lt.mp c187_753
          refine s_iconst 198 C X at_197 kc_iconst_1 ?_
          refine s_goto 202 C X at_198 ?_
          exact J757 T _ _ _ (i1) (Or.inr (Or.inr (Or.inr (Or.inr (Or.inr (Or.inl ⟨t_c168_748, t_c174_749, t_c181_752, t_c187_753, rfl⟩)))))) C X hS Kp E_o56 F_o56_value F_o56_coder A_b60 Od E_o98 F_o98_value F_o98_coder A_b102 E_o744 F_o744_position F_o744_node Nk Rc H_o744 H_o746 E_o746 F_o746_position F_o746_node
        have t_c187_753 : ¬ ((la5).toInt < (2 : Int)) := fun q => c187_753 (Int32.lt_iff_toInt_lt.mpr q)
        refine s_iload 192 C X at_190 rfl ?_
        refine s_iload 194 C X at_192 rfl ?_
        refine s_icmp_ne 201 197 C X at_194 (fun c194_754 => ?_) (fun c194_754 => ?_)
        · have t_c194_754 : ¬ ((cb7).toInt = (y22).toInt) := fun q => c194_754 (Int32.toInt_inj.mp q)
          refine s_iconst 202 C X at_201 kc_iconst_0 ?_
          exact J757 T _ _ _ (i0) (Or.inr (Or.inr (Or.inr (Or.inr (Or.inr (Or.inr (Or.inl ⟨t_c168_748, t_c174_749, t_c181_752, t_c187_753, t_c194_754, rfl⟩))))))) C X hS Kp E_o56 F_o56_value F_o56_coder A_b60 Od E_o98 F_o98_value F_o98_coder A_b102 E_o744 F_o744_position F_o744_node Nk Rc H_o744 H_o746 E_o746 F_o746_position F_o746_node
        have t_c194_754 : (cb7).toInt = (y22).toInt := congrArg Int32.toInt c194_754
        refine s_iconst 198 C X at_197 kc_iconst_1 ?_
        refine s_goto 202 C X at_198 ?_
        exact J757 T _ _ _ (i1) (Or.inr (Or.inr (Or.inr (Or.inr (Or.inr (Or.inr (Or.inr ⟨t_c168_748, t_c174_749, t_c181_752, t_c187_753, t_c194_754, rfl⟩))))))) C X hS Kp E_o56 F_o56_value F_o56_coder A_b60 Od E_o98 F_o98_value F_o98_coder A_b102 E_o744 F_o744_position F_o744_node Nk Rc H_o744 H_o746 E_o746 F_o746_position F_o746_node
      intro T hh vm k1 y756 D757  C X hS Kp E_o56 F_o56_value F_o56_coder A_b60 Od E_o98 F_o98_value F_o98_coder A_b102 E_o744 F_o744_position F_o744_node Nk Rc H_o744 H_o746 E_o746 F_o746_position F_o746_node
      refine s_istore 204 C X (l' := #[lv a, .second, lv b, .second, iv c_, iv d_, iv mo, lv y3, .second, iv la5, iv ca6, iv cb7, iv y10, iv y14, iv y18, iv y22, rv o56, rv o98, rv o744, rv o746, iv y756, .unset, .unset]) at_202 rfl ?_
      refine s_lloadN 205 C X at_204 rfl ?_
      refine s_lload 207 C X at_205 rfl ?_
      refine s_lcmp 208 C X at_207 ?_
      suffices J762 : ∀ (T : State) (hh : Heap) (vm : Vm) (k1 : Nat) (y761 : Int32) (D762 : ((¬ ((a).toInt = (y3).toInt)) ∧ y761 = i0) ∨ (((a).toInt = (y3).toInt) ∧ ((y756).toInt = (0 : Int)) ∧ y761 = i0) ∨ (((a).toInt = (y3).toInt) ∧ (¬ ((y756).toInt = (0 : Int))) ∧ y761 = i1)) (C : Cx tables_1 a0 Z x.cls x.name code maxLocals ret p (s.setVm vm) m meth c) (X : St p l e room_1 (s.setVm vm) m #[(.long a), (.long b), (.int c_), (.int d_), (.int mo)] below meth c n0 T hh 14 28) (hS : s.Since vm k1) (Kp : Keep h0 hh []) (E_o56 : Exa Z hh o56 "java/lang/String") (F_o56_value : Fld Z hh o56 "java/lang/String" "value" "[B" (.ref b60)) (F_o56_coder : Fld Z hh o56 "java/lang/String" "coder" "B" (.int i0)) (A_b60 : Arv Z hh b60 k_b60 .byte i0 [] (.int i0)) (Od : Old Z n0 hh) (E_o98 : Exa Z hh o98 "java/lang/String") (F_o98_value : Fld Z hh o98 "java/lang/String" "value" "[B" (.ref b102)) (F_o98_coder : Fld Z hh o98 "java/lang/String" "coder" "B" (.int i0)) (A_b102 : Arv Z hh b102 k_b102 .byte i0 [] (.int i0)) (E_o744 : Exa Z hh o744 "com/example/libring/libring/core/RingPoint") (F_o744_position : Fld Z hh o744 "com/example/libring/libring/core/RingPoint" "position" "J" (.long a)) (F_o744_node : Fld Z hh o744 "com/example/libring/libring/core/RingPoint" "node" "Ljava/lang/String;" (.ref o56)) (Nk : k1 ≤ hh.size) (Rc : CHr Z EL1 s.vm h0 vm hh) (H_o744 : Safe Z EL1 vm hh o744) (H_o746 : Safe Z EL1 vm hh o746) (E_o746 : Exa Z hh o746 "com/example/libring/libring/core/RingPoint") (F_o746_position : Fld Z hh o746 "com/example/libring/libring/core/RingPoint" "position" "J" (.long y3)) (F_o746_node : Fld Z hh o746 "com/example/libring/libring/core/RingPoint" "node" "Ljava/lang/String;" (.ref o98)), Run p e below n0 Q' G' m T 221 #[lv a, .second, lv b, .second, iv c_, iv d_, iv mo, lv y3, .second, iv la5, iv ca6, iv cb7, iv y10, iv y14, iv y18, iv y22, rv o56, rv o98, rv o744, rv o746, iv y756, .unset, .unset] [(.int y761)] by
        refine s_if_ne 220 211 C X at_208 (fun c208_758 => ?_) (fun c208_758 => ?_)
        · have t_c208_758 : ¬ ((a).toInt = (y3).toInt) := fun q => c208_758 (cl_eq.mpr q)
          refine s_iconst 221 C X at_220 kc_iconst_0 ?_
          exact J762 T _ _ _ (i0) ((Or.inl ⟨t_c208_758, rfl⟩)) C X hS Kp E_o56 F_o56_value F_o56_coder A_b60 Od E_o98 F_o98_value F_o98_coder A_b102 E_o744 F_o744_position F_o744_node Nk Rc H_o744 H_o746 E_o746 F_o746_position F_o746_node
        have t_c208_758 : (a).toInt = (y3).toInt := cl_eq.mp c208_758
        refine s_iload 213 C X at_211 rfl ?_
        refine s_if_eq 220 216 C X at_213 (fun c213_759 => ?_) (fun c213_759 => ?_)
        · have t_c213_759 : (y756).toInt = (0 : Int) := congrArg Int32.toInt c213_759
          refine s_iconst 221 C X at_220 kc_iconst_0 ?_
          exact J762 T _ _ _ (i0) (Or.inr (Or.inl ⟨t_c208_758, t_c213_759, rfl⟩)) C X hS Kp E_o56 F_o56_value F_o56_coder A_b60 Od E_o98 F_o98_value F_o98_coder A_b102 E_o744 F_o744_position F_o744_node Nk Rc H_o744 H_o746 E_o746 F_o746_position F_o746_node
        have t_c213_759 : ¬ ((y756).toInt = (0 : Int)) := fun q => c213_759 (Int32.toInt_inj.mp q)
        refine s_iconst 217 C X at_216 kc_iconst_1 ?_
        refine s_goto 221 C X at_217 ?_
        exact J762 T _ _ _ (i1) (Or.inr (Or.inr ⟨t_c208_758, t_c213_759, rfl⟩)) C X hS Kp E_o56 F_o56_value F_o56_coder A_b60 Od E_o98 F_o98_value F_o98_coder A_b102 E_o744 F_o744_position F_o744_node Nk Rc H_o744 H_o746 E_o746 F_o746_position F_o746_node
      intro T hh vm k1 y761 D762  C X hS Kp E_o56 F_o56_value F_o56_coder A_b60 Od E_o98 F_o98_value F_o98_coder A_b102 E_o744 F_o744_position F_o744_node Nk Rc H_o744 H_o746 E_o746 F_o746_position F_o746_node
      refine s_istore 223 C X (l' := #[lv a, .second, lv b, .second, iv c_, iv d_, iv mo, lv y3, .second, iv la5, iv ca6, iv cb7, iv y10, iv y14, iv y18, iv y22, rv o56, rv o98, rv o744, rv o746, iv y756, iv y761, .unset]) at_221 rfl ?_
      refine s_aload 225 C X at_223 rfl rfl ?_
      refine s_astore 227 C X (l' := #[lv a, .second, lv b, .second, iv c_, iv d_, iv mo, lv y3, .second, iv la5, iv ca6, iv cb7, iv y10, iv y14, iv y18, iv y22, rv o56, rv o98, rv o744, rv o746, iv y756, iv y761, rv o56]) at_225 rfl rfl ?_
      refine s_aload 229 C X at_227 rfl rfl ?_
      refine s_aload 231 C X at_229 rfl rfl ?_
      refine s_callV 234 [(.ref o746)] [] 0 C X at_231 (mW 37 rfl) (mW 38 rfl) (notFace_of_selects (args := #[]) (mvT C.2.1 (C.w (mW 40 rfl)))) (mW 40 rfl) (mW 39 rfl) (mW 28 rfl) (mW 41 rfl) E_o744 (rm_a775 l Z a0 hw a cs y3 o56 b60 k_b60 o98 b102 k_b102 o744 o746 _ n0 X.sz S_cs E_o56 F_o56_value F_o56_coder A_b60 Od E_o98 F_o98_value F_o98_coder A_b102 F_o744_position F_o744_node E_o746 F_o746_position F_o746_node hv_cs ne_o56_o98) (lenOf pd__Ljava_lang_Object__Z rfl) rfl rfl rfl (fun T v hh X q => ?_)
      obtain ⟨y776, rfl, D777, Od, Kc⟩ := q
      have H_o744 := Safe.keep Kc so0 Rc.1 H_o744
      have H_o746 := Safe.keep Kc so0 Rc.1 H_o746
      have Rc := Rc.trans (CHr.keep Kc so0 Rc.1)
      have Nk := Nat.le_trans Nk Kc.1
      have Kp := Kp.trans Kc all0
      have E_o56 := E_o56.keep Kc
      have F_o56_value := F_o56_value.keep Kc nin0
      have F_o56_coder := F_o56_coder.keep Kc nin0
      have A_b60 := A_b60.keep Kc nin0
      have E_o98 := E_o98.keep Kc
      have F_o98_value := F_o98_value.keep Kc nin0
      have F_o98_coder := F_o98_coder.keep Kc nin0
      have A_b102 := A_b102.keep Kc nin0
      have E_o744 := E_o744.keep Kc
      have F_o744_position := F_o744_position.keep Kc nin0
      have F_o744_node := F_o744_node.keep Kc nin0
      have E_o746 := E_o746.keep Kc
      have F_o746_position := F_o746_position.keep Kc nin0
      have F_o746_node := F_o746_node.keep Kc nin0
      refine Run.cast (st' := [(.int y776)]) rfl ?_
      refine s_iload 236 C X at_234 rfl ?_
      refine s_icmp_ne 284 239 C X at_236 (fun c236_778 => ?_) (fun c236_778 => ?_)
      · have t_c236_778 : ¬ ((y776).toInt = (y761).toInt) := fun q => c236_778 (Int32.toInt_inj.mp q)
        refine s_iconst 285 C X at_284 kc_iconst_0 ?_
        refine s_nreturn C X at_285 rfl (by simp) rfl ?_ (FGH hG hS Nk Rc C (own_EL hw) (by decide) (by decide))
        exact (own_lf16 D757 D762 D777 t_c1_24 t_c1_66 t_c236_778 hv_la5 hv_y14).elim
      refine s_aload 241 C X at_239 rfl rfl ?_
      refine s_aload 243 C X at_241 rfl rfl ?_
      refine s_callV 246 [(.ref o744)] [] 0 C X at_243 (mW 37 rfl) (mW 38 rfl) (notFace_of_selects (args := #[]) (mvT C.2.1 (C.w (mW 40 rfl)))) (mW 40 rfl) (mW 39 rfl) (mW 28 rfl) (mW 41 rfl) E_o746 (rm_a791 l Z a0 hw a cs y3 o56 b60 k_b60 o98 b102 k_b102 o744 o746 _ n0 X.sz S_cs E_o56 F_o56_value F_o56_coder A_b60 E_o98 F_o98_value F_o98_coder A_b102 E_o744 F_o744_position F_o744_node F_o746_position F_o746_node Od hv_cs ne_o56_o98) (lenOf pd__Ljava_lang_Object__Z rfl) rfl rfl rfl (fun T v hh X q => ?_)
      obtain ⟨y792, rfl, D793, Od, Kc⟩ := q
      have H_o744 := Safe.keep Kc so0 Rc.1 H_o744
      have H_o746 := Safe.keep Kc so0 Rc.1 H_o746
      have Rc := Rc.trans (CHr.keep Kc so0 Rc.1)
      have Nk := Nat.le_trans Nk Kc.1
      have Kp := Kp.trans Kc all0
      have E_o56 := E_o56.keep Kc
      have E_o744 := E_o744.keep Kc
      have F_o744_position := F_o744_position.keep Kc nin0
      have F_o744_node := F_o744_node.keep Kc nin0
      refine Run.cast (st' := [(.int y792)]) rfl ?_
      refine s_iload 248 C X at_246 rfl ?_
      refine s_icmp_ne 284 251 C X at_248 (fun c248_794 => ?_) (fun c248_794 => ?_)
      · have t_c248_794 : ¬ ((y792).toInt = (y761).toInt) := fun q => c248_794 (Int32.toInt_inj.mp q)
        refine s_iconst 285 C X at_284 kc_iconst_0 ?_
        refine s_nreturn C X at_285 rfl (by simp) rfl ?_ (FGH hG hS Nk Rc C (own_EL hw) (by decide) (by decide))
        exact (own_lf17 D757 D762 D793 t_c1_24 t_c1_66 t_c248_794 hv_la5 hv_y14).elim
      refine s_aload 253 C X at_251 rfl rfl ?_
      refine s_aload 255 C X at_253 rfl rfl ?_
      refine s_callV 258 [(.ref o744)] [] 0 C X at_255 (mW 37 rfl) (mW 38 rfl) (notFace_of_selects (args := #[]) (mvT C.2.1 (C.w (mW 40 rfl)))) (mW 40 rfl) (mW 39 rfl) (mW 28 rfl) (mW 41 rfl) E_o744 (rm_a800 l Z a0 hw a o56 o744 _ n0 X.sz E_o56 E_o744 F_o744_position F_o744_node) (lenOf pd__Ljava_lang_Object__Z rfl) rfl rfl rfl (fun T v hh X q => ?_)
      obtain ⟨rfl, Kc⟩ := q
      have H_o744 := Safe.keep Kc so0 Rc.1 H_o744
      have H_o746 := Safe.keep Kc so0 Rc.1 H_o746
      have Rc := Rc.trans (CHr.keep Kc so0 Rc.1)
      have Nk := Nat.le_trans Nk Kc.1
      have Kp := Kp.trans Kc all0
      have E_o56 := E_o56.keep Kc
      have E_o744 := E_o744.keep Kc
      have Od := Od.keep Kc all0
      refine Run.cast (st' := [(.int i1)]) rfl ?_
      refine s_if_eq 284 261 C X at_258 (fun c => absurd c (by decide)) (fun _ => ?_)
      refine s_aload 263 C X at_261 rfl rfl ?_
      refine s_aload 265 C X at_263 rfl rfl ?_
      refine s_callV 268 [(.ref o56)] [] 0 C X at_265 (mW 37 rfl) (mW 38 rfl) (notFace_of_selects (args := #[]) (mvT C.2.1 (C.w (mW 40 rfl)))) (mW 40 rfl) (mW 39 rfl) (mW 28 rfl) (mW 41 rfl) E_o744 (rm_a803 l Z a0 hw o56 o744 _ n0 X.sz E_o56) (lenOf pd__Ljava_lang_Object__Z rfl) rfl rfl rfl (fun T v hh X q => ?_)
      obtain ⟨rfl, Kc⟩ := q
      have H_o744 := Safe.keep Kc so0 Rc.1 H_o744
      have H_o746 := Safe.keep Kc so0 Rc.1 H_o746
      have Rc := Rc.trans (CHr.keep Kc so0 Rc.1)
      have Nk := Nat.le_trans Nk Kc.1
      have Kp := Kp.trans Kc all0
      have E_o744 := E_o744.keep Kc
      have Od := Od.keep Kc all0
      refine Run.cast (st' := [(.int i0)]) rfl ?_
      refine s_if_ne 284 271 C X at_268 (fun c => absurd (by decide : i0 = i0) c) (fun _ => ?_)
      refine s_aload 273 C X at_271 rfl rfl ?_
      refine s_aconstNull 274 C X at_273 ?_
      refine s_callV 277 [.null] [] 0 C X at_274 (mW 37 rfl) (mW 38 rfl) (notFace_of_selects (args := #[]) (mvT C.2.1 (C.w (mW 40 rfl)))) (mW 40 rfl) (mW 39 rfl) (mW 28 rfl) (mW 41 rfl) E_o744 (rm_a806 l Z a0 hw o744 _ n0 X.sz ) (lenOf pd__Ljava_lang_Object__Z rfl) rfl rfl rfl (fun T v hh X q => ?_)
      obtain ⟨rfl, Kc⟩ := q
      have H_o744 := Safe.keep Kc so0 Rc.1 H_o744
      have H_o746 := Safe.keep Kc so0 Rc.1 H_o746
      have Rc := Rc.trans (CHr.keep Kc so0 Rc.1)
      have Nk := Nat.le_trans Nk Kc.1
      have Kp := Kp.trans Kc all0
      have Od := Od.keep Kc all0
      refine Run.cast (st' := [(.int i0)]) rfl ?_
      refine s_if_ne 284 280 C X at_277 (fun c => absurd (by decide : i0 = i0) c) (fun _ => ?_)
      refine s_iconst 281 C X at_280 kc_iconst_1 ?_
      refine s_goto 285 C X at_281 ?_
      refine s_nreturn C X at_285 rfl (by simp) rfl ?_ (FGH hG hS Nk Rc C (own_EL hw) (by decide) (by decide))
      exact hQ _ _ rfl
theorem comes_1 {Post : Tables → Env → Array Value → State → Outcome → State → Prop} (hpost : ∀ tb e args s v u, (limb_1_1.after args s (.returned v) u = true ∧ limb_1_2.after args s (.returned v) u = true ∧ True) → ReturnedEndW s (.returned v) u (Jvm.fieldLocs frame_1_writes args s ++ Jvm.arrayLocs frame_1_arrays args s ++ Jvm.staticLocs frame_1_statics s) 32 1152 → Post tb e args s (.returned v) u) :
    ArmFor flags0 classFile x code maxLocals ret World_1 tables_1 room_1 Calls_1 rest_1 Pre_1 Post := by
  intro l hfl _ _ p e ha hc hk s m args below hf hA hF happ hP
  obtain ⟨hcalls, hrest, hpre⟩ := hP
  obtain ⟨-, -, -, hnamed, -, -, -, hat⟩ := (Spec.applies_iff hf).mp happ
  obtain ⟨hg, hn⟩ := and_e (Cond.before_iff.mp (show (Jvm.Cond.and given_1 narrow_1).before args s = true from hpre))
  obtain ⟨g0, g1⟩ := and_e hg
  obtain ⟨ga0, gr0⟩ := and_e g1
  obtain ⟨ga1, gr1⟩ := and_e gr0
  obtain ⟨ga2, gr2⟩ := and_e gr1
  obtain ⟨ga3, gr3⟩ := and_e gr2
  obtain ⟨w0, w1, w2, w3, w4, rfl⟩ : ∃ w0 w1 w2 w3 w4 : Value, args = #[w0, w1, w2, w3, w4] := by
    have hs : args.size = 5 := by simpa [Cond.value, given_1] using g0
    obtain ⟨L⟩ := args
    match L, hs with
    | [w0, w1, w2, w3, w4], _ => exact ⟨w0, w1, w2, w3, w4, rfl⟩
  have hw := fun d (hd : d ∈ tables_1) => atoms_spec (ws := Jvm.Cond.code x code maxLocals ret :: tables_1) hat d (List.mem_cons_of_mem _ hd)
  have hfit : Fit s := fun {y c} hc i hi => by
    obtain ⟨ha, rfl⟩ := Array.getElem?_eq_some_iff.mp hc
    have q := List.all_eq_true.mp ((Array.all_eq_true_iff_forall_mem.mp hF) _ (Array.getElem_mem ha)) i (List.mem_range.mpr hi)
    simpa [Array.getElem?_eq_getElem hi] using q
  obtain ⟨i0, e0⟩ := isL_v ga0
  obtain rfl : w0 = (.long i0) := Option.some.inj e0
  obtain ⟨i1, e1⟩ := isL_v ga1
  obtain rfl : w1 = (.long i1) := Option.some.inj e1
  obtain ⟨i2, e2⟩ := is_v ga2
  obtain rfl : w2 = (.int i2) := Option.some.inj e2
  obtain ⟨i3, e3⟩ := is_v ga3
  obtain rfl : w3 = (.int i3) := Option.some.inj e3
  obtain ⟨i4, e4⟩ := is_v gr3
  obtain rfl : w4 = (.int i4) := Option.some.inj e4
  obtain ⟨hsets, -⟩ := atoms_of jdkStatics_1 (show (jdkStatics_1.foldr Jvm.Cond.and restOwn_1).before _ s = true from hrest)
  have sc0 := hsets _ (mW 0 rfl)
  have sc1 := Cond.before_iff.mp (hsets _ (mW 1 rfl))
  have sc2 := hsets _ (mW 2 rfl)
  obtain ⟨cs, ecs⟩ := is_v sc1
  have SC := Sta.start ecs (Or.inl sc0)
  have hcs : ¬ cs = (0:Int32) := fun q => by
    subst q
    have := Cond.before_iff.mp sc2
    simp [Cond.value, ecs, Term.int_eval] at this
  have hheld : ∀ p ∈ EL1, Jvm.Lit.constHeld s p.1 p.2 := fun p hp => hcalls.1 p hp

  obtain ⟨n, o, h1, h2, h3, _, L, rfl, ⟨rfl, N⟩, -, hq⟩ := rm0 l s _ hw i0 i1 i2 i3 i4 cs s.heap s.heap.size (Nat.le_refl _) (Old.start s) SC hcs p e ha hc hk s m _ below hf ((Spec.applies_iff_loose hf).mp happ).1 ⟨rfl, State.Warmed39.refl s, rfl, CHv.start (own_EL hw) hheld (a0 := _) sc2 (hw _ (mW 19 rfl)) (hw _ (mW 5 rfl)), so0⟩ trivial
  exact ⟨n, _, h1, h2, h3, hpost _ _ _ _ _ _ ⟨Cond.after_iff.mpr rfl, Cond.after_iff.mpr (eq_i res_at (Term.int_eval (1)) rfl), trivial⟩ ⟨hq.1, hq.2.1, hq.2.2.1, (hq.2.2.2.sift fun y hy => Or.inr (N y hy)).mono (by decide) (by decide)⟩⟩
theorem main_1_1 : Claimed_1_1 := comes_1 fun _ _ _ _ _ _ h hF => ⟨h.1, hF⟩
theorem main_1_2 : Claimed_1_2 := comes_1 fun _ _ _ _ _ _ h hF => ⟨h.2.1, hF⟩
end Jvm.Pilot.@@N@@
namespace Jvm.Pilot.@@N@@
open Jvm Jvm.ClassFile Sem Op Lib Jvm.Free Jvm.Stand Jvm.Pilot.@@N@@.Jvm.D
/-! MADE BY PROGRAM (witnessworld.py) out of the Statement's table words and the real class files: 20 classes; the members and pool entries that the words name. The judged class is class 1, her method 2. -/
namespace start1
open Jvm.ClassFile
def u (s : String) : CpInfo := .utf8 (stringToUtf16 s)
/-- a pool by its gaps: so many unusable entries, then the entry; so many at the end -/
def gap : Nat → List CpInfo → List CpInfo
  | 0, r => r
  | n + 1, r => .unusable :: gap n r
def poolList (es : List (Nat × CpInfo)) (last : Nat) : List CpInfo := es.foldr (fun e r => gap e.1 (e.2 :: r)) (gap last [])
def pool (es : List (Nat × CpInfo)) (last : Nat) : Array CpInfo := ⟨poolList es last⟩
def fileOf (pool : Array CpInfo) (this : Nat) (attrs : Array Attribute := #[]) (ms : Array MethodInfo := #[]) (fl : Nat := 33) (sup : Nat := 0) (ifs : Array Nat := #[]) (fds : Array FieldInfo := #[]) : ClassFile where
  minorVersion := 0
  majorVersion := 65
  constantPool := pool
  accessFlags := fl
  thisClass := this
  superClass := sup
  interfaces := ifs
  fields := fds
  methods := ms
  attributes := attrs
def plain (name : String) (sup : Option ClassId) : Class where
  name := name
  kind := .ordinary
  loader := none
  accessFlags := 33
  super := sup
  interfaces := #[]
  cf := none
  fields := #[]
  methods := #[]
  instanceTypes := #[]
  staticTypes := #[]
  resolved := #[]
  callSites := []
  init := .initialized
  statics := none
  mirror := none

def pool0 : Array CpInfo := pool [(5, u "<init>"), (0, u "()V"), (1, .class_ 10), (1, u "java/lang/Object")] 113

def k0c0 : Code := { maxStack := 0, maxLocals := 1, code := object_method_1_code, exceptionTable := #[], attributes := #[] }
def k0m0 : Method := { name := "<init>", desc := "()V", sig := { parameters := [], returnType := none }, accessFlags := 1, code := some k0c0 }
/-- java/lang/Object -/
def k0 : Class := { plain "java/lang/Object" none with
  accessFlags := 33
  interfaces := #[]
  cf := some (fileOf pool0 8 #[] #[{ accessFlags := 1, nameIndex := 5, descriptorIndex := 6, attributes := #[] }] 33 0 #[] #[])
  fields := #[]
  methods := #[k0m0]
  instanceTypes := #[]
  staticTypes := #[]
  resolved := Array.replicate 124 none
  statics := none }

def pool1 : Array CpInfo := pool [(2, .class_ 4), (1, u "java/lang/Object"), (0, u "<init>"), (0, u "()V"), (0, .class_ 8), (0, u "java/lang/String"), (0, .methodref 7 10), (0, .nameAndType 5 11), (0, u "([C)V"), (0, .methodref 13 14), (0, .class_ 15), (0, .nameAndType 16 17), (0, u "com/example/libring/libring/core/RingPointEqualsPinLaw"), (0, u "mk"), (0, u "(III)Ljava/lang/String;"), (0, .class_ 19), (0, u "com/example/libring/libring/core/RingPoint"), (0, .methodref 18 21), (0, .nameAndType 5 22), (0, u "(JLjava/lang/String;)V"), (0, .methodref 18 24), (0, .nameAndType 25 26), (0, u "equals"), (0, u "(Ljava/lang/Object;)Z"), (3, u "law"), (0, u "(JJIII)Z")] 2

def k1m0 : Method := { name := "<init>", desc := "()V", sig := { parameters := [], returnType := none }, accessFlags := 1, code := none }
def k1c1 : Code := { maxStack := 6, maxLocals := 3, code := method_2_code, exceptionTable := #[], attributes := #[] }
def k1m1 : Method := { name := "mk", desc := "(III)Ljava/lang/String;", sig := { parameters := [.int, .int, .int], returnType := some (.object "java/lang/String") }, accessFlags := 10, code := some k1c1 }
def k1c2 : Code := { maxStack := 5, maxLocals := 23, code := code, exceptionTable := #[], attributes := #[] }
def k1m2 : Method := { name := "law", desc := "(JJIII)Z", sig := { parameters := [.long, .long, .int, .int, .int], returnType := some .boolean }, accessFlags := 9, code := some k1c2 }
/-- com/example/libring/libring/core/RingPointEqualsPinLaw -/
def k1 : Class := { plain "com/example/libring/libring/core/RingPointEqualsPinLaw" (some 0) with
  accessFlags := 49
  interfaces := #[]
  cf := some (fileOf pool1 13 #[] #[{ accessFlags := 1, nameIndex := 5, descriptorIndex := 6, attributes := #[] }, { accessFlags := 10, nameIndex := 16, descriptorIndex := 17, attributes := #[] }, { accessFlags := 9, nameIndex := 30, descriptorIndex := 31, attributes := #[] }] 49 2 #[] #[])
  fields := #[]
  methods := #[k1m0, k1m1, k1m2]
  instanceTypes := #[]
  staticTypes := #[]
  resolved := Array.replicate 34 none
  statics := none }

def pool2 : Array CpInfo := pool [(1, .class_ 2), (0, u "java/io/Serializable"), (0, .class_ 4), (0, u "java/lang/Object")] 2

/-- java/io/Serializable -/
def k2 : Class := { plain "java/io/Serializable" (some 0) with
  accessFlags := 1537
  interfaces := #[]
  cf := some (fileOf pool2 1 #[] #[] 1537 3 #[] #[])
  fields := #[]
  methods := #[]
  instanceTypes := #[]
  staticTypes := #[]
  resolved := Array.replicate 7 none
  statics := none }

def pool3 : Array CpInfo := pool [(1, .class_ 2), (0, u "java/lang/Comparable"), (0, .class_ 4), (0, u "java/lang/Object")] 7

/-- java/lang/Comparable -/
def k3 : Class := { plain "java/lang/Comparable" (some 0) with
  accessFlags := 1537
  interfaces := #[]
  cf := some (fileOf pool3 1 #[] #[] 1537 3 #[] #[])
  fields := #[]
  methods := #[]
  instanceTypes := #[]
  staticTypes := #[]
  resolved := Array.replicate 12 none
  statics := none }

def pool4 : Array CpInfo := pool [(2, .class_ 4), (1, u "java/lang/CharSequence"), (42, .class_ 48), (0, u "java/lang/CharSequence$1CodePointIterator"), (10, .class_ 60), (0, u "java/lang/CharSequence$1CharIterator"), (5, .class_ 67), (0, u "java/lang/Object")] 63

/-- java/lang/CharSequence -/
def k4 : Class := { plain "java/lang/CharSequence" (some 0) with
  accessFlags := 1537
  interfaces := #[]
  cf := some (fileOf pool4 2 #[.nestMembers #[47, 59]] #[] 1537 66 #[] #[])
  fields := #[]
  methods := #[]
  instanceTypes := #[]
  staticTypes := #[]
  resolved := Array.replicate 131 none
  statics := none }

def pool5 : Array CpInfo := pool [(1, .class_ 2), (0, u "java/lang/constant/Constable"), (0, .class_ 4), (0, u "java/lang/Object")] 6

/-- java/lang/constant/Constable -/
def k5 : Class := { plain "java/lang/constant/Constable" (some 0) with
  accessFlags := 1537
  interfaces := #[]
  cf := some (fileOf pool5 1 #[] #[] 1537 3 #[] #[])
  fields := #[]
  methods := #[]
  instanceTypes := #[]
  staticTypes := #[]
  resolved := Array.replicate 11 none
  statics := none }

def pool6 : Array CpInfo := pool [(1, .class_ 2), (0, u "java/lang/constant/ConstantDesc"), (0, .class_ 4), (0, u "java/lang/Object")] 32

/-- java/lang/constant/ConstantDesc -/
def k6 : Class := { plain "java/lang/constant/ConstantDesc" (some 0) with
  accessFlags := 1537
  interfaces := #[]
  cf := some (fileOf pool6 1 #[] #[] 1537 3 #[] #[])
  fields := #[]
  methods := #[]
  instanceTypes := #[]
  staticTypes := #[]
  resolved := Array.replicate 37 none
  statics := none }

def pool7 : Array CpInfo := pool [(1, .methodref 2 3), (0, .class_ 4), (0, .nameAndType 5 6), (0, u "java/lang/Object"), (0, u "<init>"), (0, u "()V"), (0, .string 8), (0, u ""), (0, .fieldref 10 11), (0, .class_ 12), (0, .nameAndType 13 14), (0, u "java/lang/String"), (0, u "value"), (0, u "[B"), (0, .fieldref 10 16), (0, .nameAndType 17 18), (0, u "coder"), (0, u "B"), (2, u "hash"), (0, u "I"), (2, u "hashIsZero"), (0, u "Z"), (0, .methodref 10 28), (0, .nameAndType 5 29), (0, u "([CIILjava/lang/Void;)V"), (8, .fieldref 10 39), (0, .nameAndType 40 26), (0, u "COMPACT_STRINGS"), (1, .class_ 44), (1, u "java/lang/StringUTF16"), (0, u "compress"), (1, .methodref 42 48), (0, .nameAndType 49 50), (0, u "coderFromArrayLen"), (0, u "([BI)B"), (56, .class_ 109), (1, u "java/lang/StringLatin1"), (67, .methodref 42 178), (0, .nameAndType 45 179), (0, u "([CII)[B"), (361, .methodref 107 542), (0, .nameAndType 543 544), (0, u "equals"), (0, u "([B[B)Z"), (28, u "(Ljava/lang/Object;)Z"), (1, .class_ 576), (0, u "java/lang/CharSequence"), (22, u "CASE_INSENSITIVE_ORDER"), (0, u "Ljava/util/Comparator;"), (409, u "([C)V"), (90, u "serialPersistentFields"), (0, u "[Ljava/io/ObjectStreamField;"), (0, .class_ 1104), (0, u "java/lang/String$CaseInsensitiveComparator"), (1, .class_ 1107), (0, u "java/io/Serializable"), (0, .class_ 1109), (0, u "java/lang/Comparable"), (0, .class_ 1111), (0, u "java/lang/constant/Constable"), (0, .class_ 1113), (0, u "java/lang/constant/ConstantDesc"), (2, u "serialVersionUID"), (0, u "J"), (3, u "REPL"), (0, u "C"), (2, u "LATIN1"), (1, u "UTF16")] 323

def k7m0 : Method := { name := "<init>", desc := "()V", sig := { parameters := [], returnType := none }, accessFlags := 1, code := none }
def k7c1 : Code := { maxStack := 5, maxLocals := 2, code := jdk_42_method_3_code, exceptionTable := #[], attributes := #[] }
def k7m1 : Method := { name := "<init>", desc := "([C)V", sig := { parameters := [(.array .char)], returnType := none }, accessFlags := 1, code := some k7c1 }
def k7c2 : Code := { maxStack := 2, maxLocals := 3, code := jdk_42_method_66_code, exceptionTable := #[], attributes := #[] }
def k7m2 : Method := { name := "equals", desc := "(Ljava/lang/Object;)Z", sig := { parameters := [(.object "java/lang/Object")], returnType := some .boolean }, accessFlags := 1, code := some k7c2 }
def k7c3 : Code := { maxStack := 4, maxLocals := 6, code := jdk_42_method_149_code, exceptionTable := #[], attributes := #[] }
def k7m3 : Method := { name := "<init>", desc := "([CIILjava/lang/Void;)V", sig := { parameters := [(.array .char), .int, .int, (.object "java/lang/Void")], returnType := none }, accessFlags := 2, code := some k7c3 }
/-- java/lang/String -/
def k7 : Class := { plain "java/lang/String" (some 0) with
  accessFlags := 49
  interfaces := #[2, 3, 4, 5, 6]
  cf := some (fileOf pool7 10 #[.nestMembers #[1103]] #[{ accessFlags := 1, nameIndex := 5, descriptorIndex := 6, attributes := #[] }, { accessFlags := 1, nameIndex := 5, descriptorIndex := 1010, attributes := #[] }, { accessFlags := 1, nameIndex := 543, descriptorIndex := 573, attributes := #[] }, { accessFlags := 2, nameIndex := 5, descriptorIndex := 29, attributes := #[] }] 49 2 #[1106, 1108, 575, 1110, 1112] #[{ accessFlags := 18, nameIndex := 13, descriptorIndex := 14, attributes := #[] }, { accessFlags := 18, nameIndex := 17, descriptorIndex := 18, attributes := #[] }, { accessFlags := 2, nameIndex := 21, descriptorIndex := 22, attributes := #[] }, { accessFlags := 2, nameIndex := 25, descriptorIndex := 26, attributes := #[] }, { accessFlags := 26, nameIndex := 1116, descriptorIndex := 1117, attributes := #[] }, { accessFlags := 24, nameIndex := 40, descriptorIndex := 26, attributes := #[] }, { accessFlags := 26, nameIndex := 1101, descriptorIndex := 1102, attributes := #[] }, { accessFlags := 26, nameIndex := 1121, descriptorIndex := 1122, attributes := #[] }, { accessFlags := 25, nameIndex := 599, descriptorIndex := 600, attributes := #[] }, { accessFlags := 24, nameIndex := 1125, descriptorIndex := 18, attributes := #[] }, { accessFlags := 24, nameIndex := 1127, descriptorIndex := 18, attributes := #[] }])
  fields := #[{ name := "value", type := (.array .byte), accessFlags := 18, slot := 0, constantValue := 0 }, { name := "coder", type := .byte, accessFlags := 18, slot := 1, constantValue := 0 }, { name := "hash", type := .int, accessFlags := 2, slot := 2, constantValue := 0 }, { name := "hashIsZero", type := .boolean, accessFlags := 2, slot := 3, constantValue := 0 }, { name := "serialVersionUID", type := .long, accessFlags := 26, slot := 0, constantValue := 0 }, { name := "COMPACT_STRINGS", type := .boolean, accessFlags := 24, slot := 1, constantValue := 0 }, { name := "serialPersistentFields", type := (.array (.object "java/io/ObjectStreamField")), accessFlags := 26, slot := 2, constantValue := 0 }, { name := "REPL", type := .char, accessFlags := 26, slot := 3, constantValue := 0 }, { name := "CASE_INSENSITIVE_ORDER", type := (.object "java/util/Comparator"), accessFlags := 25, slot := 4, constantValue := 0 }, { name := "LATIN1", type := .byte, accessFlags := 24, slot := 5, constantValue := 0 }, { name := "UTF16", type := .byte, accessFlags := 24, slot := 6, constantValue := 0 }]
  methods := #[k7m0, k7m1, k7m2, k7m3]
  instanceTypes := #[(.array .byte), .byte, .int, .boolean]
  staticTypes := #[.long, .boolean, (.array (.object "java/io/ObjectStreamField")), .char, (.object "java/util/Comparator"), .byte, .byte]
  resolved := Array.replicate 1451 none
  statics := some 0 }

def pool8 : Array CpInfo := pool [(1, .methodref 2 3), (0, .class_ 4), (0, .nameAndType 5 6), (0, u "java/lang/Object"), (0, u "<init>"), (0, u "()V"), (0, .fieldref 8 9), (0, .class_ 10), (0, .nameAndType 11 12), (0, u "com/example/libring/libring/core/RingPoint"), (0, u "position"), (0, u "J"), (0, .fieldref 8 14), (0, .nameAndType 15 16), (0, u "node"), (0, u "Ljava/lang/String;"), (0, .methodref 18 19), (0, .class_ 20), (0, .nameAndType 21 22), (0, u "java/lang/String"), (0, u "equals"), (0, u "(Ljava/lang/Object;)Z"), (20, u "(JLjava/lang/String;)V")] 25

def k8c0 : Code := { maxStack := 3, maxLocals := 4, code := prog_9_method_1_code, exceptionTable := #[], attributes := #[] }
def k8m0 : Method := { name := "<init>", desc := "(JLjava/lang/String;)V", sig := { parameters := [.long, (.object "java/lang/String")], returnType := none }, accessFlags := 0, code := some k8c0 }
def k8c1 : Code := { maxStack := 4, maxLocals := 3, code := prog_9_method_4_code, exceptionTable := #[], attributes := #[] }
def k8m1 : Method := { name := "equals", desc := "(Ljava/lang/Object;)Z", sig := { parameters := [(.object "java/lang/Object")], returnType := some .boolean }, accessFlags := 1, code := some k8c1 }
/-- com/example/libring/libring/core/RingPoint -/
def k8 : Class := { plain "com/example/libring/libring/core/RingPoint" (some 0) with
  accessFlags := 49
  interfaces := #[]
  cf := some (fileOf pool8 8 #[] #[{ accessFlags := 0, nameIndex := 5, descriptorIndex := 43, attributes := #[] }, { accessFlags := 1, nameIndex := 21, descriptorIndex := 22, attributes := #[] }] 49 2 #[] #[{ accessFlags := 18, nameIndex := 11, descriptorIndex := 12, attributes := #[] }, { accessFlags := 18, nameIndex := 15, descriptorIndex := 16, attributes := #[] }])
  fields := #[{ name := "position", type := .long, accessFlags := 18, slot := 0, constantValue := 0 }, { name := "node", type := (.object "java/lang/String"), accessFlags := 18, slot := 1, constantValue := 0 }]
  methods := #[k8m0, k8m1]
  instanceTypes := #[.long, (.object "java/lang/String")]
  staticTypes := #[]
  resolved := Array.replicate 69 none
  statics := none }

def pool9 : Array CpInfo := pool [(6, .class_ 8), (1, u "java/lang/Object"), (0, u "<init>"), (0, u "()V"), (1, .class_ 14), (1, u "java/lang/StringUTF16"), (31, u "$assertionsDisabled"), (0, u "Z"), (13, u "HI_BYTE_SHIFT"), (0, u "I"), (2, u "LO_BYTE_SHIFT"), (49, .methodref 12 116), (0, .nameAndType 117 118), (0, u "compress"), (0, u "([CI[BII)I"), (3, u "([CII)[B"), (138, u "coderFromArrayLen"), (0, u "([BI)B"), (106, .class_ 371), (1, u "java/lang/StringUTF16$LinesSpliterator"), (58, u "MAX_LENGTH"), (196, .class_ 628), (0, u "java/lang/StringUTF16$CodePointsSpliterator"), (0, .class_ 630), (0, u "java/lang/StringUTF16$CharsSpliterator")] 4

def k9m0 : Method := { name := "<init>", desc := "()V", sig := { parameters := [], returnType := none }, accessFlags := 0, code := none }
def k9c1 : Code := { maxStack := 2, maxLocals := 2, code := jdk_52_method_15_code, exceptionTable := #[], attributes := #[] }
def k9m1 : Method := { name := "coderFromArrayLen", desc := "([BI)B", sig := { parameters := [(.array .byte), .int], returnType := some .byte }, accessFlags := 8, code := some k9c1 }
def k9c2 : Code := { maxStack := 5, maxLocals := 6, code := jdk_52_method_16_code, exceptionTable := #[], attributes := #[] }
def k9m2 : Method := { name := "compress", desc := "([CII)[B", sig := { parameters := [(.array .char), .int, .int], returnType := some (.array .byte) }, accessFlags := 9, code := some k9c2 }
def k9c3 : Code := { maxStack := 3, maxLocals := 7, code := jdk_52_method_21_code, exceptionTable := #[], attributes := #[] }
def k9m3 : Method := { name := "compress", desc := "([CI[BII)I", sig := { parameters := [(.array .char), .int, (.array .byte), .int, .int], returnType := some .int }, accessFlags := 9, code := some k9c3 }
/-- java/lang/StringUTF16 -/
def k9 : Class := { plain "java/lang/StringUTF16" (some 0) with
  accessFlags := 48
  interfaces := #[]
  cf := some (fileOf pool9 12 #[.nestMembers #[627, 629, 369]] #[{ accessFlags := 0, nameIndex := 9, descriptorIndex := 10, attributes := #[] }, { accessFlags := 8, nameIndex := 261, descriptorIndex := 262, attributes := #[] }, { accessFlags := 9, nameIndex := 117, descriptorIndex := 122, attributes := #[] }, { accessFlags := 9, nameIndex := 117, descriptorIndex := 118, attributes := #[] }] 48 6 #[] #[{ accessFlags := 26, nameIndex := 61, descriptorIndex := 62, attributes := #[] }, { accessFlags := 26, nameIndex := 65, descriptorIndex := 62, attributes := #[] }, { accessFlags := 24, nameIndex := 430, descriptorIndex := 62, attributes := #[] }, { accessFlags := 4120, nameIndex := 46, descriptorIndex := 47, attributes := #[] }])
  fields := #[{ name := "HI_BYTE_SHIFT", type := .int, accessFlags := 26, slot := 0, constantValue := 0 }, { name := "LO_BYTE_SHIFT", type := .int, accessFlags := 26, slot := 1, constantValue := 0 }, { name := "MAX_LENGTH", type := .int, accessFlags := 24, slot := 2, constantValue := 0 }, { name := "$assertionsDisabled", type := .boolean, accessFlags := 4120, slot := 3, constantValue := 0 }]
  methods := #[k9m0, k9m1, k9m2, k9m3]
  instanceTypes := #[]
  staticTypes := #[.int, .int, .int, .boolean]
  resolved := Array.replicate 635 none
  statics := none }

def pool10 : Array CpInfo := pool [(4, .class_ 6), (1, u "java/lang/Object"), (0, u "<init>"), (0, u "()V"), (5, .class_ 16), (1, u "java/lang/StringLatin1"), (104, u "$assertionsDisabled"), (0, u "Z"), (98, .class_ 223), (1, u "java/lang/StringLatin1$LinesSpliterator"), (57, u "equals"), (0, u "([B[B)Z"), (107, .class_ 391), (0, u "java/lang/StringLatin1$CharsSpliterator")] 3

def k10m0 : Method := { name := "<init>", desc := "()V", sig := { parameters := [], returnType := none }, accessFlags := 0, code := none }
def k10c1 : Code := { maxStack := 3, maxLocals := 3, code := jdk_43_method_13_code, exceptionTable := #[], attributes := #[] }
def k10m1 : Method := { name := "equals", desc := "([B[B)Z", sig := { parameters := [(.array .byte), (.array .byte)], returnType := some .boolean }, accessFlags := 9, code := some k10c1 }
/-- java/lang/StringLatin1 -/
def k10 : Class := { plain "java/lang/StringLatin1" (some 0) with
  accessFlags := 48
  interfaces := #[]
  cf := some (fileOf pool10 14 #[.nestMembers #[390, 221]] #[{ accessFlags := 0, nameIndex := 7, descriptorIndex := 8, attributes := #[] }, { accessFlags := 9, nameIndex := 281, descriptorIndex := 282, attributes := #[] }] 48 4 #[] #[{ accessFlags := 4120, nameIndex := 121, descriptorIndex := 122, attributes := #[] }])
  fields := #[{ name := "$assertionsDisabled", type := .boolean, accessFlags := 4120, slot := 0, constantValue := 0 }]
  methods := #[k10m0, k10m1]
  instanceTypes := #[]
  staticTypes := #[.boolean]
  resolved := Array.replicate 395 none
  statics := none }

def pool11 : Array CpInfo := pool [(2, .class_ 4), (1, u "java/lang/Object"), (0, u "<init>"), (0, u "()V"), (17, .class_ 26), (1, u "jdk/internal/util/Preconditions"), (28, .class_ 56), (0, u "jdk/internal/util/Preconditions$4"), (57, .class_ 115), (0, u "jdk/internal/util/Preconditions$1"), (7, u "SIOOBE_FORMATTER"), (0, u "Ljava/util/function/BiFunction;"), (0, .class_ 126), (0, u "jdk/internal/util/Preconditions$2"), (3, u "AIOOBE_FORMATTER"), (0, .class_ 132), (0, u "jdk/internal/util/Preconditions$3"), (3, u "IOOBE_FORMATTER")] 57

def k11m0 : Method := { name := "<init>", desc := "()V", sig := { parameters := [], returnType := none }, accessFlags := 1, code := none }
/-- jdk/internal/util/Preconditions -/
def k11 : Class := { plain "jdk/internal/util/Preconditions" (some 0) with
  accessFlags := 33
  interfaces := #[]
  cf := some (fileOf pool11 24 #[.nestMembers #[55, 131, 125, 114]] #[{ accessFlags := 1, nameIndex := 5, descriptorIndex := 6, attributes := #[] }] 33 2 #[] #[{ accessFlags := 25, nameIndex := 123, descriptorIndex := 124, attributes := #[] }, { accessFlags := 25, nameIndex := 130, descriptorIndex := 124, attributes := #[] }, { accessFlags := 25, nameIndex := 136, descriptorIndex := 124, attributes := #[] }])
  fields := #[{ name := "SIOOBE_FORMATTER", type := (.object "java/util/function/BiFunction"), accessFlags := 25, slot := 0, constantValue := 0 }, { name := "AIOOBE_FORMATTER", type := (.object "java/util/function/BiFunction"), accessFlags := 25, slot := 1, constantValue := 0 }, { name := "IOOBE_FORMATTER", type := (.object "java/util/function/BiFunction"), accessFlags := 25, slot := 2, constantValue := 0 }]
  methods := #[k11m0]
  instanceTypes := #[]
  staticTypes := #[(.object "java/util/function/BiFunction"), (.object "java/util/function/BiFunction"), (.object "java/util/function/BiFunction")]
  resolved := Array.replicate 194 none
  statics := some 1 }

def pool12 : Array CpInfo := pool [(9, u "<init>"), (6, .class_ 18), (1, u "java/lang/Object"), (0, u "()V"), (1, .class_ 23), (1, u "jdk/internal/util/ArraysSupport"), (0, u "LOG2_ARRAY_LONG_INDEX_SCALE"), (0, u "I"), (2, u "U"), (0, u "Ljdk/internal/misc/Unsafe;"), (8, u "BIG_ENDIAN"), (0, u "Z"), (8, u "LOG2_BYTE_BIT_SIZE"), (4, u "LOG2_ARRAY_INT_INDEX_SCALE"), (54, u "JLA"), (0, u "Ljdk/internal/access/JavaLangAccess;"), (11, u "LOG2_ARRAY_BOOLEAN_INDEX_SCALE"), (9, u "LOG2_ARRAY_BYTE_INDEX_SCALE"), (5, u "LOG2_ARRAY_CHAR_INDEX_SCALE"), (5, u "LOG2_ARRAY_SHORT_INDEX_SCALE"), (18, u "LOG2_ARRAY_FLOAT_INDEX_SCALE"), (24, u "LOG2_ARRAY_DOUBLE_INDEX_SCALE"), (89, u "T_BOOLEAN"), (2, u "T_CHAR"), (1, u "T_FLOAT"), (1, u "T_DOUBLE"), (1, u "T_BYTE"), (1, u "T_SHORT"), (1, u "T_INT"), (1, u "T_LONG"), (1, u "SOFT_MAX_ARRAY_LENGTH")] 83

def k12m0 : Method := { name := "<init>", desc := "()V", sig := { parameters := [], returnType := none }, accessFlags := 2, code := none }
/-- jdk/internal/util/ArraysSupport -/
def k12 : Class := { plain "jdk/internal/util/ArraysSupport" (some 0) with
  accessFlags := 33
  interfaces := #[]
  cf := some (fileOf pool12 21 #[] #[{ accessFlags := 2, nameIndex := 9, descriptorIndex := 19, attributes := #[] }] 33 16 #[] #[{ accessFlags := 24, nameIndex := 28, descriptorIndex := 29, attributes := #[] }, { accessFlags := 26, nameIndex := 38, descriptorIndex := 39, attributes := #[] }, { accessFlags := 25, nameIndex := 121, descriptorIndex := 25, attributes := #[] }, { accessFlags := 25, nameIndex := 131, descriptorIndex := 25, attributes := #[] }, { accessFlags := 25, nameIndex := 137, descriptorIndex := 25, attributes := #[] }, { accessFlags := 25, nameIndex := 143, descriptorIndex := 25, attributes := #[] }, { accessFlags := 25, nameIndex := 53, descriptorIndex := 25, attributes := #[] }, { accessFlags := 25, nameIndex := 24, descriptorIndex := 25, attributes := #[] }, { accessFlags := 25, nameIndex := 162, descriptorIndex := 25, attributes := #[] }, { accessFlags := 25, nameIndex := 187, descriptorIndex := 25, attributes := #[] }, { accessFlags := 26, nameIndex := 48, descriptorIndex := 25, attributes := #[] }, { accessFlags := 25, nameIndex := 277, descriptorIndex := 25, attributes := #[] }, { accessFlags := 25, nameIndex := 280, descriptorIndex := 25, attributes := #[] }, { accessFlags := 25, nameIndex := 282, descriptorIndex := 25, attributes := #[] }, { accessFlags := 25, nameIndex := 284, descriptorIndex := 25, attributes := #[] }, { accessFlags := 25, nameIndex := 286, descriptorIndex := 25, attributes := #[] }, { accessFlags := 25, nameIndex := 288, descriptorIndex := 25, attributes := #[] }, { accessFlags := 25, nameIndex := 290, descriptorIndex := 25, attributes := #[] }, { accessFlags := 25, nameIndex := 292, descriptorIndex := 25, attributes := #[] }, { accessFlags := 26, nameIndex := 108, descriptorIndex := 109, attributes := #[] }, { accessFlags := 25, nameIndex := 294, descriptorIndex := 25, attributes := #[] }])
  fields := #[{ name := "U", type := (.object "jdk/internal/misc/Unsafe"), accessFlags := 24, slot := 0, constantValue := 0 }, { name := "BIG_ENDIAN", type := .boolean, accessFlags := 26, slot := 1, constantValue := 0 }, { name := "LOG2_ARRAY_BOOLEAN_INDEX_SCALE", type := .int, accessFlags := 25, slot := 2, constantValue := 0 }, { name := "LOG2_ARRAY_BYTE_INDEX_SCALE", type := .int, accessFlags := 25, slot := 3, constantValue := 0 }, { name := "LOG2_ARRAY_CHAR_INDEX_SCALE", type := .int, accessFlags := 25, slot := 4, constantValue := 0 }, { name := "LOG2_ARRAY_SHORT_INDEX_SCALE", type := .int, accessFlags := 25, slot := 5, constantValue := 0 }, { name := "LOG2_ARRAY_INT_INDEX_SCALE", type := .int, accessFlags := 25, slot := 6, constantValue := 0 }, { name := "LOG2_ARRAY_LONG_INDEX_SCALE", type := .int, accessFlags := 25, slot := 7, constantValue := 0 }, { name := "LOG2_ARRAY_FLOAT_INDEX_SCALE", type := .int, accessFlags := 25, slot := 8, constantValue := 0 }, { name := "LOG2_ARRAY_DOUBLE_INDEX_SCALE", type := .int, accessFlags := 25, slot := 9, constantValue := 0 }, { name := "LOG2_BYTE_BIT_SIZE", type := .int, accessFlags := 26, slot := 10, constantValue := 0 }, { name := "T_BOOLEAN", type := .int, accessFlags := 25, slot := 11, constantValue := 0 }, { name := "T_CHAR", type := .int, accessFlags := 25, slot := 12, constantValue := 0 }, { name := "T_FLOAT", type := .int, accessFlags := 25, slot := 13, constantValue := 0 }, { name := "T_DOUBLE", type := .int, accessFlags := 25, slot := 14, constantValue := 0 }, { name := "T_BYTE", type := .int, accessFlags := 25, slot := 15, constantValue := 0 }, { name := "T_SHORT", type := .int, accessFlags := 25, slot := 16, constantValue := 0 }, { name := "T_INT", type := .int, accessFlags := 25, slot := 17, constantValue := 0 }, { name := "T_LONG", type := .int, accessFlags := 25, slot := 18, constantValue := 0 }, { name := "JLA", type := (.object "jdk/internal/access/JavaLangAccess"), accessFlags := 26, slot := 19, constantValue := 0 }, { name := "SOFT_MAX_ARRAY_LENGTH", type := .int, accessFlags := 25, slot := 20, constantValue := 0 }]
  methods := #[k12m0]
  instanceTypes := #[]
  staticTypes := #[(.object "jdk/internal/misc/Unsafe"), .boolean, .int, .int, .int, .int, .int, .int, .int, .int, .int, .int, .int, .int, .int, .int, .int, .int, .int, (.object "jdk/internal/access/JavaLangAccess"), .int]
  resolved := Array.replicate 378 none
  statics := none }

def pool13 : Array CpInfo := pool [(1, u "java/lang/Cloneable"), (0, .class_ 1), (0, u "java/lang/Object"), (0, .class_ 3)] 3

/-- java/lang/Cloneable -/
def k13 : Class := { plain "java/lang/Cloneable" (some 0) with
  accessFlags := 1537
  interfaces := #[]
  cf := some (fileOf pool13 2 #[] #[] 1537 4 #[] #[])
  fields := #[]
  methods := #[]
  instanceTypes := #[]
  staticTypes := #[]
  resolved := Array.replicate 8 none
  statics := none }

/-- the primitive byte -/
def k14 : Class := { plain "byte" none with kind := .primitive 'B', accessFlags := 0x411 }
/-- [B -/
def k15 : Class := { plain "[B" (some 0) with kind := .array 14 .byte, interfaces := #[13, 2], accessFlags := 1041 }

/-- the primitive char -/
def k16 : Class := { plain "char" none with kind := .primitive 'C', accessFlags := 0x411 }
/-- [C -/
def k17 : Class := { plain "[C" (some 0) with kind := .array 16 .char, interfaces := #[13, 2], accessFlags := 1041 }

/-- the primitive int -/
def k18 : Class := { plain "int" none with kind := .primitive 'I', accessFlags := 0x411 }
/-- [I -/
def k19 : Class := { plain "[I" (some 0) with kind := .array 18 .int, interfaces := #[13, 2], accessFlags := 1041 }

def heap : Heap := #[{ cls := 7, slots := #[.long 0, .int 1, .null, .int 0, .null, .int 0, .int 0], vm := .statics 7 },
  { cls := 11, slots := #[.null, .null, .null], vm := .statics 11 }]
def classes : Array Class := #[k0, k1, k2, k3, k4, k5, k6, k7, k8, k9, k10, k11, k12, k13, k14, k15, k16, k17, k18, k19]
def interned : List (Array UInt16 × Addr) := []
def slotsUsed : Nat := 10
def theMethod : MethodId := ⟨1, 2⟩
def args0 : Array Value := #[.long 5, .long 6, .int 77, .int 88, .int 3]
def aboutOver (below : List Frame) : State where
  vm := { classes := classes, interned := interned.toArray }
  heap := heap
  slotsUsed := slotsUsed
  threads := #[{ frames := .invoking theMethod args0 :: below }]
def below0 : List Frame := [.native { method := ⟨0, 0⟩, args := #[] }]
def about1 : State := aboutOver below0
def p0 : Program := .bare "" "" ""
def e0 : Env := launch0.env 0 0 0
theorem w_frames : about1.frames = Frame.invoking theMethod args0 :: below0 := rfl
set_option maxRecDepth 65536 in
theorem w_args : argsFit about1.vm theMethod args0 = true := by decide +kernel
set_option maxRecDepth 65536 in
theorem w_heap : heapFits about1 = true := by decide +kernel
set_option maxRecDepth 65536 in
theorem w_runnable : about1.curStatus? = some .runnable := by decide +kernel
set_option maxRecDepth 65536 in
theorem w_alone : about1.alone = true := by decide +kernel
set_option maxRecDepth 65536 in
theorem w_named : about1.methodNamed? x = some theMethod := by decide +kernel
set_option maxRecDepth 65536 in
theorem w_hears : about1.hears theMethod below0 = true := by decide +kernel
set_option maxRecDepth 65536 in
theorem w_ripe : about1.ripe theMethod args0 below0 = true := by decide +kernel
theorem w_running : about1.status = .running := rfl
set_option maxRecDepth 65536 in
theorem w_room : about1.hasRoom e0.platform room_1 = true :=
  launch0.hasRoom_least _ room_1 (by decide +kernel) (by decide +kernel) (by decide +kernel) (by decide +kernel) (by decide +kernel) (by decide +kernel)
theorem allAtoms_all (ts : List Jvm.Cond) (a : Array Jvm.Value) (st : Jvm.State) : (allAtoms ts).before a st = ts.all (fun c => c.before a st) := by
  induction ts with
  | nil => rfl
  | cons c t ih =>
    show (Jvm.Cond.and c (allAtoms t)).before a st = _
    rw [Jvm.Cond.before_and, ih, List.all_cons]
def words1 : List Jvm.Cond := Jvm.Cond.code x code maxLocals ret :: tables_1
/-- a 'code' word, met by the world's own term for the bytes: nothing is compared byte by byte -/
theorem code_word {y : MethodName} {bytes : ByteArray} {mx : Nat} {rt : Option FieldType} {a : Array Value} {s : State} {m : MethodId} {meth : Method} {c : Code} (h1 : s.methodNamed? y = some m) (h2 : s.vm.method? m = some meth) (h3 : meth.code = some c) (h4 : c.code = bytes)
    (h5 : (c.maxLocals == mx && c.exceptionTable.isEmpty && decide (c.maxStack ≤ mostOperands) && decide (meth.sig.returnType = rt) && !meth.locks && decide (parseMethodDescriptor y.desc = some meth.sig)) = true) : (Jvm.Cond.code y bytes mx rt).before a s = true := by
  simp only [Bool.and_eq_true, beq_iff_eq, Bool.not_eq_true', decide_eq_true_eq] at h5
  obtain ⟨⟨⟨⟨⟨g1, g2⟩, g3⟩, g4⟩, g5⟩, g6⟩ := h5
  simp [Cond.before, Cond.holds, Cond.value, h1, h2, h3, h4, g1, g2, g3, g4, g5, g6]
def isCode : Jvm.Cond → Bool
  | .code _ _ _ _ => true
  | _ => false
theorem all_split {L : List Jvm.Cond} {P : Jvm.Cond → Bool} (h1 : L.all (fun c => isCode c || P c) = true) (h2 : ∀ c ∈ L.filter isCode, P c = true) : L.all P = true := by
  refine List.all_eq_true.mpr fun c hc => ?_
  have h := List.all_eq_true.mp h1 c hc
  rcases Bool.eq_false_or_eq_true (isCode c) with hi | hi
  · exact h2 c (List.mem_filter.mpr ⟨hc, hi⟩)
  · simpa [hi] using h
set_option maxRecDepth 65536 in
theorem w_c0 : (Jvm.Cond.code x code maxLocals ret).before args0 about1 = true := code_word (m := ⟨1, 2⟩) (meth := k1m2) (c := k1c2) (by decide +kernel) rfl rfl rfl (by decide +kernel)
set_option maxRecDepth 65536 in
theorem w_c1 : (Jvm.Cond.code ({ cls := "com/example/libring/libring/core/RingPointEqualsPinLaw", name := "mk", desc := "(III)Ljava/lang/String;" } : Jvm.MethodName) method_2_code (3 : Nat) (Option.some (Jvm.ClassFile.FieldType.object "java/lang/String"))).before args0 about1 = true := code_word (m := ⟨1, 1⟩) (meth := k1m1) (c := k1c1) (by decide +kernel) rfl rfl rfl (by decide +kernel)
set_option maxRecDepth 65536 in
theorem w_c2 : (Jvm.Cond.code ({ cls := "java/lang/String", name := "<init>", desc := "([C)V" } : Jvm.MethodName) jdk_42_method_3_code (2 : Nat) (Option.none : Option Jvm.ClassFile.FieldType)).before args0 about1 = true := code_word (m := ⟨7, 1⟩) (meth := k7m1) (c := k7c1) (by decide +kernel) rfl rfl rfl (by decide +kernel)
set_option maxRecDepth 65536 in
theorem w_c3 : (Jvm.Cond.code ({ cls := "java/lang/String", name := "<init>", desc := "([CIILjava/lang/Void;)V" } : Jvm.MethodName) jdk_42_method_149_code (6 : Nat) (Option.none : Option Jvm.ClassFile.FieldType)).before args0 about1 = true := code_word (m := ⟨7, 3⟩) (meth := k7m3) (c := k7c3) (by decide +kernel) rfl rfl rfl (by decide +kernel)
set_option maxRecDepth 65536 in
theorem w_c4 : (Jvm.Cond.code ({ cls := "java/lang/Object", name := "<init>", desc := "()V" } : Jvm.MethodName) object_method_1_code (1 : Nat) (Option.none : Option Jvm.ClassFile.FieldType)).before args0 about1 = true := code_word (m := ⟨0, 0⟩) (meth := k0m0) (c := k0c0) (by decide +kernel) rfl rfl rfl (by decide +kernel)
set_option maxRecDepth 65536 in
theorem w_c5 : (Jvm.Cond.code ({ cls := "com/example/libring/libring/core/RingPoint", name := "<init>", desc := "(JLjava/lang/String;)V" } : Jvm.MethodName) prog_9_method_1_code (4 : Nat) (Option.none : Option Jvm.ClassFile.FieldType)).before args0 about1 = true := code_word (m := ⟨8, 0⟩) (meth := k8m0) (c := k8c0) (by decide +kernel) rfl rfl rfl (by decide +kernel)
set_option maxRecDepth 65536 in
theorem w_c6 : (Jvm.Cond.code ({ cls := "com/example/libring/libring/core/RingPoint", name := "equals", desc := "(Ljava/lang/Object;)Z" } : Jvm.MethodName) prog_9_method_4_code (3 : Nat) (Option.some Jvm.ClassFile.FieldType.boolean)).before args0 about1 = true := code_word (m := ⟨8, 1⟩) (meth := k8m1) (c := k8c1) (by decide +kernel) rfl rfl rfl (by decide +kernel)
set_option maxRecDepth 65536 in
theorem w_c7 : (Jvm.Cond.code ({ cls := "java/lang/String", name := "equals", desc := "(Ljava/lang/Object;)Z" } : Jvm.MethodName) jdk_42_method_66_code (3 : Nat) (Option.some Jvm.ClassFile.FieldType.boolean)).before args0 about1 = true := code_word (m := ⟨7, 2⟩) (meth := k7m2) (c := k7c2) (by decide +kernel) rfl rfl rfl (by decide +kernel)
set_option maxRecDepth 65536 in
theorem w_c8 : (Jvm.Cond.code ({ cls := "java/lang/StringUTF16", name := "compress", desc := "([CII)[B" } : Jvm.MethodName) jdk_52_method_16_code (6 : Nat) (Option.some (Jvm.ClassFile.FieldType.array Jvm.ClassFile.FieldType.byte))).before args0 about1 = true := code_word (m := ⟨9, 2⟩) (meth := k9m2) (c := k9c2) (by decide +kernel) rfl rfl rfl (by decide +kernel)
set_option maxRecDepth 65536 in
theorem w_c9 : (Jvm.Cond.code ({ cls := "java/lang/StringUTF16", name := "compress", desc := "([CI[BII)I" } : Jvm.MethodName) jdk_52_method_21_code (7 : Nat) (Option.some Jvm.ClassFile.FieldType.int)).before args0 about1 = true := code_word (m := ⟨9, 3⟩) (meth := k9m3) (c := k9c3) (by decide +kernel) rfl rfl rfl (by decide +kernel)
set_option maxRecDepth 65536 in
theorem w_c10 : (Jvm.Cond.code ({ cls := "java/lang/StringUTF16", name := "coderFromArrayLen", desc := "([BI)B" } : Jvm.MethodName) jdk_52_method_15_code (2 : Nat) (Option.some Jvm.ClassFile.FieldType.byte)).before args0 about1 = true := code_word (m := ⟨9, 1⟩) (meth := k9m1) (c := k9c1) (by decide +kernel) rfl rfl rfl (by decide +kernel)
set_option maxRecDepth 65536 in
theorem w_c11 : (Jvm.Cond.code ({ cls := "java/lang/StringLatin1", name := "equals", desc := "([B[B)Z" } : Jvm.MethodName) jdk_43_method_13_code (3 : Nat) (Option.some Jvm.ClassFile.FieldType.boolean)).before args0 about1 = true := code_word (m := ⟨10, 1⟩) (meth := k10m1) (c := k10c1) (by decide +kernel) rfl rfl rfl (by decide +kernel)
def codes1 : List Jvm.Cond := [Jvm.Cond.code x code maxLocals ret, Jvm.Cond.code ({ cls := "com/example/libring/libring/core/RingPointEqualsPinLaw", name := "mk", desc := "(III)Ljava/lang/String;" } : Jvm.MethodName) method_2_code (3 : Nat) (Option.some (Jvm.ClassFile.FieldType.object "java/lang/String")), Jvm.Cond.code ({ cls := "java/lang/String", name := "<init>", desc := "([C)V" } : Jvm.MethodName) jdk_42_method_3_code (2 : Nat) (Option.none : Option Jvm.ClassFile.FieldType), Jvm.Cond.code ({ cls := "java/lang/String", name := "<init>", desc := "([CIILjava/lang/Void;)V" } : Jvm.MethodName) jdk_42_method_149_code (6 : Nat) (Option.none : Option Jvm.ClassFile.FieldType), Jvm.Cond.code ({ cls := "java/lang/Object", name := "<init>", desc := "()V" } : Jvm.MethodName) object_method_1_code (1 : Nat) (Option.none : Option Jvm.ClassFile.FieldType), Jvm.Cond.code ({ cls := "com/example/libring/libring/core/RingPoint", name := "<init>", desc := "(JLjava/lang/String;)V" } : Jvm.MethodName) prog_9_method_1_code (4 : Nat) (Option.none : Option Jvm.ClassFile.FieldType), Jvm.Cond.code ({ cls := "com/example/libring/libring/core/RingPoint", name := "equals", desc := "(Ljava/lang/Object;)Z" } : Jvm.MethodName) prog_9_method_4_code (3 : Nat) (Option.some Jvm.ClassFile.FieldType.boolean), Jvm.Cond.code ({ cls := "java/lang/String", name := "equals", desc := "(Ljava/lang/Object;)Z" } : Jvm.MethodName) jdk_42_method_66_code (3 : Nat) (Option.some Jvm.ClassFile.FieldType.boolean), Jvm.Cond.code ({ cls := "java/lang/StringUTF16", name := "compress", desc := "([CII)[B" } : Jvm.MethodName) jdk_52_method_16_code (6 : Nat) (Option.some (Jvm.ClassFile.FieldType.array Jvm.ClassFile.FieldType.byte)), Jvm.Cond.code ({ cls := "java/lang/StringUTF16", name := "compress", desc := "([CI[BII)I" } : Jvm.MethodName) jdk_52_method_21_code (7 : Nat) (Option.some Jvm.ClassFile.FieldType.int), Jvm.Cond.code ({ cls := "java/lang/StringUTF16", name := "coderFromArrayLen", desc := "([BI)B" } : Jvm.MethodName) jdk_52_method_15_code (2 : Nat) (Option.some Jvm.ClassFile.FieldType.byte), Jvm.Cond.code ({ cls := "java/lang/StringLatin1", name := "equals", desc := "([B[B)Z" } : Jvm.MethodName) jdk_43_method_13_code (3 : Nat) (Option.some Jvm.ClassFile.FieldType.boolean)]
set_option maxRecDepth 65536 in
theorem codes_eq : words1.filter isCode = codes1 := rfl
theorem w_codes : ∀ c ∈ words1.filter isCode, c.before args0 about1 = true := by
  rw [codes_eq]
  intro c hc
  simp only [codes1, List.mem_cons, List.not_mem_nil, or_false] at hc
  rcases hc with rfl | rfl | rfl | rfl | rfl | rfl | rfl | rfl | rfl | rfl | rfl | rfl
  · exact w_c0
  · exact w_c1
  · exact w_c2
  · exact w_c3
  · exact w_c4
  · exact w_c5
  · exact w_c6
  · exact w_c7
  · exact w_c8
  · exact w_c9
  · exact w_c10
  · exact w_c11
set_option maxRecDepth 65536 in
theorem w_t1 : (words1.take 24).all (fun c => isCode c || c.before args0 about1) = true := by decide +kernel
set_option maxRecDepth 65536 in
theorem w_t2 : ((words1.drop 24).take 24).all (fun c => isCode c || c.before args0 about1) = true := by decide +kernel
set_option maxRecDepth 65536 in
theorem w_t3 : ((words1.drop 24).drop 24).all (fun c => isCode c || c.before args0 about1) = true := by decide +kernel
theorem w_tables : (allAtoms (Jvm.Cond.code x code maxLocals ret :: tables_1)).before args0 about1 = true := by
  rw [allAtoms_all]
  show words1.all (fun c => c.before args0 about1) = true
  refine all_split ?_ w_codes
  rw [← List.take_append_drop 24 words1, List.all_append, w_t1, ← List.take_append_drop 24 (words1.drop 24), List.all_append, w_t2, w_t3]
  rfl
set_option maxRecDepth 65536 in
theorem w_rest : rest_1_c.before args0 about1 = true := by decide +kernel
set_option maxRecDepth 65536 in
theorem w_case : (Jvm.Cond.and given_1 narrow_1).before args0 about1 = true := by decide +kernel
set_option maxRecDepth 65536 in
theorem w_consts : constsHeld consts_1 about1 := Jvm.Lit.constsHeldB_iff.mp (by decide +kernel)
theorem w_applies : (headSpec (Jvm.Cond.code x code maxLocals ret :: tables_1) room_1).applies x e0.platform about1 = true :=
  (Spec.applies_iff w_frames).mpr ⟨w_running, w_runnable, w_alone, w_named, w_hears, w_ripe, w_room, w_tables⟩
theorem atStart : AtStart classFile x code maxLocals ret World_1 tables_1 room_1 Calls_1 rest_1 Pre_1 launch0 p0 e0 about1 theMethod args0 below0 :=
  ⟨lists_1, trivial, launch0.admits_env _ _ _, launch0.least_env, fairChoices_fair.cas, fairChoices_fair.clock, w_frames, w_args, w_heap, w_applies, ⟨w_consts, trivial⟩, w_rest, w_case⟩
end start1
theorem witness_1 : WitnessClaimed_1 := ⟨start1.p0, start1.e0, start1.about1, start1.theMethod, start1.args0, start1.below0, start1.atStart⟩
end Jvm.Pilot.@@N@@
