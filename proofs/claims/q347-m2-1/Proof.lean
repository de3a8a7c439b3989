import JvmDerived
import JvmDerived.Pilot.@@N@@Statement
import JvmDerived.Pilot.@@N@@Code
set_option linter.unusedVariables false
set_option linter.unusedSimpArgs false
namespace Jvm.RoadKit
open Sem ClassFile Op Lib Jvm.Stand Jvm.Free Jvm.LawKit
section OwnGo
variable {p : Program} {l : Launch} {e : Env} {R : Room} {s : State} {m : MethodId} {args : Array Value} {below : List Frame} {meth : Method} {c : Code} {T T' : State} {locs : List Loc} {cells slots ck sk : Nat} {Q : Option Value → Heap → List Loc → Prop}
/-- from the state T the body comes to its end, with Q -/
def Go (p : Program) (e : Env) (below : List Frame) (s : State) (ck sk : Nat) (Q : Option Value → Heap → List Loc → Prop) (T : State) : Prop :=
  ∃ s₂ o, Steps p.tables e below T s₂ ∧ s₂.status = .running ∧ Ended s₂ below o ∧ ∃ v L, o = .returned v ∧ Q v s₂.heap L ∧ FrameEnd s o s₂ L ck sk
theorem Go.by (h : ∀ t, Steps p.tables e below T' t → Steps p.tables e below T t) (g : Go p e below s ck sk Q T') : Go p e below s ck sk Q T := by
  obtain ⟨s₂, o, h1, r⟩ := g
  exact ⟨s₂, o, h _ h1, r⟩
theorem Go.tr (h : Steps p.tables e below T T') (g : Go p e below s ck sk Q T') : Go p e below s ck sk Q T := by
  obtain ⟨s₂, o, h1, r⟩ := g
  exact ⟨s₂, o, h.trans h1, r⟩
theorem Go.fin (X : Stand p l e R s m args below meth c T locs cells slots) {v : Option Value} (hv : meth.sig.returnType = none → v = none) (hlk : meth.locks = false)
    (st : ∀ fs : List Frame, (∀ (f : JFrame) (acts : List Action), f.method = m → f.locked = none → f.entered = [] → (doReturn e (T.setTop f) acts v).1 = T.setFrames fs) → Steps p.tables e below T' (T.setFrames fs))
    (hq : Q v T.heap locs) (hc : cells ≤ ck) (hs : slots ≤ sk) : Go p e below s ck sk Q T' := by
  obtain ⟨fs, hr, hrun, hended, hW, hsame⟩ := X.leave hv hlk
  exact ⟨_, _, st fs hr, hrun, hended, _, _, rfl, hq, ⟨_, rfl⟩, hW, hsame.mono hc hs⟩
theorem Go.retV (X : Stand p l e R s m args below meth c T locs cells slots) (hx : p.tables.exec = Jvm.exec) {pc : Nat} {Ls : Array Slot} (hret : meth.sig.returnType = none) (hlk : meth.locks = false) (hd : decode c.code pc = .ok (.return_, 1))
    (hq : Q none T.heap locs) (hc : cells ≤ ck) (hs : slots ≤ sk) : Go p e below s ck sk Q (T.setTop (mkF m pc Ls [])) :=
  Go.fin X (fun _ => rfl) hlk (fun fs hr => X.returnOut hx hret hd hr) hq hc hs
theorem Go.retN (X : Stand p l e R s m args below meth c T locs cells slots) (hx : p.tables.exec = Jvm.exec) {pc : Nat} {Ls : Array Slot} {z : Int32} {t : FieldType} {rest : List Value} (hret : meth.sig.returnType = some t) (ht : t = .boolean ∨ t = .byte ∨ t = .char ∨ t = .short) (hlk : meth.locks = false) (hd : decode c.code pc = .ok (.ireturn, 1))
    (hq : Q (some (.int (nar t z))) T.heap locs) (hc : cells ≤ ck) (hs : slots ≤ sk) : Go p e below s ck sk Q (T.setTop (mkF m pc Ls (.int z :: rest))) :=
  Go.fin X (fun h => by rw [hret] at h; cases h) hlk (fun fs hr => Jvm.RoadKit.retN X hx hret ht hd hr) hq hc hs
theorem Go.retI (X : Stand p l e R s m args below meth c T locs cells slots) (hx : p.tables.exec = Jvm.exec) {pc : Nat} {Ls : Array Slot} {z : Int32} {rest : List Value} (hret : meth.sig.returnType = some .int) (hlk : meth.locks = false) (hd : decode c.code pc = .ok (.ireturn, 1))
    (hq : Q (some (.int z)) T.heap locs) (hc : cells ≤ ck) (hs : slots ≤ sk) : Go p e below s ck sk Q (T.setTop (mkF m pc Ls (.int z :: rest))) :=
  Go.fin X (fun h => by rw [hret] at h; cases h) hlk (fun fs hr => retOut X hx hret rfl (Or.inl ⟨rfl, Or.inl rfl, z, rfl⟩) hd hr) hq hc hs
theorem Go.retJ (X : Stand p l e R s m args below meth c T locs cells slots) (hx : p.tables.exec = Jvm.exec) {pc : Nat} {Ls : Array Slot} {z : Int64} {rest : List Value} (hret : meth.sig.returnType = some .long) (hlk : meth.locks = false) (hd : decode c.code pc = .ok (.lreturn, 1))
    (hq : Q (some (.long z)) T.heap locs) (hc : cells ≤ ck) (hs : slots ≤ sk) : Go p e below s ck sk Q (T.setTop (mkF m pc Ls (.long z :: rest))) :=
  Go.fin X (fun h => by rw [hret] at h; cases h) hlk (fun fs hr => retOut X hx hret rfl (Or.inr (Or.inl ⟨rfl, rfl, z, rfl⟩)) hd hr) hq hc hs
theorem Go.retR (X : Stand p l e R s m args below meth c T locs cells slots) (hx : p.tables.exec = Jvm.exec) {pc : Nat} {Ls : Array Slot} {w : Value} {t : FieldType} {rest : List Value} (hret : meth.sig.returnType = some t) (ht : t.isReference = true) (hw : w.isRef = true) (hlk : meth.locks = false) (hd : decode c.code pc = .ok (.areturn, 1))
    (hq : Q (some w) T.heap locs) (hc : cells ≤ ck) (hs : slots ≤ sk) : Go p e below s ck sk Q (T.setTop (mkF m pc Ls (w :: rest))) := by
  refine Go.fin X (fun h => by rw [hret] at h; cases h) hlk (fun fs hr => retOut X hx hret ?_ (Or.inr (Or.inr (Or.inr (Or.inr ⟨rfl, ht, hw⟩)))) hd hr) hq hc hs
  rcases ref_cases hw with rfl | ⟨a, rfl⟩ <;> cases t <;> first | rfl | cases ht
/-- the same where Strings may be interned on the way -/
def GoW (p : Program) (e : Env) (below : List Frame) (s : State) (ck sk : Nat) (Q : Option Value → Heap → List Loc → Prop) (T : State) : Prop :=
  ∃ s₂ o, Steps p.tables e below T s₂ ∧ s₂.status = .running ∧ Ended s₂ below o ∧ ∃ v L, o = .returned v ∧ Q v s₂.heap L ∧ ReturnedEndW s o s₂ L ck sk
theorem GoW.by (h : ∀ t, Steps p.tables e below T' t → Steps p.tables e below T t) (g : GoW p e below s ck sk Q T') : GoW p e below s ck sk Q T := by
  obtain ⟨s₂, o, h1, r⟩ := g
  exact ⟨s₂, o, h _ h1, r⟩
theorem GoW.tr (h : Steps p.tables e below T T') (g : GoW p e below s ck sk Q T') : GoW p e below s ck sk Q T := by
  obtain ⟨s₂, o, h1, r⟩ := g
  exact ⟨s₂, o, h.trans h1, r⟩
theorem GoW.fin {vm1 : Vm} {k1 : Nat} (X : Stand p l e R (s.setVm vm1) m args below meth c T locs cells slots) (hS : s.Since vm1 k1) (hk : k1 ≤ T.heap.size) {v : Option Value} (hv : meth.sig.returnType = none → v = none) (hlk : meth.locks = false)
    (st : ∀ fs : List Frame, (∀ (f : JFrame) (acts : List Action), f.method = m → f.locked = none → f.entered = [] → (doReturn e (T.setTop f) acts v).1 = T.setFrames fs) → Steps p.tables e below T' (T.setFrames fs))
    (hq : Q v T.heap locs) (hc : cells ≤ ck) (hs : slots ≤ sk) : GoW p e below s ck sk Q T' := by
  obtain ⟨fs, hr, hrun, hended, hW, hsame⟩ := X.leave hv hlk
  obtain ⟨q1, q2, q3⟩ := hS.ended (U := T.setFrames fs) hW hk hsame
  exact ⟨_, _, st fs hr, hrun, hended, _, _, rfl, hq, ⟨_, rfl⟩, q1, q2, q3.mono hc hs⟩
theorem GoW.retV {vm1 : Vm} {k1 : Nat} (X : Stand p l e R (s.setVm vm1) m args below meth c T locs cells slots) (hS : s.Since vm1 k1) (hk : k1 ≤ T.heap.size) (hx : p.tables.exec = Jvm.exec) {pc : Nat} {Ls : Array Slot} (hret : meth.sig.returnType = none) (hlk : meth.locks = false) (hd : decode c.code pc = .ok (.return_, 1))
    (hq : Q none T.heap locs) (hc : cells ≤ ck) (hs : slots ≤ sk) : GoW p e below s ck sk Q (T.setTop (mkF m pc Ls [])) :=
  GoW.fin X hS hk (fun _ => rfl) hlk (fun fs hr => X.returnOut hx hret hd hr) hq hc hs
theorem GoW.retN {vm1 : Vm} {k1 : Nat} (X : Stand p l e R (s.setVm vm1) m args below meth c T locs cells slots) (hS : s.Since vm1 k1) (hk : k1 ≤ T.heap.size) (hx : p.tables.exec = Jvm.exec) {pc : Nat} {Ls : Array Slot} {z : Int32} {t : FieldType} {rest : List Value} (hret : meth.sig.returnType = some t) (ht : t = .boolean ∨ t = .byte ∨ t = .char ∨ t = .short) (hlk : meth.locks = false) (hd : decode c.code pc = .ok (.ireturn, 1))
    (hq : Q (some (.int (nar t z))) T.heap locs) (hc : cells ≤ ck) (hs : slots ≤ sk) : GoW p e below s ck sk Q (T.setTop (mkF m pc Ls (.int z :: rest))) :=
  GoW.fin X hS hk (fun h => by rw [hret] at h; cases h) hlk (fun fs hr => Jvm.RoadKit.retN X hx hret ht hd hr) hq hc hs
theorem GoW.retR {vm1 : Vm} {k1 : Nat} (X : Stand p l e R (s.setVm vm1) m args below meth c T locs cells slots) (hS : s.Since vm1 k1) (hk : k1 ≤ T.heap.size) (hx : p.tables.exec = Jvm.exec) {pc : Nat} {Ls : Array Slot} {w : Value} {t : FieldType} {rest : List Value} (hret : meth.sig.returnType = some t) (ht : t.isReference = true) (hw : w.isRef = true) (hlk : meth.locks = false) (hd : decode c.code pc = .ok (.areturn, 1))
    (hq : Q (some w) T.heap locs) (hc : cells ≤ ck) (hs : slots ≤ sk) : GoW p e below s ck sk Q (T.setTop (mkF m pc Ls (w :: rest))) := by
  refine GoW.fin X hS hk (fun h => by rw [hret] at h; cases h) hlk (fun fs hr => retOut X hx hret ?_ (Or.inr (Or.inr (Or.inr (Or.inr ⟨rfl, ht, hw⟩)))) hd hr) hq hc hs
  rcases ref_cases hw with rfl | ⟨a, rfl⟩ <;> cases t <;> first | rfl | cases ht
end OwnGo
theorem own_selp {Z s : State} {a0 args : Array Value} {y : MethodName} {n : Nat} (hZ : Z.Warmed39 s.vm) (wi : (Cond.instantiable y.cls n).before a0 Z = true) (wp : (Cond.privateMethod y).before a0 Z = true) (wm : (Cond.instanceMethod y).before a0 Z = true) (hy : y.cls ≠ "java/lang/invoke/MethodHandle" ∧ y.cls ≠ "java/lang/invoke/VarHandle") : (Cond.selects y.cls y y).before args s = true := by
  obtain ⟨c, k, h1, h2, -, h4, -⟩ := Cond.instantiable_spec (mv (args := args) hZ wi)
  exact selects_self_of_private h1 h2 (by simpa using (Bool.or_eq_false_iff.mp h4).1) (Cond.privateMethod_at (mvP (args := args) hZ wp)) (mv hZ wm) hy
theorem own_zn {z : Int32} (h : z = (0 : Int32) ∨ z = (1 : Int32)) : narrow .boolean (.int z) = .int z := by rcases h with rfl | rfl <;> rfl
theorem own_zf {z : Int32} (h : z = (0 : Int32) ∨ z = (1 : Int32)) : fits .boolean (.int z) = true := by rcases h with rfl | rfl <;> rfl
theorem own_ns {Z : State} {h : Heap} {b : Addr} {C : String} (E : Exa Z h b C) : ∀ cell : Cell, h[b]? = some cell → cell.vm.isStatics = false := fun cell hc => by
  obtain ⟨c, _, h1, -, -, h4, -⟩ := E
  cases h1.symm.trans hc
  exact h4
theorem own_stakeep {Z : State} {h h' : Heap} {C n d : String} {v : Value} {ws : List Addr} (F : Sta Z h C n d v) (K : Keep h h' ws) (q : ∀ x ∈ ws, ∀ cell : Cell, h[x]? = some cell → cell.vm.isStatics = false) : Sta Z h' C n d v := by
  obtain ⟨cf, i, k, f, st, cell, h1, h2, h3, h4, h5, h6, h7⟩ := F
  refine ⟨cf, i, k, f, st, cell, h1, h2, h3, h4, K.2.1 st cell h5 fun z => ?_, h6, h7⟩
  rw [q st z cell h5] at h6
  cases h6
section OwnLong
variable {Z : State} {h h' : Heap} {a b : Addr} {k : ClassId} {n j : Int32} {x : Int64} {ws : List Addr} {sl : Nat} {v : Value}
/-- a long[] of the length n, whatever it holds -/
def LA (Z : State) (h : Heap) (a : Addr) (k : ClassId) (n : Int32) : Prop := ∃ c : Cell, Arr Z h a c .long ∧ c.cls = k ∧ c.slots.size = n.toNatClampNeg ∧ ¬ n < 0 ∧ ∀ i, i < c.slots.size → ∃ x : Int64, c.slots[i]? = some (.long x)
theorem LA.lt (F : LA Z h a k n) : a < h.size := by obtain ⟨c, A, -⟩ := F; exact A.lt
theorem LA.ext (F : LA Z h a k n) (E : Ext h h') : LA Z h' a k n := by obtain ⟨c, A, r⟩ := F; exact ⟨c, A.ext E, r⟩
theorem LA.other (F : LA Z h b k n) (W : Wr h h' a sl v) (q : b ≠ a) : LA Z h' b k n := by obtain ⟨c, A, r⟩ := F; exact ⟨c, A.other W q, r⟩
theorem LA.keep (F : LA Z h a k n) (K : Keep h h' ws) (q : a ∉ ws) : LA Z h' a k n := by obtain ⟨c, A, r⟩ := F; exact ⟨c, ⟨K.2.1 a c A.1 q, A.2⟩, r⟩
theorem LA.new (A : Arr Z h a (newA k .long n) .long) (q : ¬ n < 0) : LA Z h a k n := ⟨_, A, rfl, sz_new _ _ _, q, fun i hi => ⟨0, by
  have hi' : i < n.toNatClampNeg := by rw [sz_new] at hi; exact hi
  show (Array.replicate n.toNatClampNeg (defaultValue .long))[i]? = _
  simp [hi', defaultValue]⟩⟩
theorem LA.set {c : Cell} (A : Arr Z h a c .long) (q1 : c.cls = k) (S : c.slots.size = n.toNatClampNeg) (q3 : ¬ n < 0) (G : ∀ i, i < c.slots.size → ∃ x : Int64, c.slots[i]? = some (.long x)) (W : Wr h h' a sl (.long x)) : LA Z h' a k n := by
  refine ⟨_, A.same W, q1, by rw [sz_set]; exact S, q3, fun i hi => ?_⟩
  rw [sz_set] at hi
  by_cases e : sl = i
  · subst e; exact ⟨x, by simp [Cell.setSlot, hi]⟩
  · obtain ⟨y, hy⟩ := G i hi
    exact ⟨y, by rw [← hy]; exact Array.getElem?_setIfInBounds_ne e⟩
end OwnLong
section OwnStart
variable {args : Array Value} {s : State} {a b t : Term}
theorem own_eqI {n : Int32} (h : (Cond.eq a (.int n)).value args s none s [] = some true) : a.eval args s none [] s = some (.int n) := by
  cases ha : a.eval args s none [] s with
  | none => simp [Cond.value, ha] at h
  | some x => cases x <;> simp [Cond.value, ha, Term.eval] at h ⊢ <;> exact h
theorem own_eqL {n : Int64} (h : (Cond.eq a (.long n)).value args s none s [] = some true) : a.eval args s none [] s = some (.long n) := by
  cases ha : a.eval args s none [] s with
  | none => simp [Cond.value, ha] at h
  | some x => cases x <;> simp [Cond.value, ha, Term.eval] at h ⊢ <;> exact h
theorem own_eqR {x : Addr} (h : (Cond.eq a b).value args s none s [] = some true) (hb : b.eval args s none [] s = some (.ref x)) : a.eval args s none [] s = some (.ref x) := by
  cases ha : a.eval args s none [] s with
  | none => simp [Cond.value, ha] at h
  | some y => cases y <;> simp [Cond.value, ha, hb] at h ⊢ <;> exact h
theorem own_neR {x y : Addr} (h : (Cond.not (Cond.eq a b)).value args s none s [] = some true) (ha : a.eval args s none [] s = some (.ref x)) (hb : b.eval args s none [] s = some (.ref y)) : x ≠ y := by
  intro e
  subst e
  simp [Cond.value, ha, hb] at h
theorem own_lenv {n : Int32} {x : Addr} {cl : Cell} (h : (Term.length t).eval args s none [] s = some (.int n)) (ht : t.eval args s none [] s = some (.ref x)) (hc : s.heap[x]? = some cl) : cl.slots.size < 2 ^ 31 ∧ cl.slots.size.toInt32 = n := by
  obtain ⟨a', cell, e1, e2, e3⟩ := Term.length_spec h
  cases ht.symm.trans e1
  have hcl : cell = cl := by
    simp only [State.arrayAt?, hc, Option.bind_eq_bind, Option.bind_some] at e2
    cases hk : s.vm.classes[cl.cls]? with
    | none => simp [hk] at e2
    | some k =>
      simp only [hk, Option.bind_some] at e2
      split at e2
      · cases e2
      · split at e2
        · exact (Option.some.inj e2).symm
        · cases e2
  subst hcl
  refine ⟨?_, (Value.int.inj e3).symm⟩
  simp only [Term.eval, ht, e2, Option.bind_eq_bind, Option.bind_some] at h
  split at h
  · assumption
  · cases h
end OwnStart
end Jvm.RoadKit
namespace Jvm.Pilot.@@N@@
open Jvm Jvm.ClassFile Sem Op Lib Jvm.Free Jvm.Stand Jvm.LawKit Jvm.RoadKit Bundle Jvm.Pilot.@@N@@.Jvm.D
theorem own_m3 (a : Int32) : a &&& (3 : Int32) = 0 ∨ a &&& (3 : Int32) = 1 ∨ a &&& (3 : Int32) = 2 ∨ a &&& (3 : Int32) = 3 := by
  have h := c_mask a 3 2 (by decide) (by decide)
  simp only [← Int32.toInt_inj, h]
  have e0 : (0 : Int32).toInt = 0 := by decide
  have e1 : (1 : Int32).toInt = 1 := by decide
  have e2 : (2 : Int32).toInt = 2 := by decide
  have e3 : (3 : Int32).toInt = 3 := by decide
  rw [e0, e1, e2, e3]; omega

theorem own_idx (o k : Int32) (kk : Int) (hk : k.toInt = kk) (h0 : 0 ≤ kk) (h1 : 64 * kk ≤ o.toInt) (h2 : o.toInt < 64 * kk + 64) : ((o.toUInt32 >>> ((6 : Int32) &&& 31).toUInt32).toInt32) = k := by
  have h := c_iushr o 6 6 (by decide) (by decide)
  have r := rng32 o
  rw [← Int32.toInt_inj, h, hk]
  omega

theorem dS0_0 : decode prog_62_method_3_code 0 = .ok (.iload_n 1, 1) := by decide +kernel
theorem dS0_1 : decode prog_62_method_3_code 1 = .ok (.ifCond .lt 31, 3) := by decide +kernel
theorem dS0_4 : decode prog_62_method_3_code 4 = .ok (.iload_n 1, 1) := by decide +kernel
theorem dS0_5 : decode prog_62_method_3_code 5 = .ok (.bipush 64, 2) := by decide +kernel
theorem dS0_7 : decode prog_62_method_3_code 7 = .ok (.aload_n 0, 1) := by decide +kernel
theorem dS0_8 : decode prog_62_method_3_code 8 = .ok (.arraylength, 1) := by decide +kernel
theorem dS0_9 : decode prog_62_method_3_code 9 = .ok (.imul, 1) := by decide +kernel
theorem dS0_10 : decode prog_62_method_3_code 10 = .ok (.if_icmp .ge 22, 3) := by decide +kernel
theorem dS0_32 : decode prog_62_method_3_code 32 = .ok (.iconst 0, 1) := by decide +kernel
theorem dS0_33 : decode prog_62_method_3_code 33 = .ok (.ireturn, 1) := by decide +kernel
theorem pnS0 : plainName "com/example/classwright/classwright/Instructions" = true := by first | (simp [plainName, overriddenIn]; done) | decide +kernel
theorem efS0 (m : MethodId) (b : Addr) (o : Int32) : entryFrame m #[(.ref b), (.int o)] 2 = mkF m 0 #[.val (.ref b), .val (.int o)] [] := by first | (simp [entryFrame, mkF, argsToLocals, Value.category]; done) | rfl
def fS0 (o : Int32) : Int32 := (if o < (0 : Int32) then (0 : Int32) else (0 : Int32))
def QS0 (Z : State) (b : Addr) (o : Int32) (kc : ClassId) (h0 : Heap) (n0 : Nat) (v : Option Value) (h : Heap) (L : List Loc) : Prop := v = some (.int (fS0 o)) ∧ Fr n0 L ∧ h = h0
set_option maxRecDepth 65536 in
set_option maxHeartbeats 40000000 in
theorem rmS0 (l : Launch) (Z : State) (a0 : Array Value) (hw : ∀ d ∈ tables_1, d.before a0 Z = true) (ws : List Jvm.Cond) (b : Addr) (o : Int32) (kc : ClassId) (h0 : Heap) (n0 : Nat) (Z0 : n0 ≤ h0.size) (Vb : Arv Z h0 b kc .long (0 : Int32) [] (.long (0 : Int64))) :
    MetFree l (⟨"com/example/classwright/classwright/Instructions", "startsAt", "([JI)Z"⟩ : MethodName) (head1 (Jvm.Cond.code (⟨"com/example/classwright/classwright/Instructions", "startsAt", "([JI)Z"⟩ : MethodName) prog_62_method_3_code 2 (some .boolean) :: ws) ({ frames := 0, cells := 0, slots := 0, locals := 0 } : Room)) (fun aa_ U_ => aa_ = #[(.ref b), (.int o)] ∧ Z.Warmed39 U_.vm ∧ U_.heap = h0) (fun _ _ _ _ _ => True) (fun _ U_ o_ V_ => ∃ v_ L_, o_ = .returned v_ ∧ QS0 Z b o kc h0 n0 v_ V_.heap L_ ∧ FrameEnd U_ o_ V_ L_ ({ frames := 0, cells := 0, slots := 0, locals := 0 } : Room).cells ({ frames := 0, cells := 0, slots := 0, locals := 0 } : Room).slots) := by
  refine MetFree.of_bodySF (plainFor_of_name pnS0) hisR ?_
  intro p e s m args below meth c s₁ Bd hml0 hP hK
  obtain ⟨rfl, hZ, hh⟩ := hP
  have hx := Bd.exec
  have hby := Bd.bytes
  have hml : c.maxLocals = 2 := hml0
  have hown : s.vm.findClass "com/example/classwright/classwright/Instructions" = some m.cls := findClass_of_methodNamed Bd.named
  have hnm := (name_of_methodNamed Bd.named Bd.method).1
  have hlk : meth.locks = false := BodyLoose.notSynchronized Bd
  have hret : meth.sig.returnType = (some .boolean) := Bd.returns
  have X0 : Stand p l e ({ frames := 0, cells := 0, slots := 0, locals := 0 } : Room) s m #[(.ref b), (.int o)] below meth c s₁ [] 0 0 := Stand.of_body Bd
  have e0 : s₁.heap = h0 := by rw [← hh, Bd.state]; rfl
  have N0 := Fr.nil n0
  show Go p e below s ({ frames := 0, cells := 0, slots := 0, locals := 0 } : Room).cells ({ frames := 0, cells := 0, slots := 0, locals := 0 } : Room).slots (QS0 Z b o kc h0 n0) (s₁.setTop (entryFrame m #[(.ref b), (.int o)] 2))
  rw [efS0]
  refine Go.by (fun _ kont => XS.iloadN X0.here hx rfl (hb hby dS0_0) rfl kont) ?_
  show Go _ _ _ _ _ _ _ (s₁.setTop (mkF m 1 #[.val (.ref b), .val (.int o)] [(.int o)]))
  by_cases hc101 : o < (0 : Int32)
  · refine Go.by (fun _ kont => XS.ifYes X0.here hx rfl (pc0 := 1) (pc' := 32) rfl (hb hby dS0_1) rfl ((if0 _ _).trans (tlt hc101).1) (by decide) (by decide) kont) ?_
    show Go _ _ _ _ _ _ _ (s₁.setTop (mkF m 32 #[.val (.ref b), .val (.int o)] []))
    refine Go.by (fun _ kont => XS.iconst X0.here hx rfl (hb hby dS0_32) kont) ?_
    show Go _ _ _ _ _ _ _ (s₁.setTop (mkF m 33 #[.val (.ref b), .val (.int o)] [(.int (0 : Int32))]))
    refine Go.retN X0 hx (t := .boolean) hret (by simp) hlk (hb hby dS0_33) ?_ (by decide) (by decide)
    show QS0 Z b o kc h0 n0 (some (.int (0 : Int32))) s₁.heap _
    rw [e0]
    refine ⟨?_, N0, rfl⟩
    unfold fS0
    rw [if_pos hc101]
  · refine Go.by (fun _ kont => XS.ifNo X0.here hx rfl (hb hby dS0_1) rfl ((if0 _ _).trans (flt hc101).1) kont) ?_
    show Go _ _ _ _ _ _ _ (s₁.setTop (mkF m 4 #[.val (.ref b), .val (.int o)] []))
    refine Go.by (fun _ kont => XS.iloadN X0.here hx rfl (hb hby dS0_4) rfl (XS.bipush X0.here hx rfl (hb hby dS0_5) (XS.aloadN X0.here hx rfl (hb hby dS0_7) rfl rfl kont))) ?_
    show Go _ _ _ _ _ _ _ (s₁.setTop (mkF m 8 #[.val (.ref b), .val (.int o)] [(.ref b), (.int (64 : Int32)), (.int o)]))
    obtain ⟨cl_q102, Ar_q102, q1_q102, S_q102, N_q102, H_q102, G_q102⟩ := id Vb
    refine Go.by (X0.arraylength hx (by first | exact Ar_q102.1 | (rw [e0]; exact Ar_q102.1)) (State.isArrayOf_alike hZ.alike Ar_q102.2.1) (g := (mkF m 8 #[.val (.ref b), .val (.int o)] [(.ref b), (.int (64 : Int32)), (.int o)])) rfl rfl (hb hby dS0_8)) ?_
    rw [len_of S_q102 N_q102]
    show Go _ _ _ _ _ _ _ (s₁.setTop (mkF m 9 #[.val (.ref b), .val (.int o)] [(.int (0 : Int32)), (.int (64 : Int32)), (.int o)]))
    refine Go.by (fun _ kont => XS.imul X0.here hx rfl (hb hby dS0_9) rfl kont) ?_
    show Go _ _ _ _ _ _ _ (s₁.setTop (mkF m 10 #[.val (.ref b), .val (.int o)] [(.int ((64 : Int32) * (0 : Int32))), (.int o)]))
    rw [show ((64 : Int32) * (0 : Int32)) = (0 : Int32) from by decide]
    show Go _ _ _ _ _ _ _ (s₁.setTop (mkF m 10 #[.val (.ref b), .val (.int o)] [(.int (0 : Int32)), (.int o)]))
    refine Go.by (fun _ kont => XS.icmpYes X0.here hx rfl (pc0 := 10) (pc' := 32) rfl (hb hby dS0_10) rfl (flt hc101).2.1 (by decide) (by decide) kont) ?_
    show Go _ _ _ _ _ _ _ (s₁.setTop (mkF m 32 #[.val (.ref b), .val (.int o)] []))
    refine Go.by (fun _ kont => XS.iconst X0.here hx rfl (hb hby dS0_32) kont) ?_
    show Go _ _ _ _ _ _ _ (s₁.setTop (mkF m 33 #[.val (.ref b), .val (.int o)] [(.int (0 : Int32))]))
    refine Go.retN X0 hx (t := .boolean) hret (by simp) hlk (hb hby dS0_33) ?_ (by decide) (by decide)
    show QS0 Z b o kc h0 n0 (some (.int (0 : Int32))) s₁.heap _
    rw [e0]
    refine ⟨?_, N0, rfl⟩
    unfold fS0
    rw [if_neg hc101]

theorem dS1_0 : decode prog_62_method_3_code 0 = .ok (.iload_n 1, 1) := by decide +kernel
theorem dS1_1 : decode prog_62_method_3_code 1 = .ok (.ifCond .lt 31, 3) := by decide +kernel
theorem dS1_4 : decode prog_62_method_3_code 4 = .ok (.iload_n 1, 1) := by decide +kernel
theorem dS1_5 : decode prog_62_method_3_code 5 = .ok (.bipush 64, 2) := by decide +kernel
theorem dS1_7 : decode prog_62_method_3_code 7 = .ok (.aload_n 0, 1) := by decide +kernel
theorem dS1_8 : decode prog_62_method_3_code 8 = .ok (.arraylength, 1) := by decide +kernel
theorem dS1_9 : decode prog_62_method_3_code 9 = .ok (.imul, 1) := by decide +kernel
theorem dS1_10 : decode prog_62_method_3_code 10 = .ok (.if_icmp .ge 22, 3) := by decide +kernel
theorem dS1_13 : decode prog_62_method_3_code 13 = .ok (.aload_n 0, 1) := by decide +kernel
theorem dS1_14 : decode prog_62_method_3_code 14 = .ok (.iload_n 1, 1) := by decide +kernel
theorem dS1_15 : decode prog_62_method_3_code 15 = .ok (.bipush 6, 2) := by decide +kernel
theorem dS1_17 : decode prog_62_method_3_code 17 = .ok (.iushr, 1) := by decide +kernel
theorem dS1_18 : decode prog_62_method_3_code 18 = .ok (.laload, 1) := by decide +kernel
theorem dS1_19 : decode prog_62_method_3_code 19 = .ok (.lconst 1, 1) := by decide +kernel
theorem dS1_20 : decode prog_62_method_3_code 20 = .ok (.iload_n 1, 1) := by decide +kernel
theorem dS1_21 : decode prog_62_method_3_code 21 = .ok (.lshl, 1) := by decide +kernel
theorem dS1_22 : decode prog_62_method_3_code 22 = .ok (.land, 1) := by decide +kernel
theorem dS1_23 : decode prog_62_method_3_code 23 = .ok (.lconst 0, 1) := by decide +kernel
theorem dS1_24 : decode prog_62_method_3_code 24 = .ok (.lcmp, 1) := by decide +kernel
theorem dS1_25 : decode prog_62_method_3_code 25 = .ok (.ifCond .eq 7, 3) := by decide +kernel
theorem dS1_28 : decode prog_62_method_3_code 28 = .ok (.iconst 1, 1) := by decide +kernel
theorem dS1_29 : decode prog_62_method_3_code 29 = .ok (.goto 4, 3) := by decide +kernel
theorem dS1_32 : decode prog_62_method_3_code 32 = .ok (.iconst 0, 1) := by decide +kernel
theorem dS1_33 : decode prog_62_method_3_code 33 = .ok (.ireturn, 1) := by decide +kernel
theorem pnS1 : plainName "com/example/classwright/classwright/Instructions" = true := by first | (simp [plainName, overriddenIn]; done) | decide +kernel
theorem efS1 (m : MethodId) (b : Addr) (o : Int32) : entryFrame m #[(.ref b), (.int o)] 2 = mkF m 0 #[.val (.ref b), .val (.int o)] [] := by first | (simp [entryFrame, mkF, argsToLocals, Value.category]; done) | rfl
def fS1 (o : Int32) (v0 : Int64) : Int32 := (if o < (0 : Int32) then (0 : Int32) else (if o < (64 : Int32) then (if (v0 &&& ((1 : Int64) <<< (o &&& 0x3f).toInt64)) = (0 : Int64) then (0 : Int32) else (1 : Int32)) else (0 : Int32)))
def QS1 (Z : State) (b : Addr) (o : Int32) (kc : ClassId) (v0 : Int64) (h0 : Heap) (n0 : Nat) (v : Option Value) (h : Heap) (L : List Loc) : Prop := v = some (.int (fS1 o v0)) ∧ Fr n0 L ∧ h = h0
set_option maxRecDepth 65536 in
set_option maxHeartbeats 40000000 in
theorem rmS1 (l : Launch) (Z : State) (a0 : Array Value) (hw : ∀ d ∈ tables_1, d.before a0 Z = true) (ws : List Jvm.Cond) (b : Addr) (o : Int32) (kc : ClassId) (v0 : Int64) (h0 : Heap) (n0 : Nat) (Z0 : n0 ≤ h0.size) (Vb : Arv Z h0 b kc .long (1 : Int32) [(.long v0)] (.long (0 : Int64))) :
    MetFree l (⟨"com/example/classwright/classwright/Instructions", "startsAt", "([JI)Z"⟩ : MethodName) (head1 (Jvm.Cond.code (⟨"com/example/classwright/classwright/Instructions", "startsAt", "([JI)Z"⟩ : MethodName) prog_62_method_3_code 2 (some .boolean) :: ws) ({ frames := 0, cells := 0, slots := 0, locals := 0 } : Room)) (fun aa_ U_ => aa_ = #[(.ref b), (.int o)] ∧ Z.Warmed39 U_.vm ∧ U_.heap = h0) (fun _ _ _ _ _ => True) (fun _ U_ o_ V_ => ∃ v_ L_, o_ = .returned v_ ∧ QS1 Z b o kc v0 h0 n0 v_ V_.heap L_ ∧ FrameEnd U_ o_ V_ L_ ({ frames := 0, cells := 0, slots := 0, locals := 0 } : Room).cells ({ frames := 0, cells := 0, slots := 0, locals := 0 } : Room).slots) := by
  refine MetFree.of_bodySF (plainFor_of_name pnS1) hisR ?_
  intro p e s m args below meth c s₁ Bd hml0 hP hK
  obtain ⟨rfl, hZ, hh⟩ := hP
  have hx := Bd.exec
  have hby := Bd.bytes
  have hml : c.maxLocals = 2 := hml0
  have hown : s.vm.findClass "com/example/classwright/classwright/Instructions" = some m.cls := findClass_of_methodNamed Bd.named
  have hnm := (name_of_methodNamed Bd.named Bd.method).1
  have hlk : meth.locks = false := BodyLoose.notSynchronized Bd
  have hret : meth.sig.returnType = (some .boolean) := Bd.returns
  have X0 : Stand p l e ({ frames := 0, cells := 0, slots := 0, locals := 0 } : Room) s m #[(.ref b), (.int o)] below meth c s₁ [] 0 0 := Stand.of_body Bd
  have e0 : s₁.heap = h0 := by rw [← hh, Bd.state]; rfl
  have N0 := Fr.nil n0
  show Go p e below s ({ frames := 0, cells := 0, slots := 0, locals := 0 } : Room).cells ({ frames := 0, cells := 0, slots := 0, locals := 0 } : Room).slots (QS1 Z b o kc v0 h0 n0) (s₁.setTop (entryFrame m #[(.ref b), (.int o)] 2))
  rw [efS1]
  refine Go.by (fun _ kont => XS.iloadN X0.here hx rfl (hb hby dS1_0) rfl kont) ?_
  show Go _ _ _ _ _ _ _ (s₁.setTop (mkF m 1 #[.val (.ref b), .val (.int o)] [(.int o)]))
  by_cases hc101 : o < (0 : Int32)
  · refine Go.by (fun _ kont => XS.ifYes X0.here hx rfl (pc0 := 1) (pc' := 32) rfl (hb hby dS1_1) rfl ((if0 _ _).trans (tlt hc101).1) (by decide) (by decide) kont) ?_
    show Go _ _ _ _ _ _ _ (s₁.setTop (mkF m 32 #[.val (.ref b), .val (.int o)] []))
    refine Go.by (fun _ kont => XS.iconst X0.here hx rfl (hb hby dS1_32) kont) ?_
    show Go _ _ _ _ _ _ _ (s₁.setTop (mkF m 33 #[.val (.ref b), .val (.int o)] [(.int (0 : Int32))]))
    refine Go.retN X0 hx (t := .boolean) hret (by simp) hlk (hb hby dS1_33) ?_ (by decide) (by decide)
    show QS1 Z b o kc v0 h0 n0 (some (.int (0 : Int32))) s₁.heap _
    rw [e0]
    refine ⟨?_, N0, rfl⟩
    unfold fS1
    rw [if_pos hc101]
  · refine Go.by (fun _ kont => XS.ifNo X0.here hx rfl (hb hby dS1_1) rfl ((if0 _ _).trans (flt hc101).1) kont) ?_
    show Go _ _ _ _ _ _ _ (s₁.setTop (mkF m 4 #[.val (.ref b), .val (.int o)] []))
    refine Go.by (fun _ kont => XS.iloadN X0.here hx rfl (hb hby dS1_4) rfl (XS.bipush X0.here hx rfl (hb hby dS1_5) (XS.aloadN X0.here hx rfl (hb hby dS1_7) rfl rfl kont))) ?_
    show Go _ _ _ _ _ _ _ (s₁.setTop (mkF m 8 #[.val (.ref b), .val (.int o)] [(.ref b), (.int (64 : Int32)), (.int o)]))
    obtain ⟨cl_q102, Ar_q102, q1_q102, S_q102, N_q102, H_q102, G_q102⟩ := id Vb
    refine Go.by (X0.arraylength hx (by first | exact Ar_q102.1 | (rw [e0]; exact Ar_q102.1)) (State.isArrayOf_alike hZ.alike Ar_q102.2.1) (g := (mkF m 8 #[.val (.ref b), .val (.int o)] [(.ref b), (.int (64 : Int32)), (.int o)])) rfl rfl (hb hby dS1_8)) ?_
    rw [len_of S_q102 N_q102]
    show Go _ _ _ _ _ _ _ (s₁.setTop (mkF m 9 #[.val (.ref b), .val (.int o)] [(.int (1 : Int32)), (.int (64 : Int32)), (.int o)]))
    refine Go.by (fun _ kont => XS.imul X0.here hx rfl (hb hby dS1_9) rfl kont) ?_
    show Go _ _ _ _ _ _ _ (s₁.setTop (mkF m 10 #[.val (.ref b), .val (.int o)] [(.int ((64 : Int32) * (1 : Int32))), (.int o)]))
    rw [show ((64 : Int32) * (1 : Int32)) = (64 : Int32) from by decide]
    show Go _ _ _ _ _ _ _ (s₁.setTop (mkF m 10 #[.val (.ref b), .val (.int o)] [(.int (64 : Int32)), (.int o)]))
    by_cases hc103 : o < (64 : Int32)
    · refine Go.by (fun _ kont => XS.icmpNo X0.here hx rfl (hb hby dS1_10) rfl (tlt hc103).2.1 kont) ?_
      show Go _ _ _ _ _ _ _ (s₁.setTop (mkF m 13 #[.val (.ref b), .val (.int o)] []))
      refine Go.by (fun _ kont => XS.aloadN X0.here hx rfl (hb hby dS1_13) rfl rfl (XS.iloadN X0.here hx rfl (hb hby dS1_14) rfl (XS.bipush X0.here hx rfl (hb hby dS1_15) (XS.iushr X0.here hx rfl (hb hby dS1_17) rfl kont)))) ?_
      show Go _ _ _ _ _ _ _ (s₁.setTop (mkF m 18 #[.val (.ref b), .val (.int o)] [(.int ((o.toUInt32 >>> ((6 : Int32) &&& 31).toUInt32).toInt32)), (.ref b)]))
      have hj : ((o.toUInt32 >>> ((6 : Int32) &&& 31).toUInt32).toInt32) = (0 : Int32) := own_idx o 0 0 (by decide) (by decide) (by have q0 := hc101; have q1 : (0 : Int32).toInt = 0 := (by decide); rw [Int32.lt_iff_toInt_lt] at q0; omega) (by have q0 := hc103; have q1 : (64 : Int32).toInt = 64 := (by decide); rw [Int32.lt_iff_toInt_lt] at q0; omega)
      rw [hj]
      show Go _ _ _ _ _ _ _ (s₁.setTop (mkF m 18 #[.val (.ref b), .val (.int o)] [(.int (0 : Int32)), (.ref b)]))
      obtain ⟨cl_q104, Ar_q104, q1_q104, S_q104, N_q104, H_q104, G_q104⟩ := id Vb
      have hin_q104 : ¬ ((0 : Int32) < 0 ∨ cl_q104.slots.size ≤ ((0 : Int32)).toNatClampNeg) := inb_of S_q104 ⟨by decide, by decide⟩
      have hat_q104 : cl_q104.slots[((0 : Int32)).toNatClampNeg]? = some (.long v0) := Has.at H_q104 hin_q104 rfl
      refine Go.by (X0.laload hx (j := (0 : Int32)) (v := (.long v0)) (by first | exact Ar_q104.1 | (rw [e0]; exact Ar_q104.1)) (State.isArrayOf_alike hZ.alike Ar_q104.2.1) Ar_q104.2.2 hin_q104 hat_q104 (g := (mkF m 18 #[.val (.ref b), .val (.int o)] [(.int (0 : Int32)), (.ref b)])) rfl rfl (hb hby dS1_18)) ?_
      show Go _ _ _ _ _ _ _ (s₁.setTop (mkF m 19 #[.val (.ref b), .val (.int o)] [(.long v0)]))
      refine Go.by (fun _ kont => XS.lconst X0.here hx rfl (hb hby dS1_19) (XS.iloadN X0.here hx rfl (hb hby dS1_20) rfl (XS.lshl X0.here hx rfl (hb hby dS1_21) rfl (XS.land X0.here hx rfl (hb hby dS1_22) rfl (XS.lconst X0.here hx rfl (hb hby dS1_23) (XS.lcmp X0.here hx rfl (hb hby dS1_24) rfl kont)))))) ?_
      show Go _ _ _ _ _ _ _ (s₁.setTop (mkF m 25 #[.val (.ref b), .val (.int o)] [(.int (lcmpW (v0 &&& ((1 : Int64) <<< (o &&& 0x3f).toInt64)) (0 : Int64)))]))
      by_cases hc105 : (v0 &&& ((1 : Int64) <<< (o &&& 0x3f).toInt64)) = (0 : Int64)
      · refine Go.by (fun _ kont => XS.ifYes X0.here hx rfl (pc0 := 25) (pc' := 32) rfl (hb hby dS1_25) rfl ((if0 _ _).trans (teq ((lw_eq _ _).mpr hc105)).1) (by decide) (by decide) kont) ?_
        show Go _ _ _ _ _ _ _ (s₁.setTop (mkF m 32 #[.val (.ref b), .val (.int o)] []))
        refine Go.by (fun _ kont => XS.iconst X0.here hx rfl (hb hby dS1_32) kont) ?_
        show Go _ _ _ _ _ _ _ (s₁.setTop (mkF m 33 #[.val (.ref b), .val (.int o)] [(.int (0 : Int32))]))
        refine Go.retN X0 hx (t := .boolean) hret (by simp) hlk (hb hby dS1_33) ?_ (by decide) (by decide)
        show QS1 Z b o kc v0 h0 n0 (some (.int (0 : Int32))) s₁.heap _
        rw [e0]
        refine ⟨?_, N0, rfl⟩
        unfold fS1
        rw [if_neg hc101, if_pos hc103, if_pos hc105]
      · refine Go.by (fun _ kont => XS.ifNo X0.here hx rfl (hb hby dS1_25) rfl ((if0 _ _).trans (feq (fun z => hc105 ((lw_eq _ _).mp z))).1) kont) ?_
        show Go _ _ _ _ _ _ _ (s₁.setTop (mkF m 28 #[.val (.ref b), .val (.int o)] []))
        refine Go.by (fun _ kont => XS.iconst X0.here hx rfl (hb hby dS1_28) (XS.goto X0.here hx rfl (pc0 := 29) (pc' := 33) rfl (hb hby dS1_29) (by decide) (by decide) kont)) ?_
        show Go _ _ _ _ _ _ _ (s₁.setTop (mkF m 33 #[.val (.ref b), .val (.int o)] [(.int (1 : Int32))]))
        refine Go.retN X0 hx (t := .boolean) hret (by simp) hlk (hb hby dS1_33) ?_ (by decide) (by decide)
        show QS1 Z b o kc v0 h0 n0 (some (.int (1 : Int32))) s₁.heap _
        rw [e0]
        refine ⟨?_, N0, rfl⟩
        unfold fS1
        rw [if_neg hc101, if_pos hc103, if_neg hc105]
    · refine Go.by (fun _ kont => XS.icmpYes X0.here hx rfl (pc0 := 10) (pc' := 32) rfl (hb hby dS1_10) rfl (flt hc103).2.1 (by decide) (by decide) kont) ?_
      show Go _ _ _ _ _ _ _ (s₁.setTop (mkF m 32 #[.val (.ref b), .val (.int o)] []))
      refine Go.by (fun _ kont => XS.iconst X0.here hx rfl (hb hby dS1_32) kont) ?_
      show Go _ _ _ _ _ _ _ (s₁.setTop (mkF m 33 #[.val (.ref b), .val (.int o)] [(.int (0 : Int32))]))
      refine Go.retN X0 hx (t := .boolean) hret (by simp) hlk (hb hby dS1_33) ?_ (by decide) (by decide)
      show QS1 Z b o kc v0 h0 n0 (some (.int (0 : Int32))) s₁.heap _
      rw [e0]
      refine ⟨?_, N0, rfl⟩
      unfold fS1
      rw [if_neg hc101, if_neg hc103]

theorem dS2_0 : decode prog_62_method_3_code 0 = .ok (.iload_n 1, 1) := by decide +kernel
theorem dS2_1 : decode prog_62_method_3_code 1 = .ok (.ifCond .lt 31, 3) := by decide +kernel
theorem dS2_4 : decode prog_62_method_3_code 4 = .ok (.iload_n 1, 1) := by decide +kernel
theorem dS2_5 : decode prog_62_method_3_code 5 = .ok (.bipush 64, 2) := by decide +kernel
theorem dS2_7 : decode prog_62_method_3_code 7 = .ok (.aload_n 0, 1) := by decide +kernel
theorem dS2_8 : decode prog_62_method_3_code 8 = .ok (.arraylength, 1) := by decide +kernel
theorem dS2_9 : decode prog_62_method_3_code 9 = .ok (.imul, 1) := by decide +kernel
theorem dS2_10 : decode prog_62_method_3_code 10 = .ok (.if_icmp .ge 22, 3) := by decide +kernel
theorem dS2_13 : decode prog_62_method_3_code 13 = .ok (.aload_n 0, 1) := by decide +kernel
theorem dS2_14 : decode prog_62_method_3_code 14 = .ok (.iload_n 1, 1) := by decide +kernel
theorem dS2_15 : decode prog_62_method_3_code 15 = .ok (.bipush 6, 2) := by decide +kernel
theorem dS2_17 : decode prog_62_method_3_code 17 = .ok (.iushr, 1) := by decide +kernel
theorem dS2_18 : decode prog_62_method_3_code 18 = .ok (.laload, 1) := by decide +kernel
theorem dS2_19 : decode prog_62_method_3_code 19 = .ok (.lconst 1, 1) := by decide +kernel
theorem dS2_20 : decode prog_62_method_3_code 20 = .ok (.iload_n 1, 1) := by decide +kernel
theorem dS2_21 : decode prog_62_method_3_code 21 = .ok (.lshl, 1) := by decide +kernel
theorem dS2_22 : decode prog_62_method_3_code 22 = .ok (.land, 1) := by decide +kernel
theorem dS2_23 : decode prog_62_method_3_code 23 = .ok (.lconst 0, 1) := by decide +kernel
theorem dS2_24 : decode prog_62_method_3_code 24 = .ok (.lcmp, 1) := by decide +kernel
theorem dS2_25 : decode prog_62_method_3_code 25 = .ok (.ifCond .eq 7, 3) := by decide +kernel
theorem dS2_28 : decode prog_62_method_3_code 28 = .ok (.iconst 1, 1) := by decide +kernel
theorem dS2_29 : decode prog_62_method_3_code 29 = .ok (.goto 4, 3) := by decide +kernel
theorem dS2_32 : decode prog_62_method_3_code 32 = .ok (.iconst 0, 1) := by decide +kernel
theorem dS2_33 : decode prog_62_method_3_code 33 = .ok (.ireturn, 1) := by decide +kernel
theorem pnS2 : plainName "com/example/classwright/classwright/Instructions" = true := by first | (simp [plainName, overriddenIn]; done) | decide +kernel
theorem efS2 (m : MethodId) (b : Addr) (o : Int32) : entryFrame m #[(.ref b), (.int o)] 2 = mkF m 0 #[.val (.ref b), .val (.int o)] [] := by first | (simp [entryFrame, mkF, argsToLocals, Value.category]; done) | rfl
def fS2 (o : Int32) (v0 : Int64) (v1 : Int64) : Int32 := (if o < (0 : Int32) then (0 : Int32) else (if o < (128 : Int32) then (if o < (64 : Int32) then (if (v0 &&& ((1 : Int64) <<< (o &&& 0x3f).toInt64)) = (0 : Int64) then (0 : Int32) else (1 : Int32)) else (if (v1 &&& ((1 : Int64) <<< (o &&& 0x3f).toInt64)) = (0 : Int64) then (0 : Int32) else (1 : Int32))) else (0 : Int32)))
def QS2 (Z : State) (b : Addr) (o : Int32) (kc : ClassId) (v0 : Int64) (v1 : Int64) (h0 : Heap) (n0 : Nat) (v : Option Value) (h : Heap) (L : List Loc) : Prop := v = some (.int (fS2 o v0 v1)) ∧ Fr n0 L ∧ h = h0
set_option maxRecDepth 65536 in
set_option maxHeartbeats 40000000 in
theorem rmS2 (l : Launch) (Z : State) (a0 : Array Value) (hw : ∀ d ∈ tables_1, d.before a0 Z = true) (ws : List Jvm.Cond) (b : Addr) (o : Int32) (kc : ClassId) (v0 : Int64) (v1 : Int64) (h0 : Heap) (n0 : Nat) (Z0 : n0 ≤ h0.size) (Vb : Arv Z h0 b kc .long (2 : Int32) [(.long v0), (.long v1)] (.long (0 : Int64))) :
    MetFree l (⟨"com/example/classwright/classwright/Instructions", "startsAt", "([JI)Z"⟩ : MethodName) (head1 (Jvm.Cond.code (⟨"com/example/classwright/classwright/Instructions", "startsAt", "([JI)Z"⟩ : MethodName) prog_62_method_3_code 2 (some .boolean) :: ws) ({ frames := 0, cells := 0, slots := 0, locals := 0 } : Room)) (fun aa_ U_ => aa_ = #[(.ref b), (.int o)] ∧ Z.Warmed39 U_.vm ∧ U_.heap = h0) (fun _ _ _ _ _ => True) (fun _ U_ o_ V_ => ∃ v_ L_, o_ = .returned v_ ∧ QS2 Z b o kc v0 v1 h0 n0 v_ V_.heap L_ ∧ FrameEnd U_ o_ V_ L_ ({ frames := 0, cells := 0, slots := 0, locals := 0 } : Room).cells ({ frames := 0, cells := 0, slots := 0, locals := 0 } : Room).slots) := by
  refine MetFree.of_bodySF (plainFor_of_name pnS2) hisR ?_
  intro p e s m args below meth c s₁ Bd hml0 hP hK
  obtain ⟨rfl, hZ, hh⟩ := hP
  have hx := Bd.exec
  have hby := Bd.bytes
  have hml : c.maxLocals = 2 := hml0
  have hown : s.vm.findClass "com/example/classwright/classwright/Instructions" = some m.cls := findClass_of_methodNamed Bd.named
  have hnm := (name_of_methodNamed Bd.named Bd.method).1
  have hlk : meth.locks = false := BodyLoose.notSynchronized Bd
  have hret : meth.sig.returnType = (some .boolean) := Bd.returns
  have X0 : Stand p l e ({ frames := 0, cells := 0, slots := 0, locals := 0 } : Room) s m #[(.ref b), (.int o)] below meth c s₁ [] 0 0 := Stand.of_body Bd
  have e0 : s₁.heap = h0 := by rw [← hh, Bd.state]; rfl
  have N0 := Fr.nil n0
  show Go p e below s ({ frames := 0, cells := 0, slots := 0, locals := 0 } : Room).cells ({ frames := 0, cells := 0, slots := 0, locals := 0 } : Room).slots (QS2 Z b o kc v0 v1 h0 n0) (s₁.setTop (entryFrame m #[(.ref b), (.int o)] 2))
  rw [efS2]
  refine Go.by (fun _ kont => XS.iloadN X0.here hx rfl (hb hby dS2_0) rfl kont) ?_
  show Go _ _ _ _ _ _ _ (s₁.setTop (mkF m 1 #[.val (.ref b), .val (.int o)] [(.int o)]))
  by_cases hc101 : o < (0 : Int32)
  · refine Go.by (fun _ kont => XS.ifYes X0.here hx rfl (pc0 := 1) (pc' := 32) rfl (hb hby dS2_1) rfl ((if0 _ _).trans (tlt hc101).1) (by decide) (by decide) kont) ?_
    show Go _ _ _ _ _ _ _ (s₁.setTop (mkF m 32 #[.val (.ref b), .val (.int o)] []))
    refine Go.by (fun _ kont => XS.iconst X0.here hx rfl (hb hby dS2_32) kont) ?_
    show Go _ _ _ _ _ _ _ (s₁.setTop (mkF m 33 #[.val (.ref b), .val (.int o)] [(.int (0 : Int32))]))
    refine Go.retN X0 hx (t := .boolean) hret (by simp) hlk (hb hby dS2_33) ?_ (by decide) (by decide)
    show QS2 Z b o kc v0 v1 h0 n0 (some (.int (0 : Int32))) s₁.heap _
    rw [e0]
    refine ⟨?_, N0, rfl⟩
    unfold fS2
    rw [if_pos hc101]
  · refine Go.by (fun _ kont => XS.ifNo X0.here hx rfl (hb hby dS2_1) rfl ((if0 _ _).trans (flt hc101).1) kont) ?_
    show Go _ _ _ _ _ _ _ (s₁.setTop (mkF m 4 #[.val (.ref b), .val (.int o)] []))
    refine Go.by (fun _ kont => XS.iloadN X0.here hx rfl (hb hby dS2_4) rfl (XS.bipush X0.here hx rfl (hb hby dS2_5) (XS.aloadN X0.here hx rfl (hb hby dS2_7) rfl rfl kont))) ?_
    show Go _ _ _ _ _ _ _ (s₁.setTop (mkF m 8 #[.val (.ref b), .val (.int o)] [(.ref b), (.int (64 : Int32)), (.int o)]))
    obtain ⟨cl_q102, Ar_q102, q1_q102, S_q102, N_q102, H_q102, G_q102⟩ := id Vb
    refine Go.by (X0.arraylength hx (by first | exact Ar_q102.1 | (rw [e0]; exact Ar_q102.1)) (State.isArrayOf_alike hZ.alike Ar_q102.2.1) (g := (mkF m 8 #[.val (.ref b), .val (.int o)] [(.ref b), (.int (64 : Int32)), (.int o)])) rfl rfl (hb hby dS2_8)) ?_
    rw [len_of S_q102 N_q102]
    show Go _ _ _ _ _ _ _ (s₁.setTop (mkF m 9 #[.val (.ref b), .val (.int o)] [(.int (2 : Int32)), (.int (64 : Int32)), (.int o)]))
    refine Go.by (fun _ kont => XS.imul X0.here hx rfl (hb hby dS2_9) rfl kont) ?_
    show Go _ _ _ _ _ _ _ (s₁.setTop (mkF m 10 #[.val (.ref b), .val (.int o)] [(.int ((64 : Int32) * (2 : Int32))), (.int o)]))
    rw [show ((64 : Int32) * (2 : Int32)) = (128 : Int32) from by decide]
    show Go _ _ _ _ _ _ _ (s₁.setTop (mkF m 10 #[.val (.ref b), .val (.int o)] [(.int (128 : Int32)), (.int o)]))
    by_cases hc103 : o < (128 : Int32)
    · refine Go.by (fun _ kont => XS.icmpNo X0.here hx rfl (hb hby dS2_10) rfl (tlt hc103).2.1 kont) ?_
      show Go _ _ _ _ _ _ _ (s₁.setTop (mkF m 13 #[.val (.ref b), .val (.int o)] []))
      refine Go.by (fun _ kont => XS.aloadN X0.here hx rfl (hb hby dS2_13) rfl rfl (XS.iloadN X0.here hx rfl (hb hby dS2_14) rfl (XS.bipush X0.here hx rfl (hb hby dS2_15) (XS.iushr X0.here hx rfl (hb hby dS2_17) rfl kont)))) ?_
      show Go _ _ _ _ _ _ _ (s₁.setTop (mkF m 18 #[.val (.ref b), .val (.int o)] [(.int ((o.toUInt32 >>> ((6 : Int32) &&& 31).toUInt32).toInt32)), (.ref b)]))
      by_cases hq0 : o < (64 : Int32)
      · have hj : ((o.toUInt32 >>> ((6 : Int32) &&& 31).toUInt32).toInt32) = (0 : Int32) := own_idx o 0 0 (by decide) (by decide) (by have q0 := hc101; have q1 : (0 : Int32).toInt = 0 := (by decide); rw [Int32.lt_iff_toInt_lt] at q0; omega) (by have q0 := hq0; have q1 : (64 : Int32).toInt = 64 := (by decide); rw [Int32.lt_iff_toInt_lt] at q0; omega)
        rw [hj]
        show Go _ _ _ _ _ _ _ (s₁.setTop (mkF m 18 #[.val (.ref b), .val (.int o)] [(.int (0 : Int32)), (.ref b)]))
        obtain ⟨cl_q104, Ar_q104, q1_q104, S_q104, N_q104, H_q104, G_q104⟩ := id Vb
        have hin_q104 : ¬ ((0 : Int32) < 0 ∨ cl_q104.slots.size ≤ ((0 : Int32)).toNatClampNeg) := inb_of S_q104 ⟨by decide, by decide⟩
        have hat_q104 : cl_q104.slots[((0 : Int32)).toNatClampNeg]? = some (.long v0) := Has.at H_q104 hin_q104 rfl
        refine Go.by (X0.laload hx (j := (0 : Int32)) (v := (.long v0)) (by first | exact Ar_q104.1 | (rw [e0]; exact Ar_q104.1)) (State.isArrayOf_alike hZ.alike Ar_q104.2.1) Ar_q104.2.2 hin_q104 hat_q104 (g := (mkF m 18 #[.val (.ref b), .val (.int o)] [(.int (0 : Int32)), (.ref b)])) rfl rfl (hb hby dS2_18)) ?_
        show Go _ _ _ _ _ _ _ (s₁.setTop (mkF m 19 #[.val (.ref b), .val (.int o)] [(.long v0)]))
        refine Go.by (fun _ kont => XS.lconst X0.here hx rfl (hb hby dS2_19) (XS.iloadN X0.here hx rfl (hb hby dS2_20) rfl (XS.lshl X0.here hx rfl (hb hby dS2_21) rfl (XS.land X0.here hx rfl (hb hby dS2_22) rfl (XS.lconst X0.here hx rfl (hb hby dS2_23) (XS.lcmp X0.here hx rfl (hb hby dS2_24) rfl kont)))))) ?_
        show Go _ _ _ _ _ _ _ (s₁.setTop (mkF m 25 #[.val (.ref b), .val (.int o)] [(.int (lcmpW (v0 &&& ((1 : Int64) <<< (o &&& 0x3f).toInt64)) (0 : Int64)))]))
        by_cases hc105 : (v0 &&& ((1 : Int64) <<< (o &&& 0x3f).toInt64)) = (0 : Int64)
        · refine Go.by (fun _ kont => XS.ifYes X0.here hx rfl (pc0 := 25) (pc' := 32) rfl (hb hby dS2_25) rfl ((if0 _ _).trans (teq ((lw_eq _ _).mpr hc105)).1) (by decide) (by decide) kont) ?_
          show Go _ _ _ _ _ _ _ (s₁.setTop (mkF m 32 #[.val (.ref b), .val (.int o)] []))
          refine Go.by (fun _ kont => XS.iconst X0.here hx rfl (hb hby dS2_32) kont) ?_
          show Go _ _ _ _ _ _ _ (s₁.setTop (mkF m 33 #[.val (.ref b), .val (.int o)] [(.int (0 : Int32))]))
          refine Go.retN X0 hx (t := .boolean) hret (by simp) hlk (hb hby dS2_33) ?_ (by decide) (by decide)
          show QS2 Z b o kc v0 v1 h0 n0 (some (.int (0 : Int32))) s₁.heap _
          rw [e0]
          refine ⟨?_, N0, rfl⟩
          unfold fS2
          rw [if_neg hc101, if_pos hc103, if_pos hq0, if_pos hc105]
        · refine Go.by (fun _ kont => XS.ifNo X0.here hx rfl (hb hby dS2_25) rfl ((if0 _ _).trans (feq (fun z => hc105 ((lw_eq _ _).mp z))).1) kont) ?_
          show Go _ _ _ _ _ _ _ (s₁.setTop (mkF m 28 #[.val (.ref b), .val (.int o)] []))
          refine Go.by (fun _ kont => XS.iconst X0.here hx rfl (hb hby dS2_28) (XS.goto X0.here hx rfl (pc0 := 29) (pc' := 33) rfl (hb hby dS2_29) (by decide) (by decide) kont)) ?_
          show Go _ _ _ _ _ _ _ (s₁.setTop (mkF m 33 #[.val (.ref b), .val (.int o)] [(.int (1 : Int32))]))
          refine Go.retN X0 hx (t := .boolean) hret (by simp) hlk (hb hby dS2_33) ?_ (by decide) (by decide)
          show QS2 Z b o kc v0 v1 h0 n0 (some (.int (1 : Int32))) s₁.heap _
          rw [e0]
          refine ⟨?_, N0, rfl⟩
          unfold fS2
          rw [if_neg hc101, if_pos hc103, if_pos hq0, if_neg hc105]
      · have hj : ((o.toUInt32 >>> ((6 : Int32) &&& 31).toUInt32).toInt32) = (1 : Int32) := own_idx o 1 1 (by decide) (by decide) (by have q0 := hq0; have q1 : (64 : Int32).toInt = 64 := (by decide); rw [Int32.lt_iff_toInt_lt] at q0; omega) (by have q0 := hc103; have q1 : (128 : Int32).toInt = 128 := (by decide); rw [Int32.lt_iff_toInt_lt] at q0; omega)
        rw [hj]
        show Go _ _ _ _ _ _ _ (s₁.setTop (mkF m 18 #[.val (.ref b), .val (.int o)] [(.int (1 : Int32)), (.ref b)]))
        obtain ⟨cl_q106, Ar_q106, q1_q106, S_q106, N_q106, H_q106, G_q106⟩ := id Vb
        have hin_q106 : ¬ ((1 : Int32) < 0 ∨ cl_q106.slots.size ≤ ((1 : Int32)).toNatClampNeg) := inb_of S_q106 ⟨by decide, by decide⟩
        have hat_q106 : cl_q106.slots[((1 : Int32)).toNatClampNeg]? = some (.long v1) := Has.at H_q106 hin_q106 rfl
        refine Go.by (X0.laload hx (j := (1 : Int32)) (v := (.long v1)) (by first | exact Ar_q106.1 | (rw [e0]; exact Ar_q106.1)) (State.isArrayOf_alike hZ.alike Ar_q106.2.1) Ar_q106.2.2 hin_q106 hat_q106 (g := (mkF m 18 #[.val (.ref b), .val (.int o)] [(.int (1 : Int32)), (.ref b)])) rfl rfl (hb hby dS2_18)) ?_
        show Go _ _ _ _ _ _ _ (s₁.setTop (mkF m 19 #[.val (.ref b), .val (.int o)] [(.long v1)]))
        refine Go.by (fun _ kont => XS.lconst X0.here hx rfl (hb hby dS2_19) (XS.iloadN X0.here hx rfl (hb hby dS2_20) rfl (XS.lshl X0.here hx rfl (hb hby dS2_21) rfl (XS.land X0.here hx rfl (hb hby dS2_22) rfl (XS.lconst X0.here hx rfl (hb hby dS2_23) (XS.lcmp X0.here hx rfl (hb hby dS2_24) rfl kont)))))) ?_
        show Go _ _ _ _ _ _ _ (s₁.setTop (mkF m 25 #[.val (.ref b), .val (.int o)] [(.int (lcmpW (v1 &&& ((1 : Int64) <<< (o &&& 0x3f).toInt64)) (0 : Int64)))]))
        by_cases hc107 : (v1 &&& ((1 : Int64) <<< (o &&& 0x3f).toInt64)) = (0 : Int64)
        · refine Go.by (fun _ kont => XS.ifYes X0.here hx rfl (pc0 := 25) (pc' := 32) rfl (hb hby dS2_25) rfl ((if0 _ _).trans (teq ((lw_eq _ _).mpr hc107)).1) (by decide) (by decide) kont) ?_
          show Go _ _ _ _ _ _ _ (s₁.setTop (mkF m 32 #[.val (.ref b), .val (.int o)] []))
          refine Go.by (fun _ kont => XS.iconst X0.here hx rfl (hb hby dS2_32) kont) ?_
          show Go _ _ _ _ _ _ _ (s₁.setTop (mkF m 33 #[.val (.ref b), .val (.int o)] [(.int (0 : Int32))]))
          refine Go.retN X0 hx (t := .boolean) hret (by simp) hlk (hb hby dS2_33) ?_ (by decide) (by decide)
          show QS2 Z b o kc v0 v1 h0 n0 (some (.int (0 : Int32))) s₁.heap _
          rw [e0]
          refine ⟨?_, N0, rfl⟩
          unfold fS2
          rw [if_neg hc101, if_pos hc103, if_neg hq0, if_pos hc107]
        · refine Go.by (fun _ kont => XS.ifNo X0.here hx rfl (hb hby dS2_25) rfl ((if0 _ _).trans (feq (fun z => hc107 ((lw_eq _ _).mp z))).1) kont) ?_
          show Go _ _ _ _ _ _ _ (s₁.setTop (mkF m 28 #[.val (.ref b), .val (.int o)] []))
          refine Go.by (fun _ kont => XS.iconst X0.here hx rfl (hb hby dS2_28) (XS.goto X0.here hx rfl (pc0 := 29) (pc' := 33) rfl (hb hby dS2_29) (by decide) (by decide) kont)) ?_
          show Go _ _ _ _ _ _ _ (s₁.setTop (mkF m 33 #[.val (.ref b), .val (.int o)] [(.int (1 : Int32))]))
          refine Go.retN X0 hx (t := .boolean) hret (by simp) hlk (hb hby dS2_33) ?_ (by decide) (by decide)
          show QS2 Z b o kc v0 v1 h0 n0 (some (.int (1 : Int32))) s₁.heap _
          rw [e0]
          refine ⟨?_, N0, rfl⟩
          unfold fS2
          rw [if_neg hc101, if_pos hc103, if_neg hq0, if_neg hc107]
    · refine Go.by (fun _ kont => XS.icmpYes X0.here hx rfl (pc0 := 10) (pc' := 32) rfl (hb hby dS2_10) rfl (flt hc103).2.1 (by decide) (by decide) kont) ?_
      show Go _ _ _ _ _ _ _ (s₁.setTop (mkF m 32 #[.val (.ref b), .val (.int o)] []))
      refine Go.by (fun _ kont => XS.iconst X0.here hx rfl (hb hby dS2_32) kont) ?_
      show Go _ _ _ _ _ _ _ (s₁.setTop (mkF m 33 #[.val (.ref b), .val (.int o)] [(.int (0 : Int32))]))
      refine Go.retN X0 hx (t := .boolean) hret (by simp) hlk (hb hby dS2_33) ?_ (by decide) (by decide)
      show QS2 Z b o kc v0 v1 h0 n0 (some (.int (0 : Int32))) s₁.heap _
      rw [e0]
      refine ⟨?_, N0, rfl⟩
      unfold fS2
      rw [if_neg hc101, if_neg hc103]

theorem dS3_0 : decode prog_62_method_3_code 0 = .ok (.iload_n 1, 1) := by decide +kernel
theorem dS3_1 : decode prog_62_method_3_code 1 = .ok (.ifCond .lt 31, 3) := by decide +kernel
theorem dS3_4 : decode prog_62_method_3_code 4 = .ok (.iload_n 1, 1) := by decide +kernel
theorem dS3_5 : decode prog_62_method_3_code 5 = .ok (.bipush 64, 2) := by decide +kernel
theorem dS3_7 : decode prog_62_method_3_code 7 = .ok (.aload_n 0, 1) := by decide +kernel
theorem dS3_8 : decode prog_62_method_3_code 8 = .ok (.arraylength, 1) := by decide +kernel
theorem dS3_9 : decode prog_62_method_3_code 9 = .ok (.imul, 1) := by decide +kernel
theorem dS3_10 : decode prog_62_method_3_code 10 = .ok (.if_icmp .ge 22, 3) := by decide +kernel
theorem dS3_13 : decode prog_62_method_3_code 13 = .ok (.aload_n 0, 1) := by decide +kernel
theorem dS3_14 : decode prog_62_method_3_code 14 = .ok (.iload_n 1, 1) := by decide +kernel
theorem dS3_15 : decode prog_62_method_3_code 15 = .ok (.bipush 6, 2) := by decide +kernel
theorem dS3_17 : decode prog_62_method_3_code 17 = .ok (.iushr, 1) := by decide +kernel
theorem dS3_18 : decode prog_62_method_3_code 18 = .ok (.laload, 1) := by decide +kernel
theorem dS3_19 : decode prog_62_method_3_code 19 = .ok (.lconst 1, 1) := by decide +kernel
theorem dS3_20 : decode prog_62_method_3_code 20 = .ok (.iload_n 1, 1) := by decide +kernel
theorem dS3_21 : decode prog_62_method_3_code 21 = .ok (.lshl, 1) := by decide +kernel
theorem dS3_22 : decode prog_62_method_3_code 22 = .ok (.land, 1) := by decide +kernel
theorem dS3_23 : decode prog_62_method_3_code 23 = .ok (.lconst 0, 1) := by decide +kernel
theorem dS3_24 : decode prog_62_method_3_code 24 = .ok (.lcmp, 1) := by decide +kernel
theorem dS3_25 : decode prog_62_method_3_code 25 = .ok (.ifCond .eq 7, 3) := by decide +kernel
theorem dS3_28 : decode prog_62_method_3_code 28 = .ok (.iconst 1, 1) := by decide +kernel
theorem dS3_29 : decode prog_62_method_3_code 29 = .ok (.goto 4, 3) := by decide +kernel
theorem dS3_32 : decode prog_62_method_3_code 32 = .ok (.iconst 0, 1) := by decide +kernel
theorem dS3_33 : decode prog_62_method_3_code 33 = .ok (.ireturn, 1) := by decide +kernel
theorem pnS3 : plainName "com/example/classwright/classwright/Instructions" = true := by first | (simp [plainName, overriddenIn]; done) | decide +kernel
theorem efS3 (m : MethodId) (b : Addr) (o : Int32) : entryFrame m #[(.ref b), (.int o)] 2 = mkF m 0 #[.val (.ref b), .val (.int o)] [] := by first | (simp [entryFrame, mkF, argsToLocals, Value.category]; done) | rfl
def fS3 (o : Int32) (v0 : Int64) (v1 : Int64) (v2 : Int64) : Int32 := (if o < (0 : Int32) then (0 : Int32) else (if o < (192 : Int32) then (if o < (64 : Int32) then (if (v0 &&& ((1 : Int64) <<< (o &&& 0x3f).toInt64)) = (0 : Int64) then (0 : Int32) else (1 : Int32)) else (if o < (128 : Int32) then (if (v1 &&& ((1 : Int64) <<< (o &&& 0x3f).toInt64)) = (0 : Int64) then (0 : Int32) else (1 : Int32)) else (if (v2 &&& ((1 : Int64) <<< (o &&& 0x3f).toInt64)) = (0 : Int64) then (0 : Int32) else (1 : Int32)))) else (0 : Int32)))
def QS3 (Z : State) (b : Addr) (o : Int32) (kc : ClassId) (v0 : Int64) (v1 : Int64) (v2 : Int64) (h0 : Heap) (n0 : Nat) (v : Option Value) (h : Heap) (L : List Loc) : Prop := v = some (.int (fS3 o v0 v1 v2)) ∧ Fr n0 L ∧ h = h0
set_option maxRecDepth 65536 in
set_option maxHeartbeats 40000000 in
theorem rmS3 (l : Launch) (Z : State) (a0 : Array Value) (hw : ∀ d ∈ tables_1, d.before a0 Z = true) (ws : List Jvm.Cond) (b : Addr) (o : Int32) (kc : ClassId) (v0 : Int64) (v1 : Int64) (v2 : Int64) (h0 : Heap) (n0 : Nat) (Z0 : n0 ≤ h0.size) (Vb : Arv Z h0 b kc .long (3 : Int32) [(.long v0), (.long v1), (.long v2)] (.long (0 : Int64))) :
    MetFree l (⟨"com/example/classwright/classwright/Instructions", "startsAt", "([JI)Z"⟩ : MethodName) (head1 (Jvm.Cond.code (⟨"com/example/classwright/classwright/Instructions", "startsAt", "([JI)Z"⟩ : MethodName) prog_62_method_3_code 2 (some .boolean) :: ws) ({ frames := 0, cells := 0, slots := 0, locals := 0 } : Room)) (fun aa_ U_ => aa_ = #[(.ref b), (.int o)] ∧ Z.Warmed39 U_.vm ∧ U_.heap = h0) (fun _ _ _ _ _ => True) (fun _ U_ o_ V_ => ∃ v_ L_, o_ = .returned v_ ∧ QS3 Z b o kc v0 v1 v2 h0 n0 v_ V_.heap L_ ∧ FrameEnd U_ o_ V_ L_ ({ frames := 0, cells := 0, slots := 0, locals := 0 } : Room).cells ({ frames := 0, cells := 0, slots := 0, locals := 0 } : Room).slots) := by
  refine MetFree.of_bodySF (plainFor_of_name pnS3) hisR ?_
  intro p e s m args below meth c s₁ Bd hml0 hP hK
  obtain ⟨rfl, hZ, hh⟩ := hP
  have hx := Bd.exec
  have hby := Bd.bytes
  have hml : c.maxLocals = 2 := hml0
  have hown : s.vm.findClass "com/example/classwright/classwright/Instructions" = some m.cls := findClass_of_methodNamed Bd.named
  have hnm := (name_of_methodNamed Bd.named Bd.method).1
  have hlk : meth.locks = false := BodyLoose.notSynchronized Bd
  have hret : meth.sig.returnType = (some .boolean) := Bd.returns
  have X0 : Stand p l e ({ frames := 0, cells := 0, slots := 0, locals := 0 } : Room) s m #[(.ref b), (.int o)] below meth c s₁ [] 0 0 := Stand.of_body Bd
  have e0 : s₁.heap = h0 := by rw [← hh, Bd.state]; rfl
  have N0 := Fr.nil n0
  show Go p e below s ({ frames := 0, cells := 0, slots := 0, locals := 0 } : Room).cells ({ frames := 0, cells := 0, slots := 0, locals := 0 } : Room).slots (QS3 Z b o kc v0 v1 v2 h0 n0) (s₁.setTop (entryFrame m #[(.ref b), (.int o)] 2))
  rw [efS3]
  refine Go.by (fun _ kont => XS.iloadN X0.here hx rfl (hb hby dS3_0) rfl kont) ?_
  show Go _ _ _ _ _ _ _ (s₁.setTop (mkF m 1 #[.val (.ref b), .val (.int o)] [(.int o)]))
  by_cases hc101 : o < (0 : Int32)
  · refine Go.by (fun _ kont => XS.ifYes X0.here hx rfl (pc0 := 1) (pc' := 32) rfl (hb hby dS3_1) rfl ((if0 _ _).trans (tlt hc101).1) (by decide) (by decide) kont) ?_
    show Go _ _ _ _ _ _ _ (s₁.setTop (mkF m 32 #[.val (.ref b), .val (.int o)] []))
    refine Go.by (fun _ kont => XS.iconst X0.here hx rfl (hb hby dS3_32) kont) ?_
    show Go _ _ _ _ _ _ _ (s₁.setTop (mkF m 33 #[.val (.ref b), .val (.int o)] [(.int (0 : Int32))]))
    refine Go.retN X0 hx (t := .boolean) hret (by simp) hlk (hb hby dS3_33) ?_ (by decide) (by decide)
    show QS3 Z b o kc v0 v1 v2 h0 n0 (some (.int (0 : Int32))) s₁.heap _
    rw [e0]
    refine ⟨?_, N0, rfl⟩
    unfold fS3
    rw [if_pos hc101]
  · refine Go.by (fun _ kont => XS.ifNo X0.here hx rfl (hb hby dS3_1) rfl ((if0 _ _).trans (flt hc101).1) kont) ?_
    show Go _ _ _ _ _ _ _ (s₁.setTop (mkF m 4 #[.val (.ref b), .val (.int o)] []))
    refine Go.by (fun _ kont => XS.iloadN X0.here hx rfl (hb hby dS3_4) rfl (XS.bipush X0.here hx rfl (hb hby dS3_5) (XS.aloadN X0.here hx rfl (hb hby dS3_7) rfl rfl kont))) ?_
    show Go _ _ _ _ _ _ _ (s₁.setTop (mkF m 8 #[.val (.ref b), .val (.int o)] [(.ref b), (.int (64 : Int32)), (.int o)]))
    obtain ⟨cl_q102, Ar_q102, q1_q102, S_q102, N_q102, H_q102, G_q102⟩ := id Vb
    refine Go.by (X0.arraylength hx (by first | exact Ar_q102.1 | (rw [e0]; exact Ar_q102.1)) (State.isArrayOf_alike hZ.alike Ar_q102.2.1) (g := (mkF m 8 #[.val (.ref b), .val (.int o)] [(.ref b), (.int (64 : Int32)), (.int o)])) rfl rfl (hb hby dS3_8)) ?_
    rw [len_of S_q102 N_q102]
    show Go _ _ _ _ _ _ _ (s₁.setTop (mkF m 9 #[.val (.ref b), .val (.int o)] [(.int (3 : Int32)), (.int (64 : Int32)), (.int o)]))
    refine Go.by (fun _ kont => XS.imul X0.here hx rfl (hb hby dS3_9) rfl kont) ?_
    show Go _ _ _ _ _ _ _ (s₁.setTop (mkF m 10 #[.val (.ref b), .val (.int o)] [(.int ((64 : Int32) * (3 : Int32))), (.int o)]))
    rw [show ((64 : Int32) * (3 : Int32)) = (192 : Int32) from by decide]
    show Go _ _ _ _ _ _ _ (s₁.setTop (mkF m 10 #[.val (.ref b), .val (.int o)] [(.int (192 : Int32)), (.int o)]))
    by_cases hc103 : o < (192 : Int32)
    · refine Go.by (fun _ kont => XS.icmpNo X0.here hx rfl (hb hby dS3_10) rfl (tlt hc103).2.1 kont) ?_
      show Go _ _ _ _ _ _ _ (s₁.setTop (mkF m 13 #[.val (.ref b), .val (.int o)] []))
      refine Go.by (fun _ kont => XS.aloadN X0.here hx rfl (hb hby dS3_13) rfl rfl (XS.iloadN X0.here hx rfl (hb hby dS3_14) rfl (XS.bipush X0.here hx rfl (hb hby dS3_15) (XS.iushr X0.here hx rfl (hb hby dS3_17) rfl kont)))) ?_
      show Go _ _ _ _ _ _ _ (s₁.setTop (mkF m 18 #[.val (.ref b), .val (.int o)] [(.int ((o.toUInt32 >>> ((6 : Int32) &&& 31).toUInt32).toInt32)), (.ref b)]))
      by_cases hq0 : o < (64 : Int32)
      · have hj : ((o.toUInt32 >>> ((6 : Int32) &&& 31).toUInt32).toInt32) = (0 : Int32) := own_idx o 0 0 (by decide) (by decide) (by have q0 := hc101; have q1 : (0 : Int32).toInt = 0 := (by decide); rw [Int32.lt_iff_toInt_lt] at q0; omega) (by have q0 := hq0; have q1 : (64 : Int32).toInt = 64 := (by decide); rw [Int32.lt_iff_toInt_lt] at q0; omega)
        rw [hj]
        show Go _ _ _ _ _ _ _ (s₁.setTop (mkF m 18 #[.val (.ref b), .val (.int o)] [(.int (0 : Int32)), (.ref b)]))
        obtain ⟨cl_q104, Ar_q104, q1_q104, S_q104, N_q104, H_q104, G_q104⟩ := id Vb
        have hin_q104 : ¬ ((0 : Int32) < 0 ∨ cl_q104.slots.size ≤ ((0 : Int32)).toNatClampNeg) := inb_of S_q104 ⟨by decide, by decide⟩
        have hat_q104 : cl_q104.slots[((0 : Int32)).toNatClampNeg]? = some (.long v0) := Has.at H_q104 hin_q104 rfl
        refine Go.by (X0.laload hx (j := (0 : Int32)) (v := (.long v0)) (by first | exact Ar_q104.1 | (rw [e0]; exact Ar_q104.1)) (State.isArrayOf_alike hZ.alike Ar_q104.2.1) Ar_q104.2.2 hin_q104 hat_q104 (g := (mkF m 18 #[.val (.ref b), .val (.int o)] [(.int (0 : Int32)), (.ref b)])) rfl rfl (hb hby dS3_18)) ?_
        show Go _ _ _ _ _ _ _ (s₁.setTop (mkF m 19 #[.val (.ref b), .val (.int o)] [(.long v0)]))
        refine Go.by (fun _ kont => XS.lconst X0.here hx rfl (hb hby dS3_19) (XS.iloadN X0.here hx rfl (hb hby dS3_20) rfl (XS.lshl X0.here hx rfl (hb hby dS3_21) rfl (XS.land X0.here hx rfl (hb hby dS3_22) rfl (XS.lconst X0.here hx rfl (hb hby dS3_23) (XS.lcmp X0.here hx rfl (hb hby dS3_24) rfl kont)))))) ?_
        show Go _ _ _ _ _ _ _ (s₁.setTop (mkF m 25 #[.val (.ref b), .val (.int o)] [(.int (lcmpW (v0 &&& ((1 : Int64) <<< (o &&& 0x3f).toInt64)) (0 : Int64)))]))
        by_cases hc105 : (v0 &&& ((1 : Int64) <<< (o &&& 0x3f).toInt64)) = (0 : Int64)
        · refine Go.by (fun _ kont => XS.ifYes X0.here hx rfl (pc0 := 25) (pc' := 32) rfl (hb hby dS3_25) rfl ((if0 _ _).trans (teq ((lw_eq _ _).mpr hc105)).1) (by decide) (by decide) kont) ?_
          show Go _ _ _ _ _ _ _ (s₁.setTop (mkF m 32 #[.val (.ref b), .val (.int o)] []))
          refine Go.by (fun _ kont => XS.iconst X0.here hx rfl (hb hby dS3_32) kont) ?_
          show Go _ _ _ _ _ _ _ (s₁.setTop (mkF m 33 #[.val (.ref b), .val (.int o)] [(.int (0 : Int32))]))
          refine Go.retN X0 hx (t := .boolean) hret (by simp) hlk (hb hby dS3_33) ?_ (by decide) (by decide)
          show QS3 Z b o kc v0 v1 v2 h0 n0 (some (.int (0 : Int32))) s₁.heap _
          rw [e0]
          refine ⟨?_, N0, rfl⟩
          unfold fS3
          rw [if_neg hc101, if_pos hc103, if_pos hq0, if_pos hc105]
        · refine Go.by (fun _ kont => XS.ifNo X0.here hx rfl (hb hby dS3_25) rfl ((if0 _ _).trans (feq (fun z => hc105 ((lw_eq _ _).mp z))).1) kont) ?_
          show Go _ _ _ _ _ _ _ (s₁.setTop (mkF m 28 #[.val (.ref b), .val (.int o)] []))
          refine Go.by (fun _ kont => XS.iconst X0.here hx rfl (hb hby dS3_28) (XS.goto X0.here hx rfl (pc0 := 29) (pc' := 33) rfl (hb hby dS3_29) (by decide) (by decide) kont)) ?_
          show Go _ _ _ _ _ _ _ (s₁.setTop (mkF m 33 #[.val (.ref b), .val (.int o)] [(.int (1 : Int32))]))
          refine Go.retN X0 hx (t := .boolean) hret (by simp) hlk (hb hby dS3_33) ?_ (by decide) (by decide)
          show QS3 Z b o kc v0 v1 v2 h0 n0 (some (.int (1 : Int32))) s₁.heap _
          rw [e0]
          refine ⟨?_, N0, rfl⟩
          unfold fS3
          rw [if_neg hc101, if_pos hc103, if_pos hq0, if_neg hc105]
      · by_cases hq1 : o < (128 : Int32)
        · have hj : ((o.toUInt32 >>> ((6 : Int32) &&& 31).toUInt32).toInt32) = (1 : Int32) := own_idx o 1 1 (by decide) (by decide) (by have q0 := hq0; have q1 : (64 : Int32).toInt = 64 := (by decide); rw [Int32.lt_iff_toInt_lt] at q0; omega) (by have q0 := hq1; have q1 : (128 : Int32).toInt = 128 := (by decide); rw [Int32.lt_iff_toInt_lt] at q0; omega)
          rw [hj]
          show Go _ _ _ _ _ _ _ (s₁.setTop (mkF m 18 #[.val (.ref b), .val (.int o)] [(.int (1 : Int32)), (.ref b)]))
          obtain ⟨cl_q106, Ar_q106, q1_q106, S_q106, N_q106, H_q106, G_q106⟩ := id Vb
          have hin_q106 : ¬ ((1 : Int32) < 0 ∨ cl_q106.slots.size ≤ ((1 : Int32)).toNatClampNeg) := inb_of S_q106 ⟨by decide, by decide⟩
          have hat_q106 : cl_q106.slots[((1 : Int32)).toNatClampNeg]? = some (.long v1) := Has.at H_q106 hin_q106 rfl
          refine Go.by (X0.laload hx (j := (1 : Int32)) (v := (.long v1)) (by first | exact Ar_q106.1 | (rw [e0]; exact Ar_q106.1)) (State.isArrayOf_alike hZ.alike Ar_q106.2.1) Ar_q106.2.2 hin_q106 hat_q106 (g := (mkF m 18 #[.val (.ref b), .val (.int o)] [(.int (1 : Int32)), (.ref b)])) rfl rfl (hb hby dS3_18)) ?_
          show Go _ _ _ _ _ _ _ (s₁.setTop (mkF m 19 #[.val (.ref b), .val (.int o)] [(.long v1)]))
          refine Go.by (fun _ kont => XS.lconst X0.here hx rfl (hb hby dS3_19) (XS.iloadN X0.here hx rfl (hb hby dS3_20) rfl (XS.lshl X0.here hx rfl (hb hby dS3_21) rfl (XS.land X0.here hx rfl (hb hby dS3_22) rfl (XS.lconst X0.here hx rfl (hb hby dS3_23) (XS.lcmp X0.here hx rfl (hb hby dS3_24) rfl kont)))))) ?_
          show Go _ _ _ _ _ _ _ (s₁.setTop (mkF m 25 #[.val (.ref b), .val (.int o)] [(.int (lcmpW (v1 &&& ((1 : Int64) <<< (o &&& 0x3f).toInt64)) (0 : Int64)))]))
          by_cases hc107 : (v1 &&& ((1 : Int64) <<< (o &&& 0x3f).toInt64)) = (0 : Int64)
          · refine Go.by (fun _ kont => XS.ifYes X0.here hx rfl (pc0 := 25) (pc' := 32) rfl (hb hby dS3_25) rfl ((if0 _ _).trans (teq ((lw_eq _ _).mpr hc107)).1) (by decide) (by decide) kont) ?_
            show Go _ _ _ _ _ _ _ (s₁.setTop (mkF m 32 #[.val (.ref b), .val (.int o)] []))
            refine Go.by (fun _ kont => XS.iconst X0.here hx rfl (hb hby dS3_32) kont) ?_
            show Go _ _ _ _ _ _ _ (s₁.setTop (mkF m 33 #[.val (.ref b), .val (.int o)] [(.int (0 : Int32))]))
            refine Go.retN X0 hx (t := .boolean) hret (by simp) hlk (hb hby dS3_33) ?_ (by decide) (by decide)
            show QS3 Z b o kc v0 v1 v2 h0 n0 (some (.int (0 : Int32))) s₁.heap _
            rw [e0]
            refine ⟨?_, N0, rfl⟩
            unfold fS3
            rw [if_neg hc101, if_pos hc103, if_neg hq0, if_pos hq1, if_pos hc107]
          · refine Go.by (fun _ kont => XS.ifNo X0.here hx rfl (hb hby dS3_25) rfl ((if0 _ _).trans (feq (fun z => hc107 ((lw_eq _ _).mp z))).1) kont) ?_
            show Go _ _ _ _ _ _ _ (s₁.setTop (mkF m 28 #[.val (.ref b), .val (.int o)] []))
            refine Go.by (fun _ kont => XS.iconst X0.here hx rfl (hb hby dS3_28) (XS.goto X0.here hx rfl (pc0 := 29) (pc' := 33) rfl (hb hby dS3_29) (by decide) (by decide) kont)) ?_
            show Go _ _ _ _ _ _ _ (s₁.setTop (mkF m 33 #[.val (.ref b), .val (.int o)] [(.int (1 : Int32))]))
            refine Go.retN X0 hx (t := .boolean) hret (by simp) hlk (hb hby dS3_33) ?_ (by decide) (by decide)
            show QS3 Z b o kc v0 v1 v2 h0 n0 (some (.int (1 : Int32))) s₁.heap _
            rw [e0]
            refine ⟨?_, N0, rfl⟩
            unfold fS3
            rw [if_neg hc101, if_pos hc103, if_neg hq0, if_pos hq1, if_neg hc107]
        · have hj : ((o.toUInt32 >>> ((6 : Int32) &&& 31).toUInt32).toInt32) = (2 : Int32) := own_idx o 2 2 (by decide) (by decide) (by have q0 := hq1; have q1 : (128 : Int32).toInt = 128 := (by decide); rw [Int32.lt_iff_toInt_lt] at q0; omega) (by have q0 := hc103; have q1 : (192 : Int32).toInt = 192 := (by decide); rw [Int32.lt_iff_toInt_lt] at q0; omega)
          rw [hj]
          show Go _ _ _ _ _ _ _ (s₁.setTop (mkF m 18 #[.val (.ref b), .val (.int o)] [(.int (2 : Int32)), (.ref b)]))
          obtain ⟨cl_q108, Ar_q108, q1_q108, S_q108, N_q108, H_q108, G_q108⟩ := id Vb
          have hin_q108 : ¬ ((2 : Int32) < 0 ∨ cl_q108.slots.size ≤ ((2 : Int32)).toNatClampNeg) := inb_of S_q108 ⟨by decide, by decide⟩
          have hat_q108 : cl_q108.slots[((2 : Int32)).toNatClampNeg]? = some (.long v2) := Has.at H_q108 hin_q108 rfl
          refine Go.by (X0.laload hx (j := (2 : Int32)) (v := (.long v2)) (by first | exact Ar_q108.1 | (rw [e0]; exact Ar_q108.1)) (State.isArrayOf_alike hZ.alike Ar_q108.2.1) Ar_q108.2.2 hin_q108 hat_q108 (g := (mkF m 18 #[.val (.ref b), .val (.int o)] [(.int (2 : Int32)), (.ref b)])) rfl rfl (hb hby dS3_18)) ?_
          show Go _ _ _ _ _ _ _ (s₁.setTop (mkF m 19 #[.val (.ref b), .val (.int o)] [(.long v2)]))
          refine Go.by (fun _ kont => XS.lconst X0.here hx rfl (hb hby dS3_19) (XS.iloadN X0.here hx rfl (hb hby dS3_20) rfl (XS.lshl X0.here hx rfl (hb hby dS3_21) rfl (XS.land X0.here hx rfl (hb hby dS3_22) rfl (XS.lconst X0.here hx rfl (hb hby dS3_23) (XS.lcmp X0.here hx rfl (hb hby dS3_24) rfl kont)))))) ?_
          show Go _ _ _ _ _ _ _ (s₁.setTop (mkF m 25 #[.val (.ref b), .val (.int o)] [(.int (lcmpW (v2 &&& ((1 : Int64) <<< (o &&& 0x3f).toInt64)) (0 : Int64)))]))
          by_cases hc109 : (v2 &&& ((1 : Int64) <<< (o &&& 0x3f).toInt64)) = (0 : Int64)
          · refine Go.by (fun _ kont => XS.ifYes X0.here hx rfl (pc0 := 25) (pc' := 32) rfl (hb hby dS3_25) rfl ((if0 _ _).trans (teq ((lw_eq _ _).mpr hc109)).1) (by decide) (by decide) kont) ?_
            show Go _ _ _ _ _ _ _ (s₁.setTop (mkF m 32 #[.val (.ref b), .val (.int o)] []))
            refine Go.by (fun _ kont => XS.iconst X0.here hx rfl (hb hby dS3_32) kont) ?_
            show Go _ _ _ _ _ _ _ (s₁.setTop (mkF m 33 #[.val (.ref b), .val (.int o)] [(.int (0 : Int32))]))
            refine Go.retN X0 hx (t := .boolean) hret (by simp) hlk (hb hby dS3_33) ?_ (by decide) (by decide)
            show QS3 Z b o kc v0 v1 v2 h0 n0 (some (.int (0 : Int32))) s₁.heap _
            rw [e0]
            refine ⟨?_, N0, rfl⟩
            unfold fS3
            rw [if_neg hc101, if_pos hc103, if_neg hq0, if_neg hq1, if_pos hc109]
          · refine Go.by (fun _ kont => XS.ifNo X0.here hx rfl (hb hby dS3_25) rfl ((if0 _ _).trans (feq (fun z => hc109 ((lw_eq _ _).mp z))).1) kont) ?_
            show Go _ _ _ _ _ _ _ (s₁.setTop (mkF m 28 #[.val (.ref b), .val (.int o)] []))
            refine Go.by (fun _ kont => XS.iconst X0.here hx rfl (hb hby dS3_28) (XS.goto X0.here hx rfl (pc0 := 29) (pc' := 33) rfl (hb hby dS3_29) (by decide) (by decide) kont)) ?_
            show Go _ _ _ _ _ _ _ (s₁.setTop (mkF m 33 #[.val (.ref b), .val (.int o)] [(.int (1 : Int32))]))
            refine Go.retN X0 hx (t := .boolean) hret (by simp) hlk (hb hby dS3_33) ?_ (by decide) (by decide)
            show QS3 Z b o kc v0 v1 v2 h0 n0 (some (.int (1 : Int32))) s₁.heap _
            rw [e0]
            refine ⟨?_, N0, rfl⟩
            unfold fS3
            rw [if_neg hc101, if_pos hc103, if_neg hq0, if_neg hq1, if_neg hc109]
    · refine Go.by (fun _ kont => XS.icmpYes X0.here hx rfl (pc0 := 10) (pc' := 32) rfl (hb hby dS3_10) rfl (flt hc103).2.1 (by decide) (by decide) kont) ?_
      show Go _ _ _ _ _ _ _ (s₁.setTop (mkF m 32 #[.val (.ref b), .val (.int o)] []))
      refine Go.by (fun _ kont => XS.iconst X0.here hx rfl (hb hby dS3_32) kont) ?_
      show Go _ _ _ _ _ _ _ (s₁.setTop (mkF m 33 #[.val (.ref b), .val (.int o)] [(.int (0 : Int32))]))
      refine Go.retN X0 hx (t := .boolean) hret (by simp) hlk (hb hby dS3_33) ?_ (by decide) (by decide)
      show QS3 Z b o kc v0 v1 v2 h0 n0 (some (.int (0 : Int32))) s₁.heap _
      rw [e0]
      refine ⟨?_, N0, rfl⟩
      unfold fS3
      rw [if_neg hc101, if_neg hc103]

theorem dX0_0 : decode method_3_code 0 = .ok (.iload 7, 2) := by decide +kernel
theorem dX0_2 : decode method_3_code 2 = .ok (.ifCond .lt 13, 3) := by decide +kernel
theorem dX0_5 : decode method_3_code 5 = .ok (.iload 7, 2) := by decide +kernel
theorem dX0_7 : decode method_3_code 7 = .ok (.bipush 64, 2) := by decide +kernel
theorem dX0_9 : decode method_3_code 9 = .ok (.iload 6, 2) := by decide +kernel
theorem dX0_11 : decode method_3_code 11 = .ok (.imul, 1) := by decide +kernel
theorem dX0_12 : decode method_3_code 12 = .ok (.if_icmp .lt 5, 3) := by decide +kernel
theorem dX0_15 : decode method_3_code 15 = .ok (.iconst 0, 1) := by decide +kernel
theorem dX0_16 : decode method_3_code 16 = .ok (.ireturn, 1) := by decide +kernel
theorem pnX0 : plainName "com/example/classwright/classwright/InstructionsStartsAtPinLaw" = true := by first | (simp [plainName, overriddenIn]; done) | decide +kernel
theorem efX0 (m : MethodId) (a : Int64) (b : Int64) (d : Int64) (o : Int32) : entryFrame m #[(.long a), (.long b), (.long d), (.int (0 : Int32)), (.int o)] 11 = mkF m 0 #[.val (.long a), .second, .val (.long b), .second, .val (.long d), .second, .val (.int (0 : Int32)), .val (.int o), .unset, .unset, .unset] [] := by first | (simp [entryFrame, mkF, argsToLocals, Value.category]; done) | rfl
def fX0 (o : Int32) : Int32 := (if o < (0 : Int32) then (0 : Int32) else (0 : Int32))
def QX0 (Z : State) (a : Int64) (b : Int64) (d : Int64) (o : Int32) (h0 : Heap) (n0 : Nat) (v : Option Value) (h : Heap) (L : List Loc) : Prop := v = some (.int (fX0 o)) ∧ Fr n0 L ∧ h = h0
set_option maxRecDepth 65536 in
set_option maxHeartbeats 40000000 in
theorem rmX0 (l : Launch) (Z : State) (a0 : Array Value) (hw : ∀ d ∈ tables_1, d.before a0 Z = true) (ws : List Jvm.Cond) (a : Int64) (b : Int64) (d : Int64) (o : Int32) (h0 : Heap) (n0 : Nat) (Z0 : n0 ≤ h0.size) :
    MetFree l (⟨"com/example/classwright/classwright/InstructionsStartsAtPinLaw", "expected", "(JJJII)Z"⟩ : MethodName) (head1 (Jvm.Cond.code (⟨"com/example/classwright/classwright/InstructionsStartsAtPinLaw", "expected", "(JJJII)Z"⟩ : MethodName) method_3_code 11 (some .boolean) :: ws) ({ frames := 0, cells := 0, slots := 0, locals := 0 } : Room)) (fun aa_ U_ => aa_ = #[(.long a), (.long b), (.long d), (.int (0 : Int32)), (.int o)] ∧ Z.Warmed39 U_.vm ∧ U_.heap = h0) (fun _ _ _ _ _ => True) (fun _ U_ o_ V_ => ∃ v_ L_, o_ = .returned v_ ∧ QX0 Z a b d o h0 n0 v_ V_.heap L_ ∧ FrameEnd U_ o_ V_ L_ ({ frames := 0, cells := 0, slots := 0, locals := 0 } : Room).cells ({ frames := 0, cells := 0, slots := 0, locals := 0 } : Room).slots) := by
  refine MetFree.of_bodySF (plainFor_of_name pnX0) hisR ?_
  intro p e s m args below meth c s₁ Bd hml0 hP hK
  obtain ⟨rfl, hZ, hh⟩ := hP
  have hx := Bd.exec
  have hby := Bd.bytes
  have hml : c.maxLocals = 11 := hml0
  have hown : s.vm.findClass "com/example/classwright/classwright/InstructionsStartsAtPinLaw" = some m.cls := findClass_of_methodNamed Bd.named
  have hnm := (name_of_methodNamed Bd.named Bd.method).1
  have hlk : meth.locks = false := BodyLoose.notSynchronized Bd
  have hret : meth.sig.returnType = (some .boolean) := Bd.returns
  have X0 : Stand p l e ({ frames := 0, cells := 0, slots := 0, locals := 0 } : Room) s m #[(.long a), (.long b), (.long d), (.int (0 : Int32)), (.int o)] below meth c s₁ [] 0 0 := Stand.of_body Bd
  have e0 : s₁.heap = h0 := by rw [← hh, Bd.state]; rfl
  have N0 := Fr.nil n0
  show Go p e below s ({ frames := 0, cells := 0, slots := 0, locals := 0 } : Room).cells ({ frames := 0, cells := 0, slots := 0, locals := 0 } : Room).slots (QX0 Z a b d o h0 n0) (s₁.setTop (entryFrame m #[(.long a), (.long b), (.long d), (.int (0 : Int32)), (.int o)] 11))
  rw [efX0]
  refine Go.by (fun _ kont => XS.iload X0.here hx rfl (hb hby dX0_0) rfl kont) ?_
  show Go _ _ _ _ _ _ _ (s₁.setTop (mkF m 2 #[.val (.long a), .second, .val (.long b), .second, .val (.long d), .second, .val (.int (0 : Int32)), .val (.int o), .unset, .unset, .unset] [(.int o)]))
  by_cases hc101 : o < (0 : Int32)
  · refine Go.by (fun _ kont => XS.ifYes X0.here hx rfl (pc0 := 2) (pc' := 15) rfl (hb hby dX0_2) rfl ((if0 _ _).trans (tlt hc101).1) (by decide) (by decide) kont) ?_
    show Go _ _ _ _ _ _ _ (s₁.setTop (mkF m 15 #[.val (.long a), .second, .val (.long b), .second, .val (.long d), .second, .val (.int (0 : Int32)), .val (.int o), .unset, .unset, .unset] []))
    refine Go.by (fun _ kont => XS.iconst X0.here hx rfl (hb hby dX0_15) kont) ?_
    show Go _ _ _ _ _ _ _ (s₁.setTop (mkF m 16 #[.val (.long a), .second, .val (.long b), .second, .val (.long d), .second, .val (.int (0 : Int32)), .val (.int o), .unset, .unset, .unset] [(.int (0 : Int32))]))
    refine Go.retN X0 hx (t := .boolean) hret (by simp) hlk (hb hby dX0_16) ?_ (by decide) (by decide)
    show QX0 Z a b d o h0 n0 (some (.int (0 : Int32))) s₁.heap _
    rw [e0]
    refine ⟨?_, N0, rfl⟩
    unfold fX0
    rw [if_pos hc101]
  · refine Go.by (fun _ kont => XS.ifNo X0.here hx rfl (hb hby dX0_2) rfl ((if0 _ _).trans (flt hc101).1) kont) ?_
    show Go _ _ _ _ _ _ _ (s₁.setTop (mkF m 5 #[.val (.long a), .second, .val (.long b), .second, .val (.long d), .second, .val (.int (0 : Int32)), .val (.int o), .unset, .unset, .unset] []))
    refine Go.by (fun _ kont => XS.iload X0.here hx rfl (hb hby dX0_5) rfl (XS.bipush X0.here hx rfl (hb hby dX0_7) (XS.iload X0.here hx rfl (hb hby dX0_9) rfl (XS.imul X0.here hx rfl (hb hby dX0_11) rfl kont)))) ?_
    show Go _ _ _ _ _ _ _ (s₁.setTop (mkF m 12 #[.val (.long a), .second, .val (.long b), .second, .val (.long d), .second, .val (.int (0 : Int32)), .val (.int o), .unset, .unset, .unset] [(.int ((64 : Int32) * (0 : Int32))), (.int o)]))
    rw [show ((64 : Int32) * (0 : Int32)) = (0 : Int32) from by decide]
    show Go _ _ _ _ _ _ _ (s₁.setTop (mkF m 12 #[.val (.long a), .second, .val (.long b), .second, .val (.long d), .second, .val (.int (0 : Int32)), .val (.int o), .unset, .unset, .unset] [(.int (0 : Int32)), (.int o)]))
    refine Go.by (fun _ kont => XS.icmpNo X0.here hx rfl (hb hby dX0_12) rfl (flt hc101).1 kont) ?_
    show Go _ _ _ _ _ _ _ (s₁.setTop (mkF m 15 #[.val (.long a), .second, .val (.long b), .second, .val (.long d), .second, .val (.int (0 : Int32)), .val (.int o), .unset, .unset, .unset] []))
    refine Go.by (fun _ kont => XS.iconst X0.here hx rfl (hb hby dX0_15) kont) ?_
    show Go _ _ _ _ _ _ _ (s₁.setTop (mkF m 16 #[.val (.long a), .second, .val (.long b), .second, .val (.long d), .second, .val (.int (0 : Int32)), .val (.int o), .unset, .unset, .unset] [(.int (0 : Int32))]))
    refine Go.retN X0 hx (t := .boolean) hret (by simp) hlk (hb hby dX0_16) ?_ (by decide) (by decide)
    show QX0 Z a b d o h0 n0 (some (.int (0 : Int32))) s₁.heap _
    rw [e0]
    refine ⟨?_, N0, rfl⟩
    unfold fX0
    rw [if_neg hc101]

theorem dX1_0 : decode method_3_code 0 = .ok (.iload 7, 2) := by decide +kernel
theorem dX1_2 : decode method_3_code 2 = .ok (.ifCond .lt 13, 3) := by decide +kernel
theorem dX1_5 : decode method_3_code 5 = .ok (.iload 7, 2) := by decide +kernel
theorem dX1_7 : decode method_3_code 7 = .ok (.bipush 64, 2) := by decide +kernel
theorem dX1_9 : decode method_3_code 9 = .ok (.iload 6, 2) := by decide +kernel
theorem dX1_11 : decode method_3_code 11 = .ok (.imul, 1) := by decide +kernel
theorem dX1_12 : decode method_3_code 12 = .ok (.if_icmp .lt 5, 3) := by decide +kernel
theorem dX1_15 : decode method_3_code 15 = .ok (.iconst 0, 1) := by decide +kernel
theorem dX1_16 : decode method_3_code 16 = .ok (.ireturn, 1) := by decide +kernel
theorem dX1_17 : decode method_3_code 17 = .ok (.iload 7, 2) := by decide +kernel
theorem dX1_19 : decode method_3_code 19 = .ok (.bipush 64, 2) := by decide +kernel
theorem dX1_21 : decode method_3_code 21 = .ok (.if_icmp .ge 13, 3) := by decide +kernel
theorem dX1_24 : decode method_3_code 24 = .ok (.lload_n 0, 1) := by decide +kernel
theorem dX1_25 : decode method_3_code 25 = .ok (.lstore 8, 2) := by decide +kernel
theorem dX1_27 : decode method_3_code 27 = .ok (.iload 7, 2) := by decide +kernel
theorem dX1_29 : decode method_3_code 29 = .ok (.istore 10, 2) := by decide +kernel
theorem dX1_31 : decode method_3_code 31 = .ok (.goto 36, 3) := by decide +kernel
theorem dX1_67 : decode method_3_code 67 = .ok (.lload 8, 2) := by decide +kernel
theorem dX1_69 : decode method_3_code 69 = .ok (.iload 10, 2) := by decide +kernel
theorem dX1_71 : decode method_3_code 71 = .ok (.lushr, 1) := by decide +kernel
theorem dX1_72 : decode method_3_code 72 = .ok (.lconst 1, 1) := by decide +kernel
theorem dX1_73 : decode method_3_code 73 = .ok (.land, 1) := by decide +kernel
theorem dX1_74 : decode method_3_code 74 = .ok (.lconst 1, 1) := by decide +kernel
theorem dX1_75 : decode method_3_code 75 = .ok (.lcmp, 1) := by decide +kernel
theorem dX1_76 : decode method_3_code 76 = .ok (.ifCond .ne 7, 3) := by decide +kernel
theorem dX1_79 : decode method_3_code 79 = .ok (.iconst 1, 1) := by decide +kernel
theorem dX1_80 : decode method_3_code 80 = .ok (.goto 4, 3) := by decide +kernel
theorem dX1_83 : decode method_3_code 83 = .ok (.iconst 0, 1) := by decide +kernel
theorem dX1_84 : decode method_3_code 84 = .ok (.ireturn, 1) := by decide +kernel
theorem pnX1 : plainName "com/example/classwright/classwright/InstructionsStartsAtPinLaw" = true := by first | (simp [plainName, overriddenIn]; done) | decide +kernel
theorem efX1 (m : MethodId) (a : Int64) (b : Int64) (d : Int64) (o : Int32) : entryFrame m #[(.long a), (.long b), (.long d), (.int (1 : Int32)), (.int o)] 11 = mkF m 0 #[.val (.long a), .second, .val (.long b), .second, .val (.long d), .second, .val (.int (1 : Int32)), .val (.int o), .unset, .unset, .unset] [] := by first | (simp [entryFrame, mkF, argsToLocals, Value.category]; done) | rfl
def fX1 (a : Int64) (o : Int32) : Int32 := (if o < (0 : Int32) then (0 : Int32) else (if o < (64 : Int32) then (if (((a.toUInt64 >>> (o &&& 0x3f).toInt64.toUInt64).toInt64) &&& (1 : Int64)) = (1 : Int64) then (1 : Int32) else (0 : Int32)) else (0 : Int32)))
def QX1 (Z : State) (a : Int64) (b : Int64) (d : Int64) (o : Int32) (h0 : Heap) (n0 : Nat) (v : Option Value) (h : Heap) (L : List Loc) : Prop := v = some (.int (fX1 a o)) ∧ Fr n0 L ∧ h = h0
set_option maxRecDepth 65536 in
set_option maxHeartbeats 40000000 in
theorem rmX1 (l : Launch) (Z : State) (a0 : Array Value) (hw : ∀ d ∈ tables_1, d.before a0 Z = true) (ws : List Jvm.Cond) (a : Int64) (b : Int64) (d : Int64) (o : Int32) (h0 : Heap) (n0 : Nat) (Z0 : n0 ≤ h0.size) :
    MetFree l (⟨"com/example/classwright/classwright/InstructionsStartsAtPinLaw", "expected", "(JJJII)Z"⟩ : MethodName) (head1 (Jvm.Cond.code (⟨"com/example/classwright/classwright/InstructionsStartsAtPinLaw", "expected", "(JJJII)Z"⟩ : MethodName) method_3_code 11 (some .boolean) :: ws) ({ frames := 0, cells := 0, slots := 0, locals := 0 } : Room)) (fun aa_ U_ => aa_ = #[(.long a), (.long b), (.long d), (.int (1 : Int32)), (.int o)] ∧ Z.Warmed39 U_.vm ∧ U_.heap = h0) (fun _ _ _ _ _ => True) (fun _ U_ o_ V_ => ∃ v_ L_, o_ = .returned v_ ∧ QX1 Z a b d o h0 n0 v_ V_.heap L_ ∧ FrameEnd U_ o_ V_ L_ ({ frames := 0, cells := 0, slots := 0, locals := 0 } : Room).cells ({ frames := 0, cells := 0, slots := 0, locals := 0 } : Room).slots) := by
  refine MetFree.of_bodySF (plainFor_of_name pnX1) hisR ?_
  intro p e s m args below meth c s₁ Bd hml0 hP hK
  obtain ⟨rfl, hZ, hh⟩ := hP
  have hx := Bd.exec
  have hby := Bd.bytes
  have hml : c.maxLocals = 11 := hml0
  have hown : s.vm.findClass "com/example/classwright/classwright/InstructionsStartsAtPinLaw" = some m.cls := findClass_of_methodNamed Bd.named
  have hnm := (name_of_methodNamed Bd.named Bd.method).1
  have hlk : meth.locks = false := BodyLoose.notSynchronized Bd
  have hret : meth.sig.returnType = (some .boolean) := Bd.returns
  have X0 : Stand p l e ({ frames := 0, cells := 0, slots := 0, locals := 0 } : Room) s m #[(.long a), (.long b), (.long d), (.int (1 : Int32)), (.int o)] below meth c s₁ [] 0 0 := Stand.of_body Bd
  have e0 : s₁.heap = h0 := by rw [← hh, Bd.state]; rfl
  have N0 := Fr.nil n0
  show Go p e below s ({ frames := 0, cells := 0, slots := 0, locals := 0 } : Room).cells ({ frames := 0, cells := 0, slots := 0, locals := 0 } : Room).slots (QX1 Z a b d o h0 n0) (s₁.setTop (entryFrame m #[(.long a), (.long b), (.long d), (.int (1 : Int32)), (.int o)] 11))
  rw [efX1]
  refine Go.by (fun _ kont => XS.iload X0.here hx rfl (hb hby dX1_0) rfl kont) ?_
  show Go _ _ _ _ _ _ _ (s₁.setTop (mkF m 2 #[.val (.long a), .second, .val (.long b), .second, .val (.long d), .second, .val (.int (1 : Int32)), .val (.int o), .unset, .unset, .unset] [(.int o)]))
  by_cases hc101 : o < (0 : Int32)
  · refine Go.by (fun _ kont => XS.ifYes X0.here hx rfl (pc0 := 2) (pc' := 15) rfl (hb hby dX1_2) rfl ((if0 _ _).trans (tlt hc101).1) (by decide) (by decide) kont) ?_
    show Go _ _ _ _ _ _ _ (s₁.setTop (mkF m 15 #[.val (.long a), .second, .val (.long b), .second, .val (.long d), .second, .val (.int (1 : Int32)), .val (.int o), .unset, .unset, .unset] []))
    refine Go.by (fun _ kont => XS.iconst X0.here hx rfl (hb hby dX1_15) kont) ?_
    show Go _ _ _ _ _ _ _ (s₁.setTop (mkF m 16 #[.val (.long a), .second, .val (.long b), .second, .val (.long d), .second, .val (.int (1 : Int32)), .val (.int o), .unset, .unset, .unset] [(.int (0 : Int32))]))
    refine Go.retN X0 hx (t := .boolean) hret (by simp) hlk (hb hby dX1_16) ?_ (by decide) (by decide)
    show QX1 Z a b d o h0 n0 (some (.int (0 : Int32))) s₁.heap _
    rw [e0]
    refine ⟨?_, N0, rfl⟩
    unfold fX1
    rw [if_pos hc101]
  · refine Go.by (fun _ kont => XS.ifNo X0.here hx rfl (hb hby dX1_2) rfl ((if0 _ _).trans (flt hc101).1) kont) ?_
    show Go _ _ _ _ _ _ _ (s₁.setTop (mkF m 5 #[.val (.long a), .second, .val (.long b), .second, .val (.long d), .second, .val (.int (1 : Int32)), .val (.int o), .unset, .unset, .unset] []))
    refine Go.by (fun _ kont => XS.iload X0.here hx rfl (hb hby dX1_5) rfl (XS.bipush X0.here hx rfl (hb hby dX1_7) (XS.iload X0.here hx rfl (hb hby dX1_9) rfl (XS.imul X0.here hx rfl (hb hby dX1_11) rfl kont)))) ?_
    show Go _ _ _ _ _ _ _ (s₁.setTop (mkF m 12 #[.val (.long a), .second, .val (.long b), .second, .val (.long d), .second, .val (.int (1 : Int32)), .val (.int o), .unset, .unset, .unset] [(.int ((64 : Int32) * (1 : Int32))), (.int o)]))
    rw [show ((64 : Int32) * (1 : Int32)) = (64 : Int32) from by decide]
    show Go _ _ _ _ _ _ _ (s₁.setTop (mkF m 12 #[.val (.long a), .second, .val (.long b), .second, .val (.long d), .second, .val (.int (1 : Int32)), .val (.int o), .unset, .unset, .unset] [(.int (64 : Int32)), (.int o)]))
    by_cases hc102 : o < (64 : Int32)
    · refine Go.by (fun _ kont => XS.icmpYes X0.here hx rfl (pc0 := 12) (pc' := 17) rfl (hb hby dX1_12) rfl (tlt hc102).1 (by decide) (by decide) kont) ?_
      show Go _ _ _ _ _ _ _ (s₁.setTop (mkF m 17 #[.val (.long a), .second, .val (.long b), .second, .val (.long d), .second, .val (.int (1 : Int32)), .val (.int o), .unset, .unset, .unset] []))
      refine Go.by (fun _ kont => XS.iload X0.here hx rfl (hb hby dX1_17) rfl (XS.bipush X0.here hx rfl (hb hby dX1_19) kont)) ?_
      show Go _ _ _ _ _ _ _ (s₁.setTop (mkF m 21 #[.val (.long a), .second, .val (.long b), .second, .val (.long d), .second, .val (.int (1 : Int32)), .val (.int o), .unset, .unset, .unset] [(.int (64 : Int32)), (.int o)]))
      refine Go.by (fun _ kont => XS.icmpNo X0.here hx rfl (hb hby dX1_21) rfl (tlt hc102).2.1 kont) ?_
      show Go _ _ _ _ _ _ _ (s₁.setTop (mkF m 24 #[.val (.long a), .second, .val (.long b), .second, .val (.long d), .second, .val (.int (1 : Int32)), .val (.int o), .unset, .unset, .unset] []))
      refine Go.by (fun _ kont => XS.lloadN X0.here hx rfl (hb hby dX1_24) rfl (XS.lstore X0.here hx rfl (hb hby dX1_25) rfl (l' := #[.val (.long a), .second, .val (.long b), .second, .val (.long d), .second, .val (.int (1 : Int32)), .val (.int o), .val (.long a), .second, .unset]) rfl (XS.iload X0.here hx rfl (hb hby dX1_27) rfl (XS.istore X0.here hx rfl (hb hby dX1_29) rfl (l' := #[.val (.long a), .second, .val (.long b), .second, .val (.long d), .second, .val (.int (1 : Int32)), .val (.int o), .val (.long a), .second, .val (.int o)]) rfl (XS.goto X0.here hx rfl (pc0 := 31) (pc' := 67) rfl (hb hby dX1_31) (by decide) (by decide) (XS.lload X0.here hx rfl (hb hby dX1_67) rfl kont)))))) ?_
      show Go _ _ _ _ _ _ _ (s₁.setTop (mkF m 69 #[.val (.long a), .second, .val (.long b), .second, .val (.long d), .second, .val (.int (1 : Int32)), .val (.int o), .val (.long a), .second, .val (.int o)] [(.long a)]))
      refine Go.by (fun _ kont => XS.iload X0.here hx rfl (hb hby dX1_69) rfl (XS.lushr X0.here hx rfl (hb hby dX1_71) rfl (XS.lconst X0.here hx rfl (hb hby dX1_72) (XS.land X0.here hx rfl (hb hby dX1_73) rfl (XS.lconst X0.here hx rfl (hb hby dX1_74) (XS.lcmp X0.here hx rfl (hb hby dX1_75) rfl kont)))))) ?_
      show Go _ _ _ _ _ _ _ (s₁.setTop (mkF m 76 #[.val (.long a), .second, .val (.long b), .second, .val (.long d), .second, .val (.int (1 : Int32)), .val (.int o), .val (.long a), .second, .val (.int o)] [(.int (lcmpW (((a.toUInt64 >>> (o &&& 0x3f).toInt64.toUInt64).toInt64) &&& (1 : Int64)) (1 : Int64)))]))
      by_cases hc103 : (((a.toUInt64 >>> (o &&& 0x3f).toInt64.toUInt64).toInt64) &&& (1 : Int64)) = (1 : Int64)
      · refine Go.by (fun _ kont => XS.ifNo X0.here hx rfl (hb hby dX1_76) rfl ((if0 _ _).trans (teq ((lw_eq _ _).mpr hc103)).2) kont) ?_
        show Go _ _ _ _ _ _ _ (s₁.setTop (mkF m 79 #[.val (.long a), .second, .val (.long b), .second, .val (.long d), .second, .val (.int (1 : Int32)), .val (.int o), .val (.long a), .second, .val (.int o)] []))
        refine Go.by (fun _ kont => XS.iconst X0.here hx rfl (hb hby dX1_79) (XS.goto X0.here hx rfl (pc0 := 80) (pc' := 84) rfl (hb hby dX1_80) (by decide) (by decide) kont)) ?_
        show Go _ _ _ _ _ _ _ (s₁.setTop (mkF m 84 #[.val (.long a), .second, .val (.long b), .second, .val (.long d), .second, .val (.int (1 : Int32)), .val (.int o), .val (.long a), .second, .val (.int o)] [(.int (1 : Int32))]))
        refine Go.retN X0 hx (t := .boolean) hret (by simp) hlk (hb hby dX1_84) ?_ (by decide) (by decide)
        show QX1 Z a b d o h0 n0 (some (.int (1 : Int32))) s₁.heap _
        rw [e0]
        refine ⟨?_, N0, rfl⟩
        unfold fX1
        rw [if_neg hc101, if_pos hc102, if_pos hc103]
      · refine Go.by (fun _ kont => XS.ifYes X0.here hx rfl (pc0 := 76) (pc' := 83) rfl (hb hby dX1_76) rfl ((if0 _ _).trans (feq (fun z => hc103 ((lw_eq _ _).mp z))).2) (by decide) (by decide) kont) ?_
        show Go _ _ _ _ _ _ _ (s₁.setTop (mkF m 83 #[.val (.long a), .second, .val (.long b), .second, .val (.long d), .second, .val (.int (1 : Int32)), .val (.int o), .val (.long a), .second, .val (.int o)] []))
        refine Go.by (fun _ kont => XS.iconst X0.here hx rfl (hb hby dX1_83) kont) ?_
        show Go _ _ _ _ _ _ _ (s₁.setTop (mkF m 84 #[.val (.long a), .second, .val (.long b), .second, .val (.long d), .second, .val (.int (1 : Int32)), .val (.int o), .val (.long a), .second, .val (.int o)] [(.int (0 : Int32))]))
        refine Go.retN X0 hx (t := .boolean) hret (by simp) hlk (hb hby dX1_84) ?_ (by decide) (by decide)
        show QX1 Z a b d o h0 n0 (some (.int (0 : Int32))) s₁.heap _
        rw [e0]
        refine ⟨?_, N0, rfl⟩
        unfold fX1
        rw [if_neg hc101, if_pos hc102, if_neg hc103]
    · refine Go.by (fun _ kont => XS.icmpNo X0.here hx rfl (hb hby dX1_12) rfl (flt hc102).1 kont) ?_
      show Go _ _ _ _ _ _ _ (s₁.setTop (mkF m 15 #[.val (.long a), .second, .val (.long b), .second, .val (.long d), .second, .val (.int (1 : Int32)), .val (.int o), .unset, .unset, .unset] []))
      refine Go.by (fun _ kont => XS.iconst X0.here hx rfl (hb hby dX1_15) kont) ?_
      show Go _ _ _ _ _ _ _ (s₁.setTop (mkF m 16 #[.val (.long a), .second, .val (.long b), .second, .val (.long d), .second, .val (.int (1 : Int32)), .val (.int o), .unset, .unset, .unset] [(.int (0 : Int32))]))
      refine Go.retN X0 hx (t := .boolean) hret (by simp) hlk (hb hby dX1_16) ?_ (by decide) (by decide)
      show QX1 Z a b d o h0 n0 (some (.int (0 : Int32))) s₁.heap _
      rw [e0]
      refine ⟨?_, N0, rfl⟩
      unfold fX1
      rw [if_neg hc101, if_neg hc102]

theorem dX2_0 : decode method_3_code 0 = .ok (.iload 7, 2) := by decide +kernel
theorem dX2_2 : decode method_3_code 2 = .ok (.ifCond .lt 13, 3) := by decide +kernel
theorem dX2_5 : decode method_3_code 5 = .ok (.iload 7, 2) := by decide +kernel
theorem dX2_7 : decode method_3_code 7 = .ok (.bipush 64, 2) := by decide +kernel
theorem dX2_9 : decode method_3_code 9 = .ok (.iload 6, 2) := by decide +kernel
theorem dX2_11 : decode method_3_code 11 = .ok (.imul, 1) := by decide +kernel
theorem dX2_12 : decode method_3_code 12 = .ok (.if_icmp .lt 5, 3) := by decide +kernel
theorem dX2_15 : decode method_3_code 15 = .ok (.iconst 0, 1) := by decide +kernel
theorem dX2_16 : decode method_3_code 16 = .ok (.ireturn, 1) := by decide +kernel
theorem dX2_17 : decode method_3_code 17 = .ok (.iload 7, 2) := by decide +kernel
theorem dX2_19 : decode method_3_code 19 = .ok (.bipush 64, 2) := by decide +kernel
theorem dX2_21 : decode method_3_code 21 = .ok (.if_icmp .ge 13, 3) := by decide +kernel
theorem dX2_24 : decode method_3_code 24 = .ok (.lload_n 0, 1) := by decide +kernel
theorem dX2_25 : decode method_3_code 25 = .ok (.lstore 8, 2) := by decide +kernel
theorem dX2_27 : decode method_3_code 27 = .ok (.iload 7, 2) := by decide +kernel
theorem dX2_29 : decode method_3_code 29 = .ok (.istore 10, 2) := by decide +kernel
theorem dX2_31 : decode method_3_code 31 = .ok (.goto 36, 3) := by decide +kernel
theorem dX2_34 : decode method_3_code 34 = .ok (.iload 7, 2) := by decide +kernel
theorem dX2_36 : decode method_3_code 36 = .ok (.sipush 128, 3) := by decide +kernel
theorem dX2_39 : decode method_3_code 39 = .ok (.if_icmp .ge 16, 3) := by decide +kernel
theorem dX2_42 : decode method_3_code 42 = .ok (.lload_n 2, 1) := by decide +kernel
theorem dX2_43 : decode method_3_code 43 = .ok (.lstore 8, 2) := by decide +kernel
theorem dX2_45 : decode method_3_code 45 = .ok (.iload 7, 2) := by decide +kernel
theorem dX2_47 : decode method_3_code 47 = .ok (.bipush 64, 2) := by decide +kernel
theorem dX2_49 : decode method_3_code 49 = .ok (.isub, 1) := by decide +kernel
theorem dX2_50 : decode method_3_code 50 = .ok (.istore 10, 2) := by decide +kernel
theorem dX2_52 : decode method_3_code 52 = .ok (.goto 15, 3) := by decide +kernel
theorem dX2_67 : decode method_3_code 67 = .ok (.lload 8, 2) := by decide +kernel
theorem dX2_69 : decode method_3_code 69 = .ok (.iload 10, 2) := by decide +kernel
theorem dX2_71 : decode method_3_code 71 = .ok (.lushr, 1) := by decide +kernel
theorem dX2_72 : decode method_3_code 72 = .ok (.lconst 1, 1) := by decide +kernel
theorem dX2_73 : decode method_3_code 73 = .ok (.land, 1) := by decide +kernel
theorem dX2_74 : decode method_3_code 74 = .ok (.lconst 1, 1) := by decide +kernel
theorem dX2_75 : decode method_3_code 75 = .ok (.lcmp, 1) := by decide +kernel
theorem dX2_76 : decode method_3_code 76 = .ok (.ifCond .ne 7, 3) := by decide +kernel
theorem dX2_79 : decode method_3_code 79 = .ok (.iconst 1, 1) := by decide +kernel
theorem dX2_80 : decode method_3_code 80 = .ok (.goto 4, 3) := by decide +kernel
theorem dX2_83 : decode method_3_code 83 = .ok (.iconst 0, 1) := by decide +kernel
theorem dX2_84 : decode method_3_code 84 = .ok (.ireturn, 1) := by decide +kernel
theorem pnX2 : plainName "com/example/classwright/classwright/InstructionsStartsAtPinLaw" = true := by first | (simp [plainName, overriddenIn]; done) | decide +kernel
theorem efX2 (m : MethodId) (a : Int64) (b : Int64) (d : Int64) (o : Int32) : entryFrame m #[(.long a), (.long b), (.long d), (.int (2 : Int32)), (.int o)] 11 = mkF m 0 #[.val (.long a), .second, .val (.long b), .second, .val (.long d), .second, .val (.int (2 : Int32)), .val (.int o), .unset, .unset, .unset] [] := by first | (simp [entryFrame, mkF, argsToLocals, Value.category]; done) | rfl
def fX2 (a : Int64) (b : Int64) (o : Int32) : Int32 := (if o < (0 : Int32) then (0 : Int32) else (if o < (128 : Int32) then (if o < (64 : Int32) then (if (((a.toUInt64 >>> (o &&& 0x3f).toInt64.toUInt64).toInt64) &&& (1 : Int64)) = (1 : Int64) then (1 : Int32) else (0 : Int32)) else (if (((b.toUInt64 >>> ((o - (64 : Int32)) &&& 0x3f).toInt64.toUInt64).toInt64) &&& (1 : Int64)) = (1 : Int64) then (1 : Int32) else (0 : Int32))) else (0 : Int32)))
def QX2 (Z : State) (a : Int64) (b : Int64) (d : Int64) (o : Int32) (h0 : Heap) (n0 : Nat) (v : Option Value) (h : Heap) (L : List Loc) : Prop := v = some (.int (fX2 a b o)) ∧ Fr n0 L ∧ h = h0
set_option maxRecDepth 65536 in
set_option maxHeartbeats 40000000 in
theorem rmX2 (l : Launch) (Z : State) (a0 : Array Value) (hw : ∀ d ∈ tables_1, d.before a0 Z = true) (ws : List Jvm.Cond) (a : Int64) (b : Int64) (d : Int64) (o : Int32) (h0 : Heap) (n0 : Nat) (Z0 : n0 ≤ h0.size) :
    MetFree l (⟨"com/example/classwright/classwright/InstructionsStartsAtPinLaw", "expected", "(JJJII)Z"⟩ : MethodName) (head1 (Jvm.Cond.code (⟨"com/example/classwright/classwright/InstructionsStartsAtPinLaw", "expected", "(JJJII)Z"⟩ : MethodName) method_3_code 11 (some .boolean) :: ws) ({ frames := 0, cells := 0, slots := 0, locals := 0 } : Room)) (fun aa_ U_ => aa_ = #[(.long a), (.long b), (.long d), (.int (2 : Int32)), (.int o)] ∧ Z.Warmed39 U_.vm ∧ U_.heap = h0) (fun _ _ _ _ _ => True) (fun _ U_ o_ V_ => ∃ v_ L_, o_ = .returned v_ ∧ QX2 Z a b d o h0 n0 v_ V_.heap L_ ∧ FrameEnd U_ o_ V_ L_ ({ frames := 0, cells := 0, slots := 0, locals := 0 } : Room).cells ({ frames := 0, cells := 0, slots := 0, locals := 0 } : Room).slots) := by
  refine MetFree.of_bodySF (plainFor_of_name pnX2) hisR ?_
  intro p e s m args below meth c s₁ Bd hml0 hP hK
  obtain ⟨rfl, hZ, hh⟩ := hP
  have hx := Bd.exec
  have hby := Bd.bytes
  have hml : c.maxLocals = 11 := hml0
  have hown : s.vm.findClass "com/example/classwright/classwright/InstructionsStartsAtPinLaw" = some m.cls := findClass_of_methodNamed Bd.named
  have hnm := (name_of_methodNamed Bd.named Bd.method).1
  have hlk : meth.locks = false := BodyLoose.notSynchronized Bd
  have hret : meth.sig.returnType = (some .boolean) := Bd.returns
  have X0 : Stand p l e ({ frames := 0, cells := 0, slots := 0, locals := 0 } : Room) s m #[(.long a), (.long b), (.long d), (.int (2 : Int32)), (.int o)] below meth c s₁ [] 0 0 := Stand.of_body Bd
  have e0 : s₁.heap = h0 := by rw [← hh, Bd.state]; rfl
  have N0 := Fr.nil n0
  show Go p e below s ({ frames := 0, cells := 0, slots := 0, locals := 0 } : Room).cells ({ frames := 0, cells := 0, slots := 0, locals := 0 } : Room).slots (QX2 Z a b d o h0 n0) (s₁.setTop (entryFrame m #[(.long a), (.long b), (.long d), (.int (2 : Int32)), (.int o)] 11))
  rw [efX2]
  refine Go.by (fun _ kont => XS.iload X0.here hx rfl (hb hby dX2_0) rfl kont) ?_
  show Go _ _ _ _ _ _ _ (s₁.setTop (mkF m 2 #[.val (.long a), .second, .val (.long b), .second, .val (.long d), .second, .val (.int (2 : Int32)), .val (.int o), .unset, .unset, .unset] [(.int o)]))
  by_cases hc101 : o < (0 : Int32)
  · refine Go.by (fun _ kont => XS.ifYes X0.here hx rfl (pc0 := 2) (pc' := 15) rfl (hb hby dX2_2) rfl ((if0 _ _).trans (tlt hc101).1) (by decide) (by decide) kont) ?_
    show Go _ _ _ _ _ _ _ (s₁.setTop (mkF m 15 #[.val (.long a), .second, .val (.long b), .second, .val (.long d), .second, .val (.int (2 : Int32)), .val (.int o), .unset, .unset, .unset] []))
    refine Go.by (fun _ kont => XS.iconst X0.here hx rfl (hb hby dX2_15) kont) ?_
    show Go _ _ _ _ _ _ _ (s₁.setTop (mkF m 16 #[.val (.long a), .second, .val (.long b), .second, .val (.long d), .second, .val (.int (2 : Int32)), .val (.int o), .unset, .unset, .unset] [(.int (0 : Int32))]))
    refine Go.retN X0 hx (t := .boolean) hret (by simp) hlk (hb hby dX2_16) ?_ (by decide) (by decide)
    show QX2 Z a b d o h0 n0 (some (.int (0 : Int32))) s₁.heap _
    rw [e0]
    refine ⟨?_, N0, rfl⟩
    unfold fX2
    rw [if_pos hc101]
  · refine Go.by (fun _ kont => XS.ifNo X0.here hx rfl (hb hby dX2_2) rfl ((if0 _ _).trans (flt hc101).1) kont) ?_
    show Go _ _ _ _ _ _ _ (s₁.setTop (mkF m 5 #[.val (.long a), .second, .val (.long b), .second, .val (.long d), .second, .val (.int (2 : Int32)), .val (.int o), .unset, .unset, .unset] []))
    refine Go.by (fun _ kont => XS.iload X0.here hx rfl (hb hby dX2_5) rfl (XS.bipush X0.here hx rfl (hb hby dX2_7) (XS.iload X0.here hx rfl (hb hby dX2_9) rfl (XS.imul X0.here hx rfl (hb hby dX2_11) rfl kont)))) ?_
    show Go _ _ _ _ _ _ _ (s₁.setTop (mkF m 12 #[.val (.long a), .second, .val (.long b), .second, .val (.long d), .second, .val (.int (2 : Int32)), .val (.int o), .unset, .unset, .unset] [(.int ((64 : Int32) * (2 : Int32))), (.int o)]))
    rw [show ((64 : Int32) * (2 : Int32)) = (128 : Int32) from by decide]
    show Go _ _ _ _ _ _ _ (s₁.setTop (mkF m 12 #[.val (.long a), .second, .val (.long b), .second, .val (.long d), .second, .val (.int (2 : Int32)), .val (.int o), .unset, .unset, .unset] [(.int (128 : Int32)), (.int o)]))
    by_cases hc102 : o < (128 : Int32)
    · refine Go.by (fun _ kont => XS.icmpYes X0.here hx rfl (pc0 := 12) (pc' := 17) rfl (hb hby dX2_12) rfl (tlt hc102).1 (by decide) (by decide) kont) ?_
      show Go _ _ _ _ _ _ _ (s₁.setTop (mkF m 17 #[.val (.long a), .second, .val (.long b), .second, .val (.long d), .second, .val (.int (2 : Int32)), .val (.int o), .unset, .unset, .unset] []))
      refine Go.by (fun _ kont => XS.iload X0.here hx rfl (hb hby dX2_17) rfl (XS.bipush X0.here hx rfl (hb hby dX2_19) kont)) ?_
      show Go _ _ _ _ _ _ _ (s₁.setTop (mkF m 21 #[.val (.long a), .second, .val (.long b), .second, .val (.long d), .second, .val (.int (2 : Int32)), .val (.int o), .unset, .unset, .unset] [(.int (64 : Int32)), (.int o)]))
      by_cases hc103 : o < (64 : Int32)
      · refine Go.by (fun _ kont => XS.icmpNo X0.here hx rfl (hb hby dX2_21) rfl (tlt hc103).2.1 kont) ?_
        show Go _ _ _ _ _ _ _ (s₁.setTop (mkF m 24 #[.val (.long a), .second, .val (.long b), .second, .val (.long d), .second, .val (.int (2 : Int32)), .val (.int o), .unset, .unset, .unset] []))
        refine Go.by (fun _ kont => XS.lloadN X0.here hx rfl (hb hby dX2_24) rfl (XS.lstore X0.here hx rfl (hb hby dX2_25) rfl (l' := #[.val (.long a), .second, .val (.long b), .second, .val (.long d), .second, .val (.int (2 : Int32)), .val (.int o), .val (.long a), .second, .unset]) rfl (XS.iload X0.here hx rfl (hb hby dX2_27) rfl (XS.istore X0.here hx rfl (hb hby dX2_29) rfl (l' := #[.val (.long a), .second, .val (.long b), .second, .val (.long d), .second, .val (.int (2 : Int32)), .val (.int o), .val (.long a), .second, .val (.int o)]) rfl (XS.goto X0.here hx rfl (pc0 := 31) (pc' := 67) rfl (hb hby dX2_31) (by decide) (by decide) (XS.lload X0.here hx rfl (hb hby dX2_67) rfl kont)))))) ?_
        show Go _ _ _ _ _ _ _ (s₁.setTop (mkF m 69 #[.val (.long a), .second, .val (.long b), .second, .val (.long d), .second, .val (.int (2 : Int32)), .val (.int o), .val (.long a), .second, .val (.int o)] [(.long a)]))
        refine Go.by (fun _ kont => XS.iload X0.here hx rfl (hb hby dX2_69) rfl (XS.lushr X0.here hx rfl (hb hby dX2_71) rfl (XS.lconst X0.here hx rfl (hb hby dX2_72) (XS.land X0.here hx rfl (hb hby dX2_73) rfl (XS.lconst X0.here hx rfl (hb hby dX2_74) (XS.lcmp X0.here hx rfl (hb hby dX2_75) rfl kont)))))) ?_
        show Go _ _ _ _ _ _ _ (s₁.setTop (mkF m 76 #[.val (.long a), .second, .val (.long b), .second, .val (.long d), .second, .val (.int (2 : Int32)), .val (.int o), .val (.long a), .second, .val (.int o)] [(.int (lcmpW (((a.toUInt64 >>> (o &&& 0x3f).toInt64.toUInt64).toInt64) &&& (1 : Int64)) (1 : Int64)))]))
        by_cases hc104 : (((a.toUInt64 >>> (o &&& 0x3f).toInt64.toUInt64).toInt64) &&& (1 : Int64)) = (1 : Int64)
        · refine Go.by (fun _ kont => XS.ifNo X0.here hx rfl (hb hby dX2_76) rfl ((if0 _ _).trans (teq ((lw_eq _ _).mpr hc104)).2) kont) ?_
          show Go _ _ _ _ _ _ _ (s₁.setTop (mkF m 79 #[.val (.long a), .second, .val (.long b), .second, .val (.long d), .second, .val (.int (2 : Int32)), .val (.int o), .val (.long a), .second, .val (.int o)] []))
          refine Go.by (fun _ kont => XS.iconst X0.here hx rfl (hb hby dX2_79) (XS.goto X0.here hx rfl (pc0 := 80) (pc' := 84) rfl (hb hby dX2_80) (by decide) (by decide) kont)) ?_
          show Go _ _ _ _ _ _ _ (s₁.setTop (mkF m 84 #[.val (.long a), .second, .val (.long b), .second, .val (.long d), .second, .val (.int (2 : Int32)), .val (.int o), .val (.long a), .second, .val (.int o)] [(.int (1 : Int32))]))
          refine Go.retN X0 hx (t := .boolean) hret (by simp) hlk (hb hby dX2_84) ?_ (by decide) (by decide)
          show QX2 Z a b d o h0 n0 (some (.int (1 : Int32))) s₁.heap _
          rw [e0]
          refine ⟨?_, N0, rfl⟩
          unfold fX2
          rw [if_neg hc101, if_pos hc102, if_pos hc103, if_pos hc104]
        · refine Go.by (fun _ kont => XS.ifYes X0.here hx rfl (pc0 := 76) (pc' := 83) rfl (hb hby dX2_76) rfl ((if0 _ _).trans (feq (fun z => hc104 ((lw_eq _ _).mp z))).2) (by decide) (by decide) kont) ?_
          show Go _ _ _ _ _ _ _ (s₁.setTop (mkF m 83 #[.val (.long a), .second, .val (.long b), .second, .val (.long d), .second, .val (.int (2 : Int32)), .val (.int o), .val (.long a), .second, .val (.int o)] []))
          refine Go.by (fun _ kont => XS.iconst X0.here hx rfl (hb hby dX2_83) kont) ?_
          show Go _ _ _ _ _ _ _ (s₁.setTop (mkF m 84 #[.val (.long a), .second, .val (.long b), .second, .val (.long d), .second, .val (.int (2 : Int32)), .val (.int o), .val (.long a), .second, .val (.int o)] [(.int (0 : Int32))]))
          refine Go.retN X0 hx (t := .boolean) hret (by simp) hlk (hb hby dX2_84) ?_ (by decide) (by decide)
          show QX2 Z a b d o h0 n0 (some (.int (0 : Int32))) s₁.heap _
          rw [e0]
          refine ⟨?_, N0, rfl⟩
          unfold fX2
          rw [if_neg hc101, if_pos hc102, if_pos hc103, if_neg hc104]
      · refine Go.by (fun _ kont => XS.icmpYes X0.here hx rfl (pc0 := 21) (pc' := 34) rfl (hb hby dX2_21) rfl (flt hc103).2.1 (by decide) (by decide) kont) ?_
        show Go _ _ _ _ _ _ _ (s₁.setTop (mkF m 34 #[.val (.long a), .second, .val (.long b), .second, .val (.long d), .second, .val (.int (2 : Int32)), .val (.int o), .unset, .unset, .unset] []))
        refine Go.by (fun _ kont => XS.iload X0.here hx rfl (hb hby dX2_34) rfl (XS.sipush X0.here hx rfl (hb hby dX2_36) kont)) ?_
        show Go _ _ _ _ _ _ _ (s₁.setTop (mkF m 39 #[.val (.long a), .second, .val (.long b), .second, .val (.long d), .second, .val (.int (2 : Int32)), .val (.int o), .unset, .unset, .unset] [(.int (128 : Int32)), (.int o)]))
        refine Go.by (fun _ kont => XS.icmpNo X0.here hx rfl (hb hby dX2_39) rfl (tlt hc102).2.1 kont) ?_
        show Go _ _ _ _ _ _ _ (s₁.setTop (mkF m 42 #[.val (.long a), .second, .val (.long b), .second, .val (.long d), .second, .val (.int (2 : Int32)), .val (.int o), .unset, .unset, .unset] []))
        refine Go.by (fun _ kont => XS.lloadN X0.here hx rfl (hb hby dX2_42) rfl (XS.lstore X0.here hx rfl (hb hby dX2_43) rfl (l' := #[.val (.long a), .second, .val (.long b), .second, .val (.long d), .second, .val (.int (2 : Int32)), .val (.int o), .val (.long b), .second, .unset]) rfl (XS.iload X0.here hx rfl (hb hby dX2_45) rfl (XS.bipush X0.here hx rfl (hb hby dX2_47) (XS.isub X0.here hx rfl (hb hby dX2_49) rfl (XS.istore X0.here hx rfl (hb hby dX2_50) rfl (l' := #[.val (.long a), .second, .val (.long b), .second, .val (.long d), .second, .val (.int (2 : Int32)), .val (.int o), .val (.long b), .second, .val (.int (o - (64 : Int32)))]) rfl kont)))))) ?_
        show Go _ _ _ _ _ _ _ (s₁.setTop (mkF m 52 #[.val (.long a), .second, .val (.long b), .second, .val (.long d), .second, .val (.int (2 : Int32)), .val (.int o), .val (.long b), .second, .val (.int (o - (64 : Int32)))] []))
        refine Go.by (fun _ kont => XS.goto X0.here hx rfl (pc0 := 52) (pc' := 67) rfl (hb hby dX2_52) (by decide) (by decide) (XS.lload X0.here hx rfl (hb hby dX2_67) rfl (XS.iload X0.here hx rfl (hb hby dX2_69) rfl (XS.lushr X0.here hx rfl (hb hby dX2_71) rfl (XS.lconst X0.here hx rfl (hb hby dX2_72) (XS.land X0.here hx rfl (hb hby dX2_73) rfl kont)))))) ?_
        show Go _ _ _ _ _ _ _ (s₁.setTop (mkF m 74 #[.val (.long a), .second, .val (.long b), .second, .val (.long d), .second, .val (.int (2 : Int32)), .val (.int o), .val (.long b), .second, .val (.int (o - (64 : Int32)))] [(.long (((b.toUInt64 >>> ((o - (64 : Int32)) &&& 0x3f).toInt64.toUInt64).toInt64) &&& (1 : Int64)))]))
        refine Go.by (fun _ kont => XS.lconst X0.here hx rfl (hb hby dX2_74) (XS.lcmp X0.here hx rfl (hb hby dX2_75) rfl kont)) ?_
        show Go _ _ _ _ _ _ _ (s₁.setTop (mkF m 76 #[.val (.long a), .second, .val (.long b), .second, .val (.long d), .second, .val (.int (2 : Int32)), .val (.int o), .val (.long b), .second, .val (.int (o - (64 : Int32)))] [(.int (lcmpW (((b.toUInt64 >>> ((o - (64 : Int32)) &&& 0x3f).toInt64.toUInt64).toInt64) &&& (1 : Int64)) (1 : Int64)))]))
        by_cases hc105 : (((b.toUInt64 >>> ((o - (64 : Int32)) &&& 0x3f).toInt64.toUInt64).toInt64) &&& (1 : Int64)) = (1 : Int64)
        · refine Go.by (fun _ kont => XS.ifNo X0.here hx rfl (hb hby dX2_76) rfl ((if0 _ _).trans (teq ((lw_eq _ _).mpr hc105)).2) kont) ?_
          show Go _ _ _ _ _ _ _ (s₁.setTop (mkF m 79 #[.val (.long a), .second, .val (.long b), .second, .val (.long d), .second, .val (.int (2 : Int32)), .val (.int o), .val (.long b), .second, .val (.int (o - (64 : Int32)))] []))
          refine Go.by (fun _ kont => XS.iconst X0.here hx rfl (hb hby dX2_79) (XS.goto X0.here hx rfl (pc0 := 80) (pc' := 84) rfl (hb hby dX2_80) (by decide) (by decide) kont)) ?_
          show Go _ _ _ _ _ _ _ (s₁.setTop (mkF m 84 #[.val (.long a), .second, .val (.long b), .second, .val (.long d), .second, .val (.int (2 : Int32)), .val (.int o), .val (.long b), .second, .val (.int (o - (64 : Int32)))] [(.int (1 : Int32))]))
          refine Go.retN X0 hx (t := .boolean) hret (by simp) hlk (hb hby dX2_84) ?_ (by decide) (by decide)
          show QX2 Z a b d o h0 n0 (some (.int (1 : Int32))) s₁.heap _
          rw [e0]
          refine ⟨?_, N0, rfl⟩
          unfold fX2
          rw [if_neg hc101, if_pos hc102, if_neg hc103, if_pos hc105]
        · refine Go.by (fun _ kont => XS.ifYes X0.here hx rfl (pc0 := 76) (pc' := 83) rfl (hb hby dX2_76) rfl ((if0 _ _).trans (feq (fun z => hc105 ((lw_eq _ _).mp z))).2) (by decide) (by decide) kont) ?_
          show Go _ _ _ _ _ _ _ (s₁.setTop (mkF m 83 #[.val (.long a), .second, .val (.long b), .second, .val (.long d), .second, .val (.int (2 : Int32)), .val (.int o), .val (.long b), .second, .val (.int (o - (64 : Int32)))] []))
          refine Go.by (fun _ kont => XS.iconst X0.here hx rfl (hb hby dX2_83) kont) ?_
          show Go _ _ _ _ _ _ _ (s₁.setTop (mkF m 84 #[.val (.long a), .second, .val (.long b), .second, .val (.long d), .second, .val (.int (2 : Int32)), .val (.int o), .val (.long b), .second, .val (.int (o - (64 : Int32)))] [(.int (0 : Int32))]))
          refine Go.retN X0 hx (t := .boolean) hret (by simp) hlk (hb hby dX2_84) ?_ (by decide) (by decide)
          show QX2 Z a b d o h0 n0 (some (.int (0 : Int32))) s₁.heap _
          rw [e0]
          refine ⟨?_, N0, rfl⟩
          unfold fX2
          rw [if_neg hc101, if_pos hc102, if_neg hc103, if_neg hc105]
    · refine Go.by (fun _ kont => XS.icmpNo X0.here hx rfl (hb hby dX2_12) rfl (flt hc102).1 kont) ?_
      show Go _ _ _ _ _ _ _ (s₁.setTop (mkF m 15 #[.val (.long a), .second, .val (.long b), .second, .val (.long d), .second, .val (.int (2 : Int32)), .val (.int o), .unset, .unset, .unset] []))
      refine Go.by (fun _ kont => XS.iconst X0.here hx rfl (hb hby dX2_15) kont) ?_
      show Go _ _ _ _ _ _ _ (s₁.setTop (mkF m 16 #[.val (.long a), .second, .val (.long b), .second, .val (.long d), .second, .val (.int (2 : Int32)), .val (.int o), .unset, .unset, .unset] [(.int (0 : Int32))]))
      refine Go.retN X0 hx (t := .boolean) hret (by simp) hlk (hb hby dX2_16) ?_ (by decide) (by decide)
      show QX2 Z a b d o h0 n0 (some (.int (0 : Int32))) s₁.heap _
      rw [e0]
      refine ⟨?_, N0, rfl⟩
      unfold fX2
      rw [if_neg hc101, if_neg hc102]

theorem dX3_0 : decode method_3_code 0 = .ok (.iload 7, 2) := by decide +kernel
theorem dX3_2 : decode method_3_code 2 = .ok (.ifCond .lt 13, 3) := by decide +kernel
theorem dX3_5 : decode method_3_code 5 = .ok (.iload 7, 2) := by decide +kernel
theorem dX3_7 : decode method_3_code 7 = .ok (.bipush 64, 2) := by decide +kernel
theorem dX3_9 : decode method_3_code 9 = .ok (.iload 6, 2) := by decide +kernel
theorem dX3_11 : decode method_3_code 11 = .ok (.imul, 1) := by decide +kernel
theorem dX3_12 : decode method_3_code 12 = .ok (.if_icmp .lt 5, 3) := by decide +kernel
theorem dX3_15 : decode method_3_code 15 = .ok (.iconst 0, 1) := by decide +kernel
theorem dX3_16 : decode method_3_code 16 = .ok (.ireturn, 1) := by decide +kernel
theorem dX3_17 : decode method_3_code 17 = .ok (.iload 7, 2) := by decide +kernel
theorem dX3_19 : decode method_3_code 19 = .ok (.bipush 64, 2) := by decide +kernel
theorem dX3_21 : decode method_3_code 21 = .ok (.if_icmp .ge 13, 3) := by decide +kernel
theorem dX3_24 : decode method_3_code 24 = .ok (.lload_n 0, 1) := by decide +kernel
theorem dX3_25 : decode method_3_code 25 = .ok (.lstore 8, 2) := by decide +kernel
theorem dX3_27 : decode method_3_code 27 = .ok (.iload 7, 2) := by decide +kernel
theorem dX3_29 : decode method_3_code 29 = .ok (.istore 10, 2) := by decide +kernel
theorem dX3_31 : decode method_3_code 31 = .ok (.goto 36, 3) := by decide +kernel
theorem dX3_34 : decode method_3_code 34 = .ok (.iload 7, 2) := by decide +kernel
theorem dX3_36 : decode method_3_code 36 = .ok (.sipush 128, 3) := by decide +kernel
theorem dX3_39 : decode method_3_code 39 = .ok (.if_icmp .ge 16, 3) := by decide +kernel
theorem dX3_42 : decode method_3_code 42 = .ok (.lload_n 2, 1) := by decide +kernel
theorem dX3_43 : decode method_3_code 43 = .ok (.lstore 8, 2) := by decide +kernel
theorem dX3_45 : decode method_3_code 45 = .ok (.iload 7, 2) := by decide +kernel
theorem dX3_47 : decode method_3_code 47 = .ok (.bipush 64, 2) := by decide +kernel
theorem dX3_49 : decode method_3_code 49 = .ok (.isub, 1) := by decide +kernel
theorem dX3_50 : decode method_3_code 50 = .ok (.istore 10, 2) := by decide +kernel
theorem dX3_52 : decode method_3_code 52 = .ok (.goto 15, 3) := by decide +kernel
theorem dX3_55 : decode method_3_code 55 = .ok (.lload 4, 2) := by decide +kernel
theorem dX3_57 : decode method_3_code 57 = .ok (.lstore 8, 2) := by decide +kernel
theorem dX3_59 : decode method_3_code 59 = .ok (.iload 7, 2) := by decide +kernel
theorem dX3_61 : decode method_3_code 61 = .ok (.sipush 128, 3) := by decide +kernel
theorem dX3_64 : decode method_3_code 64 = .ok (.isub, 1) := by decide +kernel
theorem dX3_65 : decode method_3_code 65 = .ok (.istore 10, 2) := by decide +kernel
theorem dX3_67 : decode method_3_code 67 = .ok (.lload 8, 2) := by decide +kernel
theorem dX3_69 : decode method_3_code 69 = .ok (.iload 10, 2) := by decide +kernel
theorem dX3_71 : decode method_3_code 71 = .ok (.lushr, 1) := by decide +kernel
theorem dX3_72 : decode method_3_code 72 = .ok (.lconst 1, 1) := by decide +kernel
theorem dX3_73 : decode method_3_code 73 = .ok (.land, 1) := by decide +kernel
theorem dX3_74 : decode method_3_code 74 = .ok (.lconst 1, 1) := by decide +kernel
theorem dX3_75 : decode method_3_code 75 = .ok (.lcmp, 1) := by decide +kernel
theorem dX3_76 : decode method_3_code 76 = .ok (.ifCond .ne 7, 3) := by decide +kernel
theorem dX3_79 : decode method_3_code 79 = .ok (.iconst 1, 1) := by decide +kernel
theorem dX3_80 : decode method_3_code 80 = .ok (.goto 4, 3) := by decide +kernel
theorem dX3_83 : decode method_3_code 83 = .ok (.iconst 0, 1) := by decide +kernel
theorem dX3_84 : decode method_3_code 84 = .ok (.ireturn, 1) := by decide +kernel
theorem pnX3 : plainName "com/example/classwright/classwright/InstructionsStartsAtPinLaw" = true := by first | (simp [plainName, overriddenIn]; done) | decide +kernel
theorem efX3 (m : MethodId) (a : Int64) (b : Int64) (d : Int64) (o : Int32) : entryFrame m #[(.long a), (.long b), (.long d), (.int (3 : Int32)), (.int o)] 11 = mkF m 0 #[.val (.long a), .second, .val (.long b), .second, .val (.long d), .second, .val (.int (3 : Int32)), .val (.int o), .unset, .unset, .unset] [] := by first | (simp [entryFrame, mkF, argsToLocals, Value.category]; done) | rfl
def fX3 (a : Int64) (b : Int64) (d : Int64) (o : Int32) : Int32 := (if o < (0 : Int32) then (0 : Int32) else (if o < (192 : Int32) then (if o < (64 : Int32) then (if (((a.toUInt64 >>> (o &&& 0x3f).toInt64.toUInt64).toInt64) &&& (1 : Int64)) = (1 : Int64) then (1 : Int32) else (0 : Int32)) else (if o < (128 : Int32) then (if (((b.toUInt64 >>> ((o - (64 : Int32)) &&& 0x3f).toInt64.toUInt64).toInt64) &&& (1 : Int64)) = (1 : Int64) then (1 : Int32) else (0 : Int32)) else (if (((d.toUInt64 >>> ((o - (128 : Int32)) &&& 0x3f).toInt64.toUInt64).toInt64) &&& (1 : Int64)) = (1 : Int64) then (1 : Int32) else (0 : Int32)))) else (0 : Int32)))
def QX3 (Z : State) (a : Int64) (b : Int64) (d : Int64) (o : Int32) (h0 : Heap) (n0 : Nat) (v : Option Value) (h : Heap) (L : List Loc) : Prop := v = some (.int (fX3 a b d o)) ∧ Fr n0 L ∧ h = h0
set_option maxRecDepth 65536 in
set_option maxHeartbeats 40000000 in
theorem rmX3 (l : Launch) (Z : State) (a0 : Array Value) (hw : ∀ d ∈ tables_1, d.before a0 Z = true) (ws : List Jvm.Cond) (a : Int64) (b : Int64) (d : Int64) (o : Int32) (h0 : Heap) (n0 : Nat) (Z0 : n0 ≤ h0.size) :
    MetFree l (⟨"com/example/classwright/classwright/InstructionsStartsAtPinLaw", "expected", "(JJJII)Z"⟩ : MethodName) (head1 (Jvm.Cond.code (⟨"com/example/classwright/classwright/InstructionsStartsAtPinLaw", "expected", "(JJJII)Z"⟩ : MethodName) method_3_code 11 (some .boolean) :: ws) ({ frames := 0, cells := 0, slots := 0, locals := 0 } : Room)) (fun aa_ U_ => aa_ = #[(.long a), (.long b), (.long d), (.int (3 : Int32)), (.int o)] ∧ Z.Warmed39 U_.vm ∧ U_.heap = h0) (fun _ _ _ _ _ => True) (fun _ U_ o_ V_ => ∃ v_ L_, o_ = .returned v_ ∧ QX3 Z a b d o h0 n0 v_ V_.heap L_ ∧ FrameEnd U_ o_ V_ L_ ({ frames := 0, cells := 0, slots := 0, locals := 0 } : Room).cells ({ frames := 0, cells := 0, slots := 0, locals := 0 } : Room).slots) := by
  refine MetFree.of_bodySF (plainFor_of_name pnX3) hisR ?_
  intro p e s m args below meth c s₁ Bd hml0 hP hK
  obtain ⟨rfl, hZ, hh⟩ := hP
  have hx := Bd.exec
  have hby := Bd.bytes
  have hml : c.maxLocals = 11 := hml0
  have hown : s.vm.findClass "com/example/classwright/classwright/InstructionsStartsAtPinLaw" = some m.cls := findClass_of_methodNamed Bd.named
  have hnm := (name_of_methodNamed Bd.named Bd.method).1
  have hlk : meth.locks = false := BodyLoose.notSynchronized Bd
  have hret : meth.sig.returnType = (some .boolean) := Bd.returns
  have X0 : Stand p l e ({ frames := 0, cells := 0, slots := 0, locals := 0 } : Room) s m #[(.long a), (.long b), (.long d), (.int (3 : Int32)), (.int o)] below meth c s₁ [] 0 0 := Stand.of_body Bd
  have e0 : s₁.heap = h0 := by rw [← hh, Bd.state]; rfl
  have N0 := Fr.nil n0
  show Go p e below s ({ frames := 0, cells := 0, slots := 0, locals := 0 } : Room).cells ({ frames := 0, cells := 0, slots := 0, locals := 0 } : Room).slots (QX3 Z a b d o h0 n0) (s₁.setTop (entryFrame m #[(.long a), (.long b), (.long d), (.int (3 : Int32)), (.int o)] 11))
  rw [efX3]
  refine Go.by (fun _ kont => XS.iload X0.here hx rfl (hb hby dX3_0) rfl kont) ?_
  show Go _ _ _ _ _ _ _ (s₁.setTop (mkF m 2 #[.val (.long a), .second, .val (.long b), .second, .val (.long d), .second, .val (.int (3 : Int32)), .val (.int o), .unset, .unset, .unset] [(.int o)]))
  by_cases hc101 : o < (0 : Int32)
  · refine Go.by (fun _ kont => XS.ifYes X0.here hx rfl (pc0 := 2) (pc' := 15) rfl (hb hby dX3_2) rfl ((if0 _ _).trans (tlt hc101).1) (by decide) (by decide) kont) ?_
    show Go _ _ _ _ _ _ _ (s₁.setTop (mkF m 15 #[.val (.long a), .second, .val (.long b), .second, .val (.long d), .second, .val (.int (3 : Int32)), .val (.int o), .unset, .unset, .unset] []))
    refine Go.by (fun _ kont => XS.iconst X0.here hx rfl (hb hby dX3_15) kont) ?_
    show Go _ _ _ _ _ _ _ (s₁.setTop (mkF m 16 #[.val (.long a), .second, .val (.long b), .second, .val (.long d), .second, .val (.int (3 : Int32)), .val (.int o), .unset, .unset, .unset] [(.int (0 : Int32))]))
    refine Go.retN X0 hx (t := .boolean) hret (by simp) hlk (hb hby dX3_16) ?_ (by decide) (by decide)
    show QX3 Z a b d o h0 n0 (some (.int (0 : Int32))) s₁.heap _
    rw [e0]
    refine ⟨?_, N0, rfl⟩
    unfold fX3
    rw [if_pos hc101]
  · refine Go.by (fun _ kont => XS.ifNo X0.here hx rfl (hb hby dX3_2) rfl ((if0 _ _).trans (flt hc101).1) kont) ?_
    show Go _ _ _ _ _ _ _ (s₁.setTop (mkF m 5 #[.val (.long a), .second, .val (.long b), .second, .val (.long d), .second, .val (.int (3 : Int32)), .val (.int o), .unset, .unset, .unset] []))
    refine Go.by (fun _ kont => XS.iload X0.here hx rfl (hb hby dX3_5) rfl (XS.bipush X0.here hx rfl (hb hby dX3_7) (XS.iload X0.here hx rfl (hb hby dX3_9) rfl (XS.imul X0.here hx rfl (hb hby dX3_11) rfl kont)))) ?_
    show Go _ _ _ _ _ _ _ (s₁.setTop (mkF m 12 #[.val (.long a), .second, .val (.long b), .second, .val (.long d), .second, .val (.int (3 : Int32)), .val (.int o), .unset, .unset, .unset] [(.int ((64 : Int32) * (3 : Int32))), (.int o)]))
    rw [show ((64 : Int32) * (3 : Int32)) = (192 : Int32) from by decide]
    show Go _ _ _ _ _ _ _ (s₁.setTop (mkF m 12 #[.val (.long a), .second, .val (.long b), .second, .val (.long d), .second, .val (.int (3 : Int32)), .val (.int o), .unset, .unset, .unset] [(.int (192 : Int32)), (.int o)]))
    by_cases hc102 : o < (192 : Int32)
    · refine Go.by (fun _ kont => XS.icmpYes X0.here hx rfl (pc0 := 12) (pc' := 17) rfl (hb hby dX3_12) rfl (tlt hc102).1 (by decide) (by decide) kont) ?_
      show Go _ _ _ _ _ _ _ (s₁.setTop (mkF m 17 #[.val (.long a), .second, .val (.long b), .second, .val (.long d), .second, .val (.int (3 : Int32)), .val (.int o), .unset, .unset, .unset] []))
      refine Go.by (fun _ kont => XS.iload X0.here hx rfl (hb hby dX3_17) rfl (XS.bipush X0.here hx rfl (hb hby dX3_19) kont)) ?_
      show Go _ _ _ _ _ _ _ (s₁.setTop (mkF m 21 #[.val (.long a), .second, .val (.long b), .second, .val (.long d), .second, .val (.int (3 : Int32)), .val (.int o), .unset, .unset, .unset] [(.int (64 : Int32)), (.int o)]))
      by_cases hc103 : o < (64 : Int32)
      · refine Go.by (fun _ kont => XS.icmpNo X0.here hx rfl (hb hby dX3_21) rfl (tlt hc103).2.1 kont) ?_
        show Go _ _ _ _ _ _ _ (s₁.setTop (mkF m 24 #[.val (.long a), .second, .val (.long b), .second, .val (.long d), .second, .val (.int (3 : Int32)), .val (.int o), .unset, .unset, .unset] []))
        refine Go.by (fun _ kont => XS.lloadN X0.here hx rfl (hb hby dX3_24) rfl (XS.lstore X0.here hx rfl (hb hby dX3_25) rfl (l' := #[.val (.long a), .second, .val (.long b), .second, .val (.long d), .second, .val (.int (3 : Int32)), .val (.int o), .val (.long a), .second, .unset]) rfl (XS.iload X0.here hx rfl (hb hby dX3_27) rfl (XS.istore X0.here hx rfl (hb hby dX3_29) rfl (l' := #[.val (.long a), .second, .val (.long b), .second, .val (.long d), .second, .val (.int (3 : Int32)), .val (.int o), .val (.long a), .second, .val (.int o)]) rfl (XS.goto X0.here hx rfl (pc0 := 31) (pc' := 67) rfl (hb hby dX3_31) (by decide) (by decide) (XS.lload X0.here hx rfl (hb hby dX3_67) rfl kont)))))) ?_
        show Go _ _ _ _ _ _ _ (s₁.setTop (mkF m 69 #[.val (.long a), .second, .val (.long b), .second, .val (.long d), .second, .val (.int (3 : Int32)), .val (.int o), .val (.long a), .second, .val (.int o)] [(.long a)]))
        refine Go.by (fun _ kont => XS.iload X0.here hx rfl (hb hby dX3_69) rfl (XS.lushr X0.here hx rfl (hb hby dX3_71) rfl (XS.lconst X0.here hx rfl (hb hby dX3_72) (XS.land X0.here hx rfl (hb hby dX3_73) rfl (XS.lconst X0.here hx rfl (hb hby dX3_74) (XS.lcmp X0.here hx rfl (hb hby dX3_75) rfl kont)))))) ?_
        show Go _ _ _ _ _ _ _ (s₁.setTop (mkF m 76 #[.val (.long a), .second, .val (.long b), .second, .val (.long d), .second, .val (.int (3 : Int32)), .val (.int o), .val (.long a), .second, .val (.int o)] [(.int (lcmpW (((a.toUInt64 >>> (o &&& 0x3f).toInt64.toUInt64).toInt64) &&& (1 : Int64)) (1 : Int64)))]))
        by_cases hc104 : (((a.toUInt64 >>> (o &&& 0x3f).toInt64.toUInt64).toInt64) &&& (1 : Int64)) = (1 : Int64)
        · refine Go.by (fun _ kont => XS.ifNo X0.here hx rfl (hb hby dX3_76) rfl ((if0 _ _).trans (teq ((lw_eq _ _).mpr hc104)).2) kont) ?_
          show Go _ _ _ _ _ _ _ (s₁.setTop (mkF m 79 #[.val (.long a), .second, .val (.long b), .second, .val (.long d), .second, .val (.int (3 : Int32)), .val (.int o), .val (.long a), .second, .val (.int o)] []))
          refine Go.by (fun _ kont => XS.iconst X0.here hx rfl (hb hby dX3_79) (XS.goto X0.here hx rfl (pc0 := 80) (pc' := 84) rfl (hb hby dX3_80) (by decide) (by decide) kont)) ?_
          show Go _ _ _ _ _ _ _ (s₁.setTop (mkF m 84 #[.val (.long a), .second, .val (.long b), .second, .val (.long d), .second, .val (.int (3 : Int32)), .val (.int o), .val (.long a), .second, .val (.int o)] [(.int (1 : Int32))]))
          refine Go.retN X0 hx (t := .boolean) hret (by simp) hlk (hb hby dX3_84) ?_ (by decide) (by decide)
          show QX3 Z a b d o h0 n0 (some (.int (1 : Int32))) s₁.heap _
          rw [e0]
          refine ⟨?_, N0, rfl⟩
          unfold fX3
          rw [if_neg hc101, if_pos hc102, if_pos hc103, if_pos hc104]
        · refine Go.by (fun _ kont => XS.ifYes X0.here hx rfl (pc0 := 76) (pc' := 83) rfl (hb hby dX3_76) rfl ((if0 _ _).trans (feq (fun z => hc104 ((lw_eq _ _).mp z))).2) (by decide) (by decide) kont) ?_
          show Go _ _ _ _ _ _ _ (s₁.setTop (mkF m 83 #[.val (.long a), .second, .val (.long b), .second, .val (.long d), .second, .val (.int (3 : Int32)), .val (.int o), .val (.long a), .second, .val (.int o)] []))
          refine Go.by (fun _ kont => XS.iconst X0.here hx rfl (hb hby dX3_83) kont) ?_
          show Go _ _ _ _ _ _ _ (s₁.setTop (mkF m 84 #[.val (.long a), .second, .val (.long b), .second, .val (.long d), .second, .val (.int (3 : Int32)), .val (.int o), .val (.long a), .second, .val (.int o)] [(.int (0 : Int32))]))
          refine Go.retN X0 hx (t := .boolean) hret (by simp) hlk (hb hby dX3_84) ?_ (by decide) (by decide)
          show QX3 Z a b d o h0 n0 (some (.int (0 : Int32))) s₁.heap _
          rw [e0]
          refine ⟨?_, N0, rfl⟩
          unfold fX3
          rw [if_neg hc101, if_pos hc102, if_pos hc103, if_neg hc104]
      · refine Go.by (fun _ kont => XS.icmpYes X0.here hx rfl (pc0 := 21) (pc' := 34) rfl (hb hby dX3_21) rfl (flt hc103).2.1 (by decide) (by decide) kont) ?_
        show Go _ _ _ _ _ _ _ (s₁.setTop (mkF m 34 #[.val (.long a), .second, .val (.long b), .second, .val (.long d), .second, .val (.int (3 : Int32)), .val (.int o), .unset, .unset, .unset] []))
        refine Go.by (fun _ kont => XS.iload X0.here hx rfl (hb hby dX3_34) rfl (XS.sipush X0.here hx rfl (hb hby dX3_36) kont)) ?_
        show Go _ _ _ _ _ _ _ (s₁.setTop (mkF m 39 #[.val (.long a), .second, .val (.long b), .second, .val (.long d), .second, .val (.int (3 : Int32)), .val (.int o), .unset, .unset, .unset] [(.int (128 : Int32)), (.int o)]))
        by_cases hc105 : o < (128 : Int32)
        · refine Go.by (fun _ kont => XS.icmpNo X0.here hx rfl (hb hby dX3_39) rfl (tlt hc105).2.1 kont) ?_
          show Go _ _ _ _ _ _ _ (s₁.setTop (mkF m 42 #[.val (.long a), .second, .val (.long b), .second, .val (.long d), .second, .val (.int (3 : Int32)), .val (.int o), .unset, .unset, .unset] []))
          refine Go.by (fun _ kont => XS.lloadN X0.here hx rfl (hb hby dX3_42) rfl (XS.lstore X0.here hx rfl (hb hby dX3_43) rfl (l' := #[.val (.long a), .second, .val (.long b), .second, .val (.long d), .second, .val (.int (3 : Int32)), .val (.int o), .val (.long b), .second, .unset]) rfl (XS.iload X0.here hx rfl (hb hby dX3_45) rfl (XS.bipush X0.here hx rfl (hb hby dX3_47) (XS.isub X0.here hx rfl (hb hby dX3_49) rfl (XS.istore X0.here hx rfl (hb hby dX3_50) rfl (l' := #[.val (.long a), .second, .val (.long b), .second, .val (.long d), .second, .val (.int (3 : Int32)), .val (.int o), .val (.long b), .second, .val (.int (o - (64 : Int32)))]) rfl kont)))))) ?_
          show Go _ _ _ _ _ _ _ (s₁.setTop (mkF m 52 #[.val (.long a), .second, .val (.long b), .second, .val (.long d), .second, .val (.int (3 : Int32)), .val (.int o), .val (.long b), .second, .val (.int (o - (64 : Int32)))] []))
          refine Go.by (fun _ kont => XS.goto X0.here hx rfl (pc0 := 52) (pc' := 67) rfl (hb hby dX3_52) (by decide) (by decide) (XS.lload X0.here hx rfl (hb hby dX3_67) rfl (XS.iload X0.here hx rfl (hb hby dX3_69) rfl (XS.lushr X0.here hx rfl (hb hby dX3_71) rfl (XS.lconst X0.here hx rfl (hb hby dX3_72) (XS.land X0.here hx rfl (hb hby dX3_73) rfl kont)))))) ?_
          show Go _ _ _ _ _ _ _ (s₁.setTop (mkF m 74 #[.val (.long a), .second, .val (.long b), .second, .val (.long d), .second, .val (.int (3 : Int32)), .val (.int o), .val (.long b), .second, .val (.int (o - (64 : Int32)))] [(.long (((b.toUInt64 >>> ((o - (64 : Int32)) &&& 0x3f).toInt64.toUInt64).toInt64) &&& (1 : Int64)))]))
          refine Go.by (fun _ kont => XS.lconst X0.here hx rfl (hb hby dX3_74) (XS.lcmp X0.here hx rfl (hb hby dX3_75) rfl kont)) ?_
          show Go _ _ _ _ _ _ _ (s₁.setTop (mkF m 76 #[.val (.long a), .second, .val (.long b), .second, .val (.long d), .second, .val (.int (3 : Int32)), .val (.int o), .val (.long b), .second, .val (.int (o - (64 : Int32)))] [(.int (lcmpW (((b.toUInt64 >>> ((o - (64 : Int32)) &&& 0x3f).toInt64.toUInt64).toInt64) &&& (1 : Int64)) (1 : Int64)))]))
          by_cases hc106 : (((b.toUInt64 >>> ((o - (64 : Int32)) &&& 0x3f).toInt64.toUInt64).toInt64) &&& (1 : Int64)) = (1 : Int64)
          · refine Go.by (fun _ kont => XS.ifNo X0.here hx rfl (hb hby dX3_76) rfl ((if0 _ _).trans (teq ((lw_eq _ _).mpr hc106)).2) kont) ?_
            show Go _ _ _ _ _ _ _ (s₁.setTop (mkF m 79 #[.val (.long a), .second, .val (.long b), .second, .val (.long d), .second, .val (.int (3 : Int32)), .val (.int o), .val (.long b), .second, .val (.int (o - (64 : Int32)))] []))
            refine Go.by (fun _ kont => XS.iconst X0.here hx rfl (hb hby dX3_79) (XS.goto X0.here hx rfl (pc0 := 80) (pc' := 84) rfl (hb hby dX3_80) (by decide) (by decide) kont)) ?_
            show Go _ _ _ _ _ _ _ (s₁.setTop (mkF m 84 #[.val (.long a), .second, .val (.long b), .second, .val (.long d), .second, .val (.int (3 : Int32)), .val (.int o), .val (.long b), .second, .val (.int (o - (64 : Int32)))] [(.int (1 : Int32))]))
            refine Go.retN X0 hx (t := .boolean) hret (by simp) hlk (hb hby dX3_84) ?_ (by decide) (by decide)
            show QX3 Z a b d o h0 n0 (some (.int (1 : Int32))) s₁.heap _
            rw [e0]
            refine ⟨?_, N0, rfl⟩
            unfold fX3
            rw [if_neg hc101, if_pos hc102, if_neg hc103, if_pos hc105, if_pos hc106]
          · refine Go.by (fun _ kont => XS.ifYes X0.here hx rfl (pc0 := 76) (pc' := 83) rfl (hb hby dX3_76) rfl ((if0 _ _).trans (feq (fun z => hc106 ((lw_eq _ _).mp z))).2) (by decide) (by decide) kont) ?_
            show Go _ _ _ _ _ _ _ (s₁.setTop (mkF m 83 #[.val (.long a), .second, .val (.long b), .second, .val (.long d), .second, .val (.int (3 : Int32)), .val (.int o), .val (.long b), .second, .val (.int (o - (64 : Int32)))] []))
            refine Go.by (fun _ kont => XS.iconst X0.here hx rfl (hb hby dX3_83) kont) ?_
            show Go _ _ _ _ _ _ _ (s₁.setTop (mkF m 84 #[.val (.long a), .second, .val (.long b), .second, .val (.long d), .second, .val (.int (3 : Int32)), .val (.int o), .val (.long b), .second, .val (.int (o - (64 : Int32)))] [(.int (0 : Int32))]))
            refine Go.retN X0 hx (t := .boolean) hret (by simp) hlk (hb hby dX3_84) ?_ (by decide) (by decide)
            show QX3 Z a b d o h0 n0 (some (.int (0 : Int32))) s₁.heap _
            rw [e0]
            refine ⟨?_, N0, rfl⟩
            unfold fX3
            rw [if_neg hc101, if_pos hc102, if_neg hc103, if_pos hc105, if_neg hc106]
        · refine Go.by (fun _ kont => XS.icmpYes X0.here hx rfl (pc0 := 39) (pc' := 55) rfl (hb hby dX3_39) rfl (flt hc105).2.1 (by decide) (by decide) kont) ?_
          show Go _ _ _ _ _ _ _ (s₁.setTop (mkF m 55 #[.val (.long a), .second, .val (.long b), .second, .val (.long d), .second, .val (.int (3 : Int32)), .val (.int o), .unset, .unset, .unset] []))
          refine Go.by (fun _ kont => XS.lload X0.here hx rfl (hb hby dX3_55) rfl (XS.lstore X0.here hx rfl (hb hby dX3_57) rfl (l' := #[.val (.long a), .second, .val (.long b), .second, .val (.long d), .second, .val (.int (3 : Int32)), .val (.int o), .val (.long d), .second, .unset]) rfl (XS.iload X0.here hx rfl (hb hby dX3_59) rfl (XS.sipush X0.here hx rfl (hb hby dX3_61) (XS.isub X0.here hx rfl (hb hby dX3_64) rfl (XS.istore X0.here hx rfl (hb hby dX3_65) rfl (l' := #[.val (.long a), .second, .val (.long b), .second, .val (.long d), .second, .val (.int (3 : Int32)), .val (.int o), .val (.long d), .second, .val (.int (o - (128 : Int32)))]) rfl kont)))))) ?_
          show Go _ _ _ _ _ _ _ (s₁.setTop (mkF m 67 #[.val (.long a), .second, .val (.long b), .second, .val (.long d), .second, .val (.int (3 : Int32)), .val (.int o), .val (.long d), .second, .val (.int (o - (128 : Int32)))] []))
          refine Go.by (fun _ kont => XS.lload X0.here hx rfl (hb hby dX3_67) rfl (XS.iload X0.here hx rfl (hb hby dX3_69) rfl (XS.lushr X0.here hx rfl (hb hby dX3_71) rfl (XS.lconst X0.here hx rfl (hb hby dX3_72) (XS.land X0.here hx rfl (hb hby dX3_73) rfl (XS.lconst X0.here hx rfl (hb hby dX3_74) kont)))))) ?_
          show Go _ _ _ _ _ _ _ (s₁.setTop (mkF m 75 #[.val (.long a), .second, .val (.long b), .second, .val (.long d), .second, .val (.int (3 : Int32)), .val (.int o), .val (.long d), .second, .val (.int (o - (128 : Int32)))] [(.long (1 : Int64)), (.long (((d.toUInt64 >>> ((o - (128 : Int32)) &&& 0x3f).toInt64.toUInt64).toInt64) &&& (1 : Int64)))]))
          refine Go.by (fun _ kont => XS.lcmp X0.here hx rfl (hb hby dX3_75) rfl kont) ?_
          show Go _ _ _ _ _ _ _ (s₁.setTop (mkF m 76 #[.val (.long a), .second, .val (.long b), .second, .val (.long d), .second, .val (.int (3 : Int32)), .val (.int o), .val (.long d), .second, .val (.int (o - (128 : Int32)))] [(.int (lcmpW (((d.toUInt64 >>> ((o - (128 : Int32)) &&& 0x3f).toInt64.toUInt64).toInt64) &&& (1 : Int64)) (1 : Int64)))]))
          by_cases hc107 : (((d.toUInt64 >>> ((o - (128 : Int32)) &&& 0x3f).toInt64.toUInt64).toInt64) &&& (1 : Int64)) = (1 : Int64)
          · refine Go.by (fun _ kont => XS.ifNo X0.here hx rfl (hb hby dX3_76) rfl ((if0 _ _).trans (teq ((lw_eq _ _).mpr hc107)).2) kont) ?_
            show Go _ _ _ _ _ _ _ (s₁.setTop (mkF m 79 #[.val (.long a), .second, .val (.long b), .second, .val (.long d), .second, .val (.int (3 : Int32)), .val (.int o), .val (.long d), .second, .val (.int (o - (128 : Int32)))] []))
            refine Go.by (fun _ kont => XS.iconst X0.here hx rfl (hb hby dX3_79) (XS.goto X0.here hx rfl (pc0 := 80) (pc' := 84) rfl (hb hby dX3_80) (by decide) (by decide) kont)) ?_
            show Go _ _ _ _ _ _ _ (s₁.setTop (mkF m 84 #[.val (.long a), .second, .val (.long b), .second, .val (.long d), .second, .val (.int (3 : Int32)), .val (.int o), .val (.long d), .second, .val (.int (o - (128 : Int32)))] [(.int (1 : Int32))]))
            refine Go.retN X0 hx (t := .boolean) hret (by simp) hlk (hb hby dX3_84) ?_ (by decide) (by decide)
            show QX3 Z a b d o h0 n0 (some (.int (1 : Int32))) s₁.heap _
            rw [e0]
            refine ⟨?_, N0, rfl⟩
            unfold fX3
            rw [if_neg hc101, if_pos hc102, if_neg hc103, if_neg hc105, if_pos hc107]
          · refine Go.by (fun _ kont => XS.ifYes X0.here hx rfl (pc0 := 76) (pc' := 83) rfl (hb hby dX3_76) rfl ((if0 _ _).trans (feq (fun z => hc107 ((lw_eq _ _).mp z))).2) (by decide) (by decide) kont) ?_
            show Go _ _ _ _ _ _ _ (s₁.setTop (mkF m 83 #[.val (.long a), .second, .val (.long b), .second, .val (.long d), .second, .val (.int (3 : Int32)), .val (.int o), .val (.long d), .second, .val (.int (o - (128 : Int32)))] []))
            refine Go.by (fun _ kont => XS.iconst X0.here hx rfl (hb hby dX3_83) kont) ?_
            show Go _ _ _ _ _ _ _ (s₁.setTop (mkF m 84 #[.val (.long a), .second, .val (.long b), .second, .val (.long d), .second, .val (.int (3 : Int32)), .val (.int o), .val (.long d), .second, .val (.int (o - (128 : Int32)))] [(.int (0 : Int32))]))
            refine Go.retN X0 hx (t := .boolean) hret (by simp) hlk (hb hby dX3_84) ?_ (by decide) (by decide)
            show QX3 Z a b d o h0 n0 (some (.int (0 : Int32))) s₁.heap _
            rw [e0]
            refine ⟨?_, N0, rfl⟩
            unfold fX3
            rw [if_neg hc101, if_pos hc102, if_neg hc103, if_neg hc105, if_neg hc107]
    · refine Go.by (fun _ kont => XS.icmpNo X0.here hx rfl (hb hby dX3_12) rfl (flt hc102).1 kont) ?_
      show Go _ _ _ _ _ _ _ (s₁.setTop (mkF m 15 #[.val (.long a), .second, .val (.long b), .second, .val (.long d), .second, .val (.int (3 : Int32)), .val (.int o), .unset, .unset, .unset] []))
      refine Go.by (fun _ kont => XS.iconst X0.here hx rfl (hb hby dX3_15) kont) ?_
      show Go _ _ _ _ _ _ _ (s₁.setTop (mkF m 16 #[.val (.long a), .second, .val (.long b), .second, .val (.long d), .second, .val (.int (3 : Int32)), .val (.int o), .unset, .unset, .unset] [(.int (0 : Int32))]))
      refine Go.retN X0 hx (t := .boolean) hret (by simp) hlk (hb hby dX3_16) ?_ (by decide) (by decide)
      show QX3 Z a b d o h0 n0 (some (.int (0 : Int32))) s₁.heap _
      rw [e0]
      refine ⟨?_, N0, rfl⟩
      unfold fX3
      rw [if_neg hc101, if_neg hc102]

theorem own_bit (v : Int64) (o q : Int32) (k : Nat) (hk : o.toBitVec.toNat % 64 = k) (hs : q.toBitVec.toNat % 64 = k) :
    ((v &&& ((1 : Int64) <<< (o &&& 0x3f).toInt64)) = 0) ↔ ¬ ((((v.toUInt64 >>> (q &&& 0x3f).toInt64.toUInt64).toInt64) &&& (1 : Int64)) = 1) := by
  obtain ⟨e1, hlt⟩ := sm64 o k hk
  obtain ⟨e2, -⟩ := sm64 q k hs
  have l1 : (v &&& ((1 : Int64) <<< (o &&& 0x3f).toInt64)).toBitVec = v.toBitVec &&& BitVec.twoPow 64 k := by
    rw [Int64.toBitVec_and]
    congr 1
    show (1 : Int64).toBitVec <<< ((o &&& 0x3f).toInt64.toBitVec.smod 64) = _
    rw [e1, BitVec.shiftLeft_eq', smod64 k hlt]
    rfl
  have l2 : (((v.toUInt64 >>> (q &&& 0x3f).toInt64.toUInt64).toInt64) &&& (1 : Int64)).toBitVec = (v.toBitVec >>> k) &&& 1#64 := by
    rw [Int64.toBitVec_and]
    congr 1
    show v.toBitVec >>> ((q &&& 0x3f).toInt64.toBitVec % 64) = _
    rw [e2, BitVec.ushiftRight_eq']
    congr 1
    simp [BitVec.toNat_umod, Nat.mod_eq_of_lt hlt]
    try omega
  rw [← Int64.toBitVec_inj, ← Int64.toBitVec_inj, l1, l2, BitVec.and_twoPow, BitVec.and_one_eq_setWidth_ofBool_getLsbD]
  have e0 : (0 : Int64).toBitVec = 0#64 := by decide
  have e3 : (1 : Int64).toBitVec = 1#64 := by decide
  rw [e0, e3, BitVec.getLsbD_ushiftRight, Nat.add_zero]
  cases hb : v.toBitVec.getLsbD k
  · simp
  · simp only [if_true]
    constructor
    · intro h
      exfalso
      have := congrArg (fun z => z.getLsbD k) h
      simp [hlt] at this
    · intro h
      exact absurd (by decide) h
theorem own_md (o q : Int32) (d : Int) (hd : (o.toInt - q.toInt) % 64 = 0) (h0 : 0 ≤ o.toInt) (h1 : 0 ≤ q.toInt) : o.toBitVec.toNat % 64 = q.toBitVec.toNat % 64 := by
  have a1 : (o.toBitVec.toNat : Int) = o.toInt := by
    have := Int32.toInt_lt o
    rw [← Int32.toInt_toBitVec] at h0 this ⊢
    rw [BitVec.toInt_eq_toNat_cond] at h0 this ⊢
    split at h0 <;> omega
  have a2 : (q.toBitVec.toNat : Int) = q.toInt := by
    have := Int32.toInt_lt q
    rw [← Int32.toInt_toBitVec] at h1 this ⊢
    rw [BitVec.toInt_eq_toNat_cond] at h1 this ⊢
    split at h1 <;> omega
  omega

theorem own_eq0 (a b d : Int64) (o : Int32) : fS0 o  = fX0  o := rfl

theorem own_eq1 (a b d : Int64) (o : Int32) : fS1 o a = fX1 a o := by
  unfold fS1 fX1
  by_cases c0 : o < (0 : Int32)
  · simp only [if_pos c0]
  · simp only [if_neg c0]
    by_cases c1 : o < (64 : Int32)
    · simp only [if_pos c1]
      have p0 : 0 ≤ o.toInt := by have q1 : (0 : Int32).toInt = 0 := (by decide); rw [Int32.lt_iff_toInt_lt] at c0; omega
      have hb := own_bit a o o _ rfl rfl
      by_cases c5 : (((a.toUInt64 >>> (o &&& 0x3f).toInt64.toUInt64).toInt64) &&& (1 : Int64)) = 1
      · rw [if_neg (fun z => (hb.mp z) c5), if_pos c5]
      · rw [if_pos (hb.mpr c5), if_neg c5]
    · simp only [if_neg c1]

theorem own_eq2 (a b d : Int64) (o : Int32) : fS2 o a b = fX2 a b o := by
  unfold fS2 fX2
  by_cases c0 : o < (0 : Int32)
  · simp only [if_pos c0]
  · simp only [if_neg c0]
    by_cases c1 : o < (128 : Int32)
    · simp only [if_pos c1]
      have p0 : 0 ≤ o.toInt := by have q1 : (0 : Int32).toInt = 0 := (by decide); rw [Int32.lt_iff_toInt_lt] at c0; omega
      by_cases g0 : o < (64 : Int32)
      · simp only [if_pos g0]
        have hb := own_bit a o o _ rfl rfl
        by_cases c5 : (((a.toUInt64 >>> (o &&& 0x3f).toInt64.toUInt64).toInt64) &&& (1 : Int64)) = 1
        · rw [if_neg (fun z => (hb.mp z) c5), if_pos c5]
        · rw [if_pos (hb.mpr c5), if_neg c5]
      · simp only [if_neg g0]
        have h2 := c_isub o 64
        have h3 : (64 : Int32).toInt = 64 := by decide
        have h4 := rng32 (o - 64)
        have h5 := rng32 o
        rw [h3] at h2
        have h6 : 64 ≤ o.toInt := by have q0 := g0; rw [Int32.lt_iff_toInt_lt] at q0; omega
        have hb := own_bit b o (o - 64) _ rfl (own_md (o - 64) o 0 (by omega) (by omega) (by omega))
        by_cases c5 : (((b.toUInt64 >>> ((o - (64 : Int32)) &&& 0x3f).toInt64.toUInt64).toInt64) &&& (1 : Int64)) = 1
        · rw [if_neg (fun z => (hb.mp z) c5), if_pos c5]
        · rw [if_pos (hb.mpr c5), if_neg c5]
    · simp only [if_neg c1]

theorem own_eq3 (a b d : Int64) (o : Int32) : fS3 o a b d = fX3 a b d o := by
  unfold fS3 fX3
  by_cases c0 : o < (0 : Int32)
  · simp only [if_pos c0]
  · simp only [if_neg c0]
    by_cases c1 : o < (192 : Int32)
    · simp only [if_pos c1]
      have p0 : 0 ≤ o.toInt := by have q1 : (0 : Int32).toInt = 0 := (by decide); rw [Int32.lt_iff_toInt_lt] at c0; omega
      by_cases g0 : o < (64 : Int32)
      · simp only [if_pos g0]
        have hb := own_bit a o o _ rfl rfl
        by_cases c5 : (((a.toUInt64 >>> (o &&& 0x3f).toInt64.toUInt64).toInt64) &&& (1 : Int64)) = 1
        · rw [if_neg (fun z => (hb.mp z) c5), if_pos c5]
        · rw [if_pos (hb.mpr c5), if_neg c5]
      · simp only [if_neg g0]
        by_cases g1 : o < (128 : Int32)
        · simp only [if_pos g1]
          have h2 := c_isub o 64
          have h3 : (64 : Int32).toInt = 64 := by decide
          have h4 := rng32 (o - 64)
          have h5 := rng32 o
          rw [h3] at h2
          have h6 : 64 ≤ o.toInt := by have q0 := g0; rw [Int32.lt_iff_toInt_lt] at q0; omega
          have hb := own_bit b o (o - 64) _ rfl (own_md (o - 64) o 0 (by omega) (by omega) (by omega))
          by_cases c5 : (((b.toUInt64 >>> ((o - (64 : Int32)) &&& 0x3f).toInt64.toUInt64).toInt64) &&& (1 : Int64)) = 1
          · rw [if_neg (fun z => (hb.mp z) c5), if_pos c5]
          · rw [if_pos (hb.mpr c5), if_neg c5]
        · simp only [if_neg g1]
          have h2 := c_isub o 128
          have h3 : (128 : Int32).toInt = 128 := by decide
          have h4 := rng32 (o - 128)
          have h5 := rng32 o
          rw [h3] at h2
          have h6 : 128 ≤ o.toInt := by have q0 := g1; rw [Int32.lt_iff_toInt_lt] at q0; omega
          have hb := own_bit d o (o - 128) _ rfl (own_md (o - 128) o 0 (by omega) (by omega) (by omega))
          by_cases c5 : (((d.toUInt64 >>> ((o - (128 : Int32)) &&& 0x3f).toInt64.toUInt64).toInt64) &&& (1 : Int64)) = 1
          · rw [if_neg (fun z => (hb.mp z) c5), if_pos c5]
          · rw [if_pos (hb.mpr c5), if_neg c5]
    · simp only [if_neg c1]

theorem pd0_0 : parseMethodDescriptor "([JI)Z" = some ⟨[(.array .long), .int], some .boolean⟩ := by decide +kernel
theorem pd0_1 : parseMethodDescriptor "(JJJII)Z" = some ⟨[.long, .long, .long, .int, .int], some .boolean⟩ := by decide +kernel
theorem pn0 : plainName "com/example/classwright/classwright/InstructionsStartsAtPinLaw" = true := by first | (simp [plainName, overriddenIn]; done) | decide +kernel
theorem ef0 (m : MethodId) (a1 : Int64) (b1 : Int64) (c1 : Int64) (n1 : Int32) (r1 : Int32) : entryFrame m #[(.long a1), (.long b1), (.long c1), (.int n1), (.int r1)] maxLocals = mkF m 0 #[.val (.long a1), .second, .val (.long b1), .second, .val (.long c1), .second, .val (.int n1), .val (.int r1), .unset, .unset, .unset, .unset, .unset] [] := by first | (simp [entryFrame, mkF, argsToLocals, Value.category, maxLocals]; done) | rfl
def Q0 (Z : State) (h0 : Heap) (n0 : Nat) (v : Option Value) (h : Heap) (L : List Loc) : Prop := v = some (.int 1) ∧ Fr n0 L
set_option maxRecDepth 65536 in
set_option maxHeartbeats 40000000 in
theorem rm0 (l : Launch) (Z : State) (a0 : Array Value) (hw : ∀ d ∈ tables_1, d.before a0 Z = true) (ws : List Jvm.Cond) (a1 : Int64) (b1 : Int64) (c1 : Int64) (n1 : Int32) (r1 : Int32) (h0 : Heap) (n0 : Nat) (Z0 : n0 ≤ h0.size) :
    MetFree l x (head1 (Jvm.Cond.code x code maxLocals ret :: ws) room_1) (fun aa_ U_ => aa_ = #[(.long a1), (.long b1), (.long c1), (.int n1), (.int r1)] ∧ Z.Warmed39 U_.vm ∧ U_.heap = h0) (fun _ _ _ _ _ => True) (fun _ U_ o_ V_ => ∃ v_ L_, o_ = .returned v_ ∧ Q0 Z h0 n0 v_ V_.heap L_ ∧ FrameEnd U_ o_ V_ L_ 16 128) := by
  refine MetFree.of_bodySF (plainFor_of_name pn0) hisR ?_
  intro p e s m args below meth c s₁ Bd hml0 hP hK
  obtain ⟨rfl, hZ, hh⟩ := hP
  have hx := Bd.exec
  have hby := Bd.bytes
  have hml : c.maxLocals = 13 := hml0
  have hown : s.vm.findClass "com/example/classwright/classwright/InstructionsStartsAtPinLaw" = some m.cls := findClass_of_methodNamed Bd.named
  have hnm := (name_of_methodNamed Bd.named Bd.method).1
  have hlk : meth.locks = false := BodyLoose.notSynchronized Bd
  have hret : meth.sig.returnType = (some .boolean) := Bd.returns
  have X0 : Stand p l e room_1 s m #[(.long a1), (.long b1), (.long c1), (.int n1), (.int r1)] below meth c s₁ [] 0 0 := Stand.of_body Bd
  have e0 : s₁.heap = h0 := by rw [← hh, Bd.state]; rfl
  have N0 := Fr.nil n0
  show Go p e below s 16 128 (Q0 Z h0 n0) (s₁.setTop (entryFrame m #[(.long a1), (.long b1), (.long c1), (.int n1), (.int r1)] maxLocals))
  rw [ef0]
  refine Go.by (fun _ kont => XS.iload X0.here hx rfl (hb hby at_0) rfl (XS.iconst X0.here hx rfl (hb hby at_2) (XS.iand X0.here hx rfl (hb hby at_3) rfl (XS.istore X0.here hx rfl (hb hby at_4) rfl (l' := #[.val (.long a1), .second, .val (.long b1), .second, .val (.long c1), .second, .val (.int n1), .val (.int r1), .val (.int (n1 &&& (3 : Int32))), .unset, .unset, .unset, .unset]) rfl kont)))) ?_
  show Go _ _ _ _ _ _ _ (s₁.setTop (mkF m 6 #[.val (.long a1), .second, .val (.long b1), .second, .val (.long c1), .second, .val (.int n1), .val (.int r1), .val (.int (n1 &&& (3 : Int32))), .unset, .unset, .unset, .unset] []))
  have C_nn := own_m3 n1
  generalize hg_nn : (n1 &&& (3 : Int32)) = nn at C_nn ⊢
  rcases C_nn with rfl | rfl | rfl | rfl
  · show Go _ _ _ _ _ _ _ (s₁.setTop (mkF m 6 #[.val (.long a1), .second, .val (.long b1), .second, .val (.long c1), .second, .val (.int n1), .val (.int r1), .val (.int (0 : Int32)), .unset, .unset, .unset, .unset] []))
    refine Go.by (fun _ kont => XS.iload X0.here hx rfl (hb hby at_6) rfl (XS.iconst X0.here hx rfl (hb hby at_8) (XS.iushr X0.here hx rfl (hb hby at_9) rfl (XS.iconst X0.here hx rfl (hb hby at_10) (XS.iand X0.here hx rfl (hb hby at_11) rfl kont))))) ?_
    show Go _ _ _ _ _ _ _ (s₁.setTop (mkF m 12 #[.val (.long a1), .second, .val (.long b1), .second, .val (.long c1), .second, .val (.int n1), .val (.int r1), .val (.int (0 : Int32)), .unset, .unset, .unset, .unset] [(.int (((n1.toUInt32 >>> ((2 : Int32) &&& 31).toUInt32).toInt32) &&& (1 : Int32)))]))
    by_cases hc101 : (((n1.toUInt32 >>> ((2 : Int32) &&& 31).toUInt32).toInt32) &&& (1 : Int32)) = (0 : Int32)
    · refine Go.by (fun _ kont => XS.ifYes X0.here hx rfl (pc0 := 12) (pc' := 19) rfl (hb hby at_12) rfl ((if0 _ _).trans (teq hc101).1) (by decide) (by decide) kont) ?_
      show Go _ _ _ _ _ _ _ (s₁.setTop (mkF m 19 #[.val (.long a1), .second, .val (.long b1), .second, .val (.long c1), .second, .val (.int n1), .val (.int r1), .val (.int (0 : Int32)), .unset, .unset, .unset, .unset] []))
      refine Go.by (fun _ kont => XS.iconst X0.here hx rfl (hb hby at_19) (XS.istore X0.here hx rfl (hb hby at_20) rfl (l' := #[.val (.long a1), .second, .val (.long b1), .second, .val (.long c1), .second, .val (.int n1), .val (.int r1), .val (.int (0 : Int32)), .val (.int (0 : Int32)), .unset, .unset, .unset]) rfl (XS.iload X0.here hx rfl (hb hby at_22) rfl kont))) ?_
      show Go _ _ _ _ _ _ _ (s₁.setTop (mkF m 24 #[.val (.long a1), .second, .val (.long b1), .second, .val (.long c1), .second, .val (.int n1), .val (.int r1), .val (.int (0 : Int32)), .val (.int (0 : Int32)), .unset, .unset, .unset] [(.int (0 : Int32))]))
      refine Go.by (fun _ kont => XS.ifYes X0.here hx rfl (pc0 := 24) (pc' := 39) rfl (hb hby at_24) rfl (by decide) (by decide) (by decide) kont) ?_
      show Go _ _ _ _ _ _ _ (s₁.setTop (mkF m 39 #[.val (.long a1), .second, .val (.long b1), .second, .val (.long c1), .second, .val (.int n1), .val (.int r1), .val (.int (0 : Int32)), .val (.int (0 : Int32)), .unset, .unset, .unset] []))
      refine Go.by (fun _ kont => XS.iload X0.here hx rfl (hb hby at_39) rfl (XS.istore X0.here hx rfl (hb hby at_41) rfl (l' := #[.val (.long a1), .second, .val (.long b1), .second, .val (.long c1), .second, .val (.int n1), .val (.int r1), .val (.int (0 : Int32)), .val (.int (0 : Int32)), .val (.int r1), .unset, .unset]) rfl kont)) ?_
      show Go _ _ _ _ _ _ _ (s₁.setTop (mkF m 43 #[.val (.long a1), .second, .val (.long b1), .second, .val (.long c1), .second, .val (.int n1), .val (.int r1), .val (.int (0 : Int32)), .val (.int (0 : Int32)), .val (.int r1), .unset, .unset] []))
      refine Go.by (fun _ kont => XS.iload X0.here hx rfl (hb hby at_43) rfl kont) ?_
      show Go _ _ _ _ _ _ _ (s₁.setTop (mkF m 45 #[.val (.long a1), .second, .val (.long b1), .second, .val (.long c1), .second, .val (.int n1), .val (.int r1), .val (.int (0 : Int32)), .val (.int (0 : Int32)), .val (.int r1), .unset, .unset] [(.int (0 : Int32))]))
      refine Go.by (fun _ kont => XS.ifNo X0.here hx rfl (hb hby at_45) rfl (by decide) kont) ?_
      show Go _ _ _ _ _ _ _ (s₁.setTop (mkF m 48 #[.val (.long a1), .second, .val (.long b1), .second, .val (.long c1), .second, .val (.int n1), .val (.int r1), .val (.int (0 : Int32)), .val (.int (0 : Int32)), .val (.int r1), .unset, .unset] []))
      refine Go.by (fun _ kont => XS.iconst X0.here hx rfl (hb hby at_48) kont) ?_
      show Go _ _ _ _ _ _ _ (s₁.setTop (mkF m 49 #[.val (.long a1), .second, .val (.long b1), .second, .val (.long c1), .second, .val (.int n1), .val (.int r1), .val (.int (0 : Int32)), .val (.int (0 : Int32)), .val (.int r1), .unset, .unset] [(.int (0 : Int32))]))
      obtain ⟨T102, h102, k102, X102, e102, X_102, A102, st102⟩ := newP X0 hx hZ (hw _ (List.mem_of_getElem? (i := 0) rfl)) e0 (g := (mkF m 49 #[.val (.long a1), .second, .val (.long b1), .second, .val (.long c1), .second, .val (.int n1), .val (.int r1), .val (.int (0 : Int32)), .val (.int (0 : Int32)), .val (.int r1), .unset, .unset] [(.int (0 : Int32))])) rfl (hb hby at_49) rfl (by decide) (cap := 0) (by decide) (by decide) (by decide) (by decide)
      obtain ⟨b102, g102⟩ : ∃ z, z = h0.size := ⟨_, rfl⟩
      rw [← g102] at A102 st102
      have ge_b102 : n0 ≤ b102 := Nat.le_trans Z0 (Nat.le_of_eq g102.symm)
      have sz_b102 : h0.size ≤ b102 := Nat.le_trans (Keep.refl h0 []).1 (Nat.le_of_eq g102.symm)
      have Z103 := Nat.le_trans Z0 X_102.1
      have K103 : Keep h0 h102 [] := (Keep.refl h0 []).ext X_102
      have V102 : Arv Z h102 b102 k102 .long (0 : Int32) [] (.long (0 : Int64)) := (Arv.new A102 (by decide)).pad (pad_rep [] (.long (0 : Int64)) 0)
      refine Go.by st102 ?_
      show Go _ _ _ _ _ _ _ (T102.setTop (mkF m 51 #[.val (.long a1), .second, .val (.long b1), .second, .val (.long c1), .second, .val (.int n1), .val (.int r1), .val (.int (0 : Int32)), .val (.int (0 : Int32)), .val (.int r1), .unset, .unset] [(.ref b102)]))
      refine Go.by (fun _ kont => XS.astore X102.here hx rfl (hb hby at_51) rfl rfl (l' := #[.val (.long a1), .second, .val (.long b1), .second, .val (.long c1), .second, .val (.int n1), .val (.int r1), .val (.int (0 : Int32)), .val (.int (0 : Int32)), .val (.int r1), .val (.ref b102), .unset]) rfl (XS.goto X102.here hx rfl (pc0 := 53) (pc' := 114) rfl (hb hby at_53) (by decide) (by decide) (XS.aload X102.here hx rfl (hb hby at_114) rfl rfl (XS.iload X102.here hx rfl (hb hby at_116) rfl kont)))) ?_
      show Go _ _ _ _ _ _ _ (T102.setTop (mkF m 118 #[.val (.long a1), .second, .val (.long b1), .second, .val (.long c1), .second, .val (.int n1), .val (.int r1), .val (.int (0 : Int32)), .val (.int (0 : Int32)), .val (.int r1), .val (.ref b102), .unset] [(.int r1), (.ref b102)]))
      obtain ⟨_, _, ⟨T104, L104, k104, n104⟩, -, X104, ⟨Lc104, hQ104, l104, y104, z104⟩, st104⟩ := Jvm.LawKit.callS X102 hx (y := (⟨"com/example/classwright/classwright/Instructions", "startsAt", "([JI)Z"⟩ : MethodName)) hown (mvT hZ (hw _ (List.mem_of_getElem? (i := 1) rfl))) (mvT hZ (hw _ (List.mem_of_getElem? (i := 2) rfl))) (mvT hZ (hw _ (List.mem_of_getElem? (i := 3) rfl))) (mvT hZ (hw _ (List.mem_of_getElem? (i := 4) rfl))) (by decide) (backOf (W := 0) (rmS0 l Z a0 hw [] b102 r1 k102 h102 n0 Z103 V102) hZ (hw _ (List.mem_of_getElem? (i := 4) rfl)) (hw _ (List.mem_of_getElem? (i := 3) rfl)) (by decide) (by decide)) (g := (mkF m 118 #[.val (.long a1), .second, .val (.long b1), .second, .val (.long c1), .second, .val (.int n1), .val (.int r1), .val (.int (0 : Int32)), .val (.int (0 : Int32)), .val (.int r1), .val (.ref b102), .unset] [(.int r1), (.ref b102)])) rfl (by rw [hml]; rfl) (argsL := [(.ref b102), (.int r1)]) (rest := []) (lenOf pd0_0 rfl) rfl (by show 2 * 0 + _ ≤ _; exact Nat.le_of_eq rfl) (hb hby at_118) (fun _ _ => ⟨rfl, e102, (by decide : 1 + 0 ≤ _), (by decide : 0 + 0 ≤ _)⟩)
      dsimp only [Pt.U, Pt.locs, Pt.cells, Pt.slots] at X104 l104 y104 z104 st104 hQ104
      subst l104 y104 z104
      obtain ⟨rfl, N104q, eh104⟩ := hQ104
      have N104 := Fr.app N0 N104q
      refine Go.by st104 ?_
      show Go _ _ _ _ _ _ _ (T104.setTop (mkF m 121 #[.val (.long a1), .second, .val (.long b1), .second, .val (.long c1), .second, .val (.int n1), .val (.int r1), .val (.int (0 : Int32)), .val (.int (0 : Int32)), .val (.int r1), .val (.ref b102), .unset] [(.int (fS0 r1))]))
      refine Go.by (fun _ kont => XS.istore X104.here hx rfl (hb hby at_121) rfl (l' := #[.val (.long a1), .second, .val (.long b1), .second, .val (.long c1), .second, .val (.int n1), .val (.int r1), .val (.int (0 : Int32)), .val (.int (0 : Int32)), .val (.int r1), .val (.ref b102), .val (.int (fS0 r1))]) rfl (XS.iload X104.here hx rfl (hb hby at_123) rfl (XS.lloadN X104.here hx rfl (hb hby at_125) rfl (XS.lloadN X104.here hx rfl (hb hby at_126) rfl (XS.lload X104.here hx rfl (hb hby at_127) rfl (XS.iload X104.here hx rfl (hb hby at_129) rfl kont)))))) ?_
      show Go _ _ _ _ _ _ _ (T104.setTop (mkF m 131 #[.val (.long a1), .second, .val (.long b1), .second, .val (.long c1), .second, .val (.int n1), .val (.int r1), .val (.int (0 : Int32)), .val (.int (0 : Int32)), .val (.int r1), .val (.ref b102), .val (.int (fS0 r1))] [(.int (0 : Int32)), (.long c1), (.long b1), (.long a1), (.int (fS0 r1))]))
      refine Go.by (fun _ kont => XS.iload X104.here hx rfl (hb hby at_131) rfl kont) ?_
      show Go _ _ _ _ _ _ _ (T104.setTop (mkF m 133 #[.val (.long a1), .second, .val (.long b1), .second, .val (.long c1), .second, .val (.int n1), .val (.int r1), .val (.int (0 : Int32)), .val (.int (0 : Int32)), .val (.int r1), .val (.ref b102), .val (.int (fS0 r1))] [(.int r1), (.int (0 : Int32)), (.long c1), (.long b1), (.long a1), (.int (fS0 r1))]))
      obtain ⟨_, _, ⟨T105, L105, k105, n105⟩, -, X105, ⟨Lc105, hQ105, l105, y105, z105⟩, st105⟩ := Jvm.LawKit.callS X104 hx (y := (⟨"com/example/classwright/classwright/InstructionsStartsAtPinLaw", "expected", "(JJJII)Z"⟩ : MethodName)) hown (mvT hZ (hw _ (List.mem_of_getElem? (i := 5) rfl))) (mvT hZ (hw _ (List.mem_of_getElem? (i := 6) rfl))) (mvT hZ (hw _ (List.mem_of_getElem? (i := 7) rfl))) (mvT hZ (hw _ (List.mem_of_getElem? (i := 8) rfl))) (by decide) (backOf (W := 1) (rmX0 l Z a0 hw [] a1 b1 c1 r1 h102 n0 Z103 ) hZ (hw _ (List.mem_of_getElem? (i := 8) rfl)) (hw _ (List.mem_of_getElem? (i := 7) rfl)) (by decide) (by decide)) (g := (mkF m 133 #[.val (.long a1), .second, .val (.long b1), .second, .val (.long c1), .second, .val (.int n1), .val (.int r1), .val (.int (0 : Int32)), .val (.int (0 : Int32)), .val (.int r1), .val (.ref b102), .val (.int (fS0 r1))] [(.int r1), (.int (0 : Int32)), (.long c1), (.long b1), (.long a1), (.int (fS0 r1))])) rfl (by rw [hml]; rfl) (argsL := [(.long a1), (.long b1), (.long c1), (.int (0 : Int32)), (.int r1)]) (rest := [(.int (fS0 r1))]) (lenOf pd0_1 rfl) rfl (by show 2 * 0 + _ ≤ _; exact Nat.le_of_eq rfl) (hb hby at_133) (fun _ _ => ⟨rfl, eh104, (by decide : 1 + 0 ≤ _), (by decide : 0 + 0 ≤ _)⟩)
      dsimp only [Pt.U, Pt.locs, Pt.cells, Pt.slots] at X105 l105 y105 z105 st105 hQ105
      subst l105 y105 z105
      obtain ⟨rfl, N105q, eh105⟩ := hQ105
      have N105 := Fr.app N104 N105q
      refine Go.by st105 ?_
      show Go _ _ _ _ _ _ _ (T105.setTop (mkF m 136 #[.val (.long a1), .second, .val (.long b1), .second, .val (.long c1), .second, .val (.int n1), .val (.int r1), .val (.int (0 : Int32)), .val (.int (0 : Int32)), .val (.int r1), .val (.ref b102), .val (.int (fS0 r1))] [(.int (fX0 r1)), (.int (fS0 r1))]))
      have hd106 : (fS0 r1) = (fX0 r1) := own_eq0 a1 b1 c1 _
      refine Go.by (fun _ kont => XS.icmpNo X105.here hx rfl (hb hby at_136) rfl (teq hd106).2 kont) ?_
      show Go _ _ _ _ _ _ _ (T105.setTop (mkF m 139 #[.val (.long a1), .second, .val (.long b1), .second, .val (.long c1), .second, .val (.int n1), .val (.int r1), .val (.int (0 : Int32)), .val (.int (0 : Int32)), .val (.int r1), .val (.ref b102), .val (.int (fS0 r1))] []))
      refine Go.by (fun _ kont => XS.iconst X105.here hx rfl (hb hby at_139) (XS.goto X105.here hx rfl (pc0 := 140) (pc' := 144) rfl (hb hby at_140) (by decide) (by decide) kont)) ?_
      show Go _ _ _ _ _ _ _ (T105.setTop (mkF m 144 #[.val (.long a1), .second, .val (.long b1), .second, .val (.long c1), .second, .val (.int n1), .val (.int r1), .val (.int (0 : Int32)), .val (.int (0 : Int32)), .val (.int r1), .val (.ref b102), .val (.int (fS0 r1))] [(.int (1 : Int32))]))
      refine Go.retN X105 hx (t := .boolean) hret (by simp) hlk (hb hby at_144) ?_ (by decide) (by decide)
      show Q0 Z h0 n0 (some (.int (1 : Int32))) T105.heap _
      rw [eh105]
      exact ⟨rfl, N105⟩
    · refine Go.by (fun _ kont => XS.ifNo X0.here hx rfl (hb hby at_12) rfl ((if0 _ _).trans (feq hc101).1) kont) ?_
      show Go _ _ _ _ _ _ _ (s₁.setTop (mkF m 15 #[.val (.long a1), .second, .val (.long b1), .second, .val (.long c1), .second, .val (.int n1), .val (.int r1), .val (.int (0 : Int32)), .unset, .unset, .unset, .unset] []))
      refine Go.by (fun _ kont => XS.iconst X0.here hx rfl (hb hby at_15) (XS.goto X0.here hx rfl (pc0 := 16) (pc' := 20) rfl (hb hby at_16) (by decide) (by decide) (XS.istore X0.here hx rfl (hb hby at_20) rfl (l' := #[.val (.long a1), .second, .val (.long b1), .second, .val (.long c1), .second, .val (.int n1), .val (.int r1), .val (.int (0 : Int32)), .val (.int (1 : Int32)), .unset, .unset, .unset]) rfl (XS.iload X0.here hx rfl (hb hby at_22) rfl kont)))) ?_
      show Go _ _ _ _ _ _ _ (s₁.setTop (mkF m 24 #[.val (.long a1), .second, .val (.long b1), .second, .val (.long c1), .second, .val (.int n1), .val (.int r1), .val (.int (0 : Int32)), .val (.int (1 : Int32)), .unset, .unset, .unset] [(.int (1 : Int32))]))
      refine Go.by (fun _ kont => XS.ifNo X0.here hx rfl (hb hby at_24) rfl (by decide) kont) ?_
      show Go _ _ _ _ _ _ _ (s₁.setTop (mkF m 27 #[.val (.long a1), .second, .val (.long b1), .second, .val (.long c1), .second, .val (.int n1), .val (.int r1), .val (.int (0 : Int32)), .val (.int (1 : Int32)), .unset, .unset, .unset] []))
      refine Go.by (fun _ kont => XS.iload X0.here hx rfl (hb hby at_27) rfl (XS.sipush X0.here hx rfl (hb hby at_29) (XS.iand X0.here hx rfl (hb hby at_32) rfl (XS.bipush X0.here hx rfl (hb hby at_33) (XS.isub X0.here hx rfl (hb hby at_35) rfl (XS.goto X0.here hx rfl (pc0 := 36) (pc' := 41) rfl (hb hby at_36) (by decide) (by decide) kont)))))) ?_
      show Go _ _ _ _ _ _ _ (s₁.setTop (mkF m 41 #[.val (.long a1), .second, .val (.long b1), .second, .val (.long c1), .second, .val (.int n1), .val (.int r1), .val (.int (0 : Int32)), .val (.int (1 : Int32)), .unset, .unset, .unset] [(.int ((r1 &&& (255 : Int32)) - (32 : Int32)))]))
      refine Go.by (fun _ kont => XS.istore X0.here hx rfl (hb hby at_41) rfl (l' := #[.val (.long a1), .second, .val (.long b1), .second, .val (.long c1), .second, .val (.int n1), .val (.int r1), .val (.int (0 : Int32)), .val (.int (1 : Int32)), .val (.int ((r1 &&& (255 : Int32)) - (32 : Int32))), .unset, .unset]) rfl kont) ?_
      show Go _ _ _ _ _ _ _ (s₁.setTop (mkF m 43 #[.val (.long a1), .second, .val (.long b1), .second, .val (.long c1), .second, .val (.int n1), .val (.int r1), .val (.int (0 : Int32)), .val (.int (1 : Int32)), .val (.int ((r1 &&& (255 : Int32)) - (32 : Int32))), .unset, .unset] []))
      generalize ((r1 &&& (255 : Int32)) - (32 : Int32)) = oo
      show Go _ _ _ _ _ _ _ (s₁.setTop (mkF m 43 #[.val (.long a1), .second, .val (.long b1), .second, .val (.long c1), .second, .val (.int n1), .val (.int r1), .val (.int (0 : Int32)), .val (.int (1 : Int32)), .val (.int oo), .unset, .unset] []))
      refine Go.by (fun _ kont => XS.iload X0.here hx rfl (hb hby at_43) rfl kont) ?_
      show Go _ _ _ _ _ _ _ (s₁.setTop (mkF m 45 #[.val (.long a1), .second, .val (.long b1), .second, .val (.long c1), .second, .val (.int n1), .val (.int r1), .val (.int (0 : Int32)), .val (.int (1 : Int32)), .val (.int oo), .unset, .unset] [(.int (0 : Int32))]))
      refine Go.by (fun _ kont => XS.ifNo X0.here hx rfl (hb hby at_45) rfl (by decide) kont) ?_
      show Go _ _ _ _ _ _ _ (s₁.setTop (mkF m 48 #[.val (.long a1), .second, .val (.long b1), .second, .val (.long c1), .second, .val (.int n1), .val (.int r1), .val (.int (0 : Int32)), .val (.int (1 : Int32)), .val (.int oo), .unset, .unset] []))
      refine Go.by (fun _ kont => XS.iconst X0.here hx rfl (hb hby at_48) kont) ?_
      show Go _ _ _ _ _ _ _ (s₁.setTop (mkF m 49 #[.val (.long a1), .second, .val (.long b1), .second, .val (.long c1), .second, .val (.int n1), .val (.int r1), .val (.int (0 : Int32)), .val (.int (1 : Int32)), .val (.int oo), .unset, .unset] [(.int (0 : Int32))]))
      obtain ⟨T107, h107, k107, X107, e107, X_107, A107, st107⟩ := newP X0 hx hZ (hw _ (List.mem_of_getElem? (i := 0) rfl)) e0 (g := (mkF m 49 #[.val (.long a1), .second, .val (.long b1), .second, .val (.long c1), .second, .val (.int n1), .val (.int r1), .val (.int (0 : Int32)), .val (.int (1 : Int32)), .val (.int oo), .unset, .unset] [(.int (0 : Int32))])) rfl (hb hby at_49) rfl (by decide) (cap := 0) (by decide) (by decide) (by decide) (by decide)
      obtain ⟨b107, g107⟩ : ∃ z, z = h0.size := ⟨_, rfl⟩
      rw [← g107] at A107 st107
      have ge_b107 : n0 ≤ b107 := Nat.le_trans Z0 (Nat.le_of_eq g107.symm)
      have sz_b107 : h0.size ≤ b107 := Nat.le_trans (Keep.refl h0 []).1 (Nat.le_of_eq g107.symm)
      have Z108 := Nat.le_trans Z0 X_107.1
      have K108 : Keep h0 h107 [] := (Keep.refl h0 []).ext X_107
      have V107 : Arv Z h107 b107 k107 .long (0 : Int32) [] (.long (0 : Int64)) := (Arv.new A107 (by decide)).pad (pad_rep [] (.long (0 : Int64)) 0)
      refine Go.by st107 ?_
      show Go _ _ _ _ _ _ _ (T107.setTop (mkF m 51 #[.val (.long a1), .second, .val (.long b1), .second, .val (.long c1), .second, .val (.int n1), .val (.int r1), .val (.int (0 : Int32)), .val (.int (1 : Int32)), .val (.int oo), .unset, .unset] [(.ref b107)]))
      refine Go.by (fun _ kont => XS.astore X107.here hx rfl (hb hby at_51) rfl rfl (l' := #[.val (.long a1), .second, .val (.long b1), .second, .val (.long c1), .second, .val (.int n1), .val (.int r1), .val (.int (0 : Int32)), .val (.int (1 : Int32)), .val (.int oo), .val (.ref b107), .unset]) rfl (XS.goto X107.here hx rfl (pc0 := 53) (pc' := 114) rfl (hb hby at_53) (by decide) (by decide) (XS.aload X107.here hx rfl (hb hby at_114) rfl rfl (XS.iload X107.here hx rfl (hb hby at_116) rfl kont)))) ?_
      show Go _ _ _ _ _ _ _ (T107.setTop (mkF m 118 #[.val (.long a1), .second, .val (.long b1), .second, .val (.long c1), .second, .val (.int n1), .val (.int r1), .val (.int (0 : Int32)), .val (.int (1 : Int32)), .val (.int oo), .val (.ref b107), .unset] [(.int oo), (.ref b107)]))
      obtain ⟨_, _, ⟨T109, L109, k109, n109⟩, -, X109, ⟨Lc109, hQ109, l109, y109, z109⟩, st109⟩ := Jvm.LawKit.callS X107 hx (y := (⟨"com/example/classwright/classwright/Instructions", "startsAt", "([JI)Z"⟩ : MethodName)) hown (mvT hZ (hw _ (List.mem_of_getElem? (i := 1) rfl))) (mvT hZ (hw _ (List.mem_of_getElem? (i := 2) rfl))) (mvT hZ (hw _ (List.mem_of_getElem? (i := 3) rfl))) (mvT hZ (hw _ (List.mem_of_getElem? (i := 4) rfl))) (by decide) (backOf (W := 0) (rmS0 l Z a0 hw [] b107 oo k107 h107 n0 Z108 V107) hZ (hw _ (List.mem_of_getElem? (i := 4) rfl)) (hw _ (List.mem_of_getElem? (i := 3) rfl)) (by decide) (by decide)) (g := (mkF m 118 #[.val (.long a1), .second, .val (.long b1), .second, .val (.long c1), .second, .val (.int n1), .val (.int r1), .val (.int (0 : Int32)), .val (.int (1 : Int32)), .val (.int oo), .val (.ref b107), .unset] [(.int oo), (.ref b107)])) rfl (by rw [hml]; rfl) (argsL := [(.ref b107), (.int oo)]) (rest := []) (lenOf pd0_0 rfl) rfl (by show 2 * 0 + _ ≤ _; exact Nat.le_of_eq rfl) (hb hby at_118) (fun _ _ => ⟨rfl, e107, (by decide : 1 + 0 ≤ _), (by decide : 0 + 0 ≤ _)⟩)
      dsimp only [Pt.U, Pt.locs, Pt.cells, Pt.slots] at X109 l109 y109 z109 st109 hQ109
      subst l109 y109 z109
      obtain ⟨rfl, N109q, eh109⟩ := hQ109
      have N109 := Fr.app N0 N109q
      refine Go.by st109 ?_
      show Go _ _ _ _ _ _ _ (T109.setTop (mkF m 121 #[.val (.long a1), .second, .val (.long b1), .second, .val (.long c1), .second, .val (.int n1), .val (.int r1), .val (.int (0 : Int32)), .val (.int (1 : Int32)), .val (.int oo), .val (.ref b107), .unset] [(.int (fS0 oo))]))
      refine Go.by (fun _ kont => XS.istore X109.here hx rfl (hb hby at_121) rfl (l' := #[.val (.long a1), .second, .val (.long b1), .second, .val (.long c1), .second, .val (.int n1), .val (.int r1), .val (.int (0 : Int32)), .val (.int (1 : Int32)), .val (.int oo), .val (.ref b107), .val (.int (fS0 oo))]) rfl (XS.iload X109.here hx rfl (hb hby at_123) rfl (XS.lloadN X109.here hx rfl (hb hby at_125) rfl (XS.lloadN X109.here hx rfl (hb hby at_126) rfl (XS.lload X109.here hx rfl (hb hby at_127) rfl (XS.iload X109.here hx rfl (hb hby at_129) rfl kont)))))) ?_
      show Go _ _ _ _ _ _ _ (T109.setTop (mkF m 131 #[.val (.long a1), .second, .val (.long b1), .second, .val (.long c1), .second, .val (.int n1), .val (.int r1), .val (.int (0 : Int32)), .val (.int (1 : Int32)), .val (.int oo), .val (.ref b107), .val (.int (fS0 oo))] [(.int (0 : Int32)), (.long c1), (.long b1), (.long a1), (.int (fS0 oo))]))
      refine Go.by (fun _ kont => XS.iload X109.here hx rfl (hb hby at_131) rfl kont) ?_
      show Go _ _ _ _ _ _ _ (T109.setTop (mkF m 133 #[.val (.long a1), .second, .val (.long b1), .second, .val (.long c1), .second, .val (.int n1), .val (.int r1), .val (.int (0 : Int32)), .val (.int (1 : Int32)), .val (.int oo), .val (.ref b107), .val (.int (fS0 oo))] [(.int oo), (.int (0 : Int32)), (.long c1), (.long b1), (.long a1), (.int (fS0 oo))]))
      obtain ⟨_, _, ⟨T110, L110, k110, n110⟩, -, X110, ⟨Lc110, hQ110, l110, y110, z110⟩, st110⟩ := Jvm.LawKit.callS X109 hx (y := (⟨"com/example/classwright/classwright/InstructionsStartsAtPinLaw", "expected", "(JJJII)Z"⟩ : MethodName)) hown (mvT hZ (hw _ (List.mem_of_getElem? (i := 5) rfl))) (mvT hZ (hw _ (List.mem_of_getElem? (i := 6) rfl))) (mvT hZ (hw _ (List.mem_of_getElem? (i := 7) rfl))) (mvT hZ (hw _ (List.mem_of_getElem? (i := 8) rfl))) (by decide) (backOf (W := 1) (rmX0 l Z a0 hw [] a1 b1 c1 oo h107 n0 Z108 ) hZ (hw _ (List.mem_of_getElem? (i := 8) rfl)) (hw _ (List.mem_of_getElem? (i := 7) rfl)) (by decide) (by decide)) (g := (mkF m 133 #[.val (.long a1), .second, .val (.long b1), .second, .val (.long c1), .second, .val (.int n1), .val (.int r1), .val (.int (0 : Int32)), .val (.int (1 : Int32)), .val (.int oo), .val (.ref b107), .val (.int (fS0 oo))] [(.int oo), (.int (0 : Int32)), (.long c1), (.long b1), (.long a1), (.int (fS0 oo))])) rfl (by rw [hml]; rfl) (argsL := [(.long a1), (.long b1), (.long c1), (.int (0 : Int32)), (.int oo)]) (rest := [(.int (fS0 oo))]) (lenOf pd0_1 rfl) rfl (by show 2 * 0 + _ ≤ _; exact Nat.le_of_eq rfl) (hb hby at_133) (fun _ _ => ⟨rfl, eh109, (by decide : 1 + 0 ≤ _), (by decide : 0 + 0 ≤ _)⟩)
      dsimp only [Pt.U, Pt.locs, Pt.cells, Pt.slots] at X110 l110 y110 z110 st110 hQ110
      subst l110 y110 z110
      obtain ⟨rfl, N110q, eh110⟩ := hQ110
      have N110 := Fr.app N109 N110q
      refine Go.by st110 ?_
      show Go _ _ _ _ _ _ _ (T110.setTop (mkF m 136 #[.val (.long a1), .second, .val (.long b1), .second, .val (.long c1), .second, .val (.int n1), .val (.int r1), .val (.int (0 : Int32)), .val (.int (1 : Int32)), .val (.int oo), .val (.ref b107), .val (.int (fS0 oo))] [(.int (fX0 oo)), (.int (fS0 oo))]))
      have hd111 : (fS0 oo) = (fX0 oo) := own_eq0 a1 b1 c1 _
      refine Go.by (fun _ kont => XS.icmpNo X110.here hx rfl (hb hby at_136) rfl (teq hd111).2 kont) ?_
      show Go _ _ _ _ _ _ _ (T110.setTop (mkF m 139 #[.val (.long a1), .second, .val (.long b1), .second, .val (.long c1), .second, .val (.int n1), .val (.int r1), .val (.int (0 : Int32)), .val (.int (1 : Int32)), .val (.int oo), .val (.ref b107), .val (.int (fS0 oo))] []))
      refine Go.by (fun _ kont => XS.iconst X110.here hx rfl (hb hby at_139) (XS.goto X110.here hx rfl (pc0 := 140) (pc' := 144) rfl (hb hby at_140) (by decide) (by decide) kont)) ?_
      show Go _ _ _ _ _ _ _ (T110.setTop (mkF m 144 #[.val (.long a1), .second, .val (.long b1), .second, .val (.long c1), .second, .val (.int n1), .val (.int r1), .val (.int (0 : Int32)), .val (.int (1 : Int32)), .val (.int oo), .val (.ref b107), .val (.int (fS0 oo))] [(.int (1 : Int32))]))
      refine Go.retN X110 hx (t := .boolean) hret (by simp) hlk (hb hby at_144) ?_ (by decide) (by decide)
      show Q0 Z h0 n0 (some (.int (1 : Int32))) T110.heap _
      rw [eh110]
      exact ⟨rfl, N110⟩
  · show Go _ _ _ _ _ _ _ (s₁.setTop (mkF m 6 #[.val (.long a1), .second, .val (.long b1), .second, .val (.long c1), .second, .val (.int n1), .val (.int r1), .val (.int (1 : Int32)), .unset, .unset, .unset, .unset] []))
    refine Go.by (fun _ kont => XS.iload X0.here hx rfl (hb hby at_6) rfl (XS.iconst X0.here hx rfl (hb hby at_8) (XS.iushr X0.here hx rfl (hb hby at_9) rfl (XS.iconst X0.here hx rfl (hb hby at_10) (XS.iand X0.here hx rfl (hb hby at_11) rfl kont))))) ?_
    show Go _ _ _ _ _ _ _ (s₁.setTop (mkF m 12 #[.val (.long a1), .second, .val (.long b1), .second, .val (.long c1), .second, .val (.int n1), .val (.int r1), .val (.int (1 : Int32)), .unset, .unset, .unset, .unset] [(.int (((n1.toUInt32 >>> ((2 : Int32) &&& 31).toUInt32).toInt32) &&& (1 : Int32)))]))
    by_cases hc112 : (((n1.toUInt32 >>> ((2 : Int32) &&& 31).toUInt32).toInt32) &&& (1 : Int32)) = (0 : Int32)
    · refine Go.by (fun _ kont => XS.ifYes X0.here hx rfl (pc0 := 12) (pc' := 19) rfl (hb hby at_12) rfl ((if0 _ _).trans (teq hc112).1) (by decide) (by decide) kont) ?_
      show Go _ _ _ _ _ _ _ (s₁.setTop (mkF m 19 #[.val (.long a1), .second, .val (.long b1), .second, .val (.long c1), .second, .val (.int n1), .val (.int r1), .val (.int (1 : Int32)), .unset, .unset, .unset, .unset] []))
      refine Go.by (fun _ kont => XS.iconst X0.here hx rfl (hb hby at_19) (XS.istore X0.here hx rfl (hb hby at_20) rfl (l' := #[.val (.long a1), .second, .val (.long b1), .second, .val (.long c1), .second, .val (.int n1), .val (.int r1), .val (.int (1 : Int32)), .val (.int (0 : Int32)), .unset, .unset, .unset]) rfl (XS.iload X0.here hx rfl (hb hby at_22) rfl kont))) ?_
      show Go _ _ _ _ _ _ _ (s₁.setTop (mkF m 24 #[.val (.long a1), .second, .val (.long b1), .second, .val (.long c1), .second, .val (.int n1), .val (.int r1), .val (.int (1 : Int32)), .val (.int (0 : Int32)), .unset, .unset, .unset] [(.int (0 : Int32))]))
      refine Go.by (fun _ kont => XS.ifYes X0.here hx rfl (pc0 := 24) (pc' := 39) rfl (hb hby at_24) rfl (by decide) (by decide) (by decide) kont) ?_
      show Go _ _ _ _ _ _ _ (s₁.setTop (mkF m 39 #[.val (.long a1), .second, .val (.long b1), .second, .val (.long c1), .second, .val (.int n1), .val (.int r1), .val (.int (1 : Int32)), .val (.int (0 : Int32)), .unset, .unset, .unset] []))
      refine Go.by (fun _ kont => XS.iload X0.here hx rfl (hb hby at_39) rfl (XS.istore X0.here hx rfl (hb hby at_41) rfl (l' := #[.val (.long a1), .second, .val (.long b1), .second, .val (.long c1), .second, .val (.int n1), .val (.int r1), .val (.int (1 : Int32)), .val (.int (0 : Int32)), .val (.int r1), .unset, .unset]) rfl kont)) ?_
      show Go _ _ _ _ _ _ _ (s₁.setTop (mkF m 43 #[.val (.long a1), .second, .val (.long b1), .second, .val (.long c1), .second, .val (.int n1), .val (.int r1), .val (.int (1 : Int32)), .val (.int (0 : Int32)), .val (.int r1), .unset, .unset] []))
      refine Go.by (fun _ kont => XS.iload X0.here hx rfl (hb hby at_43) rfl kont) ?_
      show Go _ _ _ _ _ _ _ (s₁.setTop (mkF m 45 #[.val (.long a1), .second, .val (.long b1), .second, .val (.long c1), .second, .val (.int n1), .val (.int r1), .val (.int (1 : Int32)), .val (.int (0 : Int32)), .val (.int r1), .unset, .unset] [(.int (1 : Int32))]))
      refine Go.by (fun _ kont => XS.ifYes X0.here hx rfl (pc0 := 45) (pc' := 56) rfl (hb hby at_45) rfl (by decide) (by decide) (by decide) kont) ?_
      show Go _ _ _ _ _ _ _ (s₁.setTop (mkF m 56 #[.val (.long a1), .second, .val (.long b1), .second, .val (.long c1), .second, .val (.int n1), .val (.int r1), .val (.int (1 : Int32)), .val (.int (0 : Int32)), .val (.int r1), .unset, .unset] []))
      refine Go.by (fun _ kont => XS.iload X0.here hx rfl (hb hby at_56) rfl (XS.iconst X0.here hx rfl (hb hby at_58) kont)) ?_
      show Go _ _ _ _ _ _ _ (s₁.setTop (mkF m 59 #[.val (.long a1), .second, .val (.long b1), .second, .val (.long c1), .second, .val (.int n1), .val (.int r1), .val (.int (1 : Int32)), .val (.int (0 : Int32)), .val (.int r1), .unset, .unset] [(.int (1 : Int32)), (.int (1 : Int32))]))
      refine Go.by (fun _ kont => XS.icmpNo X0.here hx rfl (hb hby at_59) rfl (by decide) kont) ?_
      show Go _ _ _ _ _ _ _ (s₁.setTop (mkF m 62 #[.val (.long a1), .second, .val (.long b1), .second, .val (.long c1), .second, .val (.int n1), .val (.int r1), .val (.int (1 : Int32)), .val (.int (0 : Int32)), .val (.int r1), .unset, .unset] []))
      refine Go.by (fun _ kont => XS.iconst X0.here hx rfl (hb hby at_62) kont) ?_
      show Go _ _ _ _ _ _ _ (s₁.setTop (mkF m 63 #[.val (.long a1), .second, .val (.long b1), .second, .val (.long c1), .second, .val (.int n1), .val (.int r1), .val (.int (1 : Int32)), .val (.int (0 : Int32)), .val (.int r1), .unset, .unset] [(.int (1 : Int32))]))
      obtain ⟨T113, h113, k113, X113, e113, X_113, A113, st113⟩ := newP X0 hx hZ (hw _ (List.mem_of_getElem? (i := 0) rfl)) e0 (g := (mkF m 63 #[.val (.long a1), .second, .val (.long b1), .second, .val (.long c1), .second, .val (.int n1), .val (.int r1), .val (.int (1 : Int32)), .val (.int (0 : Int32)), .val (.int r1), .unset, .unset] [(.int (1 : Int32))])) rfl (hb hby at_63) rfl (by decide) (cap := 1) (by decide) (by decide) (by decide) (by decide)
      obtain ⟨b113, g113⟩ : ∃ z, z = h0.size := ⟨_, rfl⟩
      rw [← g113] at A113 st113
      have ge_b113 : n0 ≤ b113 := Nat.le_trans Z0 (Nat.le_of_eq g113.symm)
      have sz_b113 : h0.size ≤ b113 := Nat.le_trans (Keep.refl h0 []).1 (Nat.le_of_eq g113.symm)
      have Z114 := Nat.le_trans Z0 X_113.1
      have K114 : Keep h0 h113 [] := (Keep.refl h0 []).ext X_113
      have V113 : Arv Z h113 b113 k113 .long (1 : Int32) [(.long (0 : Int64))] (.long (0 : Int64)) := (Arv.new A113 (by decide)).pad (pad_rep [] (.long (0 : Int64)) 1)
      refine Go.by st113 ?_
      show Go _ _ _ _ _ _ _ (T113.setTop (mkF m 65 #[.val (.long a1), .second, .val (.long b1), .second, .val (.long c1), .second, .val (.int n1), .val (.int r1), .val (.int (1 : Int32)), .val (.int (0 : Int32)), .val (.int r1), .unset, .unset] [(.ref b113)]))
      refine Go.by (fun _ kont => XS.dup X113.here hx rfl (hb hby at_65) rfl rfl (XS.iconst X113.here hx rfl (hb hby at_66) (XS.lloadN X113.here hx rfl (hb hby at_67) rfl kont))) ?_
      show Go _ _ _ _ _ _ _ (T113.setTop (mkF m 68 #[.val (.long a1), .second, .val (.long b1), .second, .val (.long c1), .second, .val (.int n1), .val (.int r1), .val (.int (1 : Int32)), .val (.int (0 : Int32)), .val (.int r1), .unset, .unset] [(.long a1), (.int (0 : Int32)), (.ref b113), (.ref b113)]))
      obtain ⟨cl_q115, Ar_q115, q1_q115, S_q115, N_q115, H_q115, G_q115⟩ := id V113
      have hin_q115 : ¬ ((0 : Int32) < 0 ∨ cl_q115.slots.size ≤ ((0 : Int32)).toNatClampNeg) := inb_of S_q115 ⟨by decide, by decide⟩
      obtain ⟨T116, h116, X116, e116, W116, st116⟩ := stJ X113 hx hZ e113 Ar_q115 (j := (0 : Int32)) hin_q115 (g := (mkF m 68 #[.val (.long a1), .second, .val (.long b1), .second, .val (.long c1), .second, .val (.int n1), .val (.int r1), .val (.int (1 : Int32)), .val (.int (0 : Int32)), .val (.int r1), .unset, .unset] [(.long a1), (.int (0 : Int32)), (.ref b113), (.ref b113)])) rfl rfl (hb hby at_68)
      have V116 : Arv Z h116 b113 k113 .long (1 : Int32) [(.long a1)] (.long (0 : Int64)) := Arv.set Ar_q115 q1_q115 S_q115 N_q115 H_q115 G_q115 rfl W116 0 rfl (Nat.le_of_ble_eq_true rfl)
      have Z117 := Nat.le_trans Z114 (Keep.of_wr W116).1
      have K117 : Keep h0 h116 [] := K114.wr W116 (Or.inr sz_b113)
      have N116 := Fr.snoc X116 N0 ge_b113
      refine Go.by st116 ?_
      show Go _ _ _ _ _ _ _ (T116.setTop (mkF m 69 #[.val (.long a1), .second, .val (.long b1), .second, .val (.long c1), .second, .val (.int n1), .val (.int r1), .val (.int (1 : Int32)), .val (.int (0 : Int32)), .val (.int r1), .unset, .unset] [(.ref b113)]))
      refine Go.by (fun _ kont => XS.astore X116.here hx rfl (hb hby at_69) rfl rfl (l' := #[.val (.long a1), .second, .val (.long b1), .second, .val (.long c1), .second, .val (.int n1), .val (.int r1), .val (.int (1 : Int32)), .val (.int (0 : Int32)), .val (.int r1), .val (.ref b113), .unset]) rfl (XS.goto X116.here hx rfl (pc0 := 71) (pc' := 114) rfl (hb hby at_71) (by decide) (by decide) (XS.aload X116.here hx rfl (hb hby at_114) rfl rfl (XS.iload X116.here hx rfl (hb hby at_116) rfl kont)))) ?_
      show Go _ _ _ _ _ _ _ (T116.setTop (mkF m 118 #[.val (.long a1), .second, .val (.long b1), .second, .val (.long c1), .second, .val (.int n1), .val (.int r1), .val (.int (1 : Int32)), .val (.int (0 : Int32)), .val (.int r1), .val (.ref b113), .unset] [(.int r1), (.ref b113)]))
      obtain ⟨_, _, ⟨T118, L118, k118, n118⟩, -, X118, ⟨Lc118, hQ118, l118, y118, z118⟩, st118⟩ := Jvm.LawKit.callS X116 hx (y := (⟨"com/example/classwright/classwright/Instructions", "startsAt", "([JI)Z"⟩ : MethodName)) hown (mvT hZ (hw _ (List.mem_of_getElem? (i := 1) rfl))) (mvT hZ (hw _ (List.mem_of_getElem? (i := 2) rfl))) (mvT hZ (hw _ (List.mem_of_getElem? (i := 3) rfl))) (mvT hZ (hw _ (List.mem_of_getElem? (i := 4) rfl))) (by decide) (backOf (W := 0) (rmS1 l Z a0 hw [] b113 r1 k113 a1 h116 n0 Z117 V116) hZ (hw _ (List.mem_of_getElem? (i := 4) rfl)) (hw _ (List.mem_of_getElem? (i := 3) rfl)) (by decide) (by decide)) (g := (mkF m 118 #[.val (.long a1), .second, .val (.long b1), .second, .val (.long c1), .second, .val (.int n1), .val (.int r1), .val (.int (1 : Int32)), .val (.int (0 : Int32)), .val (.int r1), .val (.ref b113), .unset] [(.int r1), (.ref b113)])) rfl (by rw [hml]; rfl) (argsL := [(.ref b113), (.int r1)]) (rest := []) (lenOf pd0_0 rfl) rfl (by show 2 * 0 + _ ≤ _; exact Nat.le_of_eq rfl) (hb hby at_118) (fun _ _ => ⟨rfl, e116, (by decide : 1 + 0 ≤ _), (by decide : 1 + 0 ≤ _)⟩)
      dsimp only [Pt.U, Pt.locs, Pt.cells, Pt.slots] at X118 l118 y118 z118 st118 hQ118
      subst l118 y118 z118
      obtain ⟨rfl, N118q, eh118⟩ := hQ118
      have N118 := Fr.app N116 N118q
      refine Go.by st118 ?_
      show Go _ _ _ _ _ _ _ (T118.setTop (mkF m 121 #[.val (.long a1), .second, .val (.long b1), .second, .val (.long c1), .second, .val (.int n1), .val (.int r1), .val (.int (1 : Int32)), .val (.int (0 : Int32)), .val (.int r1), .val (.ref b113), .unset] [(.int (fS1 r1 a1))]))
      refine Go.by (fun _ kont => XS.istore X118.here hx rfl (hb hby at_121) rfl (l' := #[.val (.long a1), .second, .val (.long b1), .second, .val (.long c1), .second, .val (.int n1), .val (.int r1), .val (.int (1 : Int32)), .val (.int (0 : Int32)), .val (.int r1), .val (.ref b113), .val (.int (fS1 r1 a1))]) rfl (XS.iload X118.here hx rfl (hb hby at_123) rfl (XS.lloadN X118.here hx rfl (hb hby at_125) rfl (XS.lloadN X118.here hx rfl (hb hby at_126) rfl (XS.lload X118.here hx rfl (hb hby at_127) rfl (XS.iload X118.here hx rfl (hb hby at_129) rfl kont)))))) ?_
      show Go _ _ _ _ _ _ _ (T118.setTop (mkF m 131 #[.val (.long a1), .second, .val (.long b1), .second, .val (.long c1), .second, .val (.int n1), .val (.int r1), .val (.int (1 : Int32)), .val (.int (0 : Int32)), .val (.int r1), .val (.ref b113), .val (.int (fS1 r1 a1))] [(.int (1 : Int32)), (.long c1), (.long b1), (.long a1), (.int (fS1 r1 a1))]))
      refine Go.by (fun _ kont => XS.iload X118.here hx rfl (hb hby at_131) rfl kont) ?_
      show Go _ _ _ _ _ _ _ (T118.setTop (mkF m 133 #[.val (.long a1), .second, .val (.long b1), .second, .val (.long c1), .second, .val (.int n1), .val (.int r1), .val (.int (1 : Int32)), .val (.int (0 : Int32)), .val (.int r1), .val (.ref b113), .val (.int (fS1 r1 a1))] [(.int r1), (.int (1 : Int32)), (.long c1), (.long b1), (.long a1), (.int (fS1 r1 a1))]))
      obtain ⟨_, _, ⟨T119, L119, k119, n119⟩, -, X119, ⟨Lc119, hQ119, l119, y119, z119⟩, st119⟩ := Jvm.LawKit.callS X118 hx (y := (⟨"com/example/classwright/classwright/InstructionsStartsAtPinLaw", "expected", "(JJJII)Z"⟩ : MethodName)) hown (mvT hZ (hw _ (List.mem_of_getElem? (i := 5) rfl))) (mvT hZ (hw _ (List.mem_of_getElem? (i := 6) rfl))) (mvT hZ (hw _ (List.mem_of_getElem? (i := 7) rfl))) (mvT hZ (hw _ (List.mem_of_getElem? (i := 8) rfl))) (by decide) (backOf (W := 1) (rmX1 l Z a0 hw [] a1 b1 c1 r1 h116 n0 Z117 ) hZ (hw _ (List.mem_of_getElem? (i := 8) rfl)) (hw _ (List.mem_of_getElem? (i := 7) rfl)) (by decide) (by decide)) (g := (mkF m 133 #[.val (.long a1), .second, .val (.long b1), .second, .val (.long c1), .second, .val (.int n1), .val (.int r1), .val (.int (1 : Int32)), .val (.int (0 : Int32)), .val (.int r1), .val (.ref b113), .val (.int (fS1 r1 a1))] [(.int r1), (.int (1 : Int32)), (.long c1), (.long b1), (.long a1), (.int (fS1 r1 a1))])) rfl (by rw [hml]; rfl) (argsL := [(.long a1), (.long b1), (.long c1), (.int (1 : Int32)), (.int r1)]) (rest := [(.int (fS1 r1 a1))]) (lenOf pd0_1 rfl) rfl (by show 2 * 0 + _ ≤ _; exact Nat.le_of_eq rfl) (hb hby at_133) (fun _ _ => ⟨rfl, eh118, (by decide : 1 + 0 ≤ _), (by decide : 1 + 0 ≤ _)⟩)
      dsimp only [Pt.U, Pt.locs, Pt.cells, Pt.slots] at X119 l119 y119 z119 st119 hQ119
      subst l119 y119 z119
      obtain ⟨rfl, N119q, eh119⟩ := hQ119
      have N119 := Fr.app N118 N119q
      refine Go.by st119 ?_
      show Go _ _ _ _ _ _ _ (T119.setTop (mkF m 136 #[.val (.long a1), .second, .val (.long b1), .second, .val (.long c1), .second, .val (.int n1), .val (.int r1), .val (.int (1 : Int32)), .val (.int (0 : Int32)), .val (.int r1), .val (.ref b113), .val (.int (fS1 r1 a1))] [(.int (fX1 a1 r1)), (.int (fS1 r1 a1))]))
      have hd120 : (fS1 r1 a1) = (fX1 a1 r1) := own_eq1 a1 b1 c1 _
      refine Go.by (fun _ kont => XS.icmpNo X119.here hx rfl (hb hby at_136) rfl (teq hd120).2 kont) ?_
      show Go _ _ _ _ _ _ _ (T119.setTop (mkF m 139 #[.val (.long a1), .second, .val (.long b1), .second, .val (.long c1), .second, .val (.int n1), .val (.int r1), .val (.int (1 : Int32)), .val (.int (0 : Int32)), .val (.int r1), .val (.ref b113), .val (.int (fS1 r1 a1))] []))
      refine Go.by (fun _ kont => XS.iconst X119.here hx rfl (hb hby at_139) (XS.goto X119.here hx rfl (pc0 := 140) (pc' := 144) rfl (hb hby at_140) (by decide) (by decide) kont)) ?_
      show Go _ _ _ _ _ _ _ (T119.setTop (mkF m 144 #[.val (.long a1), .second, .val (.long b1), .second, .val (.long c1), .second, .val (.int n1), .val (.int r1), .val (.int (1 : Int32)), .val (.int (0 : Int32)), .val (.int r1), .val (.ref b113), .val (.int (fS1 r1 a1))] [(.int (1 : Int32))]))
      refine Go.retN X119 hx (t := .boolean) hret (by simp) hlk (hb hby at_144) ?_ (by decide) (by decide)
      show Q0 Z h0 n0 (some (.int (1 : Int32))) T119.heap _
      rw [eh119]
      exact ⟨rfl, N119⟩
    · refine Go.by (fun _ kont => XS.ifNo X0.here hx rfl (hb hby at_12) rfl ((if0 _ _).trans (feq hc112).1) kont) ?_
      show Go _ _ _ _ _ _ _ (s₁.setTop (mkF m 15 #[.val (.long a1), .second, .val (.long b1), .second, .val (.long c1), .second, .val (.int n1), .val (.int r1), .val (.int (1 : Int32)), .unset, .unset, .unset, .unset] []))
      refine Go.by (fun _ kont => XS.iconst X0.here hx rfl (hb hby at_15) (XS.goto X0.here hx rfl (pc0 := 16) (pc' := 20) rfl (hb hby at_16) (by decide) (by decide) (XS.istore X0.here hx rfl (hb hby at_20) rfl (l' := #[.val (.long a1), .second, .val (.long b1), .second, .val (.long c1), .second, .val (.int n1), .val (.int r1), .val (.int (1 : Int32)), .val (.int (1 : Int32)), .unset, .unset, .unset]) rfl (XS.iload X0.here hx rfl (hb hby at_22) rfl kont)))) ?_
      show Go _ _ _ _ _ _ _ (s₁.setTop (mkF m 24 #[.val (.long a1), .second, .val (.long b1), .second, .val (.long c1), .second, .val (.int n1), .val (.int r1), .val (.int (1 : Int32)), .val (.int (1 : Int32)), .unset, .unset, .unset] [(.int (1 : Int32))]))
      refine Go.by (fun _ kont => XS.ifNo X0.here hx rfl (hb hby at_24) rfl (by decide) kont) ?_
      show Go _ _ _ _ _ _ _ (s₁.setTop (mkF m 27 #[.val (.long a1), .second, .val (.long b1), .second, .val (.long c1), .second, .val (.int n1), .val (.int r1), .val (.int (1 : Int32)), .val (.int (1 : Int32)), .unset, .unset, .unset] []))
      refine Go.by (fun _ kont => XS.iload X0.here hx rfl (hb hby at_27) rfl (XS.sipush X0.here hx rfl (hb hby at_29) (XS.iand X0.here hx rfl (hb hby at_32) rfl (XS.bipush X0.here hx rfl (hb hby at_33) (XS.isub X0.here hx rfl (hb hby at_35) rfl (XS.goto X0.here hx rfl (pc0 := 36) (pc' := 41) rfl (hb hby at_36) (by decide) (by decide) kont)))))) ?_
      show Go _ _ _ _ _ _ _ (s₁.setTop (mkF m 41 #[.val (.long a1), .second, .val (.long b1), .second, .val (.long c1), .second, .val (.int n1), .val (.int r1), .val (.int (1 : Int32)), .val (.int (1 : Int32)), .unset, .unset, .unset] [(.int ((r1 &&& (255 : Int32)) - (32 : Int32)))]))
      refine Go.by (fun _ kont => XS.istore X0.here hx rfl (hb hby at_41) rfl (l' := #[.val (.long a1), .second, .val (.long b1), .second, .val (.long c1), .second, .val (.int n1), .val (.int r1), .val (.int (1 : Int32)), .val (.int (1 : Int32)), .val (.int ((r1 &&& (255 : Int32)) - (32 : Int32))), .unset, .unset]) rfl kont) ?_
      show Go _ _ _ _ _ _ _ (s₁.setTop (mkF m 43 #[.val (.long a1), .second, .val (.long b1), .second, .val (.long c1), .second, .val (.int n1), .val (.int r1), .val (.int (1 : Int32)), .val (.int (1 : Int32)), .val (.int ((r1 &&& (255 : Int32)) - (32 : Int32))), .unset, .unset] []))
      generalize ((r1 &&& (255 : Int32)) - (32 : Int32)) = oo
      show Go _ _ _ _ _ _ _ (s₁.setTop (mkF m 43 #[.val (.long a1), .second, .val (.long b1), .second, .val (.long c1), .second, .val (.int n1), .val (.int r1), .val (.int (1 : Int32)), .val (.int (1 : Int32)), .val (.int oo), .unset, .unset] []))
      refine Go.by (fun _ kont => XS.iload X0.here hx rfl (hb hby at_43) rfl kont) ?_
      show Go _ _ _ _ _ _ _ (s₁.setTop (mkF m 45 #[.val (.long a1), .second, .val (.long b1), .second, .val (.long c1), .second, .val (.int n1), .val (.int r1), .val (.int (1 : Int32)), .val (.int (1 : Int32)), .val (.int oo), .unset, .unset] [(.int (1 : Int32))]))
      refine Go.by (fun _ kont => XS.ifYes X0.here hx rfl (pc0 := 45) (pc' := 56) rfl (hb hby at_45) rfl (by decide) (by decide) (by decide) kont) ?_
      show Go _ _ _ _ _ _ _ (s₁.setTop (mkF m 56 #[.val (.long a1), .second, .val (.long b1), .second, .val (.long c1), .second, .val (.int n1), .val (.int r1), .val (.int (1 : Int32)), .val (.int (1 : Int32)), .val (.int oo), .unset, .unset] []))
      refine Go.by (fun _ kont => XS.iload X0.here hx rfl (hb hby at_56) rfl (XS.iconst X0.here hx rfl (hb hby at_58) kont)) ?_
      show Go _ _ _ _ _ _ _ (s₁.setTop (mkF m 59 #[.val (.long a1), .second, .val (.long b1), .second, .val (.long c1), .second, .val (.int n1), .val (.int r1), .val (.int (1 : Int32)), .val (.int (1 : Int32)), .val (.int oo), .unset, .unset] [(.int (1 : Int32)), (.int (1 : Int32))]))
      refine Go.by (fun _ kont => XS.icmpNo X0.here hx rfl (hb hby at_59) rfl (by decide) kont) ?_
      show Go _ _ _ _ _ _ _ (s₁.setTop (mkF m 62 #[.val (.long a1), .second, .val (.long b1), .second, .val (.long c1), .second, .val (.int n1), .val (.int r1), .val (.int (1 : Int32)), .val (.int (1 : Int32)), .val (.int oo), .unset, .unset] []))
      refine Go.by (fun _ kont => XS.iconst X0.here hx rfl (hb hby at_62) kont) ?_
      show Go _ _ _ _ _ _ _ (s₁.setTop (mkF m 63 #[.val (.long a1), .second, .val (.long b1), .second, .val (.long c1), .second, .val (.int n1), .val (.int r1), .val (.int (1 : Int32)), .val (.int (1 : Int32)), .val (.int oo), .unset, .unset] [(.int (1 : Int32))]))
      obtain ⟨T121, h121, k121, X121, e121, X_121, A121, st121⟩ := newP X0 hx hZ (hw _ (List.mem_of_getElem? (i := 0) rfl)) e0 (g := (mkF m 63 #[.val (.long a1), .second, .val (.long b1), .second, .val (.long c1), .second, .val (.int n1), .val (.int r1), .val (.int (1 : Int32)), .val (.int (1 : Int32)), .val (.int oo), .unset, .unset] [(.int (1 : Int32))])) rfl (hb hby at_63) rfl (by decide) (cap := 1) (by decide) (by decide) (by decide) (by decide)
      obtain ⟨b121, g121⟩ : ∃ z, z = h0.size := ⟨_, rfl⟩
      rw [← g121] at A121 st121
      have ge_b121 : n0 ≤ b121 := Nat.le_trans Z0 (Nat.le_of_eq g121.symm)
      have sz_b121 : h0.size ≤ b121 := Nat.le_trans (Keep.refl h0 []).1 (Nat.le_of_eq g121.symm)
      have Z122 := Nat.le_trans Z0 X_121.1
      have K122 : Keep h0 h121 [] := (Keep.refl h0 []).ext X_121
      have V121 : Arv Z h121 b121 k121 .long (1 : Int32) [(.long (0 : Int64))] (.long (0 : Int64)) := (Arv.new A121 (by decide)).pad (pad_rep [] (.long (0 : Int64)) 1)
      refine Go.by st121 ?_
      show Go _ _ _ _ _ _ _ (T121.setTop (mkF m 65 #[.val (.long a1), .second, .val (.long b1), .second, .val (.long c1), .second, .val (.int n1), .val (.int r1), .val (.int (1 : Int32)), .val (.int (1 : Int32)), .val (.int oo), .unset, .unset] [(.ref b121)]))
      refine Go.by (fun _ kont => XS.dup X121.here hx rfl (hb hby at_65) rfl rfl (XS.iconst X121.here hx rfl (hb hby at_66) (XS.lloadN X121.here hx rfl (hb hby at_67) rfl kont))) ?_
      show Go _ _ _ _ _ _ _ (T121.setTop (mkF m 68 #[.val (.long a1), .second, .val (.long b1), .second, .val (.long c1), .second, .val (.int n1), .val (.int r1), .val (.int (1 : Int32)), .val (.int (1 : Int32)), .val (.int oo), .unset, .unset] [(.long a1), (.int (0 : Int32)), (.ref b121), (.ref b121)]))
      obtain ⟨cl_q123, Ar_q123, q1_q123, S_q123, N_q123, H_q123, G_q123⟩ := id V121
      have hin_q123 : ¬ ((0 : Int32) < 0 ∨ cl_q123.slots.size ≤ ((0 : Int32)).toNatClampNeg) := inb_of S_q123 ⟨by decide, by decide⟩
      obtain ⟨T124, h124, X124, e124, W124, st124⟩ := stJ X121 hx hZ e121 Ar_q123 (j := (0 : Int32)) hin_q123 (g := (mkF m 68 #[.val (.long a1), .second, .val (.long b1), .second, .val (.long c1), .second, .val (.int n1), .val (.int r1), .val (.int (1 : Int32)), .val (.int (1 : Int32)), .val (.int oo), .unset, .unset] [(.long a1), (.int (0 : Int32)), (.ref b121), (.ref b121)])) rfl rfl (hb hby at_68)
      have V124 : Arv Z h124 b121 k121 .long (1 : Int32) [(.long a1)] (.long (0 : Int64)) := Arv.set Ar_q123 q1_q123 S_q123 N_q123 H_q123 G_q123 rfl W124 0 rfl (Nat.le_of_ble_eq_true rfl)
      have Z125 := Nat.le_trans Z122 (Keep.of_wr W124).1
      have K125 : Keep h0 h124 [] := K122.wr W124 (Or.inr sz_b121)
      have N124 := Fr.snoc X124 N0 ge_b121
      refine Go.by st124 ?_
      show Go _ _ _ _ _ _ _ (T124.setTop (mkF m 69 #[.val (.long a1), .second, .val (.long b1), .second, .val (.long c1), .second, .val (.int n1), .val (.int r1), .val (.int (1 : Int32)), .val (.int (1 : Int32)), .val (.int oo), .unset, .unset] [(.ref b121)]))
      refine Go.by (fun _ kont => XS.astore X124.here hx rfl (hb hby at_69) rfl rfl (l' := #[.val (.long a1), .second, .val (.long b1), .second, .val (.long c1), .second, .val (.int n1), .val (.int r1), .val (.int (1 : Int32)), .val (.int (1 : Int32)), .val (.int oo), .val (.ref b121), .unset]) rfl (XS.goto X124.here hx rfl (pc0 := 71) (pc' := 114) rfl (hb hby at_71) (by decide) (by decide) (XS.aload X124.here hx rfl (hb hby at_114) rfl rfl (XS.iload X124.here hx rfl (hb hby at_116) rfl kont)))) ?_
      show Go _ _ _ _ _ _ _ (T124.setTop (mkF m 118 #[.val (.long a1), .second, .val (.long b1), .second, .val (.long c1), .second, .val (.int n1), .val (.int r1), .val (.int (1 : Int32)), .val (.int (1 : Int32)), .val (.int oo), .val (.ref b121), .unset] [(.int oo), (.ref b121)]))
      obtain ⟨_, _, ⟨T126, L126, k126, n126⟩, -, X126, ⟨Lc126, hQ126, l126, y126, z126⟩, st126⟩ := Jvm.LawKit.callS X124 hx (y := (⟨"com/example/classwright/classwright/Instructions", "startsAt", "([JI)Z"⟩ : MethodName)) hown (mvT hZ (hw _ (List.mem_of_getElem? (i := 1) rfl))) (mvT hZ (hw _ (List.mem_of_getElem? (i := 2) rfl))) (mvT hZ (hw _ (List.mem_of_getElem? (i := 3) rfl))) (mvT hZ (hw _ (List.mem_of_getElem? (i := 4) rfl))) (by decide) (backOf (W := 0) (rmS1 l Z a0 hw [] b121 oo k121 a1 h124 n0 Z125 V124) hZ (hw _ (List.mem_of_getElem? (i := 4) rfl)) (hw _ (List.mem_of_getElem? (i := 3) rfl)) (by decide) (by decide)) (g := (mkF m 118 #[.val (.long a1), .second, .val (.long b1), .second, .val (.long c1), .second, .val (.int n1), .val (.int r1), .val (.int (1 : Int32)), .val (.int (1 : Int32)), .val (.int oo), .val (.ref b121), .unset] [(.int oo), (.ref b121)])) rfl (by rw [hml]; rfl) (argsL := [(.ref b121), (.int oo)]) (rest := []) (lenOf pd0_0 rfl) rfl (by show 2 * 0 + _ ≤ _; exact Nat.le_of_eq rfl) (hb hby at_118) (fun _ _ => ⟨rfl, e124, (by decide : 1 + 0 ≤ _), (by decide : 1 + 0 ≤ _)⟩)
      dsimp only [Pt.U, Pt.locs, Pt.cells, Pt.slots] at X126 l126 y126 z126 st126 hQ126
      subst l126 y126 z126
      obtain ⟨rfl, N126q, eh126⟩ := hQ126
      have N126 := Fr.app N124 N126q
      refine Go.by st126 ?_
      show Go _ _ _ _ _ _ _ (T126.setTop (mkF m 121 #[.val (.long a1), .second, .val (.long b1), .second, .val (.long c1), .second, .val (.int n1), .val (.int r1), .val (.int (1 : Int32)), .val (.int (1 : Int32)), .val (.int oo), .val (.ref b121), .unset] [(.int (fS1 oo a1))]))
      refine Go.by (fun _ kont => XS.istore X126.here hx rfl (hb hby at_121) rfl (l' := #[.val (.long a1), .second, .val (.long b1), .second, .val (.long c1), .second, .val (.int n1), .val (.int r1), .val (.int (1 : Int32)), .val (.int (1 : Int32)), .val (.int oo), .val (.ref b121), .val (.int (fS1 oo a1))]) rfl (XS.iload X126.here hx rfl (hb hby at_123) rfl (XS.lloadN X126.here hx rfl (hb hby at_125) rfl (XS.lloadN X126.here hx rfl (hb hby at_126) rfl (XS.lload X126.here hx rfl (hb hby at_127) rfl (XS.iload X126.here hx rfl (hb hby at_129) rfl kont)))))) ?_
      show Go _ _ _ _ _ _ _ (T126.setTop (mkF m 131 #[.val (.long a1), .second, .val (.long b1), .second, .val (.long c1), .second, .val (.int n1), .val (.int r1), .val (.int (1 : Int32)), .val (.int (1 : Int32)), .val (.int oo), .val (.ref b121), .val (.int (fS1 oo a1))] [(.int (1 : Int32)), (.long c1), (.long b1), (.long a1), (.int (fS1 oo a1))]))
      refine Go.by (fun _ kont => XS.iload X126.here hx rfl (hb hby at_131) rfl kont) ?_
      show Go _ _ _ _ _ _ _ (T126.setTop (mkF m 133 #[.val (.long a1), .second, .val (.long b1), .second, .val (.long c1), .second, .val (.int n1), .val (.int r1), .val (.int (1 : Int32)), .val (.int (1 : Int32)), .val (.int oo), .val (.ref b121), .val (.int (fS1 oo a1))] [(.int oo), (.int (1 : Int32)), (.long c1), (.long b1), (.long a1), (.int (fS1 oo a1))]))
      obtain ⟨_, _, ⟨T127, L127, k127, n127⟩, -, X127, ⟨Lc127, hQ127, l127, y127, z127⟩, st127⟩ := Jvm.LawKit.callS X126 hx (y := (⟨"com/example/classwright/classwright/InstructionsStartsAtPinLaw", "expected", "(JJJII)Z"⟩ : MethodName)) hown (mvT hZ (hw _ (List.mem_of_getElem? (i := 5) rfl))) (mvT hZ (hw _ (List.mem_of_getElem? (i := 6) rfl))) (mvT hZ (hw _ (List.mem_of_getElem? (i := 7) rfl))) (mvT hZ (hw _ (List.mem_of_getElem? (i := 8) rfl))) (by decide) (backOf (W := 1) (rmX1 l Z a0 hw [] a1 b1 c1 oo h124 n0 Z125 ) hZ (hw _ (List.mem_of_getElem? (i := 8) rfl)) (hw _ (List.mem_of_getElem? (i := 7) rfl)) (by decide) (by decide)) (g := (mkF m 133 #[.val (.long a1), .second, .val (.long b1), .second, .val (.long c1), .second, .val (.int n1), .val (.int r1), .val (.int (1 : Int32)), .val (.int (1 : Int32)), .val (.int oo), .val (.ref b121), .val (.int (fS1 oo a1))] [(.int oo), (.int (1 : Int32)), (.long c1), (.long b1), (.long a1), (.int (fS1 oo a1))])) rfl (by rw [hml]; rfl) (argsL := [(.long a1), (.long b1), (.long c1), (.int (1 : Int32)), (.int oo)]) (rest := [(.int (fS1 oo a1))]) (lenOf pd0_1 rfl) rfl (by show 2 * 0 + _ ≤ _; exact Nat.le_of_eq rfl) (hb hby at_133) (fun _ _ => ⟨rfl, eh126, (by decide : 1 + 0 ≤ _), (by decide : 1 + 0 ≤ _)⟩)
      dsimp only [Pt.U, Pt.locs, Pt.cells, Pt.slots] at X127 l127 y127 z127 st127 hQ127
      subst l127 y127 z127
      obtain ⟨rfl, N127q, eh127⟩ := hQ127
      have N127 := Fr.app N126 N127q
      refine Go.by st127 ?_
      show Go _ _ _ _ _ _ _ (T127.setTop (mkF m 136 #[.val (.long a1), .second, .val (.long b1), .second, .val (.long c1), .second, .val (.int n1), .val (.int r1), .val (.int (1 : Int32)), .val (.int (1 : Int32)), .val (.int oo), .val (.ref b121), .val (.int (fS1 oo a1))] [(.int (fX1 a1 oo)), (.int (fS1 oo a1))]))
      have hd128 : (fS1 oo a1) = (fX1 a1 oo) := own_eq1 a1 b1 c1 _
      refine Go.by (fun _ kont => XS.icmpNo X127.here hx rfl (hb hby at_136) rfl (teq hd128).2 kont) ?_
      show Go _ _ _ _ _ _ _ (T127.setTop (mkF m 139 #[.val (.long a1), .second, .val (.long b1), .second, .val (.long c1), .second, .val (.int n1), .val (.int r1), .val (.int (1 : Int32)), .val (.int (1 : Int32)), .val (.int oo), .val (.ref b121), .val (.int (fS1 oo a1))] []))
      refine Go.by (fun _ kont => XS.iconst X127.here hx rfl (hb hby at_139) (XS.goto X127.here hx rfl (pc0 := 140) (pc' := 144) rfl (hb hby at_140) (by decide) (by decide) kont)) ?_
      show Go _ _ _ _ _ _ _ (T127.setTop (mkF m 144 #[.val (.long a1), .second, .val (.long b1), .second, .val (.long c1), .second, .val (.int n1), .val (.int r1), .val (.int (1 : Int32)), .val (.int (1 : Int32)), .val (.int oo), .val (.ref b121), .val (.int (fS1 oo a1))] [(.int (1 : Int32))]))
      refine Go.retN X127 hx (t := .boolean) hret (by simp) hlk (hb hby at_144) ?_ (by decide) (by decide)
      show Q0 Z h0 n0 (some (.int (1 : Int32))) T127.heap _
      rw [eh127]
      exact ⟨rfl, N127⟩
  · show Go _ _ _ _ _ _ _ (s₁.setTop (mkF m 6 #[.val (.long a1), .second, .val (.long b1), .second, .val (.long c1), .second, .val (.int n1), .val (.int r1), .val (.int (2 : Int32)), .unset, .unset, .unset, .unset] []))
    refine Go.by (fun _ kont => XS.iload X0.here hx rfl (hb hby at_6) rfl (XS.iconst X0.here hx rfl (hb hby at_8) (XS.iushr X0.here hx rfl (hb hby at_9) rfl (XS.iconst X0.here hx rfl (hb hby at_10) (XS.iand X0.here hx rfl (hb hby at_11) rfl kont))))) ?_
    show Go _ _ _ _ _ _ _ (s₁.setTop (mkF m 12 #[.val (.long a1), .second, .val (.long b1), .second, .val (.long c1), .second, .val (.int n1), .val (.int r1), .val (.int (2 : Int32)), .unset, .unset, .unset, .unset] [(.int (((n1.toUInt32 >>> ((2 : Int32) &&& 31).toUInt32).toInt32) &&& (1 : Int32)))]))
    by_cases hc129 : (((n1.toUInt32 >>> ((2 : Int32) &&& 31).toUInt32).toInt32) &&& (1 : Int32)) = (0 : Int32)
    · refine Go.by (fun _ kont => XS.ifYes X0.here hx rfl (pc0 := 12) (pc' := 19) rfl (hb hby at_12) rfl ((if0 _ _).trans (teq hc129).1) (by decide) (by decide) kont) ?_
      show Go _ _ _ _ _ _ _ (s₁.setTop (mkF m 19 #[.val (.long a1), .second, .val (.long b1), .second, .val (.long c1), .second, .val (.int n1), .val (.int r1), .val (.int (2 : Int32)), .unset, .unset, .unset, .unset] []))
      refine Go.by (fun _ kont => XS.iconst X0.here hx rfl (hb hby at_19) (XS.istore X0.here hx rfl (hb hby at_20) rfl (l' := #[.val (.long a1), .second, .val (.long b1), .second, .val (.long c1), .second, .val (.int n1), .val (.int r1), .val (.int (2 : Int32)), .val (.int (0 : Int32)), .unset, .unset, .unset]) rfl (XS.iload X0.here hx rfl (hb hby at_22) rfl kont))) ?_
      show Go _ _ _ _ _ _ _ (s₁.setTop (mkF m 24 #[.val (.long a1), .second, .val (.long b1), .second, .val (.long c1), .second, .val (.int n1), .val (.int r1), .val (.int (2 : Int32)), .val (.int (0 : Int32)), .unset, .unset, .unset] [(.int (0 : Int32))]))
      refine Go.by (fun _ kont => XS.ifYes X0.here hx rfl (pc0 := 24) (pc' := 39) rfl (hb hby at_24) rfl (by decide) (by decide) (by decide) kont) ?_
      show Go _ _ _ _ _ _ _ (s₁.setTop (mkF m 39 #[.val (.long a1), .second, .val (.long b1), .second, .val (.long c1), .second, .val (.int n1), .val (.int r1), .val (.int (2 : Int32)), .val (.int (0 : Int32)), .unset, .unset, .unset] []))
      refine Go.by (fun _ kont => XS.iload X0.here hx rfl (hb hby at_39) rfl (XS.istore X0.here hx rfl (hb hby at_41) rfl (l' := #[.val (.long a1), .second, .val (.long b1), .second, .val (.long c1), .second, .val (.int n1), .val (.int r1), .val (.int (2 : Int32)), .val (.int (0 : Int32)), .val (.int r1), .unset, .unset]) rfl kont)) ?_
      show Go _ _ _ _ _ _ _ (s₁.setTop (mkF m 43 #[.val (.long a1), .second, .val (.long b1), .second, .val (.long c1), .second, .val (.int n1), .val (.int r1), .val (.int (2 : Int32)), .val (.int (0 : Int32)), .val (.int r1), .unset, .unset] []))
      refine Go.by (fun _ kont => XS.iload X0.here hx rfl (hb hby at_43) rfl kont) ?_
      show Go _ _ _ _ _ _ _ (s₁.setTop (mkF m 45 #[.val (.long a1), .second, .val (.long b1), .second, .val (.long c1), .second, .val (.int n1), .val (.int r1), .val (.int (2 : Int32)), .val (.int (0 : Int32)), .val (.int r1), .unset, .unset] [(.int (2 : Int32))]))
      refine Go.by (fun _ kont => XS.ifYes X0.here hx rfl (pc0 := 45) (pc' := 56) rfl (hb hby at_45) rfl (by decide) (by decide) (by decide) kont) ?_
      show Go _ _ _ _ _ _ _ (s₁.setTop (mkF m 56 #[.val (.long a1), .second, .val (.long b1), .second, .val (.long c1), .second, .val (.int n1), .val (.int r1), .val (.int (2 : Int32)), .val (.int (0 : Int32)), .val (.int r1), .unset, .unset] []))
      refine Go.by (fun _ kont => XS.iload X0.here hx rfl (hb hby at_56) rfl (XS.iconst X0.here hx rfl (hb hby at_58) kont)) ?_
      show Go _ _ _ _ _ _ _ (s₁.setTop (mkF m 59 #[.val (.long a1), .second, .val (.long b1), .second, .val (.long c1), .second, .val (.int n1), .val (.int r1), .val (.int (2 : Int32)), .val (.int (0 : Int32)), .val (.int r1), .unset, .unset] [(.int (1 : Int32)), (.int (2 : Int32))]))
      refine Go.by (fun _ kont => XS.icmpYes X0.here hx rfl (pc0 := 59) (pc' := 74) rfl (hb hby at_59) rfl (by decide) (by decide) (by decide) kont) ?_
      show Go _ _ _ _ _ _ _ (s₁.setTop (mkF m 74 #[.val (.long a1), .second, .val (.long b1), .second, .val (.long c1), .second, .val (.int n1), .val (.int r1), .val (.int (2 : Int32)), .val (.int (0 : Int32)), .val (.int r1), .unset, .unset] []))
      refine Go.by (fun _ kont => XS.iload X0.here hx rfl (hb hby at_74) rfl (XS.iconst X0.here hx rfl (hb hby at_76) kont)) ?_
      show Go _ _ _ _ _ _ _ (s₁.setTop (mkF m 77 #[.val (.long a1), .second, .val (.long b1), .second, .val (.long c1), .second, .val (.int n1), .val (.int r1), .val (.int (2 : Int32)), .val (.int (0 : Int32)), .val (.int r1), .unset, .unset] [(.int (2 : Int32)), (.int (2 : Int32))]))
      refine Go.by (fun _ kont => XS.icmpNo X0.here hx rfl (hb hby at_77) rfl (by decide) kont) ?_
      show Go _ _ _ _ _ _ _ (s₁.setTop (mkF m 80 #[.val (.long a1), .second, .val (.long b1), .second, .val (.long c1), .second, .val (.int n1), .val (.int r1), .val (.int (2 : Int32)), .val (.int (0 : Int32)), .val (.int r1), .unset, .unset] []))
      refine Go.by (fun _ kont => XS.iconst X0.here hx rfl (hb hby at_80) kont) ?_
      show Go _ _ _ _ _ _ _ (s₁.setTop (mkF m 81 #[.val (.long a1), .second, .val (.long b1), .second, .val (.long c1), .second, .val (.int n1), .val (.int r1), .val (.int (2 : Int32)), .val (.int (0 : Int32)), .val (.int r1), .unset, .unset] [(.int (2 : Int32))]))
      obtain ⟨T130, h130, k130, X130, e130, X_130, A130, st130⟩ := newP X0 hx hZ (hw _ (List.mem_of_getElem? (i := 0) rfl)) e0 (g := (mkF m 81 #[.val (.long a1), .second, .val (.long b1), .second, .val (.long c1), .second, .val (.int n1), .val (.int r1), .val (.int (2 : Int32)), .val (.int (0 : Int32)), .val (.int r1), .unset, .unset] [(.int (2 : Int32))])) rfl (hb hby at_81) rfl (by decide) (cap := 2) (by decide) (by decide) (by decide) (by decide)
      obtain ⟨b130, g130⟩ : ∃ z, z = h0.size := ⟨_, rfl⟩
      rw [← g130] at A130 st130
      have ge_b130 : n0 ≤ b130 := Nat.le_trans Z0 (Nat.le_of_eq g130.symm)
      have sz_b130 : h0.size ≤ b130 := Nat.le_trans (Keep.refl h0 []).1 (Nat.le_of_eq g130.symm)
      have Z131 := Nat.le_trans Z0 X_130.1
      have K131 : Keep h0 h130 [] := (Keep.refl h0 []).ext X_130
      have V130 : Arv Z h130 b130 k130 .long (2 : Int32) [(.long (0 : Int64)), (.long (0 : Int64))] (.long (0 : Int64)) := (Arv.new A130 (by decide)).pad (pad_rep [] (.long (0 : Int64)) 2)
      refine Go.by st130 ?_
      show Go _ _ _ _ _ _ _ (T130.setTop (mkF m 83 #[.val (.long a1), .second, .val (.long b1), .second, .val (.long c1), .second, .val (.int n1), .val (.int r1), .val (.int (2 : Int32)), .val (.int (0 : Int32)), .val (.int r1), .unset, .unset] [(.ref b130)]))
      refine Go.by (fun _ kont => XS.dup X130.here hx rfl (hb hby at_83) rfl rfl (XS.iconst X130.here hx rfl (hb hby at_84) (XS.lloadN X130.here hx rfl (hb hby at_85) rfl kont))) ?_
      show Go _ _ _ _ _ _ _ (T130.setTop (mkF m 86 #[.val (.long a1), .second, .val (.long b1), .second, .val (.long c1), .second, .val (.int n1), .val (.int r1), .val (.int (2 : Int32)), .val (.int (0 : Int32)), .val (.int r1), .unset, .unset] [(.long a1), (.int (0 : Int32)), (.ref b130), (.ref b130)]))
      obtain ⟨cl_q132, Ar_q132, q1_q132, S_q132, N_q132, H_q132, G_q132⟩ := id V130
      have hin_q132 : ¬ ((0 : Int32) < 0 ∨ cl_q132.slots.size ≤ ((0 : Int32)).toNatClampNeg) := inb_of S_q132 ⟨by decide, by decide⟩
      obtain ⟨T133, h133, X133, e133, W133, st133⟩ := stJ X130 hx hZ e130 Ar_q132 (j := (0 : Int32)) hin_q132 (g := (mkF m 86 #[.val (.long a1), .second, .val (.long b1), .second, .val (.long c1), .second, .val (.int n1), .val (.int r1), .val (.int (2 : Int32)), .val (.int (0 : Int32)), .val (.int r1), .unset, .unset] [(.long a1), (.int (0 : Int32)), (.ref b130), (.ref b130)])) rfl rfl (hb hby at_86)
      have V133 : Arv Z h133 b130 k130 .long (2 : Int32) [(.long a1), (.long (0 : Int64))] (.long (0 : Int64)) := Arv.set Ar_q132 q1_q132 S_q132 N_q132 H_q132 G_q132 rfl W133 0 rfl (Nat.le_of_ble_eq_true rfl)
      have Z134 := Nat.le_trans Z131 (Keep.of_wr W133).1
      have K134 : Keep h0 h133 [] := K131.wr W133 (Or.inr sz_b130)
      have N133 := Fr.snoc X133 N0 ge_b130
      refine Go.by st133 ?_
      show Go _ _ _ _ _ _ _ (T133.setTop (mkF m 87 #[.val (.long a1), .second, .val (.long b1), .second, .val (.long c1), .second, .val (.int n1), .val (.int r1), .val (.int (2 : Int32)), .val (.int (0 : Int32)), .val (.int r1), .unset, .unset] [(.ref b130)]))
      refine Go.by (fun _ kont => XS.dup X133.here hx rfl (hb hby at_87) rfl rfl (XS.iconst X133.here hx rfl (hb hby at_88) (XS.lloadN X133.here hx rfl (hb hby at_89) rfl kont))) ?_
      show Go _ _ _ _ _ _ _ (T133.setTop (mkF m 90 #[.val (.long a1), .second, .val (.long b1), .second, .val (.long c1), .second, .val (.int n1), .val (.int r1), .val (.int (2 : Int32)), .val (.int (0 : Int32)), .val (.int r1), .unset, .unset] [(.long b1), (.int (1 : Int32)), (.ref b130), (.ref b130)]))
      obtain ⟨cl_q135, Ar_q135, q1_q135, S_q135, N_q135, H_q135, G_q135⟩ := id V133
      have hin_q135 : ¬ ((1 : Int32) < 0 ∨ cl_q135.slots.size ≤ ((1 : Int32)).toNatClampNeg) := inb_of S_q135 ⟨by decide, by decide⟩
      obtain ⟨T136, h136, X136, e136, W136, st136⟩ := stJ X133 hx hZ e133 Ar_q135 (j := (1 : Int32)) hin_q135 (g := (mkF m 90 #[.val (.long a1), .second, .val (.long b1), .second, .val (.long c1), .second, .val (.int n1), .val (.int r1), .val (.int (2 : Int32)), .val (.int (0 : Int32)), .val (.int r1), .unset, .unset] [(.long b1), (.int (1 : Int32)), (.ref b130), (.ref b130)])) rfl rfl (hb hby at_90)
      have V136 : Arv Z h136 b130 k130 .long (2 : Int32) [(.long a1), (.long b1)] (.long (0 : Int64)) := Arv.set Ar_q135 q1_q135 S_q135 N_q135 H_q135 G_q135 rfl W136 1 rfl (Nat.le_of_ble_eq_true rfl)
      have Z137 := Nat.le_trans Z134 (Keep.of_wr W136).1
      have K137 : Keep h0 h136 [] := K134.wr W136 (Or.inr sz_b130)
      have N136 := Fr.snoc X136 N133 ge_b130
      refine Go.by st136 ?_
      show Go _ _ _ _ _ _ _ (T136.setTop (mkF m 91 #[.val (.long a1), .second, .val (.long b1), .second, .val (.long c1), .second, .val (.int n1), .val (.int r1), .val (.int (2 : Int32)), .val (.int (0 : Int32)), .val (.int r1), .unset, .unset] [(.ref b130)]))
      refine Go.by (fun _ kont => XS.astore X136.here hx rfl (hb hby at_91) rfl rfl (l' := #[.val (.long a1), .second, .val (.long b1), .second, .val (.long c1), .second, .val (.int n1), .val (.int r1), .val (.int (2 : Int32)), .val (.int (0 : Int32)), .val (.int r1), .val (.ref b130), .unset]) rfl (XS.goto X136.here hx rfl (pc0 := 93) (pc' := 114) rfl (hb hby at_93) (by decide) (by decide) (XS.aload X136.here hx rfl (hb hby at_114) rfl rfl (XS.iload X136.here hx rfl (hb hby at_116) rfl kont)))) ?_
      show Go _ _ _ _ _ _ _ (T136.setTop (mkF m 118 #[.val (.long a1), .second, .val (.long b1), .second, .val (.long c1), .second, .val (.int n1), .val (.int r1), .val (.int (2 : Int32)), .val (.int (0 : Int32)), .val (.int r1), .val (.ref b130), .unset] [(.int r1), (.ref b130)]))
      obtain ⟨_, _, ⟨T138, L138, k138, n138⟩, -, X138, ⟨Lc138, hQ138, l138, y138, z138⟩, st138⟩ := Jvm.LawKit.callS X136 hx (y := (⟨"com/example/classwright/classwright/Instructions", "startsAt", "([JI)Z"⟩ : MethodName)) hown (mvT hZ (hw _ (List.mem_of_getElem? (i := 1) rfl))) (mvT hZ (hw _ (List.mem_of_getElem? (i := 2) rfl))) (mvT hZ (hw _ (List.mem_of_getElem? (i := 3) rfl))) (mvT hZ (hw _ (List.mem_of_getElem? (i := 4) rfl))) (by decide) (backOf (W := 0) (rmS2 l Z a0 hw [] b130 r1 k130 a1 b1 h136 n0 Z137 V136) hZ (hw _ (List.mem_of_getElem? (i := 4) rfl)) (hw _ (List.mem_of_getElem? (i := 3) rfl)) (by decide) (by decide)) (g := (mkF m 118 #[.val (.long a1), .second, .val (.long b1), .second, .val (.long c1), .second, .val (.int n1), .val (.int r1), .val (.int (2 : Int32)), .val (.int (0 : Int32)), .val (.int r1), .val (.ref b130), .unset] [(.int r1), (.ref b130)])) rfl (by rw [hml]; rfl) (argsL := [(.ref b130), (.int r1)]) (rest := []) (lenOf pd0_0 rfl) rfl (by show 2 * 0 + _ ≤ _; exact Nat.le_of_eq rfl) (hb hby at_118) (fun _ _ => ⟨rfl, e136, (by decide : 1 + 0 ≤ _), (by decide : 2 + 0 ≤ _)⟩)
      dsimp only [Pt.U, Pt.locs, Pt.cells, Pt.slots] at X138 l138 y138 z138 st138 hQ138
      subst l138 y138 z138
      obtain ⟨rfl, N138q, eh138⟩ := hQ138
      have N138 := Fr.app N136 N138q
      refine Go.by st138 ?_
      show Go _ _ _ _ _ _ _ (T138.setTop (mkF m 121 #[.val (.long a1), .second, .val (.long b1), .second, .val (.long c1), .second, .val (.int n1), .val (.int r1), .val (.int (2 : Int32)), .val (.int (0 : Int32)), .val (.int r1), .val (.ref b130), .unset] [(.int (fS2 r1 a1 b1))]))
      refine Go.by (fun _ kont => XS.istore X138.here hx rfl (hb hby at_121) rfl (l' := #[.val (.long a1), .second, .val (.long b1), .second, .val (.long c1), .second, .val (.int n1), .val (.int r1), .val (.int (2 : Int32)), .val (.int (0 : Int32)), .val (.int r1), .val (.ref b130), .val (.int (fS2 r1 a1 b1))]) rfl (XS.iload X138.here hx rfl (hb hby at_123) rfl (XS.lloadN X138.here hx rfl (hb hby at_125) rfl (XS.lloadN X138.here hx rfl (hb hby at_126) rfl (XS.lload X138.here hx rfl (hb hby at_127) rfl (XS.iload X138.here hx rfl (hb hby at_129) rfl kont)))))) ?_
      show Go _ _ _ _ _ _ _ (T138.setTop (mkF m 131 #[.val (.long a1), .second, .val (.long b1), .second, .val (.long c1), .second, .val (.int n1), .val (.int r1), .val (.int (2 : Int32)), .val (.int (0 : Int32)), .val (.int r1), .val (.ref b130), .val (.int (fS2 r1 a1 b1))] [(.int (2 : Int32)), (.long c1), (.long b1), (.long a1), (.int (fS2 r1 a1 b1))]))
      refine Go.by (fun _ kont => XS.iload X138.here hx rfl (hb hby at_131) rfl kont) ?_
      show Go _ _ _ _ _ _ _ (T138.setTop (mkF m 133 #[.val (.long a1), .second, .val (.long b1), .second, .val (.long c1), .second, .val (.int n1), .val (.int r1), .val (.int (2 : Int32)), .val (.int (0 : Int32)), .val (.int r1), .val (.ref b130), .val (.int (fS2 r1 a1 b1))] [(.int r1), (.int (2 : Int32)), (.long c1), (.long b1), (.long a1), (.int (fS2 r1 a1 b1))]))
      obtain ⟨_, _, ⟨T139, L139, k139, n139⟩, -, X139, ⟨Lc139, hQ139, l139, y139, z139⟩, st139⟩ := Jvm.LawKit.callS X138 hx (y := (⟨"com/example/classwright/classwright/InstructionsStartsAtPinLaw", "expected", "(JJJII)Z"⟩ : MethodName)) hown (mvT hZ (hw _ (List.mem_of_getElem? (i := 5) rfl))) (mvT hZ (hw _ (List.mem_of_getElem? (i := 6) rfl))) (mvT hZ (hw _ (List.mem_of_getElem? (i := 7) rfl))) (mvT hZ (hw _ (List.mem_of_getElem? (i := 8) rfl))) (by decide) (backOf (W := 1) (rmX2 l Z a0 hw [] a1 b1 c1 r1 h136 n0 Z137 ) hZ (hw _ (List.mem_of_getElem? (i := 8) rfl)) (hw _ (List.mem_of_getElem? (i := 7) rfl)) (by decide) (by decide)) (g := (mkF m 133 #[.val (.long a1), .second, .val (.long b1), .second, .val (.long c1), .second, .val (.int n1), .val (.int r1), .val (.int (2 : Int32)), .val (.int (0 : Int32)), .val (.int r1), .val (.ref b130), .val (.int (fS2 r1 a1 b1))] [(.int r1), (.int (2 : Int32)), (.long c1), (.long b1), (.long a1), (.int (fS2 r1 a1 b1))])) rfl (by rw [hml]; rfl) (argsL := [(.long a1), (.long b1), (.long c1), (.int (2 : Int32)), (.int r1)]) (rest := [(.int (fS2 r1 a1 b1))]) (lenOf pd0_1 rfl) rfl (by show 2 * 0 + _ ≤ _; exact Nat.le_of_eq rfl) (hb hby at_133) (fun _ _ => ⟨rfl, eh138, (by decide : 1 + 0 ≤ _), (by decide : 2 + 0 ≤ _)⟩)
      dsimp only [Pt.U, Pt.locs, Pt.cells, Pt.slots] at X139 l139 y139 z139 st139 hQ139
      subst l139 y139 z139
      obtain ⟨rfl, N139q, eh139⟩ := hQ139
      have N139 := Fr.app N138 N139q
      refine Go.by st139 ?_
      show Go _ _ _ _ _ _ _ (T139.setTop (mkF m 136 #[.val (.long a1), .second, .val (.long b1), .second, .val (.long c1), .second, .val (.int n1), .val (.int r1), .val (.int (2 : Int32)), .val (.int (0 : Int32)), .val (.int r1), .val (.ref b130), .val (.int (fS2 r1 a1 b1))] [(.int (fX2 a1 b1 r1)), (.int (fS2 r1 a1 b1))]))
      have hd140 : (fS2 r1 a1 b1) = (fX2 a1 b1 r1) := own_eq2 a1 b1 c1 _
      refine Go.by (fun _ kont => XS.icmpNo X139.here hx rfl (hb hby at_136) rfl (teq hd140).2 kont) ?_
      show Go _ _ _ _ _ _ _ (T139.setTop (mkF m 139 #[.val (.long a1), .second, .val (.long b1), .second, .val (.long c1), .second, .val (.int n1), .val (.int r1), .val (.int (2 : Int32)), .val (.int (0 : Int32)), .val (.int r1), .val (.ref b130), .val (.int (fS2 r1 a1 b1))] []))
      refine Go.by (fun _ kont => XS.iconst X139.here hx rfl (hb hby at_139) (XS.goto X139.here hx rfl (pc0 := 140) (pc' := 144) rfl (hb hby at_140) (by decide) (by decide) kont)) ?_
      show Go _ _ _ _ _ _ _ (T139.setTop (mkF m 144 #[.val (.long a1), .second, .val (.long b1), .second, .val (.long c1), .second, .val (.int n1), .val (.int r1), .val (.int (2 : Int32)), .val (.int (0 : Int32)), .val (.int r1), .val (.ref b130), .val (.int (fS2 r1 a1 b1))] [(.int (1 : Int32))]))
      refine Go.retN X139 hx (t := .boolean) hret (by simp) hlk (hb hby at_144) ?_ (by decide) (by decide)
      show Q0 Z h0 n0 (some (.int (1 : Int32))) T139.heap _
      rw [eh139]
      exact ⟨rfl, N139⟩
    · refine Go.by (fun _ kont => XS.ifNo X0.here hx rfl (hb hby at_12) rfl ((if0 _ _).trans (feq hc129).1) kont) ?_
      show Go _ _ _ _ _ _ _ (s₁.setTop (mkF m 15 #[.val (.long a1), .second, .val (.long b1), .second, .val (.long c1), .second, .val (.int n1), .val (.int r1), .val (.int (2 : Int32)), .unset, .unset, .unset, .unset] []))
      refine Go.by (fun _ kont => XS.iconst X0.here hx rfl (hb hby at_15) (XS.goto X0.here hx rfl (pc0 := 16) (pc' := 20) rfl (hb hby at_16) (by decide) (by decide) (XS.istore X0.here hx rfl (hb hby at_20) rfl (l' := #[.val (.long a1), .second, .val (.long b1), .second, .val (.long c1), .second, .val (.int n1), .val (.int r1), .val (.int (2 : Int32)), .val (.int (1 : Int32)), .unset, .unset, .unset]) rfl (XS.iload X0.here hx rfl (hb hby at_22) rfl kont)))) ?_
      show Go _ _ _ _ _ _ _ (s₁.setTop (mkF m 24 #[.val (.long a1), .second, .val (.long b1), .second, .val (.long c1), .second, .val (.int n1), .val (.int r1), .val (.int (2 : Int32)), .val (.int (1 : Int32)), .unset, .unset, .unset] [(.int (1 : Int32))]))
      refine Go.by (fun _ kont => XS.ifNo X0.here hx rfl (hb hby at_24) rfl (by decide) kont) ?_
      show Go _ _ _ _ _ _ _ (s₁.setTop (mkF m 27 #[.val (.long a1), .second, .val (.long b1), .second, .val (.long c1), .second, .val (.int n1), .val (.int r1), .val (.int (2 : Int32)), .val (.int (1 : Int32)), .unset, .unset, .unset] []))
      refine Go.by (fun _ kont => XS.iload X0.here hx rfl (hb hby at_27) rfl (XS.sipush X0.here hx rfl (hb hby at_29) (XS.iand X0.here hx rfl (hb hby at_32) rfl (XS.bipush X0.here hx rfl (hb hby at_33) (XS.isub X0.here hx rfl (hb hby at_35) rfl (XS.goto X0.here hx rfl (pc0 := 36) (pc' := 41) rfl (hb hby at_36) (by decide) (by decide) kont)))))) ?_
      show Go _ _ _ _ _ _ _ (s₁.setTop (mkF m 41 #[.val (.long a1), .second, .val (.long b1), .second, .val (.long c1), .second, .val (.int n1), .val (.int r1), .val (.int (2 : Int32)), .val (.int (1 : Int32)), .unset, .unset, .unset] [(.int ((r1 &&& (255 : Int32)) - (32 : Int32)))]))
      refine Go.by (fun _ kont => XS.istore X0.here hx rfl (hb hby at_41) rfl (l' := #[.val (.long a1), .second, .val (.long b1), .second, .val (.long c1), .second, .val (.int n1), .val (.int r1), .val (.int (2 : Int32)), .val (.int (1 : Int32)), .val (.int ((r1 &&& (255 : Int32)) - (32 : Int32))), .unset, .unset]) rfl kont) ?_
      show Go _ _ _ _ _ _ _ (s₁.setTop (mkF m 43 #[.val (.long a1), .second, .val (.long b1), .second, .val (.long c1), .second, .val (.int n1), .val (.int r1), .val (.int (2 : Int32)), .val (.int (1 : Int32)), .val (.int ((r1 &&& (255 : Int32)) - (32 : Int32))), .unset, .unset] []))
      generalize ((r1 &&& (255 : Int32)) - (32 : Int32)) = oo
      show Go _ _ _ _ _ _ _ (s₁.setTop (mkF m 43 #[.val (.long a1), .second, .val (.long b1), .second, .val (.long c1), .second, .val (.int n1), .val (.int r1), .val (.int (2 : Int32)), .val (.int (1 : Int32)), .val (.int oo), .unset, .unset] []))
      refine Go.by (fun _ kont => XS.iload X0.here hx rfl (hb hby at_43) rfl kont) ?_
      show Go _ _ _ _ _ _ _ (s₁.setTop (mkF m 45 #[.val (.long a1), .second, .val (.long b1), .second, .val (.long c1), .second, .val (.int n1), .val (.int r1), .val (.int (2 : Int32)), .val (.int (1 : Int32)), .val (.int oo), .unset, .unset] [(.int (2 : Int32))]))
      refine Go.by (fun _ kont => XS.ifYes X0.here hx rfl (pc0 := 45) (pc' := 56) rfl (hb hby at_45) rfl (by decide) (by decide) (by decide) kont) ?_
      show Go _ _ _ _ _ _ _ (s₁.setTop (mkF m 56 #[.val (.long a1), .second, .val (.long b1), .second, .val (.long c1), .second, .val (.int n1), .val (.int r1), .val (.int (2 : Int32)), .val (.int (1 : Int32)), .val (.int oo), .unset, .unset] []))
      refine Go.by (fun _ kont => XS.iload X0.here hx rfl (hb hby at_56) rfl (XS.iconst X0.here hx rfl (hb hby at_58) kont)) ?_
      show Go _ _ _ _ _ _ _ (s₁.setTop (mkF m 59 #[.val (.long a1), .second, .val (.long b1), .second, .val (.long c1), .second, .val (.int n1), .val (.int r1), .val (.int (2 : Int32)), .val (.int (1 : Int32)), .val (.int oo), .unset, .unset] [(.int (1 : Int32)), (.int (2 : Int32))]))
      refine Go.by (fun _ kont => XS.icmpYes X0.here hx rfl (pc0 := 59) (pc' := 74) rfl (hb hby at_59) rfl (by decide) (by decide) (by decide) kont) ?_
      show Go _ _ _ _ _ _ _ (s₁.setTop (mkF m 74 #[.val (.long a1), .second, .val (.long b1), .second, .val (.long c1), .second, .val (.int n1), .val (.int r1), .val (.int (2 : Int32)), .val (.int (1 : Int32)), .val (.int oo), .unset, .unset] []))
      refine Go.by (fun _ kont => XS.iload X0.here hx rfl (hb hby at_74) rfl (XS.iconst X0.here hx rfl (hb hby at_76) kont)) ?_
      show Go _ _ _ _ _ _ _ (s₁.setTop (mkF m 77 #[.val (.long a1), .second, .val (.long b1), .second, .val (.long c1), .second, .val (.int n1), .val (.int r1), .val (.int (2 : Int32)), .val (.int (1 : Int32)), .val (.int oo), .unset, .unset] [(.int (2 : Int32)), (.int (2 : Int32))]))
      refine Go.by (fun _ kont => XS.icmpNo X0.here hx rfl (hb hby at_77) rfl (by decide) kont) ?_
      show Go _ _ _ _ _ _ _ (s₁.setTop (mkF m 80 #[.val (.long a1), .second, .val (.long b1), .second, .val (.long c1), .second, .val (.int n1), .val (.int r1), .val (.int (2 : Int32)), .val (.int (1 : Int32)), .val (.int oo), .unset, .unset] []))
      refine Go.by (fun _ kont => XS.iconst X0.here hx rfl (hb hby at_80) kont) ?_
      show Go _ _ _ _ _ _ _ (s₁.setTop (mkF m 81 #[.val (.long a1), .second, .val (.long b1), .second, .val (.long c1), .second, .val (.int n1), .val (.int r1), .val (.int (2 : Int32)), .val (.int (1 : Int32)), .val (.int oo), .unset, .unset] [(.int (2 : Int32))]))
      obtain ⟨T141, h141, k141, X141, e141, X_141, A141, st141⟩ := newP X0 hx hZ (hw _ (List.mem_of_getElem? (i := 0) rfl)) e0 (g := (mkF m 81 #[.val (.long a1), .second, .val (.long b1), .second, .val (.long c1), .second, .val (.int n1), .val (.int r1), .val (.int (2 : Int32)), .val (.int (1 : Int32)), .val (.int oo), .unset, .unset] [(.int (2 : Int32))])) rfl (hb hby at_81) rfl (by decide) (cap := 2) (by decide) (by decide) (by decide) (by decide)
      obtain ⟨b141, g141⟩ : ∃ z, z = h0.size := ⟨_, rfl⟩
      rw [← g141] at A141 st141
      have ge_b141 : n0 ≤ b141 := Nat.le_trans Z0 (Nat.le_of_eq g141.symm)
      have sz_b141 : h0.size ≤ b141 := Nat.le_trans (Keep.refl h0 []).1 (Nat.le_of_eq g141.symm)
      have Z142 := Nat.le_trans Z0 X_141.1
      have K142 : Keep h0 h141 [] := (Keep.refl h0 []).ext X_141
      have V141 : Arv Z h141 b141 k141 .long (2 : Int32) [(.long (0 : Int64)), (.long (0 : Int64))] (.long (0 : Int64)) := (Arv.new A141 (by decide)).pad (pad_rep [] (.long (0 : Int64)) 2)
      refine Go.by st141 ?_
      show Go _ _ _ _ _ _ _ (T141.setTop (mkF m 83 #[.val (.long a1), .second, .val (.long b1), .second, .val (.long c1), .second, .val (.int n1), .val (.int r1), .val (.int (2 : Int32)), .val (.int (1 : Int32)), .val (.int oo), .unset, .unset] [(.ref b141)]))
      refine Go.by (fun _ kont => XS.dup X141.here hx rfl (hb hby at_83) rfl rfl (XS.iconst X141.here hx rfl (hb hby at_84) (XS.lloadN X141.here hx rfl (hb hby at_85) rfl kont))) ?_
      show Go _ _ _ _ _ _ _ (T141.setTop (mkF m 86 #[.val (.long a1), .second, .val (.long b1), .second, .val (.long c1), .second, .val (.int n1), .val (.int r1), .val (.int (2 : Int32)), .val (.int (1 : Int32)), .val (.int oo), .unset, .unset] [(.long a1), (.int (0 : Int32)), (.ref b141), (.ref b141)]))
      obtain ⟨cl_q143, Ar_q143, q1_q143, S_q143, N_q143, H_q143, G_q143⟩ := id V141
      have hin_q143 : ¬ ((0 : Int32) < 0 ∨ cl_q143.slots.size ≤ ((0 : Int32)).toNatClampNeg) := inb_of S_q143 ⟨by decide, by decide⟩
      obtain ⟨T144, h144, X144, e144, W144, st144⟩ := stJ X141 hx hZ e141 Ar_q143 (j := (0 : Int32)) hin_q143 (g := (mkF m 86 #[.val (.long a1), .second, .val (.long b1), .second, .val (.long c1), .second, .val (.int n1), .val (.int r1), .val (.int (2 : Int32)), .val (.int (1 : Int32)), .val (.int oo), .unset, .unset] [(.long a1), (.int (0 : Int32)), (.ref b141), (.ref b141)])) rfl rfl (hb hby at_86)
      have V144 : Arv Z h144 b141 k141 .long (2 : Int32) [(.long a1), (.long (0 : Int64))] (.long (0 : Int64)) := Arv.set Ar_q143 q1_q143 S_q143 N_q143 H_q143 G_q143 rfl W144 0 rfl (Nat.le_of_ble_eq_true rfl)
      have Z145 := Nat.le_trans Z142 (Keep.of_wr W144).1
      have K145 : Keep h0 h144 [] := K142.wr W144 (Or.inr sz_b141)
      have N144 := Fr.snoc X144 N0 ge_b141
      refine Go.by st144 ?_
      show Go _ _ _ _ _ _ _ (T144.setTop (mkF m 87 #[.val (.long a1), .second, .val (.long b1), .second, .val (.long c1), .second, .val (.int n1), .val (.int r1), .val (.int (2 : Int32)), .val (.int (1 : Int32)), .val (.int oo), .unset, .unset] [(.ref b141)]))
      refine Go.by (fun _ kont => XS.dup X144.here hx rfl (hb hby at_87) rfl rfl (XS.iconst X144.here hx rfl (hb hby at_88) (XS.lloadN X144.here hx rfl (hb hby at_89) rfl kont))) ?_
      show Go _ _ _ _ _ _ _ (T144.setTop (mkF m 90 #[.val (.long a1), .second, .val (.long b1), .second, .val (.long c1), .second, .val (.int n1), .val (.int r1), .val (.int (2 : Int32)), .val (.int (1 : Int32)), .val (.int oo), .unset, .unset] [(.long b1), (.int (1 : Int32)), (.ref b141), (.ref b141)]))
      obtain ⟨cl_q146, Ar_q146, q1_q146, S_q146, N_q146, H_q146, G_q146⟩ := id V144
      have hin_q146 : ¬ ((1 : Int32) < 0 ∨ cl_q146.slots.size ≤ ((1 : Int32)).toNatClampNeg) := inb_of S_q146 ⟨by decide, by decide⟩
      obtain ⟨T147, h147, X147, e147, W147, st147⟩ := stJ X144 hx hZ e144 Ar_q146 (j := (1 : Int32)) hin_q146 (g := (mkF m 90 #[.val (.long a1), .second, .val (.long b1), .second, .val (.long c1), .second, .val (.int n1), .val (.int r1), .val (.int (2 : Int32)), .val (.int (1 : Int32)), .val (.int oo), .unset, .unset] [(.long b1), (.int (1 : Int32)), (.ref b141), (.ref b141)])) rfl rfl (hb hby at_90)
      have V147 : Arv Z h147 b141 k141 .long (2 : Int32) [(.long a1), (.long b1)] (.long (0 : Int64)) := Arv.set Ar_q146 q1_q146 S_q146 N_q146 H_q146 G_q146 rfl W147 1 rfl (Nat.le_of_ble_eq_true rfl)
      have Z148 := Nat.le_trans Z145 (Keep.of_wr W147).1
      have K148 : Keep h0 h147 [] := K145.wr W147 (Or.inr sz_b141)
      have N147 := Fr.snoc X147 N144 ge_b141
      refine Go.by st147 ?_
      show Go _ _ _ _ _ _ _ (T147.setTop (mkF m 91 #[.val (.long a1), .second, .val (.long b1), .second, .val (.long c1), .second, .val (.int n1), .val (.int r1), .val (.int (2 : Int32)), .val (.int (1 : Int32)), .val (.int oo), .unset, .unset] [(.ref b141)]))
      refine Go.by (fun _ kont => XS.astore X147.here hx rfl (hb hby at_91) rfl rfl (l' := #[.val (.long a1), .second, .val (.long b1), .second, .val (.long c1), .second, .val (.int n1), .val (.int r1), .val (.int (2 : Int32)), .val (.int (1 : Int32)), .val (.int oo), .val (.ref b141), .unset]) rfl (XS.goto X147.here hx rfl (pc0 := 93) (pc' := 114) rfl (hb hby at_93) (by decide) (by decide) (XS.aload X147.here hx rfl (hb hby at_114) rfl rfl (XS.iload X147.here hx rfl (hb hby at_116) rfl kont)))) ?_
      show Go _ _ _ _ _ _ _ (T147.setTop (mkF m 118 #[.val (.long a1), .second, .val (.long b1), .second, .val (.long c1), .second, .val (.int n1), .val (.int r1), .val (.int (2 : Int32)), .val (.int (1 : Int32)), .val (.int oo), .val (.ref b141), .unset] [(.int oo), (.ref b141)]))
      obtain ⟨_, _, ⟨T149, L149, k149, n149⟩, -, X149, ⟨Lc149, hQ149, l149, y149, z149⟩, st149⟩ := Jvm.LawKit.callS X147 hx (y := (⟨"com/example/classwright/classwright/Instructions", "startsAt", "([JI)Z"⟩ : MethodName)) hown (mvT hZ (hw _ (List.mem_of_getElem? (i := 1) rfl))) (mvT hZ (hw _ (List.mem_of_getElem? (i := 2) rfl))) (mvT hZ (hw _ (List.mem_of_getElem? (i := 3) rfl))) (mvT hZ (hw _ (List.mem_of_getElem? (i := 4) rfl))) (by decide) (backOf (W := 0) (rmS2 l Z a0 hw [] b141 oo k141 a1 b1 h147 n0 Z148 V147) hZ (hw _ (List.mem_of_getElem? (i := 4) rfl)) (hw _ (List.mem_of_getElem? (i := 3) rfl)) (by decide) (by decide)) (g := (mkF m 118 #[.val (.long a1), .second, .val (.long b1), .second, .val (.long c1), .second, .val (.int n1), .val (.int r1), .val (.int (2 : Int32)), .val (.int (1 : Int32)), .val (.int oo), .val (.ref b141), .unset] [(.int oo), (.ref b141)])) rfl (by rw [hml]; rfl) (argsL := [(.ref b141), (.int oo)]) (rest := []) (lenOf pd0_0 rfl) rfl (by show 2 * 0 + _ ≤ _; exact Nat.le_of_eq rfl) (hb hby at_118) (fun _ _ => ⟨rfl, e147, (by decide : 1 + 0 ≤ _), (by decide : 2 + 0 ≤ _)⟩)
      dsimp only [Pt.U, Pt.locs, Pt.cells, Pt.slots] at X149 l149 y149 z149 st149 hQ149
      subst l149 y149 z149
      obtain ⟨rfl, N149q, eh149⟩ := hQ149
      have N149 := Fr.app N147 N149q
      refine Go.by st149 ?_
      show Go _ _ _ _ _ _ _ (T149.setTop (mkF m 121 #[.val (.long a1), .second, .val (.long b1), .second, .val (.long c1), .second, .val (.int n1), .val (.int r1), .val (.int (2 : Int32)), .val (.int (1 : Int32)), .val (.int oo), .val (.ref b141), .unset] [(.int (fS2 oo a1 b1))]))
      refine Go.by (fun _ kont => XS.istore X149.here hx rfl (hb hby at_121) rfl (l' := #[.val (.long a1), .second, .val (.long b1), .second, .val (.long c1), .second, .val (.int n1), .val (.int r1), .val (.int (2 : Int32)), .val (.int (1 : Int32)), .val (.int oo), .val (.ref b141), .val (.int (fS2 oo a1 b1))]) rfl (XS.iload X149.here hx rfl (hb hby at_123) rfl (XS.lloadN X149.here hx rfl (hb hby at_125) rfl (XS.lloadN X149.here hx rfl (hb hby at_126) rfl (XS.lload X149.here hx rfl (hb hby at_127) rfl (XS.iload X149.here hx rfl (hb hby at_129) rfl kont)))))) ?_
      show Go _ _ _ _ _ _ _ (T149.setTop (mkF m 131 #[.val (.long a1), .second, .val (.long b1), .second, .val (.long c1), .second, .val (.int n1), .val (.int r1), .val (.int (2 : Int32)), .val (.int (1 : Int32)), .val (.int oo), .val (.ref b141), .val (.int (fS2 oo a1 b1))] [(.int (2 : Int32)), (.long c1), (.long b1), (.long a1), (.int (fS2 oo a1 b1))]))
      refine Go.by (fun _ kont => XS.iload X149.here hx rfl (hb hby at_131) rfl kont) ?_
      show Go _ _ _ _ _ _ _ (T149.setTop (mkF m 133 #[.val (.long a1), .second, .val (.long b1), .second, .val (.long c1), .second, .val (.int n1), .val (.int r1), .val (.int (2 : Int32)), .val (.int (1 : Int32)), .val (.int oo), .val (.ref b141), .val (.int (fS2 oo a1 b1))] [(.int oo), (.int (2 : Int32)), (.long c1), (.long b1), (.long a1), (.int (fS2 oo a1 b1))]))
      obtain ⟨_, _, ⟨T150, L150, k150, n150⟩, -, X150, ⟨Lc150, hQ150, l150, y150, z150⟩, st150⟩ := Jvm.LawKit.callS X149 hx (y := (⟨"com/example/classwright/classwright/InstructionsStartsAtPinLaw", "expected", "(JJJII)Z"⟩ : MethodName)) hown (mvT hZ (hw _ (List.mem_of_getElem? (i := 5) rfl))) (mvT hZ (hw _ (List.mem_of_getElem? (i := 6) rfl))) (mvT hZ (hw _ (List.mem_of_getElem? (i := 7) rfl))) (mvT hZ (hw _ (List.mem_of_getElem? (i := 8) rfl))) (by decide) (backOf (W := 1) (rmX2 l Z a0 hw [] a1 b1 c1 oo h147 n0 Z148 ) hZ (hw _ (List.mem_of_getElem? (i := 8) rfl)) (hw _ (List.mem_of_getElem? (i := 7) rfl)) (by decide) (by decide)) (g := (mkF m 133 #[.val (.long a1), .second, .val (.long b1), .second, .val (.long c1), .second, .val (.int n1), .val (.int r1), .val (.int (2 : Int32)), .val (.int (1 : Int32)), .val (.int oo), .val (.ref b141), .val (.int (fS2 oo a1 b1))] [(.int oo), (.int (2 : Int32)), (.long c1), (.long b1), (.long a1), (.int (fS2 oo a1 b1))])) rfl (by rw [hml]; rfl) (argsL := [(.long a1), (.long b1), (.long c1), (.int (2 : Int32)), (.int oo)]) (rest := [(.int (fS2 oo a1 b1))]) (lenOf pd0_1 rfl) rfl (by show 2 * 0 + _ ≤ _; exact Nat.le_of_eq rfl) (hb hby at_133) (fun _ _ => ⟨rfl, eh149, (by decide : 1 + 0 ≤ _), (by decide : 2 + 0 ≤ _)⟩)
      dsimp only [Pt.U, Pt.locs, Pt.cells, Pt.slots] at X150 l150 y150 z150 st150 hQ150
      subst l150 y150 z150
      obtain ⟨rfl, N150q, eh150⟩ := hQ150
      have N150 := Fr.app N149 N150q
      refine Go.by st150 ?_
      show Go _ _ _ _ _ _ _ (T150.setTop (mkF m 136 #[.val (.long a1), .second, .val (.long b1), .second, .val (.long c1), .second, .val (.int n1), .val (.int r1), .val (.int (2 : Int32)), .val (.int (1 : Int32)), .val (.int oo), .val (.ref b141), .val (.int (fS2 oo a1 b1))] [(.int (fX2 a1 b1 oo)), (.int (fS2 oo a1 b1))]))
      have hd151 : (fS2 oo a1 b1) = (fX2 a1 b1 oo) := own_eq2 a1 b1 c1 _
      refine Go.by (fun _ kont => XS.icmpNo X150.here hx rfl (hb hby at_136) rfl (teq hd151).2 kont) ?_
      show Go _ _ _ _ _ _ _ (T150.setTop (mkF m 139 #[.val (.long a1), .second, .val (.long b1), .second, .val (.long c1), .second, .val (.int n1), .val (.int r1), .val (.int (2 : Int32)), .val (.int (1 : Int32)), .val (.int oo), .val (.ref b141), .val (.int (fS2 oo a1 b1))] []))
      refine Go.by (fun _ kont => XS.iconst X150.here hx rfl (hb hby at_139) (XS.goto X150.here hx rfl (pc0 := 140) (pc' := 144) rfl (hb hby at_140) (by decide) (by decide) kont)) ?_
      show Go _ _ _ _ _ _ _ (T150.setTop (mkF m 144 #[.val (.long a1), .second, .val (.long b1), .second, .val (.long c1), .second, .val (.int n1), .val (.int r1), .val (.int (2 : Int32)), .val (.int (1 : Int32)), .val (.int oo), .val (.ref b141), .val (.int (fS2 oo a1 b1))] [(.int (1 : Int32))]))
      refine Go.retN X150 hx (t := .boolean) hret (by simp) hlk (hb hby at_144) ?_ (by decide) (by decide)
      show Q0 Z h0 n0 (some (.int (1 : Int32))) T150.heap _
      rw [eh150]
      exact ⟨rfl, N150⟩
  · show Go _ _ _ _ _ _ _ (s₁.setTop (mkF m 6 #[.val (.long a1), .second, .val (.long b1), .second, .val (.long c1), .second, .val (.int n1), .val (.int r1), .val (.int (3 : Int32)), .unset, .unset, .unset, .unset] []))
    refine Go.by (fun _ kont => XS.iload X0.here hx rfl (hb hby at_6) rfl (XS.iconst X0.here hx rfl (hb hby at_8) (XS.iushr X0.here hx rfl (hb hby at_9) rfl (XS.iconst X0.here hx rfl (hb hby at_10) (XS.iand X0.here hx rfl (hb hby at_11) rfl kont))))) ?_
    show Go _ _ _ _ _ _ _ (s₁.setTop (mkF m 12 #[.val (.long a1), .second, .val (.long b1), .second, .val (.long c1), .second, .val (.int n1), .val (.int r1), .val (.int (3 : Int32)), .unset, .unset, .unset, .unset] [(.int (((n1.toUInt32 >>> ((2 : Int32) &&& 31).toUInt32).toInt32) &&& (1 : Int32)))]))
    by_cases hc152 : (((n1.toUInt32 >>> ((2 : Int32) &&& 31).toUInt32).toInt32) &&& (1 : Int32)) = (0 : Int32)
    · refine Go.by (fun _ kont => XS.ifYes X0.here hx rfl (pc0 := 12) (pc' := 19) rfl (hb hby at_12) rfl ((if0 _ _).trans (teq hc152).1) (by decide) (by decide) kont) ?_
      show Go _ _ _ _ _ _ _ (s₁.setTop (mkF m 19 #[.val (.long a1), .second, .val (.long b1), .second, .val (.long c1), .second, .val (.int n1), .val (.int r1), .val (.int (3 : Int32)), .unset, .unset, .unset, .unset] []))
      refine Go.by (fun _ kont => XS.iconst X0.here hx rfl (hb hby at_19) (XS.istore X0.here hx rfl (hb hby at_20) rfl (l' := #[.val (.long a1), .second, .val (.long b1), .second, .val (.long c1), .second, .val (.int n1), .val (.int r1), .val (.int (3 : Int32)), .val (.int (0 : Int32)), .unset, .unset, .unset]) rfl (XS.iload X0.here hx rfl (hb hby at_22) rfl kont))) ?_
      show Go _ _ _ _ _ _ _ (s₁.setTop (mkF m 24 #[.val (.long a1), .second, .val (.long b1), .second, .val (.long c1), .second, .val (.int n1), .val (.int r1), .val (.int (3 : Int32)), .val (.int (0 : Int32)), .unset, .unset, .unset] [(.int (0 : Int32))]))
      refine Go.by (fun _ kont => XS.ifYes X0.here hx rfl (pc0 := 24) (pc' := 39) rfl (hb hby at_24) rfl (by decide) (by decide) (by decide) kont) ?_
      show Go _ _ _ _ _ _ _ (s₁.setTop (mkF m 39 #[.val (.long a1), .second, .val (.long b1), .second, .val (.long c1), .second, .val (.int n1), .val (.int r1), .val (.int (3 : Int32)), .val (.int (0 : Int32)), .unset, .unset, .unset] []))
      refine Go.by (fun _ kont => XS.iload X0.here hx rfl (hb hby at_39) rfl (XS.istore X0.here hx rfl (hb hby at_41) rfl (l' := #[.val (.long a1), .second, .val (.long b1), .second, .val (.long c1), .second, .val (.int n1), .val (.int r1), .val (.int (3 : Int32)), .val (.int (0 : Int32)), .val (.int r1), .unset, .unset]) rfl kont)) ?_
      show Go _ _ _ _ _ _ _ (s₁.setTop (mkF m 43 #[.val (.long a1), .second, .val (.long b1), .second, .val (.long c1), .second, .val (.int n1), .val (.int r1), .val (.int (3 : Int32)), .val (.int (0 : Int32)), .val (.int r1), .unset, .unset] []))
      refine Go.by (fun _ kont => XS.iload X0.here hx rfl (hb hby at_43) rfl kont) ?_
      show Go _ _ _ _ _ _ _ (s₁.setTop (mkF m 45 #[.val (.long a1), .second, .val (.long b1), .second, .val (.long c1), .second, .val (.int n1), .val (.int r1), .val (.int (3 : Int32)), .val (.int (0 : Int32)), .val (.int r1), .unset, .unset] [(.int (3 : Int32))]))
      refine Go.by (fun _ kont => XS.ifYes X0.here hx rfl (pc0 := 45) (pc' := 56) rfl (hb hby at_45) rfl (by decide) (by decide) (by decide) kont) ?_
      show Go _ _ _ _ _ _ _ (s₁.setTop (mkF m 56 #[.val (.long a1), .second, .val (.long b1), .second, .val (.long c1), .second, .val (.int n1), .val (.int r1), .val (.int (3 : Int32)), .val (.int (0 : Int32)), .val (.int r1), .unset, .unset] []))
      refine Go.by (fun _ kont => XS.iload X0.here hx rfl (hb hby at_56) rfl (XS.iconst X0.here hx rfl (hb hby at_58) kont)) ?_
      show Go _ _ _ _ _ _ _ (s₁.setTop (mkF m 59 #[.val (.long a1), .second, .val (.long b1), .second, .val (.long c1), .second, .val (.int n1), .val (.int r1), .val (.int (3 : Int32)), .val (.int (0 : Int32)), .val (.int r1), .unset, .unset] [(.int (1 : Int32)), (.int (3 : Int32))]))
      refine Go.by (fun _ kont => XS.icmpYes X0.here hx rfl (pc0 := 59) (pc' := 74) rfl (hb hby at_59) rfl (by decide) (by decide) (by decide) kont) ?_
      show Go _ _ _ _ _ _ _ (s₁.setTop (mkF m 74 #[.val (.long a1), .second, .val (.long b1), .second, .val (.long c1), .second, .val (.int n1), .val (.int r1), .val (.int (3 : Int32)), .val (.int (0 : Int32)), .val (.int r1), .unset, .unset] []))
      refine Go.by (fun _ kont => XS.iload X0.here hx rfl (hb hby at_74) rfl (XS.iconst X0.here hx rfl (hb hby at_76) kont)) ?_
      show Go _ _ _ _ _ _ _ (s₁.setTop (mkF m 77 #[.val (.long a1), .second, .val (.long b1), .second, .val (.long c1), .second, .val (.int n1), .val (.int r1), .val (.int (3 : Int32)), .val (.int (0 : Int32)), .val (.int r1), .unset, .unset] [(.int (2 : Int32)), (.int (3 : Int32))]))
      refine Go.by (fun _ kont => XS.icmpYes X0.here hx rfl (pc0 := 77) (pc' := 96) rfl (hb hby at_77) rfl (by decide) (by decide) (by decide) kont) ?_
      show Go _ _ _ _ _ _ _ (s₁.setTop (mkF m 96 #[.val (.long a1), .second, .val (.long b1), .second, .val (.long c1), .second, .val (.int n1), .val (.int r1), .val (.int (3 : Int32)), .val (.int (0 : Int32)), .val (.int r1), .unset, .unset] []))
      refine Go.by (fun _ kont => XS.iconst X0.here hx rfl (hb hby at_96) kont) ?_
      show Go _ _ _ _ _ _ _ (s₁.setTop (mkF m 97 #[.val (.long a1), .second, .val (.long b1), .second, .val (.long c1), .second, .val (.int n1), .val (.int r1), .val (.int (3 : Int32)), .val (.int (0 : Int32)), .val (.int r1), .unset, .unset] [(.int (3 : Int32))]))
      obtain ⟨T153, h153, k153, X153, e153, X_153, A153, st153⟩ := newP X0 hx hZ (hw _ (List.mem_of_getElem? (i := 0) rfl)) e0 (g := (mkF m 97 #[.val (.long a1), .second, .val (.long b1), .second, .val (.long c1), .second, .val (.int n1), .val (.int r1), .val (.int (3 : Int32)), .val (.int (0 : Int32)), .val (.int r1), .unset, .unset] [(.int (3 : Int32))])) rfl (hb hby at_97) rfl (by decide) (cap := 3) (by decide) (by decide) (by decide) (by decide)
      obtain ⟨b153, g153⟩ : ∃ z, z = h0.size := ⟨_, rfl⟩
      rw [← g153] at A153 st153
      have ge_b153 : n0 ≤ b153 := Nat.le_trans Z0 (Nat.le_of_eq g153.symm)
      have sz_b153 : h0.size ≤ b153 := Nat.le_trans (Keep.refl h0 []).1 (Nat.le_of_eq g153.symm)
      have Z154 := Nat.le_trans Z0 X_153.1
      have K154 : Keep h0 h153 [] := (Keep.refl h0 []).ext X_153
      have V153 : Arv Z h153 b153 k153 .long (3 : Int32) [(.long (0 : Int64)), (.long (0 : Int64)), (.long (0 : Int64))] (.long (0 : Int64)) := (Arv.new A153 (by decide)).pad (pad_rep [] (.long (0 : Int64)) 3)
      refine Go.by st153 ?_
      show Go _ _ _ _ _ _ _ (T153.setTop (mkF m 99 #[.val (.long a1), .second, .val (.long b1), .second, .val (.long c1), .second, .val (.int n1), .val (.int r1), .val (.int (3 : Int32)), .val (.int (0 : Int32)), .val (.int r1), .unset, .unset] [(.ref b153)]))
      refine Go.by (fun _ kont => XS.dup X153.here hx rfl (hb hby at_99) rfl rfl (XS.iconst X153.here hx rfl (hb hby at_100) (XS.lloadN X153.here hx rfl (hb hby at_101) rfl kont))) ?_
      show Go _ _ _ _ _ _ _ (T153.setTop (mkF m 102 #[.val (.long a1), .second, .val (.long b1), .second, .val (.long c1), .second, .val (.int n1), .val (.int r1), .val (.int (3 : Int32)), .val (.int (0 : Int32)), .val (.int r1), .unset, .unset] [(.long a1), (.int (0 : Int32)), (.ref b153), (.ref b153)]))
      obtain ⟨cl_q155, Ar_q155, q1_q155, S_q155, N_q155, H_q155, G_q155⟩ := id V153
      have hin_q155 : ¬ ((0 : Int32) < 0 ∨ cl_q155.slots.size ≤ ((0 : Int32)).toNatClampNeg) := inb_of S_q155 ⟨by decide, by decide⟩
      obtain ⟨T156, h156, X156, e156, W156, st156⟩ := stJ X153 hx hZ e153 Ar_q155 (j := (0 : Int32)) hin_q155 (g := (mkF m 102 #[.val (.long a1), .second, .val (.long b1), .second, .val (.long c1), .second, .val (.int n1), .val (.int r1), .val (.int (3 : Int32)), .val (.int (0 : Int32)), .val (.int r1), .unset, .unset] [(.long a1), (.int (0 : Int32)), (.ref b153), (.ref b153)])) rfl rfl (hb hby at_102)
      have V156 : Arv Z h156 b153 k153 .long (3 : Int32) [(.long a1), (.long (0 : Int64)), (.long (0 : Int64))] (.long (0 : Int64)) := Arv.set Ar_q155 q1_q155 S_q155 N_q155 H_q155 G_q155 rfl W156 0 rfl (Nat.le_of_ble_eq_true rfl)
      have Z157 := Nat.le_trans Z154 (Keep.of_wr W156).1
      have K157 : Keep h0 h156 [] := K154.wr W156 (Or.inr sz_b153)
      have N156 := Fr.snoc X156 N0 ge_b153
      refine Go.by st156 ?_
      show Go _ _ _ _ _ _ _ (T156.setTop (mkF m 103 #[.val (.long a1), .second, .val (.long b1), .second, .val (.long c1), .second, .val (.int n1), .val (.int r1), .val (.int (3 : Int32)), .val (.int (0 : Int32)), .val (.int r1), .unset, .unset] [(.ref b153)]))
      refine Go.by (fun _ kont => XS.dup X156.here hx rfl (hb hby at_103) rfl rfl (XS.iconst X156.here hx rfl (hb hby at_104) (XS.lloadN X156.here hx rfl (hb hby at_105) rfl kont))) ?_
      show Go _ _ _ _ _ _ _ (T156.setTop (mkF m 106 #[.val (.long a1), .second, .val (.long b1), .second, .val (.long c1), .second, .val (.int n1), .val (.int r1), .val (.int (3 : Int32)), .val (.int (0 : Int32)), .val (.int r1), .unset, .unset] [(.long b1), (.int (1 : Int32)), (.ref b153), (.ref b153)]))
      obtain ⟨cl_q158, Ar_q158, q1_q158, S_q158, N_q158, H_q158, G_q158⟩ := id V156
      have hin_q158 : ¬ ((1 : Int32) < 0 ∨ cl_q158.slots.size ≤ ((1 : Int32)).toNatClampNeg) := inb_of S_q158 ⟨by decide, by decide⟩
      obtain ⟨T159, h159, X159, e159, W159, st159⟩ := stJ X156 hx hZ e156 Ar_q158 (j := (1 : Int32)) hin_q158 (g := (mkF m 106 #[.val (.long a1), .second, .val (.long b1), .second, .val (.long c1), .second, .val (.int n1), .val (.int r1), .val (.int (3 : Int32)), .val (.int (0 : Int32)), .val (.int r1), .unset, .unset] [(.long b1), (.int (1 : Int32)), (.ref b153), (.ref b153)])) rfl rfl (hb hby at_106)
      have V159 : Arv Z h159 b153 k153 .long (3 : Int32) [(.long a1), (.long b1), (.long (0 : Int64))] (.long (0 : Int64)) := Arv.set Ar_q158 q1_q158 S_q158 N_q158 H_q158 G_q158 rfl W159 1 rfl (Nat.le_of_ble_eq_true rfl)
      have Z160 := Nat.le_trans Z157 (Keep.of_wr W159).1
      have K160 : Keep h0 h159 [] := K157.wr W159 (Or.inr sz_b153)
      have N159 := Fr.snoc X159 N156 ge_b153
      refine Go.by st159 ?_
      show Go _ _ _ _ _ _ _ (T159.setTop (mkF m 107 #[.val (.long a1), .second, .val (.long b1), .second, .val (.long c1), .second, .val (.int n1), .val (.int r1), .val (.int (3 : Int32)), .val (.int (0 : Int32)), .val (.int r1), .unset, .unset] [(.ref b153)]))
      refine Go.by (fun _ kont => XS.dup X159.here hx rfl (hb hby at_107) rfl rfl (XS.iconst X159.here hx rfl (hb hby at_108) (XS.lload X159.here hx rfl (hb hby at_109) rfl kont))) ?_
      show Go _ _ _ _ _ _ _ (T159.setTop (mkF m 111 #[.val (.long a1), .second, .val (.long b1), .second, .val (.long c1), .second, .val (.int n1), .val (.int r1), .val (.int (3 : Int32)), .val (.int (0 : Int32)), .val (.int r1), .unset, .unset] [(.long c1), (.int (2 : Int32)), (.ref b153), (.ref b153)]))
      obtain ⟨cl_q161, Ar_q161, q1_q161, S_q161, N_q161, H_q161, G_q161⟩ := id V159
      have hin_q161 : ¬ ((2 : Int32) < 0 ∨ cl_q161.slots.size ≤ ((2 : Int32)).toNatClampNeg) := inb_of S_q161 ⟨by decide, by decide⟩
      obtain ⟨T162, h162, X162, e162, W162, st162⟩ := stJ X159 hx hZ e159 Ar_q161 (j := (2 : Int32)) hin_q161 (g := (mkF m 111 #[.val (.long a1), .second, .val (.long b1), .second, .val (.long c1), .second, .val (.int n1), .val (.int r1), .val (.int (3 : Int32)), .val (.int (0 : Int32)), .val (.int r1), .unset, .unset] [(.long c1), (.int (2 : Int32)), (.ref b153), (.ref b153)])) rfl rfl (hb hby at_111)
      have V162 : Arv Z h162 b153 k153 .long (3 : Int32) [(.long a1), (.long b1), (.long c1)] (.long (0 : Int64)) := Arv.set Ar_q161 q1_q161 S_q161 N_q161 H_q161 G_q161 rfl W162 2 rfl (Nat.le_of_ble_eq_true rfl)
      have Z163 := Nat.le_trans Z160 (Keep.of_wr W162).1
      have K163 : Keep h0 h162 [] := K160.wr W162 (Or.inr sz_b153)
      have N162 := Fr.snoc X162 N159 ge_b153
      refine Go.by st162 ?_
      show Go _ _ _ _ _ _ _ (T162.setTop (mkF m 112 #[.val (.long a1), .second, .val (.long b1), .second, .val (.long c1), .second, .val (.int n1), .val (.int r1), .val (.int (3 : Int32)), .val (.int (0 : Int32)), .val (.int r1), .unset, .unset] [(.ref b153)]))
      refine Go.by (fun _ kont => XS.astore X162.here hx rfl (hb hby at_112) rfl rfl (l' := #[.val (.long a1), .second, .val (.long b1), .second, .val (.long c1), .second, .val (.int n1), .val (.int r1), .val (.int (3 : Int32)), .val (.int (0 : Int32)), .val (.int r1), .val (.ref b153), .unset]) rfl (XS.aload X162.here hx rfl (hb hby at_114) rfl rfl (XS.iload X162.here hx rfl (hb hby at_116) rfl kont))) ?_
      show Go _ _ _ _ _ _ _ (T162.setTop (mkF m 118 #[.val (.long a1), .second, .val (.long b1), .second, .val (.long c1), .second, .val (.int n1), .val (.int r1), .val (.int (3 : Int32)), .val (.int (0 : Int32)), .val (.int r1), .val (.ref b153), .unset] [(.int r1), (.ref b153)]))
      obtain ⟨_, _, ⟨T164, L164, k164, n164⟩, -, X164, ⟨Lc164, hQ164, l164, y164, z164⟩, st164⟩ := Jvm.LawKit.callS X162 hx (y := (⟨"com/example/classwright/classwright/Instructions", "startsAt", "([JI)Z"⟩ : MethodName)) hown (mvT hZ (hw _ (List.mem_of_getElem? (i := 1) rfl))) (mvT hZ (hw _ (List.mem_of_getElem? (i := 2) rfl))) (mvT hZ (hw _ (List.mem_of_getElem? (i := 3) rfl))) (mvT hZ (hw _ (List.mem_of_getElem? (i := 4) rfl))) (by decide) (backOf (W := 0) (rmS3 l Z a0 hw [] b153 r1 k153 a1 b1 c1 h162 n0 Z163 V162) hZ (hw _ (List.mem_of_getElem? (i := 4) rfl)) (hw _ (List.mem_of_getElem? (i := 3) rfl)) (by decide) (by decide)) (g := (mkF m 118 #[.val (.long a1), .second, .val (.long b1), .second, .val (.long c1), .second, .val (.int n1), .val (.int r1), .val (.int (3 : Int32)), .val (.int (0 : Int32)), .val (.int r1), .val (.ref b153), .unset] [(.int r1), (.ref b153)])) rfl (by rw [hml]; rfl) (argsL := [(.ref b153), (.int r1)]) (rest := []) (lenOf pd0_0 rfl) rfl (by show 2 * 0 + _ ≤ _; exact Nat.le_of_eq rfl) (hb hby at_118) (fun _ _ => ⟨rfl, e162, (by decide : 1 + 0 ≤ _), (by decide : 3 + 0 ≤ _)⟩)
      dsimp only [Pt.U, Pt.locs, Pt.cells, Pt.slots] at X164 l164 y164 z164 st164 hQ164
      subst l164 y164 z164
      obtain ⟨rfl, N164q, eh164⟩ := hQ164
      have N164 := Fr.app N162 N164q
      refine Go.by st164 ?_
      show Go _ _ _ _ _ _ _ (T164.setTop (mkF m 121 #[.val (.long a1), .second, .val (.long b1), .second, .val (.long c1), .second, .val (.int n1), .val (.int r1), .val (.int (3 : Int32)), .val (.int (0 : Int32)), .val (.int r1), .val (.ref b153), .unset] [(.int (fS3 r1 a1 b1 c1))]))
      refine Go.by (fun _ kont => XS.istore X164.here hx rfl (hb hby at_121) rfl (l' := #[.val (.long a1), .second, .val (.long b1), .second, .val (.long c1), .second, .val (.int n1), .val (.int r1), .val (.int (3 : Int32)), .val (.int (0 : Int32)), .val (.int r1), .val (.ref b153), .val (.int (fS3 r1 a1 b1 c1))]) rfl (XS.iload X164.here hx rfl (hb hby at_123) rfl (XS.lloadN X164.here hx rfl (hb hby at_125) rfl (XS.lloadN X164.here hx rfl (hb hby at_126) rfl (XS.lload X164.here hx rfl (hb hby at_127) rfl (XS.iload X164.here hx rfl (hb hby at_129) rfl kont)))))) ?_
      show Go _ _ _ _ _ _ _ (T164.setTop (mkF m 131 #[.val (.long a1), .second, .val (.long b1), .second, .val (.long c1), .second, .val (.int n1), .val (.int r1), .val (.int (3 : Int32)), .val (.int (0 : Int32)), .val (.int r1), .val (.ref b153), .val (.int (fS3 r1 a1 b1 c1))] [(.int (3 : Int32)), (.long c1), (.long b1), (.long a1), (.int (fS3 r1 a1 b1 c1))]))
      refine Go.by (fun _ kont => XS.iload X164.here hx rfl (hb hby at_131) rfl kont) ?_
      show Go _ _ _ _ _ _ _ (T164.setTop (mkF m 133 #[.val (.long a1), .second, .val (.long b1), .second, .val (.long c1), .second, .val (.int n1), .val (.int r1), .val (.int (3 : Int32)), .val (.int (0 : Int32)), .val (.int r1), .val (.ref b153), .val (.int (fS3 r1 a1 b1 c1))] [(.int r1), (.int (3 : Int32)), (.long c1), (.long b1), (.long a1), (.int (fS3 r1 a1 b1 c1))]))
      obtain ⟨_, _, ⟨T165, L165, k165, n165⟩, -, X165, ⟨Lc165, hQ165, l165, y165, z165⟩, st165⟩ := Jvm.LawKit.callS X164 hx (y := (⟨"com/example/classwright/classwright/InstructionsStartsAtPinLaw", "expected", "(JJJII)Z"⟩ : MethodName)) hown (mvT hZ (hw _ (List.mem_of_getElem? (i := 5) rfl))) (mvT hZ (hw _ (List.mem_of_getElem? (i := 6) rfl))) (mvT hZ (hw _ (List.mem_of_getElem? (i := 7) rfl))) (mvT hZ (hw _ (List.mem_of_getElem? (i := 8) rfl))) (by decide) (backOf (W := 1) (rmX3 l Z a0 hw [] a1 b1 c1 r1 h162 n0 Z163 ) hZ (hw _ (List.mem_of_getElem? (i := 8) rfl)) (hw _ (List.mem_of_getElem? (i := 7) rfl)) (by decide) (by decide)) (g := (mkF m 133 #[.val (.long a1), .second, .val (.long b1), .second, .val (.long c1), .second, .val (.int n1), .val (.int r1), .val (.int (3 : Int32)), .val (.int (0 : Int32)), .val (.int r1), .val (.ref b153), .val (.int (fS3 r1 a1 b1 c1))] [(.int r1), (.int (3 : Int32)), (.long c1), (.long b1), (.long a1), (.int (fS3 r1 a1 b1 c1))])) rfl (by rw [hml]; rfl) (argsL := [(.long a1), (.long b1), (.long c1), (.int (3 : Int32)), (.int r1)]) (rest := [(.int (fS3 r1 a1 b1 c1))]) (lenOf pd0_1 rfl) rfl (by show 2 * 0 + _ ≤ _; exact Nat.le_of_eq rfl) (hb hby at_133) (fun _ _ => ⟨rfl, eh164, (by decide : 1 + 0 ≤ _), (by decide : 3 + 0 ≤ _)⟩)
      dsimp only [Pt.U, Pt.locs, Pt.cells, Pt.slots] at X165 l165 y165 z165 st165 hQ165
      subst l165 y165 z165
      obtain ⟨rfl, N165q, eh165⟩ := hQ165
      have N165 := Fr.app N164 N165q
      refine Go.by st165 ?_
      show Go _ _ _ _ _ _ _ (T165.setTop (mkF m 136 #[.val (.long a1), .second, .val (.long b1), .second, .val (.long c1), .second, .val (.int n1), .val (.int r1), .val (.int (3 : Int32)), .val (.int (0 : Int32)), .val (.int r1), .val (.ref b153), .val (.int (fS3 r1 a1 b1 c1))] [(.int (fX3 a1 b1 c1 r1)), (.int (fS3 r1 a1 b1 c1))]))
      have hd166 : (fS3 r1 a1 b1 c1) = (fX3 a1 b1 c1 r1) := own_eq3 a1 b1 c1 _
      refine Go.by (fun _ kont => XS.icmpNo X165.here hx rfl (hb hby at_136) rfl (teq hd166).2 kont) ?_
      show Go _ _ _ _ _ _ _ (T165.setTop (mkF m 139 #[.val (.long a1), .second, .val (.long b1), .second, .val (.long c1), .second, .val (.int n1), .val (.int r1), .val (.int (3 : Int32)), .val (.int (0 : Int32)), .val (.int r1), .val (.ref b153), .val (.int (fS3 r1 a1 b1 c1))] []))
      refine Go.by (fun _ kont => XS.iconst X165.here hx rfl (hb hby at_139) (XS.goto X165.here hx rfl (pc0 := 140) (pc' := 144) rfl (hb hby at_140) (by decide) (by decide) kont)) ?_
      show Go _ _ _ _ _ _ _ (T165.setTop (mkF m 144 #[.val (.long a1), .second, .val (.long b1), .second, .val (.long c1), .second, .val (.int n1), .val (.int r1), .val (.int (3 : Int32)), .val (.int (0 : Int32)), .val (.int r1), .val (.ref b153), .val (.int (fS3 r1 a1 b1 c1))] [(.int (1 : Int32))]))
      refine Go.retN X165 hx (t := .boolean) hret (by simp) hlk (hb hby at_144) ?_ (by decide) (by decide)
      show Q0 Z h0 n0 (some (.int (1 : Int32))) T165.heap _
      rw [eh165]
      exact ⟨rfl, N165⟩
    · refine Go.by (fun _ kont => XS.ifNo X0.here hx rfl (hb hby at_12) rfl ((if0 _ _).trans (feq hc152).1) kont) ?_
      show Go _ _ _ _ _ _ _ (s₁.setTop (mkF m 15 #[.val (.long a1), .second, .val (.long b1), .second, .val (.long c1), .second, .val (.int n1), .val (.int r1), .val (.int (3 : Int32)), .unset, .unset, .unset, .unset] []))
      refine Go.by (fun _ kont => XS.iconst X0.here hx rfl (hb hby at_15) (XS.goto X0.here hx rfl (pc0 := 16) (pc' := 20) rfl (hb hby at_16) (by decide) (by decide) (XS.istore X0.here hx rfl (hb hby at_20) rfl (l' := #[.val (.long a1), .second, .val (.long b1), .second, .val (.long c1), .second, .val (.int n1), .val (.int r1), .val (.int (3 : Int32)), .val (.int (1 : Int32)), .unset, .unset, .unset]) rfl (XS.iload X0.here hx rfl (hb hby at_22) rfl kont)))) ?_
      show Go _ _ _ _ _ _ _ (s₁.setTop (mkF m 24 #[.val (.long a1), .second, .val (.long b1), .second, .val (.long c1), .second, .val (.int n1), .val (.int r1), .val (.int (3 : Int32)), .val (.int (1 : Int32)), .unset, .unset, .unset] [(.int (1 : Int32))]))
      refine Go.by (fun _ kont => XS.ifNo X0.here hx rfl (hb hby at_24) rfl (by decide) kont) ?_
      show Go _ _ _ _ _ _ _ (s₁.setTop (mkF m 27 #[.val (.long a1), .second, .val (.long b1), .second, .val (.long c1), .second, .val (.int n1), .val (.int r1), .val (.int (3 : Int32)), .val (.int (1 : Int32)), .unset, .unset, .unset] []))
      refine Go.by (fun _ kont => XS.iload X0.here hx rfl (hb hby at_27) rfl (XS.sipush X0.here hx rfl (hb hby at_29) (XS.iand X0.here hx rfl (hb hby at_32) rfl (XS.bipush X0.here hx rfl (hb hby at_33) (XS.isub X0.here hx rfl (hb hby at_35) rfl (XS.goto X0.here hx rfl (pc0 := 36) (pc' := 41) rfl (hb hby at_36) (by decide) (by decide) kont)))))) ?_
      show Go _ _ _ _ _ _ _ (s₁.setTop (mkF m 41 #[.val (.long a1), .second, .val (.long b1), .second, .val (.long c1), .second, .val (.int n1), .val (.int r1), .val (.int (3 : Int32)), .val (.int (1 : Int32)), .unset, .unset, .unset] [(.int ((r1 &&& (255 : Int32)) - (32 : Int32)))]))
      refine Go.by (fun _ kont => XS.istore X0.here hx rfl (hb hby at_41) rfl (l' := #[.val (.long a1), .second, .val (.long b1), .second, .val (.long c1), .second, .val (.int n1), .val (.int r1), .val (.int (3 : Int32)), .val (.int (1 : Int32)), .val (.int ((r1 &&& (255 : Int32)) - (32 : Int32))), .unset, .unset]) rfl kont) ?_
      show Go _ _ _ _ _ _ _ (s₁.setTop (mkF m 43 #[.val (.long a1), .second, .val (.long b1), .second, .val (.long c1), .second, .val (.int n1), .val (.int r1), .val (.int (3 : Int32)), .val (.int (1 : Int32)), .val (.int ((r1 &&& (255 : Int32)) - (32 : Int32))), .unset, .unset] []))
      generalize ((r1 &&& (255 : Int32)) - (32 : Int32)) = oo
      show Go _ _ _ _ _ _ _ (s₁.setTop (mkF m 43 #[.val (.long a1), .second, .val (.long b1), .second, .val (.long c1), .second, .val (.int n1), .val (.int r1), .val (.int (3 : Int32)), .val (.int (1 : Int32)), .val (.int oo), .unset, .unset] []))
      refine Go.by (fun _ kont => XS.iload X0.here hx rfl (hb hby at_43) rfl kont) ?_
      show Go _ _ _ _ _ _ _ (s₁.setTop (mkF m 45 #[.val (.long a1), .second, .val (.long b1), .second, .val (.long c1), .second, .val (.int n1), .val (.int r1), .val (.int (3 : Int32)), .val (.int (1 : Int32)), .val (.int oo), .unset, .unset] [(.int (3 : Int32))]))
      refine Go.by (fun _ kont => XS.ifYes X0.here hx rfl (pc0 := 45) (pc' := 56) rfl (hb hby at_45) rfl (by decide) (by decide) (by decide) kont) ?_
      show Go _ _ _ _ _ _ _ (s₁.setTop (mkF m 56 #[.val (.long a1), .second, .val (.long b1), .second, .val (.long c1), .second, .val (.int n1), .val (.int r1), .val (.int (3 : Int32)), .val (.int (1 : Int32)), .val (.int oo), .unset, .unset] []))
      refine Go.by (fun _ kont => XS.iload X0.here hx rfl (hb hby at_56) rfl (XS.iconst X0.here hx rfl (hb hby at_58) kont)) ?_
      show Go _ _ _ _ _ _ _ (s₁.setTop (mkF m 59 #[.val (.long a1), .second, .val (.long b1), .second, .val (.long c1), .second, .val (.int n1), .val (.int r1), .val (.int (3 : Int32)), .val (.int (1 : Int32)), .val (.int oo), .unset, .unset] [(.int (1 : Int32)), (.int (3 : Int32))]))
      refine Go.by (fun _ kont => XS.icmpYes X0.here hx rfl (pc0 := 59) (pc' := 74) rfl (hb hby at_59) rfl (by decide) (by decide) (by decide) kont) ?_
      show Go _ _ _ _ _ _ _ (s₁.setTop (mkF m 74 #[.val (.long a1), .second, .val (.long b1), .second, .val (.long c1), .second, .val (.int n1), .val (.int r1), .val (.int (3 : Int32)), .val (.int (1 : Int32)), .val (.int oo), .unset, .unset] []))
      refine Go.by (fun _ kont => XS.iload X0.here hx rfl (hb hby at_74) rfl (XS.iconst X0.here hx rfl (hb hby at_76) kont)) ?_
      show Go _ _ _ _ _ _ _ (s₁.setTop (mkF m 77 #[.val (.long a1), .second, .val (.long b1), .second, .val (.long c1), .second, .val (.int n1), .val (.int r1), .val (.int (3 : Int32)), .val (.int (1 : Int32)), .val (.int oo), .unset, .unset] [(.int (2 : Int32)), (.int (3 : Int32))]))
      refine Go.by (fun _ kont => XS.icmpYes X0.here hx rfl (pc0 := 77) (pc' := 96) rfl (hb hby at_77) rfl (by decide) (by decide) (by decide) kont) ?_
      show Go _ _ _ _ _ _ _ (s₁.setTop (mkF m 96 #[.val (.long a1), .second, .val (.long b1), .second, .val (.long c1), .second, .val (.int n1), .val (.int r1), .val (.int (3 : Int32)), .val (.int (1 : Int32)), .val (.int oo), .unset, .unset] []))
      refine Go.by (fun _ kont => XS.iconst X0.here hx rfl (hb hby at_96) kont) ?_
      show Go _ _ _ _ _ _ _ (s₁.setTop (mkF m 97 #[.val (.long a1), .second, .val (.long b1), .second, .val (.long c1), .second, .val (.int n1), .val (.int r1), .val (.int (3 : Int32)), .val (.int (1 : Int32)), .val (.int oo), .unset, .unset] [(.int (3 : Int32))]))
      obtain ⟨T167, h167, k167, X167, e167, X_167, A167, st167⟩ := newP X0 hx hZ (hw _ (List.mem_of_getElem? (i := 0) rfl)) e0 (g := (mkF m 97 #[.val (.long a1), .second, .val (.long b1), .second, .val (.long c1), .second, .val (.int n1), .val (.int r1), .val (.int (3 : Int32)), .val (.int (1 : Int32)), .val (.int oo), .unset, .unset] [(.int (3 : Int32))])) rfl (hb hby at_97) rfl (by decide) (cap := 3) (by decide) (by decide) (by decide) (by decide)
      obtain ⟨b167, g167⟩ : ∃ z, z = h0.size := ⟨_, rfl⟩
      rw [← g167] at A167 st167
      have ge_b167 : n0 ≤ b167 := Nat.le_trans Z0 (Nat.le_of_eq g167.symm)
      have sz_b167 : h0.size ≤ b167 := Nat.le_trans (Keep.refl h0 []).1 (Nat.le_of_eq g167.symm)
      have Z168 := Nat.le_trans Z0 X_167.1
      have K168 : Keep h0 h167 [] := (Keep.refl h0 []).ext X_167
      have V167 : Arv Z h167 b167 k167 .long (3 : Int32) [(.long (0 : Int64)), (.long (0 : Int64)), (.long (0 : Int64))] (.long (0 : Int64)) := (Arv.new A167 (by decide)).pad (pad_rep [] (.long (0 : Int64)) 3)
      refine Go.by st167 ?_
      show Go _ _ _ _ _ _ _ (T167.setTop (mkF m 99 #[.val (.long a1), .second, .val (.long b1), .second, .val (.long c1), .second, .val (.int n1), .val (.int r1), .val (.int (3 : Int32)), .val (.int (1 : Int32)), .val (.int oo), .unset, .unset] [(.ref b167)]))
      refine Go.by (fun _ kont => XS.dup X167.here hx rfl (hb hby at_99) rfl rfl (XS.iconst X167.here hx rfl (hb hby at_100) (XS.lloadN X167.here hx rfl (hb hby at_101) rfl kont))) ?_
      show Go _ _ _ _ _ _ _ (T167.setTop (mkF m 102 #[.val (.long a1), .second, .val (.long b1), .second, .val (.long c1), .second, .val (.int n1), .val (.int r1), .val (.int (3 : Int32)), .val (.int (1 : Int32)), .val (.int oo), .unset, .unset] [(.long a1), (.int (0 : Int32)), (.ref b167), (.ref b167)]))
      obtain ⟨cl_q169, Ar_q169, q1_q169, S_q169, N_q169, H_q169, G_q169⟩ := id V167
      have hin_q169 : ¬ ((0 : Int32) < 0 ∨ cl_q169.slots.size ≤ ((0 : Int32)).toNatClampNeg) := inb_of S_q169 ⟨by decide, by decide⟩
      obtain ⟨T170, h170, X170, e170, W170, st170⟩ := stJ X167 hx hZ e167 Ar_q169 (j := (0 : Int32)) hin_q169 (g := (mkF m 102 #[.val (.long a1), .second, .val (.long b1), .second, .val (.long c1), .second, .val (.int n1), .val (.int r1), .val (.int (3 : Int32)), .val (.int (1 : Int32)), .val (.int oo), .unset, .unset] [(.long a1), (.int (0 : Int32)), (.ref b167), (.ref b167)])) rfl rfl (hb hby at_102)
      have V170 : Arv Z h170 b167 k167 .long (3 : Int32) [(.long a1), (.long (0 : Int64)), (.long (0 : Int64))] (.long (0 : Int64)) := Arv.set Ar_q169 q1_q169 S_q169 N_q169 H_q169 G_q169 rfl W170 0 rfl (Nat.le_of_ble_eq_true rfl)
      have Z171 := Nat.le_trans Z168 (Keep.of_wr W170).1
      have K171 : Keep h0 h170 [] := K168.wr W170 (Or.inr sz_b167)
      have N170 := Fr.snoc X170 N0 ge_b167
      refine Go.by st170 ?_
      show Go _ _ _ _ _ _ _ (T170.setTop (mkF m 103 #[.val (.long a1), .second, .val (.long b1), .second, .val (.long c1), .second, .val (.int n1), .val (.int r1), .val (.int (3 : Int32)), .val (.int (1 : Int32)), .val (.int oo), .unset, .unset] [(.ref b167)]))
      refine Go.by (fun _ kont => XS.dup X170.here hx rfl (hb hby at_103) rfl rfl (XS.iconst X170.here hx rfl (hb hby at_104) (XS.lloadN X170.here hx rfl (hb hby at_105) rfl kont))) ?_
      show Go _ _ _ _ _ _ _ (T170.setTop (mkF m 106 #[.val (.long a1), .second, .val (.long b1), .second, .val (.long c1), .second, .val (.int n1), .val (.int r1), .val (.int (3 : Int32)), .val (.int (1 : Int32)), .val (.int oo), .unset, .unset] [(.long b1), (.int (1 : Int32)), (.ref b167), (.ref b167)]))
      obtain ⟨cl_q172, Ar_q172, q1_q172, S_q172, N_q172, H_q172, G_q172⟩ := id V170
      have hin_q172 : ¬ ((1 : Int32) < 0 ∨ cl_q172.slots.size ≤ ((1 : Int32)).toNatClampNeg) := inb_of S_q172 ⟨by decide, by decide⟩
      obtain ⟨T173, h173, X173, e173, W173, st173⟩ := stJ X170 hx hZ e170 Ar_q172 (j := (1 : Int32)) hin_q172 (g := (mkF m 106 #[.val (.long a1), .second, .val (.long b1), .second, .val (.long c1), .second, .val (.int n1), .val (.int r1), .val (.int (3 : Int32)), .val (.int (1 : Int32)), .val (.int oo), .unset, .unset] [(.long b1), (.int (1 : Int32)), (.ref b167), (.ref b167)])) rfl rfl (hb hby at_106)
      have V173 : Arv Z h173 b167 k167 .long (3 : Int32) [(.long a1), (.long b1), (.long (0 : Int64))] (.long (0 : Int64)) := Arv.set Ar_q172 q1_q172 S_q172 N_q172 H_q172 G_q172 rfl W173 1 rfl (Nat.le_of_ble_eq_true rfl)
      have Z174 := Nat.le_trans Z171 (Keep.of_wr W173).1
      have K174 : Keep h0 h173 [] := K171.wr W173 (Or.inr sz_b167)
      have N173 := Fr.snoc X173 N170 ge_b167
      refine Go.by st173 ?_
      show Go _ _ _ _ _ _ _ (T173.setTop (mkF m 107 #[.val (.long a1), .second, .val (.long b1), .second, .val (.long c1), .second, .val (.int n1), .val (.int r1), .val (.int (3 : Int32)), .val (.int (1 : Int32)), .val (.int oo), .unset, .unset] [(.ref b167)]))
      refine Go.by (fun _ kont => XS.dup X173.here hx rfl (hb hby at_107) rfl rfl (XS.iconst X173.here hx rfl (hb hby at_108) (XS.lload X173.here hx rfl (hb hby at_109) rfl kont))) ?_
      show Go _ _ _ _ _ _ _ (T173.setTop (mkF m 111 #[.val (.long a1), .second, .val (.long b1), .second, .val (.long c1), .second, .val (.int n1), .val (.int r1), .val (.int (3 : Int32)), .val (.int (1 : Int32)), .val (.int oo), .unset, .unset] [(.long c1), (.int (2 : Int32)), (.ref b167), (.ref b167)]))
      obtain ⟨cl_q175, Ar_q175, q1_q175, S_q175, N_q175, H_q175, G_q175⟩ := id V173
      have hin_q175 : ¬ ((2 : Int32) < 0 ∨ cl_q175.slots.size ≤ ((2 : Int32)).toNatClampNeg) := inb_of S_q175 ⟨by decide, by decide⟩
      obtain ⟨T176, h176, X176, e176, W176, st176⟩ := stJ X173 hx hZ e173 Ar_q175 (j := (2 : Int32)) hin_q175 (g := (mkF m 111 #[.val (.long a1), .second, .val (.long b1), .second, .val (.long c1), .second, .val (.int n1), .val (.int r1), .val (.int (3 : Int32)), .val (.int (1 : Int32)), .val (.int oo), .unset, .unset] [(.long c1), (.int (2 : Int32)), (.ref b167), (.ref b167)])) rfl rfl (hb hby at_111)
      have V176 : Arv Z h176 b167 k167 .long (3 : Int32) [(.long a1), (.long b1), (.long c1)] (.long (0 : Int64)) := Arv.set Ar_q175 q1_q175 S_q175 N_q175 H_q175 G_q175 rfl W176 2 rfl (Nat.le_of_ble_eq_true rfl)
      have Z177 := Nat.le_trans Z174 (Keep.of_wr W176).1
      have K177 : Keep h0 h176 [] := K174.wr W176 (Or.inr sz_b167)
      have N176 := Fr.snoc X176 N173 ge_b167
      refine Go.by st176 ?_
      show Go _ _ _ _ _ _ _ (T176.setTop (mkF m 112 #[.val (.long a1), .second, .val (.long b1), .second, .val (.long c1), .second, .val (.int n1), .val (.int r1), .val (.int (3 : Int32)), .val (.int (1 : Int32)), .val (.int oo), .unset, .unset] [(.ref b167)]))
      refine Go.by (fun _ kont => XS.astore X176.here hx rfl (hb hby at_112) rfl rfl (l' := #[.val (.long a1), .second, .val (.long b1), .second, .val (.long c1), .second, .val (.int n1), .val (.int r1), .val (.int (3 : Int32)), .val (.int (1 : Int32)), .val (.int oo), .val (.ref b167), .unset]) rfl (XS.aload X176.here hx rfl (hb hby at_114) rfl rfl (XS.iload X176.here hx rfl (hb hby at_116) rfl kont))) ?_
      show Go _ _ _ _ _ _ _ (T176.setTop (mkF m 118 #[.val (.long a1), .second, .val (.long b1), .second, .val (.long c1), .second, .val (.int n1), .val (.int r1), .val (.int (3 : Int32)), .val (.int (1 : Int32)), .val (.int oo), .val (.ref b167), .unset] [(.int oo), (.ref b167)]))
      obtain ⟨_, _, ⟨T178, L178, k178, n178⟩, -, X178, ⟨Lc178, hQ178, l178, y178, z178⟩, st178⟩ := Jvm.LawKit.callS X176 hx (y := (⟨"com/example/classwright/classwright/Instructions", "startsAt", "([JI)Z"⟩ : MethodName)) hown (mvT hZ (hw _ (List.mem_of_getElem? (i := 1) rfl))) (mvT hZ (hw _ (List.mem_of_getElem? (i := 2) rfl))) (mvT hZ (hw _ (List.mem_of_getElem? (i := 3) rfl))) (mvT hZ (hw _ (List.mem_of_getElem? (i := 4) rfl))) (by decide) (backOf (W := 0) (rmS3 l Z a0 hw [] b167 oo k167 a1 b1 c1 h176 n0 Z177 V176) hZ (hw _ (List.mem_of_getElem? (i := 4) rfl)) (hw _ (List.mem_of_getElem? (i := 3) rfl)) (by decide) (by decide)) (g := (mkF m 118 #[.val (.long a1), .second, .val (.long b1), .second, .val (.long c1), .second, .val (.int n1), .val (.int r1), .val (.int (3 : Int32)), .val (.int (1 : Int32)), .val (.int oo), .val (.ref b167), .unset] [(.int oo), (.ref b167)])) rfl (by rw [hml]; rfl) (argsL := [(.ref b167), (.int oo)]) (rest := []) (lenOf pd0_0 rfl) rfl (by show 2 * 0 + _ ≤ _; exact Nat.le_of_eq rfl) (hb hby at_118) (fun _ _ => ⟨rfl, e176, (by decide : 1 + 0 ≤ _), (by decide : 3 + 0 ≤ _)⟩)
      dsimp only [Pt.U, Pt.locs, Pt.cells, Pt.slots] at X178 l178 y178 z178 st178 hQ178
      subst l178 y178 z178
      obtain ⟨rfl, N178q, eh178⟩ := hQ178
      have N178 := Fr.app N176 N178q
      refine Go.by st178 ?_
      show Go _ _ _ _ _ _ _ (T178.setTop (mkF m 121 #[.val (.long a1), .second, .val (.long b1), .second, .val (.long c1), .second, .val (.int n1), .val (.int r1), .val (.int (3 : Int32)), .val (.int (1 : Int32)), .val (.int oo), .val (.ref b167), .unset] [(.int (fS3 oo a1 b1 c1))]))
      refine Go.by (fun _ kont => XS.istore X178.here hx rfl (hb hby at_121) rfl (l' := #[.val (.long a1), .second, .val (.long b1), .second, .val (.long c1), .second, .val (.int n1), .val (.int r1), .val (.int (3 : Int32)), .val (.int (1 : Int32)), .val (.int oo), .val (.ref b167), .val (.int (fS3 oo a1 b1 c1))]) rfl (XS.iload X178.here hx rfl (hb hby at_123) rfl (XS.lloadN X178.here hx rfl (hb hby at_125) rfl (XS.lloadN X178.here hx rfl (hb hby at_126) rfl (XS.lload X178.here hx rfl (hb hby at_127) rfl (XS.iload X178.here hx rfl (hb hby at_129) rfl kont)))))) ?_
      show Go _ _ _ _ _ _ _ (T178.setTop (mkF m 131 #[.val (.long a1), .second, .val (.long b1), .second, .val (.long c1), .second, .val (.int n1), .val (.int r1), .val (.int (3 : Int32)), .val (.int (1 : Int32)), .val (.int oo), .val (.ref b167), .val (.int (fS3 oo a1 b1 c1))] [(.int (3 : Int32)), (.long c1), (.long b1), (.long a1), (.int (fS3 oo a1 b1 c1))]))
      refine Go.by (fun _ kont => XS.iload X178.here hx rfl (hb hby at_131) rfl kont) ?_
      show Go _ _ _ _ _ _ _ (T178.setTop (mkF m 133 #[.val (.long a1), .second, .val (.long b1), .second, .val (.long c1), .second, .val (.int n1), .val (.int r1), .val (.int (3 : Int32)), .val (.int (1 : Int32)), .val (.int oo), .val (.ref b167), .val (.int (fS3 oo a1 b1 c1))] [(.int oo), (.int (3 : Int32)), (.long c1), (.long b1), (.long a1), (.int (fS3 oo a1 b1 c1))]))
      obtain ⟨_, _, ⟨T179, L179, k179, n179⟩, -, X179, ⟨Lc179, hQ179, l179, y179, z179⟩, st179⟩ := Jvm.LawKit.callS X178 hx (y := (⟨"com/example/classwright/classwright/InstructionsStartsAtPinLaw", "expected", "(JJJII)Z"⟩ : MethodName)) hown (mvT hZ (hw _ (List.mem_of_getElem? (i := 5) rfl))) (mvT hZ (hw _ (List.mem_of_getElem? (i := 6) rfl))) (mvT hZ (hw _ (List.mem_of_getElem? (i := 7) rfl))) (mvT hZ (hw _ (List.mem_of_getElem? (i := 8) rfl))) (by decide) (backOf (W := 1) (rmX3 l Z a0 hw [] a1 b1 c1 oo h176 n0 Z177 ) hZ (hw _ (List.mem_of_getElem? (i := 8) rfl)) (hw _ (List.mem_of_getElem? (i := 7) rfl)) (by decide) (by decide)) (g := (mkF m 133 #[.val (.long a1), .second, .val (.long b1), .second, .val (.long c1), .second, .val (.int n1), .val (.int r1), .val (.int (3 : Int32)), .val (.int (1 : Int32)), .val (.int oo), .val (.ref b167), .val (.int (fS3 oo a1 b1 c1))] [(.int oo), (.int (3 : Int32)), (.long c1), (.long b1), (.long a1), (.int (fS3 oo a1 b1 c1))])) rfl (by rw [hml]; rfl) (argsL := [(.long a1), (.long b1), (.long c1), (.int (3 : Int32)), (.int oo)]) (rest := [(.int (fS3 oo a1 b1 c1))]) (lenOf pd0_1 rfl) rfl (by show 2 * 0 + _ ≤ _; exact Nat.le_of_eq rfl) (hb hby at_133) (fun _ _ => ⟨rfl, eh178, (by decide : 1 + 0 ≤ _), (by decide : 3 + 0 ≤ _)⟩)
      dsimp only [Pt.U, Pt.locs, Pt.cells, Pt.slots] at X179 l179 y179 z179 st179 hQ179
      subst l179 y179 z179
      obtain ⟨rfl, N179q, eh179⟩ := hQ179
      have N179 := Fr.app N178 N179q
      refine Go.by st179 ?_
      show Go _ _ _ _ _ _ _ (T179.setTop (mkF m 136 #[.val (.long a1), .second, .val (.long b1), .second, .val (.long c1), .second, .val (.int n1), .val (.int r1), .val (.int (3 : Int32)), .val (.int (1 : Int32)), .val (.int oo), .val (.ref b167), .val (.int (fS3 oo a1 b1 c1))] [(.int (fX3 a1 b1 c1 oo)), (.int (fS3 oo a1 b1 c1))]))
      have hd180 : (fS3 oo a1 b1 c1) = (fX3 a1 b1 c1 oo) := own_eq3 a1 b1 c1 _
      refine Go.by (fun _ kont => XS.icmpNo X179.here hx rfl (hb hby at_136) rfl (teq hd180).2 kont) ?_
      show Go _ _ _ _ _ _ _ (T179.setTop (mkF m 139 #[.val (.long a1), .second, .val (.long b1), .second, .val (.long c1), .second, .val (.int n1), .val (.int r1), .val (.int (3 : Int32)), .val (.int (1 : Int32)), .val (.int oo), .val (.ref b167), .val (.int (fS3 oo a1 b1 c1))] []))
      refine Go.by (fun _ kont => XS.iconst X179.here hx rfl (hb hby at_139) (XS.goto X179.here hx rfl (pc0 := 140) (pc' := 144) rfl (hb hby at_140) (by decide) (by decide) kont)) ?_
      show Go _ _ _ _ _ _ _ (T179.setTop (mkF m 144 #[.val (.long a1), .second, .val (.long b1), .second, .val (.long c1), .second, .val (.int n1), .val (.int r1), .val (.int (3 : Int32)), .val (.int (1 : Int32)), .val (.int oo), .val (.ref b167), .val (.int (fS3 oo a1 b1 c1))] [(.int (1 : Int32))]))
      refine Go.retN X179 hx (t := .boolean) hret (by simp) hlk (hb hby at_144) ?_ (by decide) (by decide)
      show Q0 Z h0 n0 (some (.int (1 : Int32))) T179.heap _
      rw [eh179]
      exact ⟨rfl, N179⟩

set_option maxRecDepth 65536 in
set_option maxHeartbeats 40000000 in
theorem comes_1 {Post : Tables → Env → Array Value → State → Outcome → State → Prop} (hpost : ∀ tb e args s v u, (limb_1_1.after args s (.returned v) u = true ∧ limb_1_2.after args s (.returned v) u = true ∧ True) → FrameEnd s (.returned v) u (Jvm.fieldLocs frame_1_writes args s ++ Jvm.arrayLocs frame_1_arrays args s ++ Jvm.staticLocs frame_1_statics s) 16 128 → Post tb e args s (.returned v) u) :
    ArmFor flags0 classFile x code maxLocals ret World_1 tables_1 room_1 Calls_1 rest_1 Pre_1 Post := by
  intro l hfl _ _ p e ha hc hk s m args below hf hA hF happ hP
  obtain ⟨hcalls, hrest, hpre⟩ := hP
  obtain ⟨-, -, -, hnamed, -, -, -, hat⟩ := (Spec.applies_iff hf).mp happ
  obtain ⟨hg, hn⟩ := and_e (Cond.before_iff.mp (show (Jvm.Cond.and given_1 narrow_1).before args s = true from hpre))
  obtain ⟨hh1, hh2⟩ := and_e hg
  obtain ⟨hh3, hh4⟩ := and_e hh2
  obtain ⟨hh5, hh6⟩ := and_e hh4
  obtain ⟨hh7, hh8⟩ := and_e hh6
  obtain ⟨hh9, hh10⟩ := and_e hh8
  obtain ⟨w0, w1, w2, w3, w4, rfl⟩ : ∃ w0 w1 w2 w3 w4 : Value, args = #[w0, w1, w2, w3, w4] := by
    have hs : args.size = 5 := by simpa [Cond.value, given_1] using hh1
    obtain ⟨L⟩ := args
    match L, hs with
    | [w0, w1, w2, w3, w4], _ => exact ⟨w0, w1, w2, w3, w4, rfl⟩
  have hw := fun d (hd : d ∈ tables_1) => atoms_spec (ws := Jvm.Cond.code x code maxLocals ret :: tables_1) hat d (List.mem_cons_of_mem _ hd)
  obtain ⟨i0, ei0⟩ := isL_v hh3
  obtain rfl : w0 = (.long i0) := Option.some.inj ei0
  obtain ⟨i1, ei1⟩ := isL_v hh5
  obtain rfl : w1 = (.long i1) := Option.some.inj ei1
  obtain ⟨i2, ei2⟩ := isL_v hh7
  obtain rfl : w2 = (.long i2) := Option.some.inj ei2
  obtain ⟨i3, ei3⟩ := is_v hh9
  obtain rfl : w3 = (.int i3) := Option.some.inj ei3
  obtain ⟨i4, ei4⟩ := is_v hh10
  obtain rfl : w4 = (.int i4) := Option.some.inj ei4
  obtain ⟨n, o, h1, h2, h3, _, L, rfl, ⟨rfl, N⟩, hq⟩ := rm0 l s _ hw tables_1 i0 i1 i2 i3 i4  s.heap s.heap.size (Nat.le_refl _)  p e ha hc hk s m _ below hf ((Spec.applies_iff_loose hf).mp happ).1 ⟨rfl, State.Warmed39.refl s, rfl⟩ trivial
  refine ⟨n, _, h1, h2, h3, hpost _ _ _ _ _ _ ⟨Cond.after_iff.mpr rfl, Cond.after_iff.mpr (eq_i res_at (Term.int_eval (1)) rfl), trivial⟩ ⟨hq.1, hq.2.1, (hq.2.2.sift fun y hy => Or.inr (N y hy)).mono (by decide) (by decide)⟩⟩
theorem main_1_1 : Claimed_1_1 := comes_1 fun _ _ _ _ _ _ h hF => ⟨h.1, hF⟩
theorem main_1_2 : Claimed_1_2 := comes_1 fun _ _ _ _ _ _ h hF => ⟨h.2.1, hF⟩

end Jvm.Pilot.@@N@@
namespace Jvm.Pilot.@@N@@
open Jvm Jvm.ClassFile Sem Op Lib Jvm.Free Jvm.Stand Jvm.Pilot.@@N@@.Jvm.D
/-! MADE BY PROGRAM (witnessworld.py) out of the Statement's table words and the real class files: 11 classes; the members and pool entries that the words name. The judged class is class 1, her method 1. -/
namespace start1
open Jvm.ClassFile
def u (s : String) : CpInfo := .utf8 (stringToUtf16 s)
/-- a pool by its gaps: so many unusable entries, then the entry; so many at the end -/
def gap : Nat → List CpInfo → List CpInfo
  | 0, r => r
  | n + 1, r => .unusable :: gap n r
def poolList (es : List (Nat × CpInfo)) (last : Nat) : List CpInfo := es.foldr (fun e r => gap e.1 (e.2 :: r)) (gap last [])
def pool (es : List (Nat × CpInfo)) (last : Nat) : Array CpInfo := ⟨poolList es last⟩
def fileOf (pool : Array CpInfo) (this : Nat) (attrs : Array Attribute := #[]) (ms : Array MethodInfo := #[]) (fl : Nat := 33) (sup : Nat := 0) (ifs : Array Nat := #[]) (fds : Array FieldInfo := #[]) : ClassFile where
  minorVersion := 0
  majorVersion := 65
  constantPool := pool
  accessFlags := fl
  thisClass := this
  superClass := sup
  interfaces := ifs
  fields := fds
  methods := ms
  attributes := attrs
def plain (name : String) (sup : Option ClassId) : Class where
  name := name
  kind := .ordinary
  loader := none
  accessFlags := 33
  super := sup
  interfaces := #[]
  cf := none
  fields := #[]
  methods := #[]
  instanceTypes := #[]
  staticTypes := #[]
  resolved := #[]
  callSites := []
  init := .initialized
  statics := none
  mirror := none

def pool0 : Array CpInfo := pool [(5, u "<init>"), (0, u "()V"), (1, .class_ 10), (1, u "java/lang/Object")] 113

def k0m0 : Method := { name := "<init>", desc := "()V", sig := { parameters := [], returnType := none }, accessFlags := 1, code := none }
/-- java/lang/Object -/
def k0 : Class := { plain "java/lang/Object" none with
  accessFlags := 33
  interfaces := #[]
  cf := some (fileOf pool0 8 #[] #[{ accessFlags := 1, nameIndex := 5, descriptorIndex := 6, attributes := #[] }] 33 0 #[] #[])
  fields := #[]
  methods := #[k0m0]
  instanceTypes := #[]
  staticTypes := #[]
  resolved := Array.replicate 124 none
  statics := none }

def pool1 : Array CpInfo := pool [(2, .class_ 4), (1, u "java/lang/Object"), (0, u "<init>"), (0, u "()V"), (0, .methodref 8 9), (0, .class_ 10), (0, .nameAndType 11 12), (0, u "com/example/classwright/classwright/Instructions"), (0, u "startsAt"), (0, u "([JI)Z"), (0, .methodref 14 15), (0, .class_ 16), (0, .nameAndType 17 18), (0, u "com/example/classwright/classwright/InstructionsStartsAtPinLaw"), (0, u "expected"), (0, u "(JJJII)Z"), (2, u "law")] 5

def k1m0 : Method := { name := "<init>", desc := "()V", sig := { parameters := [], returnType := none }, accessFlags := 1, code := none }
def k1c1 : Code := { maxStack := 9, maxLocals := 13, code := code, exceptionTable := #[], attributes := #[] }
def k1m1 : Method := { name := "law", desc := "(JJJII)Z", sig := { parameters := [.long, .long, .long, .int, .int], returnType := some .boolean }, accessFlags := 9, code := some k1c1 }
def k1c2 : Code := { maxStack := 4, maxLocals := 11, code := method_3_code, exceptionTable := #[], attributes := #[] }
def k1m2 : Method := { name := "expected", desc := "(JJJII)Z", sig := { parameters := [.long, .long, .long, .int, .int], returnType := some .boolean }, accessFlags := 10, code := some k1c2 }
/-- com/example/classwright/classwright/InstructionsStartsAtPinLaw -/
def k1 : Class := { plain "com/example/classwright/classwright/InstructionsStartsAtPinLaw" (some 0) with
  accessFlags := 49
  interfaces := #[]
  cf := some (fileOf pool1 14 #[] #[{ accessFlags := 1, nameIndex := 5, descriptorIndex := 6, attributes := #[] }, { accessFlags := 9, nameIndex := 21, descriptorIndex := 18, attributes := #[] }, { accessFlags := 10, nameIndex := 17, descriptorIndex := 18, attributes := #[] }] 49 2 #[] #[])
  fields := #[]
  methods := #[k1m0, k1m1, k1m2]
  instanceTypes := #[]
  staticTypes := #[]
  resolved := Array.replicate 27 none
  statics := none }

def pool2 : Array CpInfo := pool [(2, .class_ 4), (1, u "java/lang/Object"), (3, .class_ 10), (1, u "com/example/classwright/classwright/Instructions"), (0, u "targets"), (0, u "[I"), (2, u "code"), (0, u "Lcom/example/classwright/classwright/ClassBytes;"), (8, u "bytes"), (0, u "[B"), (2, u "pool"), (0, u "Lcom/example/classwright/classwright/ConstantPool;"), (4, u "majorVersion"), (3, u "I"), (5, u "start"), (5, u "length"), (2, u "end"), (2, u "starts"), (0, u "[J"), (2, u "decoded"), (43, .class_ 107), (1, u "com/example/classwright/classwright/Instructions$1"), (33, u "used"), (8, u "widened"), (2, u "Lcom/example/classwright/classwright/Opcode;"), (205, u "targetCount"), (15, u "startsAt"), (0, u "([JI)Z"), (20, u "FIRST_ATYPE"), (2, u "LAST_ATYPE"), (1, u "INDEX_END")] 57

def k2c0 : Code := { maxStack := 5, maxLocals := 2, code := prog_62_method_3_code, exceptionTable := #[], attributes := #[] }
def k2m0 : Method := { name := "startsAt", desc := "([JI)Z", sig := { parameters := [(.array .long), .int], returnType := some .boolean }, accessFlags := 8, code := some k2c0 }
/-- com/example/classwright/classwright/Instructions -/
def k2 : Class := { plain "com/example/classwright/classwright/Instructions" (some 0) with
  accessFlags := 48
  interfaces := #[]
  cf := some (fileOf pool2 8 #[.nestMembers #[105]] #[{ accessFlags := 8, nameIndex := 375, descriptorIndex := 376, attributes := #[] }] 48 2 #[] #[{ accessFlags := 26, nameIndex := 397, descriptorIndex := 39, attributes := #[] }, { accessFlags := 26, nameIndex := 400, descriptorIndex := 39, attributes := #[] }, { accessFlags := 26, nameIndex := 402, descriptorIndex := 39, attributes := #[] }, { accessFlags := 18, nameIndex := 15, descriptorIndex := 16, attributes := #[] }, { accessFlags := 18, nameIndex := 25, descriptorIndex := 26, attributes := #[] }, { accessFlags := 18, nameIndex := 29, descriptorIndex := 30, attributes := #[] }, { accessFlags := 18, nameIndex := 35, descriptorIndex := 39, attributes := #[] }, { accessFlags := 18, nameIndex := 45, descriptorIndex := 39, attributes := #[] }, { accessFlags := 18, nameIndex := 54, descriptorIndex := 39, attributes := #[] }, { accessFlags := 18, nameIndex := 51, descriptorIndex := 39, attributes := #[] }, { accessFlags := 18, nameIndex := 57, descriptorIndex := 58, attributes := #[] }, { accessFlags := 2, nameIndex := 11, descriptorIndex := 12, attributes := #[] }, { accessFlags := 2, nameIndex := 359, descriptorIndex := 39, attributes := #[] }, { accessFlags := 18, nameIndex := 61, descriptorIndex := 12, attributes := #[] }, { accessFlags := 2, nameIndex := 141, descriptorIndex := 39, attributes := #[] }, { accessFlags := 2, nameIndex := 150, descriptorIndex := 153, attributes := #[] }])
  fields := #[{ name := "FIRST_ATYPE", type := .int, accessFlags := 26, slot := 0, constantValue := 0 }, { name := "LAST_ATYPE", type := .int, accessFlags := 26, slot := 1, constantValue := 0 }, { name := "INDEX_END", type := .int, accessFlags := 26, slot := 2, constantValue := 0 }, { name := "code", type := (.object "com/example/classwright/classwright/ClassBytes"), accessFlags := 18, slot := 0, constantValue := 0 }, { name := "bytes", type := (.array .byte), accessFlags := 18, slot := 1, constantValue := 0 }, { name := "pool", type := (.object "com/example/classwright/classwright/ConstantPool"), accessFlags := 18, slot := 2, constantValue := 0 }, { name := "majorVersion", type := .int, accessFlags := 18, slot := 3, constantValue := 0 }, { name := "start", type := .int, accessFlags := 18, slot := 4, constantValue := 0 }, { name := "end", type := .int, accessFlags := 18, slot := 5, constantValue := 0 }, { name := "length", type := .int, accessFlags := 18, slot := 6, constantValue := 0 }, { name := "starts", type := (.array .long), accessFlags := 18, slot := 7, constantValue := 0 }, { name := "targets", type := (.array .int), accessFlags := 2, slot := 8, constantValue := 0 }, { name := "targetCount", type := .int, accessFlags := 2, slot := 9, constantValue := 0 }, { name := "decoded", type := (.array .int), accessFlags := 18, slot := 10, constantValue := 0 }, { name := "used", type := .int, accessFlags := 2, slot := 11, constantValue := 0 }, { name := "widened", type := (.object "com/example/classwright/classwright/Opcode"), accessFlags := 2, slot := 12, constantValue := 0 }]
  methods := #[k2m0]
  instanceTypes := #[(.object "com/example/classwright/classwright/ClassBytes"), (.array .byte), (.object "com/example/classwright/classwright/ConstantPool"), .int, .int, .int, .int, (.array .long), (.array .int), .int, (.array .int), .int, (.object "com/example/classwright/classwright/Opcode")]
  staticTypes := #[.int, .int, .int]
  resolved := Array.replicate 460 none
  statics := none }

def pool3 : Array CpInfo := pool [(1, u "java/lang/Cloneable"), (0, .class_ 1), (0, u "java/lang/Object"), (0, .class_ 3)] 3

/-- java/lang/Cloneable -/
def k3 : Class := { plain "java/lang/Cloneable" (some 0) with
  accessFlags := 1537
  interfaces := #[]
  cf := some (fileOf pool3 2 #[] #[] 1537 4 #[] #[])
  fields := #[]
  methods := #[]
  instanceTypes := #[]
  staticTypes := #[]
  resolved := Array.replicate 8 none
  statics := none }

def pool4 : Array CpInfo := pool [(1, u "java/io/Serializable"), (0, .class_ 1), (0, u "java/lang/Object"), (0, .class_ 3)] 3

/-- java/io/Serializable -/
def k4 : Class := { plain "java/io/Serializable" (some 0) with
  accessFlags := 1537
  interfaces := #[]
  cf := some (fileOf pool4 2 #[] #[] 1537 4 #[] #[])
  fields := #[]
  methods := #[]
  instanceTypes := #[]
  staticTypes := #[]
  resolved := Array.replicate 8 none
  statics := none }

/-- the primitive byte -/
def k5 : Class := { plain "byte" none with kind := .primitive 'B', accessFlags := 0x411 }
/-- [B -/
def k6 : Class := { plain "[B" (some 0) with kind := .array 5 .byte, interfaces := #[3, 4], accessFlags := 1041 }

/-- the primitive int -/
def k7 : Class := { plain "int" none with kind := .primitive 'I', accessFlags := 0x411 }
/-- [I -/
def k8 : Class := { plain "[I" (some 0) with kind := .array 7 .int, interfaces := #[3, 4], accessFlags := 1041 }

/-- the primitive long -/
def k9 : Class := { plain "long" none with kind := .primitive 'J', accessFlags := 0x411 }
/-- [J -/
def k10 : Class := { plain "[J" (some 0) with kind := .array 9 .long, interfaces := #[3, 4], accessFlags := 1041 }

def heap : Heap := #[]
def classes : Array Class := #[k0, k1, k2, k3, k4, k5, k6, k7, k8, k9, k10]
def interned : List (Array UInt16 × Addr) := []
def slotsUsed : Nat := 0
def theMethod : MethodId := ⟨1, 1⟩
def args0 : Array Value := #[.long 5, .long 3, .long 77, .int 3, .int 65]
def aboutOver (below : List Frame) : State where
  vm := { classes := classes, interned := interned.toArray }
  heap := heap
  slotsUsed := slotsUsed
  threads := #[{ frames := .invoking theMethod args0 :: below }]
def below0 : List Frame := [.native { method := ⟨0, 0⟩, args := #[] }]
def about1 : State := aboutOver below0
def p0 : Program := .bare "" "" ""
def e0 : Env := launch0.env 0 0 0
theorem w_frames : about1.frames = Frame.invoking theMethod args0 :: below0 := rfl
set_option maxRecDepth 65536 in
theorem w_args : argsFit about1.vm theMethod args0 = true := by decide +kernel
set_option maxRecDepth 65536 in
theorem w_heap : heapFits about1 = true := by decide +kernel
set_option maxRecDepth 65536 in
theorem w_runnable : about1.curStatus? = some .runnable := by decide +kernel
set_option maxRecDepth 65536 in
theorem w_alone : about1.alone = true := by decide +kernel
set_option maxRecDepth 65536 in
theorem w_named : about1.methodNamed? x = some theMethod := by decide +kernel
set_option maxRecDepth 65536 in
theorem w_hears : about1.hears theMethod below0 = true := by decide +kernel
set_option maxRecDepth 65536 in
theorem w_ripe : about1.ripe theMethod args0 below0 = true := by decide +kernel
theorem w_running : about1.status = .running := rfl
set_option maxRecDepth 65536 in
theorem w_room : about1.hasRoom e0.platform room_1 = true :=
  launch0.hasRoom_least _ room_1 (by decide +kernel) (by decide +kernel) (by decide +kernel) (by decide +kernel) (by decide +kernel) (by decide +kernel)
theorem allAtoms_all (ts : List Jvm.Cond) (a : Array Jvm.Value) (st : Jvm.State) : (allAtoms ts).before a st = ts.all (fun c => c.before a st) := by
  induction ts with
  | nil => rfl
  | cons c t ih =>
    show (Jvm.Cond.and c (allAtoms t)).before a st = _
    rw [Jvm.Cond.before_and, ih, List.all_cons]
def words1 : List Jvm.Cond := Jvm.Cond.code x code maxLocals ret :: tables_1
/-- a 'code' word, met by the world's own term for the bytes: nothing is compared byte by byte -/
theorem code_word {y : MethodName} {bytes : ByteArray} {mx : Nat} {rt : Option FieldType} {a : Array Value} {s : State} {m : MethodId} {meth : Method} {c : Code} (h1 : s.methodNamed? y = some m) (h2 : s.vm.method? m = some meth) (h3 : meth.code = some c) (h4 : c.code = bytes)
    (h5 : (c.maxLocals == mx && c.exceptionTable.isEmpty && decide (c.maxStack ≤ mostOperands) && decide (meth.sig.returnType = rt) && !meth.locks && decide (parseMethodDescriptor y.desc = some meth.sig)) = true) : (Jvm.Cond.code y bytes mx rt).before a s = true := by
  simp only [Bool.and_eq_true, beq_iff_eq, Bool.not_eq_true', decide_eq_true_eq] at h5
  obtain ⟨⟨⟨⟨⟨g1, g2⟩, g3⟩, g4⟩, g5⟩, g6⟩ := h5
  simp [Cond.before, Cond.holds, Cond.value, h1, h2, h3, h4, g1, g2, g3, g4, g5, g6]
def isCode : Jvm.Cond → Bool
  | .code _ _ _ _ => true
  | _ => false
theorem all_split {L : List Jvm.Cond} {P : Jvm.Cond → Bool} (h1 : L.all (fun c => isCode c || P c) = true) (h2 : ∀ c ∈ L.filter isCode, P c = true) : L.all P = true := by
  refine List.all_eq_true.mpr fun c hc => ?_
  have h := List.all_eq_true.mp h1 c hc
  rcases Bool.eq_false_or_eq_true (isCode c) with hi | hi
  · exact h2 c (List.mem_filter.mpr ⟨hc, hi⟩)
  · simpa [hi] using h
set_option maxRecDepth 65536 in
theorem w_c0 : (Jvm.Cond.code x code maxLocals ret).before args0 about1 = true := code_word (m := ⟨1, 1⟩) (meth := k1m1) (c := k1c1) (by decide +kernel) rfl rfl rfl (by decide +kernel)
set_option maxRecDepth 65536 in
theorem w_c1 : (Jvm.Cond.code ({ cls := "com/example/classwright/classwright/Instructions", name := "startsAt", desc := "([JI)Z" } : Jvm.MethodName) prog_62_method_3_code (2 : Nat) (Option.some Jvm.ClassFile.FieldType.boolean)).before args0 about1 = true := code_word (m := ⟨2, 0⟩) (meth := k2m0) (c := k2c0) (by decide +kernel) rfl rfl rfl (by decide +kernel)
set_option maxRecDepth 65536 in
theorem w_c2 : (Jvm.Cond.code ({ cls := "com/example/classwright/classwright/InstructionsStartsAtPinLaw", name := "expected", desc := "(JJJII)Z" } : Jvm.MethodName) method_3_code (11 : Nat) (Option.some Jvm.ClassFile.FieldType.boolean)).before args0 about1 = true := code_word (m := ⟨1, 2⟩) (meth := k1m2) (c := k1c2) (by decide +kernel) rfl rfl rfl (by decide +kernel)
def codes1 : List Jvm.Cond := [Jvm.Cond.code x code maxLocals ret, Jvm.Cond.code ({ cls := "com/example/classwright/classwright/Instructions", name := "startsAt", desc := "([JI)Z" } : Jvm.MethodName) prog_62_method_3_code (2 : Nat) (Option.some Jvm.ClassFile.FieldType.boolean), Jvm.Cond.code ({ cls := "com/example/classwright/classwright/InstructionsStartsAtPinLaw", name := "expected", desc := "(JJJII)Z" } : Jvm.MethodName) method_3_code (11 : Nat) (Option.some Jvm.ClassFile.FieldType.boolean)]
set_option maxRecDepth 65536 in
theorem codes_eq : words1.filter isCode = codes1 := rfl
theorem w_codes : ∀ c ∈ words1.filter isCode, c.before args0 about1 = true := by
  rw [codes_eq]
  intro c hc
  simp only [codes1, List.mem_cons, List.not_mem_nil, or_false] at hc
  rcases hc with rfl | rfl | rfl
  · exact w_c0
  · exact w_c1
  · exact w_c2
set_option maxRecDepth 65536 in
theorem w_t1 : words1.all (fun c => isCode c || c.before args0 about1) = true := by decide +kernel
theorem w_tables : (allAtoms (Jvm.Cond.code x code maxLocals ret :: tables_1)).before args0 about1 = true := by
  rw [allAtoms_all]
  show words1.all (fun c => c.before args0 about1) = true
  refine all_split ?_ w_codes
  rw [w_t1]
set_option maxRecDepth 65536 in
theorem w_case : (Jvm.Cond.and given_1 narrow_1).before args0 about1 = true := by decide +kernel
theorem w_applies : (headSpec (Jvm.Cond.code x code maxLocals ret :: tables_1) room_1).applies x e0.platform about1 = true :=
  (Spec.applies_iff w_frames).mpr ⟨w_running, w_runnable, w_alone, w_named, w_hears, w_ripe, w_room, w_tables⟩
theorem atStart : AtStart classFile x code maxLocals ret World_1 tables_1 room_1 Calls_1 rest_1 Pre_1 launch0 p0 e0 about1 theMethod args0 below0 :=
  ⟨lists_1, trivial, launch0.admits_env _ _ _, launch0.least_env, fairChoices_fair.cas, fairChoices_fair.clock, w_frames, w_args, w_heap, w_applies, trivial, trivial, w_case⟩
end start1
theorem witness_1 : WitnessClaimed_1 := ⟨start1.p0, start1.e0, start1.about1, start1.theMethod, start1.args0, start1.below0, start1.atStart⟩
end Jvm.Pilot.@@N@@
