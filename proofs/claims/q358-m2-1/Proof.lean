import JvmDerived
import JvmDerived.Pilot.@@N@@Statement
import JvmDerived.Pilot.@@N@@Code
set_option linter.unusedVariables false
set_option linter.unusedSimpArgs false
namespace Jvm.RoadKit
open Sem ClassFile Op Lib Jvm.Stand Jvm.Free Jvm.LawKit
section OwnGo
variable {p : Program} {l : Launch} {e : Env} {R : Room} {s : State} {m : MethodId} {args : Array Value} {below : List Frame} {meth : Method} {c : Code} {T T' : State} {locs : List Loc} {cells slots ck sk : Nat} {Q : Option Value → Heap → List Loc → Prop}
/-- from the state T the body comes to its end, with Q -/
def Go (p : Program) (e : Env) (below : List Frame) (s : State) (ck sk : Nat) (Q : Option Value → Heap → List Loc → Prop) (T : State) : Prop :=
  ∃ s₂ o, Steps p.tables e below T s₂ ∧ s₂.status = .running ∧ Ended s₂ below o ∧ ∃ v L, o = .returned v ∧ Q v s₂.heap L ∧ FrameEnd s o s₂ L ck sk
theorem Go.by (h : ∀ t, Steps p.tables e below T' t → Steps p.tables e below T t) (g : Go p e below s ck sk Q T') : Go p e below s ck sk Q T := by
  obtain ⟨s₂, o, h1, r⟩ := g
  exact ⟨s₂, o, h _ h1, r⟩
theorem Go.tr (h : Steps p.tables e below T T') (g : Go p e below s ck sk Q T') : Go p e below s ck sk Q T := by
  obtain ⟨s₂, o, h1, r⟩ := g
  exact ⟨s₂, o, h.trans h1, r⟩
theorem Go.fin (X : Stand p l e R s m args below meth c T locs cells slots) {v : Option Value} (hv : meth.sig.returnType = none → v = none) (hlk : meth.locks = false)
    (st : ∀ fs : List Frame, (∀ (f : JFrame) (acts : List Action), f.method = m → f.locked = none → f.entered = [] → (doReturn e (T.setTop f) acts v).1 = T.setFrames fs) → Steps p.tables e below T' (T.setFrames fs))
    (hq : Q v T.heap locs) (hc : cells ≤ ck) (hs : slots ≤ sk) : Go p e below s ck sk Q T' := by
  obtain ⟨fs, hr, hrun, hended, hW, hsame⟩ := X.leave hv hlk
  exact ⟨_, _, st fs hr, hrun, hended, _, _, rfl, hq, ⟨_, rfl⟩, hW, hsame.mono hc hs⟩
theorem Go.retV (X : Stand p l e R s m args below meth c T locs cells slots) (hx : p.tables.exec = Jvm.exec) {pc : Nat} {Ls : Array Slot} (hret : meth.sig.returnType = none) (hlk : meth.locks = false) (hd : decode c.code pc = .ok (.return_, 1))
    (hq : Q none T.heap locs) (hc : cells ≤ ck) (hs : slots ≤ sk) : Go p e below s ck sk Q (T.setTop (mkF m pc Ls [])) :=
  Go.fin X (fun _ => rfl) hlk (fun fs hr => X.returnOut hx hret hd hr) hq hc hs
theorem Go.retN (X : Stand p l e R s m args below meth c T locs cells slots) (hx : p.tables.exec = Jvm.exec) {pc : Nat} {Ls : Array Slot} {z : Int32} {t : FieldType} {rest : List Value} (hret : meth.sig.returnType = some t) (ht : t = .boolean ∨ t = .byte ∨ t = .char ∨ t = .short) (hlk : meth.locks = false) (hd : decode c.code pc = .ok (.ireturn, 1))
    (hq : Q (some (.int (nar t z))) T.heap locs) (hc : cells ≤ ck) (hs : slots ≤ sk) : Go p e below s ck sk Q (T.setTop (mkF m pc Ls (.int z :: rest))) :=
  Go.fin X (fun h => by rw [hret] at h; cases h) hlk (fun fs hr => Jvm.RoadKit.retN X hx hret ht hd hr) hq hc hs
theorem Go.retI (X : Stand p l e R s m args below meth c T locs cells slots) (hx : p.tables.exec = Jvm.exec) {pc : Nat} {Ls : Array Slot} {z : Int32} {rest : List Value} (hret : meth.sig.returnType = some .int) (hlk : meth.locks = false) (hd : decode c.code pc = .ok (.ireturn, 1))
    (hq : Q (some (.int z)) T.heap locs) (hc : cells ≤ ck) (hs : slots ≤ sk) : Go p e below s ck sk Q (T.setTop (mkF m pc Ls (.int z :: rest))) :=
  Go.fin X (fun h => by rw [hret] at h; cases h) hlk (fun fs hr => retOut X hx hret rfl (Or.inl ⟨rfl, Or.inl rfl, z, rfl⟩) hd hr) hq hc hs
theorem Go.retJ (X : Stand p l e R s m args below meth c T locs cells slots) (hx : p.tables.exec = Jvm.exec) {pc : Nat} {Ls : Array Slot} {z : Int64} {rest : List Value} (hret : meth.sig.returnType = some .long) (hlk : meth.locks = false) (hd : decode c.code pc = .ok (.lreturn, 1))
    (hq : Q (some (.long z)) T.heap locs) (hc : cells ≤ ck) (hs : slots ≤ sk) : Go p e below s ck sk Q (T.setTop (mkF m pc Ls (.long z :: rest))) :=
  Go.fin X (fun h => by rw [hret] at h; cases h) hlk (fun fs hr => retOut X hx hret rfl (Or.inr (Or.inl ⟨rfl, rfl, z, rfl⟩)) hd hr) hq hc hs
theorem Go.retR (X : Stand p l e R s m args below meth c T locs cells slots) (hx : p.tables.exec = Jvm.exec) {pc : Nat} {Ls : Array Slot} {w : Value} {t : FieldType} {rest : List Value} (hret : meth.sig.returnType = some t) (ht : t.isReference = true) (hw : w.isRef = true) (hlk : meth.locks = false) (hd : decode c.code pc = .ok (.areturn, 1))
    (hq : Q (some w) T.heap locs) (hc : cells ≤ ck) (hs : slots ≤ sk) : Go p e below s ck sk Q (T.setTop (mkF m pc Ls (w :: rest))) := by
  refine Go.fin X (fun h => by rw [hret] at h; cases h) hlk (fun fs hr => retOut X hx hret ?_ (Or.inr (Or.inr (Or.inr (Or.inr ⟨rfl, ht, hw⟩)))) hd hr) hq hc hs
  rcases ref_cases hw with rfl | ⟨a, rfl⟩ <;> cases t <;> first | rfl | cases ht
/-- the same where Strings may be interned on the way -/
def GoW (p : Program) (e : Env) (below : List Frame) (s : State) (ck sk : Nat) (Q : Option Value → Heap → List Loc → Prop) (T : State) : Prop :=
  ∃ s₂ o, Steps p.tables e below T s₂ ∧ s₂.status = .running ∧ Ended s₂ below o ∧ ∃ v L, o = .returned v ∧ Q v s₂.heap L ∧ ReturnedEndW s o s₂ L ck sk
theorem GoW.by (h : ∀ t, Steps p.tables e below T' t → Steps p.tables e below T t) (g : GoW p e below s ck sk Q T') : GoW p e below s ck sk Q T := by
  obtain ⟨s₂, o, h1, r⟩ := g
  exact ⟨s₂, o, h _ h1, r⟩
theorem GoW.tr (h : Steps p.tables e below T T') (g : GoW p e below s ck sk Q T') : GoW p e below s ck sk Q T := by
  obtain ⟨s₂, o, h1, r⟩ := g
  exact ⟨s₂, o, h.trans h1, r⟩
theorem GoW.fin {vm1 : Vm} {k1 : Nat} (X : Stand p l e R (s.setVm vm1) m args below meth c T locs cells slots) (hS : s.Since vm1 k1) (hk : k1 ≤ T.heap.size) {v : Option Value} (hv : meth.sig.returnType = none → v = none) (hlk : meth.locks = false)
    (st : ∀ fs : List Frame, (∀ (f : JFrame) (acts : List Action), f.method = m → f.locked = none → f.entered = [] → (doReturn e (T.setTop f) acts v).1 = T.setFrames fs) → Steps p.tables e below T' (T.setFrames fs))
    (hq : Q v T.heap locs) (hc : cells ≤ ck) (hs : slots ≤ sk) : GoW p e below s ck sk Q T' := by
  obtain ⟨fs, hr, hrun, hended, hW, hsame⟩ := X.leave hv hlk
  obtain ⟨q1, q2, q3⟩ := hS.ended (U := T.setFrames fs) hW hk hsame
  exact ⟨_, _, st fs hr, hrun, hended, _, _, rfl, hq, ⟨_, rfl⟩, q1, q2, q3.mono hc hs⟩
theorem GoW.retV {vm1 : Vm} {k1 : Nat} (X : Stand p l e R (s.setVm vm1) m args below meth c T locs cells slots) (hS : s.Since vm1 k1) (hk : k1 ≤ T.heap.size) (hx : p.tables.exec = Jvm.exec) {pc : Nat} {Ls : Array Slot} (hret : meth.sig.returnType = none) (hlk : meth.locks = false) (hd : decode c.code pc = .ok (.return_, 1))
    (hq : Q none T.heap locs) (hc : cells ≤ ck) (hs : slots ≤ sk) : GoW p e below s ck sk Q (T.setTop (mkF m pc Ls [])) :=
  GoW.fin X hS hk (fun _ => rfl) hlk (fun fs hr => X.returnOut hx hret hd hr) hq hc hs
theorem GoW.retN {vm1 : Vm} {k1 : Nat} (X : Stand p l e R (s.setVm vm1) m args below meth c T locs cells slots) (hS : s.Since vm1 k1) (hk : k1 ≤ T.heap.size) (hx : p.tables.exec = Jvm.exec) {pc : Nat} {Ls : Array Slot} {z : Int32} {t : FieldType} {rest : List Value} (hret : meth.sig.returnType = some t) (ht : t = .boolean ∨ t = .byte ∨ t = .char ∨ t = .short) (hlk : meth.locks = false) (hd : decode c.code pc = .ok (.ireturn, 1))
    (hq : Q (some (.int (nar t z))) T.heap locs) (hc : cells ≤ ck) (hs : slots ≤ sk) : GoW p e below s ck sk Q (T.setTop (mkF m pc Ls (.int z :: rest))) :=
  GoW.fin X hS hk (fun h => by rw [hret] at h; cases h) hlk (fun fs hr => Jvm.RoadKit.retN X hx hret ht hd hr) hq hc hs
theorem GoW.retR {vm1 : Vm} {k1 : Nat} (X : Stand p l e R (s.setVm vm1) m args below meth c T locs cells slots) (hS : s.Since vm1 k1) (hk : k1 ≤ T.heap.size) (hx : p.tables.exec = Jvm.exec) {pc : Nat} {Ls : Array Slot} {w : Value} {t : FieldType} {rest : List Value} (hret : meth.sig.returnType = some t) (ht : t.isReference = true) (hw : w.isRef = true) (hlk : meth.locks = false) (hd : decode c.code pc = .ok (.areturn, 1))
    (hq : Q (some w) T.heap locs) (hc : cells ≤ ck) (hs : slots ≤ sk) : GoW p e below s ck sk Q (T.setTop (mkF m pc Ls (w :: rest))) := by
  refine GoW.fin X hS hk (fun h => by rw [hret] at h; cases h) hlk (fun fs hr => retOut X hx hret ?_ (Or.inr (Or.inr (Or.inr (Or.inr ⟨rfl, ht, hw⟩)))) hd hr) hq hc hs
  rcases ref_cases hw with rfl | ⟨a, rfl⟩ <;> cases t <;> first | rfl | cases ht
end OwnGo
theorem own_selp {Z s : State} {a0 args : Array Value} {y : MethodName} {n : Nat} (hZ : Z.Warmed39 s.vm) (wi : (Cond.instantiable y.cls n).before a0 Z = true) (wp : (Cond.privateMethod y).before a0 Z = true) (wm : (Cond.instanceMethod y).before a0 Z = true) (hy : y.cls ≠ "java/lang/invoke/MethodHandle" ∧ y.cls ≠ "java/lang/invoke/VarHandle") : (Cond.selects y.cls y y).before args s = true := by
  obtain ⟨c, k, h1, h2, -, h4, -⟩ := Cond.instantiable_spec (mv (args := args) hZ wi)
  exact selects_self_of_private h1 h2 (by simpa using (Bool.or_eq_false_iff.mp h4).1) (Cond.privateMethod_at (mvP (args := args) hZ wp)) (mv hZ wm) hy
theorem own_zn {z : Int32} (h : z = (0 : Int32) ∨ z = (1 : Int32)) : narrow .boolean (.int z) = .int z := by rcases h with rfl | rfl <;> rfl
theorem own_zf {z : Int32} (h : z = (0 : Int32) ∨ z = (1 : Int32)) : fits .boolean (.int z) = true := by rcases h with rfl | rfl <;> rfl
theorem own_ns {Z : State} {h : Heap} {b : Addr} {C : String} (E : Exa Z h b C) : ∀ cell : Cell, h[b]? = some cell → cell.vm.isStatics = false := fun cell hc => by
  obtain ⟨c, _, h1, -, -, h4, -⟩ := E
  cases h1.symm.trans hc
  exact h4
theorem own_stakeep {Z : State} {h h' : Heap} {C n d : String} {v : Value} {ws : List Addr} (F : Sta Z h C n d v) (K : Keep h h' ws) (q : ∀ x ∈ ws, ∀ cell : Cell, h[x]? = some cell → cell.vm.isStatics = false) : Sta Z h' C n d v := by
  obtain ⟨cf, i, k, f, st, cell, h1, h2, h3, h4, h5, h6, h7⟩ := F
  refine ⟨cf, i, k, f, st, cell, h1, h2, h3, h4, K.2.1 st cell h5 fun z => ?_, h6, h7⟩
  rw [q st z cell h5] at h6
  cases h6
section OwnLong
variable {Z : State} {h h' : Heap} {a b : Addr} {k : ClassId} {n j : Int32} {x : Int64} {ws : List Addr} {sl : Nat} {v : Value}
/-- a long[] of the length n, whatever it holds -/
def LA (Z : State) (h : Heap) (a : Addr) (k : ClassId) (n : Int32) : Prop := ∃ c : Cell, Arr Z h a c .long ∧ c.cls = k ∧ c.slots.size = n.toNatClampNeg ∧ ¬ n < 0 ∧ ∀ i, i < c.slots.size → ∃ x : Int64, c.slots[i]? = some (.long x)
theorem LA.lt (F : LA Z h a k n) : a < h.size := by obtain ⟨c, A, -⟩ := F; exact A.lt
theorem LA.ext (F : LA Z h a k n) (E : Ext h h') : LA Z h' a k n := by obtain ⟨c, A, r⟩ := F; exact ⟨c, A.ext E, r⟩
theorem LA.other (F : LA Z h b k n) (W : Wr h h' a sl v) (q : b ≠ a) : LA Z h' b k n := by obtain ⟨c, A, r⟩ := F; exact ⟨c, A.other W q, r⟩
theorem LA.keep (F : LA Z h a k n) (K : Keep h h' ws) (q : a ∉ ws) : LA Z h' a k n := by obtain ⟨c, A, r⟩ := F; exact ⟨c, ⟨K.2.1 a c A.1 q, A.2⟩, r⟩
theorem LA.new (A : Arr Z h a (newA k .long n) .long) (q : ¬ n < 0) : LA Z h a k n := ⟨_, A, rfl, sz_new _ _ _, q, fun i hi => ⟨0, by
  have hi' : i < n.toNatClampNeg := by rw [sz_new] at hi; exact hi
  show (Array.replicate n.toNatClampNeg (defaultValue .long))[i]? = _
  simp [hi', defaultValue]⟩⟩
theorem LA.set {c : Cell} (A : Arr Z h a c .long) (q1 : c.cls = k) (S : c.slots.size = n.toNatClampNeg) (q3 : ¬ n < 0) (G : ∀ i, i < c.slots.size → ∃ x : Int64, c.slots[i]? = some (.long x)) (W : Wr h h' a sl (.long x)) : LA Z h' a k n := by
  refine ⟨_, A.same W, q1, by rw [sz_set]; exact S, q3, fun i hi => ?_⟩
  rw [sz_set] at hi
  by_cases e : sl = i
  · subst e; exact ⟨x, by simp [Cell.setSlot, hi]⟩
  · obtain ⟨y, hy⟩ := G i hi
    exact ⟨y, by rw [← hy]; exact Array.getElem?_setIfInBounds_ne e⟩
end OwnLong
section OwnStart
variable {args : Array Value} {s : State} {a b t : Term}
theorem own_eqI {n : Int32} (h : (Cond.eq a (.int n)).value args s none s [] = some true) : a.eval args s none [] s = some (.int n) := by
  cases ha : a.eval args s none [] s with
  | none => simp [Cond.value, ha] at h
  | some x => cases x <;> simp [Cond.value, ha, Term.eval] at h ⊢ <;> exact h
theorem own_eqL {n : Int64} (h : (Cond.eq a (.long n)).value args s none s [] = some true) : a.eval args s none [] s = some (.long n) := by
  cases ha : a.eval args s none [] s with
  | none => simp [Cond.value, ha] at h
  | some x => cases x <;> simp [Cond.value, ha, Term.eval] at h ⊢ <;> exact h
theorem own_eqR {x : Addr} (h : (Cond.eq a b).value args s none s [] = some true) (hb : b.eval args s none [] s = some (.ref x)) : a.eval args s none [] s = some (.ref x) := by
  cases ha : a.eval args s none [] s with
  | none => simp [Cond.value, ha] at h
  | some y => cases y <;> simp [Cond.value, ha, hb] at h ⊢ <;> exact h
theorem own_neR {x y : Addr} (h : (Cond.not (Cond.eq a b)).value args s none s [] = some true) (ha : a.eval args s none [] s = some (.ref x)) (hb : b.eval args s none [] s = some (.ref y)) : x ≠ y := by
  intro e
  subst e
  simp [Cond.value, ha, hb] at h
theorem own_lenv {n : Int32} {x : Addr} {cl : Cell} (h : (Term.length t).eval args s none [] s = some (.int n)) (ht : t.eval args s none [] s = some (.ref x)) (hc : s.heap[x]? = some cl) : cl.slots.size < 2 ^ 31 ∧ cl.slots.size.toInt32 = n := by
  obtain ⟨a', cell, e1, e2, e3⟩ := Term.length_spec h
  cases ht.symm.trans e1
  have hcl : cell = cl := by
    simp only [State.arrayAt?, hc, Option.bind_eq_bind, Option.bind_some] at e2
    cases hk : s.vm.classes[cl.cls]? with
    | none => simp [hk] at e2
    | some k =>
      simp only [hk, Option.bind_some] at e2
      split at e2
      · cases e2
      · split at e2
        · exact (Option.some.inj e2).symm
        · cases e2
  subst hcl
  refine ⟨?_, (Value.int.inj e3).symm⟩
  simp only [Term.eval, ht, e2, Option.bind_eq_bind, Option.bind_some] at h
  split at h
  · assumption
  · cases h
end OwnStart
end Jvm.RoadKit
namespace Jvm.Pilot.@@N@@
open Jvm Jvm.ClassFile Sem Op Lib Jvm.Free Jvm.Stand Jvm.LawKit Jvm.RoadKit Bundle Jvm.Pilot.@@N@@.Jvm.D
theorem own_m6 (a : Int32) : (a &&& (2147483647 : Int32)) % (6 : Int32) = 0 ∨ (a &&& (2147483647 : Int32)) % (6 : Int32) = 1 ∨ (a &&& (2147483647 : Int32)) % (6 : Int32) = 2 ∨ (a &&& (2147483647 : Int32)) % (6 : Int32) = 3 ∨ (a &&& (2147483647 : Int32)) % (6 : Int32) = 4 ∨ (a &&& (2147483647 : Int32)) % (6 : Int32) = 5 := by
  have h1 := c_mask a 2147483647 31 (by decide) (by decide)
  have h2 := (c_irem (a &&& 2147483647) 6 6 (by decide)).1 (by rw [h1]; omega)
  simp only [← Int32.toInt_inj, h2]
  have e0 : (0 : Int32).toInt = 0 := by decide
  have e1 : (1 : Int32).toInt = 1 := by decide
  have e2 : (2 : Int32).toInt = 2 := by decide
  have e3 : (3 : Int32).toInt = 3 := by decide
  have e4 : (4 : Int32).toInt = 4 := by decide
  have e5 : (5 : Int32).toInt = 5 := by decide
  rw [e0, e1, e2, e3, e4, e5]; omega

theorem dN0_0 : decode prog_27_method_10_code 0 = .ok (.aload_n 0, 1) := by decide +kernel
theorem dN0_1 : decode prog_27_method_10_code 1 = .ok (.arraylength, 1) := by decide +kernel
theorem dN0_2 : decode prog_27_method_10_code 2 = .ok (.newarray .long, 2) := by decide +kernel
theorem dN0_4 : decode prog_27_method_10_code 4 = .ok (.astore_n 1, 1) := by decide +kernel
theorem dN0_5 : decode prog_27_method_10_code 5 = .ok (.iconst 0, 1) := by decide +kernel
theorem dN0_6 : decode prog_27_method_10_code 6 = .ok (.istore_n 2, 1) := by decide +kernel
theorem dN0_7 : decode prog_27_method_10_code 7 = .ok (.iload_n 2, 1) := by decide +kernel
theorem dN0_8 : decode prog_27_method_10_code 8 = .ok (.aload_n 0, 1) := by decide +kernel
theorem dN0_9 : decode prog_27_method_10_code 9 = .ok (.arraylength, 1) := by decide +kernel
theorem dN0_10 : decode prog_27_method_10_code 10 = .ok (.if_icmp .ge 16, 3) := by decide +kernel
theorem dN0_26 : decode prog_27_method_10_code 26 = .ok (.aload_n 1, 1) := by decide +kernel
theorem dN0_27 : decode prog_27_method_10_code 27 = .ok (.areturn, 1) := by decide +kernel
theorem pnN0 : plainName "com/example/runs_to_nets/runstonets/core/PlaceTransitionSynthesis" = true := by first | (simp [plainName, overriddenIn]; done) | decide +kernel
theorem efN0 (m : MethodId) (a : Addr) : entryFrame m #[(.ref a)] 3 = mkF m 0 #[.val (.ref a), .unset, .unset] [] := by first | (simp [entryFrame, mkF, argsToLocals, Value.category]; done) | rfl
def QN0 (Z : State) (a : Addr) (kc_a : ClassId) (h0 : Heap) (n0 : Nat) (v : Option Value) (h : Heap) (L : List Loc) : Prop := ∃ b102 : Addr, ∃ k102 : ClassId, (v = some (.ref b102) ∧ Fr n0 L ∧ Keep h0 h [] ∧ n0 ≤ b102 ∧ h0.size ≤ b102 ∧ Arv Z h b102 k102 .long (0 : Int32) [] (.long (0 : Int64)))
set_option maxRecDepth 65536 in
set_option maxHeartbeats 40000000 in
theorem rmN0 (l : Launch) (Z : State) (a0 : Array Value) (hw : ∀ d ∈ tables_1, d.before a0 Z = true) (ws : List Jvm.Cond) (a : Addr) (kc_a : ClassId) (h0 : Heap) (n0 : Nat) (Z0 : n0 ≤ h0.size) (V0_a : Arv Z h0 a kc_a .long (0 : Int32) [] (.long (0 : Int64))) :
    MetFree l (⟨"com/example/runs_to_nets/runstonets/core/PlaceTransitionSynthesis", "negated", "([J)[J"⟩ : MethodName) (head1 (Jvm.Cond.code (⟨"com/example/runs_to_nets/runstonets/core/PlaceTransitionSynthesis", "negated", "([J)[J"⟩ : MethodName) prog_27_method_10_code 3 (some (.array .long)) :: ws) ({ frames := 0, cells := 1, slots := 0, locals := 0 } : Room)) (fun aa_ U_ => aa_ = #[(.ref a)] ∧ Z.Warmed39 U_.vm ∧ U_.heap = h0) (fun _ _ _ _ _ => True) (fun _ U_ o_ V_ => ∃ v_ L_, o_ = .returned v_ ∧ QN0 Z a kc_a h0 n0 v_ V_.heap L_ ∧ FrameEnd U_ o_ V_ L_ ({ frames := 0, cells := 1, slots := 0, locals := 0 } : Room).cells ({ frames := 0, cells := 1, slots := 0, locals := 0 } : Room).slots) := by
  refine MetFree.of_bodySF (plainFor_of_name pnN0) hisR ?_
  intro p e s m args below meth c s₁ Bd hml0 hP hK
  obtain ⟨rfl, hZ, hh⟩ := hP
  have hx := Bd.exec
  have hby := Bd.bytes
  have hml : c.maxLocals = 3 := hml0
  have hown : s.vm.findClass "com/example/runs_to_nets/runstonets/core/PlaceTransitionSynthesis" = some m.cls := findClass_of_methodNamed Bd.named
  have hnm := (name_of_methodNamed Bd.named Bd.method).1
  have hlk : meth.locks = false := BodyLoose.notSynchronized Bd
  have hret : meth.sig.returnType = (some (.array .long)) := Bd.returns
  have X0 : Stand p l e ({ frames := 0, cells := 1, slots := 0, locals := 0 } : Room) s m #[(.ref a)] below meth c s₁ [] 0 0 := Stand.of_body Bd
  have e0 : s₁.heap = h0 := by rw [← hh, Bd.state]; rfl
  have N0 := Fr.nil n0
  show Go p e below s ({ frames := 0, cells := 1, slots := 0, locals := 0 } : Room).cells ({ frames := 0, cells := 1, slots := 0, locals := 0 } : Room).slots (QN0 Z a kc_a h0 n0) (s₁.setTop (entryFrame m #[(.ref a)] 3))
  rw [efN0]
  refine Go.by (fun _ kont => XS.aloadN X0.here hx rfl (hb hby dN0_0) rfl rfl kont) ?_
  show Go _ _ _ _ _ _ _ (s₁.setTop (mkF m 1 #[.val (.ref a), .unset, .unset] [(.ref a)]))
  obtain ⟨cl_q101, Ar_q101, q1_q101, S_q101, N_q101, H_q101, G_q101⟩ := id V0_a
  refine Go.by (X0.arraylength hx (by first | exact Ar_q101.1 | (rw [e0]; exact Ar_q101.1)) (State.isArrayOf_alike hZ.alike Ar_q101.2.1) (g := (mkF m 1 #[.val (.ref a), .unset, .unset] [(.ref a)])) rfl rfl (hb hby dN0_1)) ?_
  rw [len_of S_q101 N_q101]
  show Go _ _ _ _ _ _ _ (s₁.setTop (mkF m 2 #[.val (.ref a), .unset, .unset] [(.int (0 : Int32))]))
  obtain ⟨T102, h102, k102, X102, e102, X_102, A102, st102⟩ := newP X0 hx hZ (hw _ (List.mem_of_getElem? (i := 1) rfl)) e0 (g := (mkF m 2 #[.val (.ref a), .unset, .unset] [(.int (0 : Int32))])) rfl (hb hby dN0_2) rfl (by decide) (cap := 0) (by decide) (by decide) (by decide) (by decide)
  obtain ⟨b102, g102⟩ : ∃ z, z = h0.size := ⟨_, rfl⟩
  rw [← g102] at A102 st102
  have ne_a_b102 : a ≠ b102 := Nat.ne_of_lt (Nat.lt_of_lt_of_le V0_a.lt (Nat.le_of_eq g102.symm))
  have ge_b102 : n0 ≤ b102 := Nat.le_trans Z0 (Nat.le_of_eq g102.symm)
  have sz_b102 : h0.size ≤ b102 := Nat.le_trans (Keep.refl h0 []).1 (Nat.le_of_eq g102.symm)
  have V103_a := V0_a.ext X_102
  have Z103 := Nat.le_trans Z0 X_102.1
  have K103 : Keep h0 h102 [] := (Keep.refl h0 []).ext X_102
  have V102 : Arv Z h102 b102 k102 .long (0 : Int32) [] (.long (0 : Int64)) := (Arv.new A102 (by decide)).pad (pad_rep [] (.long (0 : Int64)) 0)
  refine Go.by st102 ?_
  show Go _ _ _ _ _ _ _ (T102.setTop (mkF m 4 #[.val (.ref a), .unset, .unset] [(.ref b102)]))
  refine Go.by (fun _ kont => XS.astoreN X102.here hx rfl (hb hby dN0_4) rfl rfl (l' := #[.val (.ref a), .val (.ref b102), .unset]) rfl (XS.iconst X102.here hx rfl (hb hby dN0_5) (XS.istoreN X102.here hx rfl (hb hby dN0_6) rfl (l' := #[.val (.ref a), .val (.ref b102), .val (.int (0 : Int32))]) rfl (XS.iloadN X102.here hx rfl (hb hby dN0_7) rfl (XS.aloadN X102.here hx rfl (hb hby dN0_8) rfl rfl kont))))) ?_
  show Go _ _ _ _ _ _ _ (T102.setTop (mkF m 9 #[.val (.ref a), .val (.ref b102), .val (.int (0 : Int32))] [(.ref a), (.int (0 : Int32))]))
  obtain ⟨cl_q104, Ar_q104, q1_q104, S_q104, N_q104, H_q104, G_q104⟩ := id V103_a
  refine Go.by (X102.arraylength hx (by first | exact Ar_q104.1 | (rw [e102]; exact Ar_q104.1)) (State.isArrayOf_alike hZ.alike Ar_q104.2.1) (g := (mkF m 9 #[.val (.ref a), .val (.ref b102), .val (.int (0 : Int32))] [(.ref a), (.int (0 : Int32))])) rfl rfl (hb hby dN0_9)) ?_
  rw [len_of S_q104 N_q104]
  show Go _ _ _ _ _ _ _ (T102.setTop (mkF m 10 #[.val (.ref a), .val (.ref b102), .val (.int (0 : Int32))] [(.int (0 : Int32)), (.int (0 : Int32))]))
  refine Go.by (fun _ kont => XS.icmpYes X102.here hx rfl (pc0 := 10) (pc' := 26) rfl (hb hby dN0_10) rfl (by decide) (by decide) (by decide) kont) ?_
  show Go _ _ _ _ _ _ _ (T102.setTop (mkF m 26 #[.val (.ref a), .val (.ref b102), .val (.int (0 : Int32))] []))
  refine Go.by (fun _ kont => XS.aloadN X102.here hx rfl (hb hby dN0_26) rfl rfl kont) ?_
  show Go _ _ _ _ _ _ _ (T102.setTop (mkF m 27 #[.val (.ref a), .val (.ref b102), .val (.int (0 : Int32))] [(.ref b102)]))
  refine Go.retR X102 hx hret rfl rfl hlk (hb hby dN0_27) ?_ (by decide) (by decide)
  show QN0 Z a kc_a h0 n0 (some (.ref b102)) T102.heap _
  rw [e102]
  exact ⟨b102, k102, rfl, N0, K103, ge_b102, sz_b102, V102⟩

theorem dK00_0 : decode method_3_code 0 = .ok (.iload_n 3, 1) := by decide +kernel
theorem dK00_1 : decode method_3_code 1 = .ok (.iload 4, 2) := by decide +kernel
theorem dK00_3 : decode method_3_code 3 = .ok (.if_icmp .lt 5, 3) := by decide +kernel
theorem dK00_6 : decode method_3_code 6 = .ok (.iconst 1, 1) := by decide +kernel
theorem dK00_7 : decode method_3_code 7 = .ok (.ireturn, 1) := by decide +kernel
theorem pnK00 : plainName "com/example/runs_to_nets/runstonets/core/PlaceTransitionSynthesisNegatedPinLaw" = true := by first | (simp [plainName, overriddenIn]; done) | decide +kernel
theorem efK00 (m : MethodId) (a : Addr) (b : Addr) (d : Addr) : entryFrame m #[(.ref a), (.ref b), (.ref d), (.int (0 : Int32)), (.int (0 : Int32))] 5 = mkF m 0 #[.val (.ref a), .val (.ref b), .val (.ref d), .val (.int (0 : Int32)), .val (.int (0 : Int32))] [] := by first | (simp [entryFrame, mkF, argsToLocals, Value.category]; done) | rfl
def QK00 (Z : State) (a : Addr) (b : Addr) (d : Addr) (h0 : Heap) (n0 : Nat) (v : Option Value) (h : Heap) (L : List Loc) : Prop := (v = some (.int (1 : Int32)) ∧ Fr n0 L ∧ h = h0)
set_option maxRecDepth 65536 in
set_option maxHeartbeats 40000000 in
theorem rmK00 (l : Launch) (Z : State) (a0 : Array Value) (hw : ∀ d ∈ tables_1, d.before a0 Z = true) (ws : List Jvm.Cond) (a : Addr) (b : Addr) (d : Addr) (h0 : Heap) (n0 : Nat) (Z0 : n0 ≤ h0.size) :
    MetFree l (⟨"com/example/runs_to_nets/runstonets/core/PlaceTransitionSynthesisNegatedPinLaw", "ok", "([J[J[JII)Z"⟩ : MethodName) (head1 (Jvm.Cond.code (⟨"com/example/runs_to_nets/runstonets/core/PlaceTransitionSynthesisNegatedPinLaw", "ok", "([J[J[JII)Z"⟩ : MethodName) method_3_code 5 (some .boolean) :: ws) ({ frames := 0, cells := 0, slots := 0, locals := 0 } : Room)) (fun aa_ U_ => aa_ = #[(.ref a), (.ref b), (.ref d), (.int (0 : Int32)), (.int (0 : Int32))] ∧ Z.Warmed39 U_.vm ∧ U_.heap = h0) (fun _ _ _ _ _ => True) (fun _ U_ o_ V_ => ∃ v_ L_, o_ = .returned v_ ∧ QK00 Z a b d h0 n0 v_ V_.heap L_ ∧ FrameEnd U_ o_ V_ L_ ({ frames := 0, cells := 0, slots := 0, locals := 0 } : Room).cells ({ frames := 0, cells := 0, slots := 0, locals := 0 } : Room).slots) := by
  refine MetFree.of_bodySF (plainFor_of_name pnK00) hisR ?_
  intro p e s m args below meth c s₁ Bd hml0 hP hK
  obtain ⟨rfl, hZ, hh⟩ := hP
  have hx := Bd.exec
  have hby := Bd.bytes
  have hml : c.maxLocals = 5 := hml0
  have hown : s.vm.findClass "com/example/runs_to_nets/runstonets/core/PlaceTransitionSynthesisNegatedPinLaw" = some m.cls := findClass_of_methodNamed Bd.named
  have hnm := (name_of_methodNamed Bd.named Bd.method).1
  have hlk : meth.locks = false := BodyLoose.notSynchronized Bd
  have hret : meth.sig.returnType = (some .boolean) := Bd.returns
  have X0 : Stand p l e ({ frames := 0, cells := 0, slots := 0, locals := 0 } : Room) s m #[(.ref a), (.ref b), (.ref d), (.int (0 : Int32)), (.int (0 : Int32))] below meth c s₁ [] 0 0 := Stand.of_body Bd
  have e0 : s₁.heap = h0 := by rw [← hh, Bd.state]; rfl
  have N0 := Fr.nil n0
  show Go p e below s ({ frames := 0, cells := 0, slots := 0, locals := 0 } : Room).cells ({ frames := 0, cells := 0, slots := 0, locals := 0 } : Room).slots (QK00 Z a b d h0 n0) (s₁.setTop (entryFrame m #[(.ref a), (.ref b), (.ref d), (.int (0 : Int32)), (.int (0 : Int32))] 5))
  rw [efK00]
  refine Go.by (fun _ kont => XS.iloadN X0.here hx rfl (hb hby dK00_0) rfl (XS.iload X0.here hx rfl (hb hby dK00_1) rfl kont)) ?_
  show Go _ _ _ _ _ _ _ (s₁.setTop (mkF m 3 #[.val (.ref a), .val (.ref b), .val (.ref d), .val (.int (0 : Int32)), .val (.int (0 : Int32))] [(.int (0 : Int32)), (.int (0 : Int32))]))
  refine Go.by (fun _ kont => XS.icmpNo X0.here hx rfl (hb hby dK00_3) rfl (by decide) kont) ?_
  show Go _ _ _ _ _ _ _ (s₁.setTop (mkF m 6 #[.val (.ref a), .val (.ref b), .val (.ref d), .val (.int (0 : Int32)), .val (.int (0 : Int32))] []))
  refine Go.by (fun _ kont => XS.iconst X0.here hx rfl (hb hby dK00_6) kont) ?_
  show Go _ _ _ _ _ _ _ (s₁.setTop (mkF m 7 #[.val (.ref a), .val (.ref b), .val (.ref d), .val (.int (0 : Int32)), .val (.int (0 : Int32))] [(.int (1 : Int32))]))
  refine Go.retN X0 hx (t := .boolean) hret (by simp) hlk (hb hby dK00_7) ?_ (by decide) (by decide)
  show QK00 Z a b d h0 n0 (some (.int (1 : Int32))) s₁.heap _
  rw [e0]
  exact ⟨rfl, N0, rfl⟩

theorem dK01_0 : decode method_3_code 0 = .ok (.iload_n 3, 1) := by decide +kernel
theorem dK01_1 : decode method_3_code 1 = .ok (.iload 4, 2) := by decide +kernel
theorem dK01_3 : decode method_3_code 3 = .ok (.if_icmp .lt 5, 3) := by decide +kernel
theorem dK01_6 : decode method_3_code 6 = .ok (.iconst 1, 1) := by decide +kernel
theorem dK01_7 : decode method_3_code 7 = .ok (.ireturn, 1) := by decide +kernel
theorem pnK01 : plainName "com/example/runs_to_nets/runstonets/core/PlaceTransitionSynthesisNegatedPinLaw" = true := by first | (simp [plainName, overriddenIn]; done) | decide +kernel
theorem efK01 (m : MethodId) (a : Addr) (b : Addr) (d : Addr) : entryFrame m #[(.ref a), (.ref b), (.ref d), (.int (1 : Int32)), (.int (0 : Int32))] 5 = mkF m 0 #[.val (.ref a), .val (.ref b), .val (.ref d), .val (.int (1 : Int32)), .val (.int (0 : Int32))] [] := by first | (simp [entryFrame, mkF, argsToLocals, Value.category]; done) | rfl
def QK01 (Z : State) (a : Addr) (b : Addr) (d : Addr) (h0 : Heap) (n0 : Nat) (v : Option Value) (h : Heap) (L : List Loc) : Prop := (v = some (.int (1 : Int32)) ∧ Fr n0 L ∧ h = h0)
set_option maxRecDepth 65536 in
set_option maxHeartbeats 40000000 in
theorem rmK01 (l : Launch) (Z : State) (a0 : Array Value) (hw : ∀ d ∈ tables_1, d.before a0 Z = true) (ws : List Jvm.Cond) (a : Addr) (b : Addr) (d : Addr) (h0 : Heap) (n0 : Nat) (Z0 : n0 ≤ h0.size) :
    MetFree l (⟨"com/example/runs_to_nets/runstonets/core/PlaceTransitionSynthesisNegatedPinLaw", "ok", "([J[J[JII)Z"⟩ : MethodName) (head1 (Jvm.Cond.code (⟨"com/example/runs_to_nets/runstonets/core/PlaceTransitionSynthesisNegatedPinLaw", "ok", "([J[J[JII)Z"⟩ : MethodName) method_3_code 5 (some .boolean) :: ws) ({ frames := 0, cells := 0, slots := 0, locals := 0 } : Room)) (fun aa_ U_ => aa_ = #[(.ref a), (.ref b), (.ref d), (.int (1 : Int32)), (.int (0 : Int32))] ∧ Z.Warmed39 U_.vm ∧ U_.heap = h0) (fun _ _ _ _ _ => True) (fun _ U_ o_ V_ => ∃ v_ L_, o_ = .returned v_ ∧ QK01 Z a b d h0 n0 v_ V_.heap L_ ∧ FrameEnd U_ o_ V_ L_ ({ frames := 0, cells := 0, slots := 0, locals := 0 } : Room).cells ({ frames := 0, cells := 0, slots := 0, locals := 0 } : Room).slots) := by
  refine MetFree.of_bodySF (plainFor_of_name pnK01) hisR ?_
  intro p e s m args below meth c s₁ Bd hml0 hP hK
  obtain ⟨rfl, hZ, hh⟩ := hP
  have hx := Bd.exec
  have hby := Bd.bytes
  have hml : c.maxLocals = 5 := hml0
  have hown : s.vm.findClass "com/example/runs_to_nets/runstonets/core/PlaceTransitionSynthesisNegatedPinLaw" = some m.cls := findClass_of_methodNamed Bd.named
  have hnm := (name_of_methodNamed Bd.named Bd.method).1
  have hlk : meth.locks = false := BodyLoose.notSynchronized Bd
  have hret : meth.sig.returnType = (some .boolean) := Bd.returns
  have X0 : Stand p l e ({ frames := 0, cells := 0, slots := 0, locals := 0 } : Room) s m #[(.ref a), (.ref b), (.ref d), (.int (1 : Int32)), (.int (0 : Int32))] below meth c s₁ [] 0 0 := Stand.of_body Bd
  have e0 : s₁.heap = h0 := by rw [← hh, Bd.state]; rfl
  have N0 := Fr.nil n0
  show Go p e below s ({ frames := 0, cells := 0, slots := 0, locals := 0 } : Room).cells ({ frames := 0, cells := 0, slots := 0, locals := 0 } : Room).slots (QK01 Z a b d h0 n0) (s₁.setTop (entryFrame m #[(.ref a), (.ref b), (.ref d), (.int (1 : Int32)), (.int (0 : Int32))] 5))
  rw [efK01]
  refine Go.by (fun _ kont => XS.iloadN X0.here hx rfl (hb hby dK01_0) rfl (XS.iload X0.here hx rfl (hb hby dK01_1) rfl kont)) ?_
  show Go _ _ _ _ _ _ _ (s₁.setTop (mkF m 3 #[.val (.ref a), .val (.ref b), .val (.ref d), .val (.int (1 : Int32)), .val (.int (0 : Int32))] [(.int (0 : Int32)), (.int (1 : Int32))]))
  refine Go.by (fun _ kont => XS.icmpNo X0.here hx rfl (hb hby dK01_3) rfl (by decide) kont) ?_
  show Go _ _ _ _ _ _ _ (s₁.setTop (mkF m 6 #[.val (.ref a), .val (.ref b), .val (.ref d), .val (.int (1 : Int32)), .val (.int (0 : Int32))] []))
  refine Go.by (fun _ kont => XS.iconst X0.here hx rfl (hb hby dK01_6) kont) ?_
  show Go _ _ _ _ _ _ _ (s₁.setTop (mkF m 7 #[.val (.ref a), .val (.ref b), .val (.ref d), .val (.int (1 : Int32)), .val (.int (0 : Int32))] [(.int (1 : Int32))]))
  refine Go.retN X0 hx (t := .boolean) hret (by simp) hlk (hb hby dK01_7) ?_ (by decide) (by decide)
  show QK01 Z a b d h0 n0 (some (.int (1 : Int32))) s₁.heap _
  rw [e0]
  exact ⟨rfl, N0, rfl⟩

theorem dK02_0 : decode method_3_code 0 = .ok (.iload_n 3, 1) := by decide +kernel
theorem dK02_1 : decode method_3_code 1 = .ok (.iload 4, 2) := by decide +kernel
theorem dK02_3 : decode method_3_code 3 = .ok (.if_icmp .lt 5, 3) := by decide +kernel
theorem dK02_6 : decode method_3_code 6 = .ok (.iconst 1, 1) := by decide +kernel
theorem dK02_7 : decode method_3_code 7 = .ok (.ireturn, 1) := by decide +kernel
theorem pnK02 : plainName "com/example/runs_to_nets/runstonets/core/PlaceTransitionSynthesisNegatedPinLaw" = true := by first | (simp [plainName, overriddenIn]; done) | decide +kernel
theorem efK02 (m : MethodId) (a : Addr) (b : Addr) (d : Addr) : entryFrame m #[(.ref a), (.ref b), (.ref d), (.int (2 : Int32)), (.int (0 : Int32))] 5 = mkF m 0 #[.val (.ref a), .val (.ref b), .val (.ref d), .val (.int (2 : Int32)), .val (.int (0 : Int32))] [] := by first | (simp [entryFrame, mkF, argsToLocals, Value.category]; done) | rfl
def QK02 (Z : State) (a : Addr) (b : Addr) (d : Addr) (h0 : Heap) (n0 : Nat) (v : Option Value) (h : Heap) (L : List Loc) : Prop := (v = some (.int (1 : Int32)) ∧ Fr n0 L ∧ h = h0)
set_option maxRecDepth 65536 in
set_option maxHeartbeats 40000000 in
theorem rmK02 (l : Launch) (Z : State) (a0 : Array Value) (hw : ∀ d ∈ tables_1, d.before a0 Z = true) (ws : List Jvm.Cond) (a : Addr) (b : Addr) (d : Addr) (h0 : Heap) (n0 : Nat) (Z0 : n0 ≤ h0.size) :
    MetFree l (⟨"com/example/runs_to_nets/runstonets/core/PlaceTransitionSynthesisNegatedPinLaw", "ok", "([J[J[JII)Z"⟩ : MethodName) (head1 (Jvm.Cond.code (⟨"com/example/runs_to_nets/runstonets/core/PlaceTransitionSynthesisNegatedPinLaw", "ok", "([J[J[JII)Z"⟩ : MethodName) method_3_code 5 (some .boolean) :: ws) ({ frames := 0, cells := 0, slots := 0, locals := 0 } : Room)) (fun aa_ U_ => aa_ = #[(.ref a), (.ref b), (.ref d), (.int (2 : Int32)), (.int (0 : Int32))] ∧ Z.Warmed39 U_.vm ∧ U_.heap = h0) (fun _ _ _ _ _ => True) (fun _ U_ o_ V_ => ∃ v_ L_, o_ = .returned v_ ∧ QK02 Z a b d h0 n0 v_ V_.heap L_ ∧ FrameEnd U_ o_ V_ L_ ({ frames := 0, cells := 0, slots := 0, locals := 0 } : Room).cells ({ frames := 0, cells := 0, slots := 0, locals := 0 } : Room).slots) := by
  refine MetFree.of_bodySF (plainFor_of_name pnK02) hisR ?_
  intro p e s m args below meth c s₁ Bd hml0 hP hK
  obtain ⟨rfl, hZ, hh⟩ := hP
  have hx := Bd.exec
  have hby := Bd.bytes
  have hml : c.maxLocals = 5 := hml0
  have hown : s.vm.findClass "com/example/runs_to_nets/runstonets/core/PlaceTransitionSynthesisNegatedPinLaw" = some m.cls := findClass_of_methodNamed Bd.named
  have hnm := (name_of_methodNamed Bd.named Bd.method).1
  have hlk : meth.locks = false := BodyLoose.notSynchronized Bd
  have hret : meth.sig.returnType = (some .boolean) := Bd.returns
  have X0 : Stand p l e ({ frames := 0, cells := 0, slots := 0, locals := 0 } : Room) s m #[(.ref a), (.ref b), (.ref d), (.int (2 : Int32)), (.int (0 : Int32))] below meth c s₁ [] 0 0 := Stand.of_body Bd
  have e0 : s₁.heap = h0 := by rw [← hh, Bd.state]; rfl
  have N0 := Fr.nil n0
  show Go p e below s ({ frames := 0, cells := 0, slots := 0, locals := 0 } : Room).cells ({ frames := 0, cells := 0, slots := 0, locals := 0 } : Room).slots (QK02 Z a b d h0 n0) (s₁.setTop (entryFrame m #[(.ref a), (.ref b), (.ref d), (.int (2 : Int32)), (.int (0 : Int32))] 5))
  rw [efK02]
  refine Go.by (fun _ kont => XS.iloadN X0.here hx rfl (hb hby dK02_0) rfl (XS.iload X0.here hx rfl (hb hby dK02_1) rfl kont)) ?_
  show Go _ _ _ _ _ _ _ (s₁.setTop (mkF m 3 #[.val (.ref a), .val (.ref b), .val (.ref d), .val (.int (2 : Int32)), .val (.int (0 : Int32))] [(.int (0 : Int32)), (.int (2 : Int32))]))
  refine Go.by (fun _ kont => XS.icmpNo X0.here hx rfl (hb hby dK02_3) rfl (by decide) kont) ?_
  show Go _ _ _ _ _ _ _ (s₁.setTop (mkF m 6 #[.val (.ref a), .val (.ref b), .val (.ref d), .val (.int (2 : Int32)), .val (.int (0 : Int32))] []))
  refine Go.by (fun _ kont => XS.iconst X0.here hx rfl (hb hby dK02_6) kont) ?_
  show Go _ _ _ _ _ _ _ (s₁.setTop (mkF m 7 #[.val (.ref a), .val (.ref b), .val (.ref d), .val (.int (2 : Int32)), .val (.int (0 : Int32))] [(.int (1 : Int32))]))
  refine Go.retN X0 hx (t := .boolean) hret (by simp) hlk (hb hby dK02_7) ?_ (by decide) (by decide)
  show QK02 Z a b d h0 n0 (some (.int (1 : Int32))) s₁.heap _
  rw [e0]
  exact ⟨rfl, N0, rfl⟩

theorem dK03_0 : decode method_3_code 0 = .ok (.iload_n 3, 1) := by decide +kernel
theorem dK03_1 : decode method_3_code 1 = .ok (.iload 4, 2) := by decide +kernel
theorem dK03_3 : decode method_3_code 3 = .ok (.if_icmp .lt 5, 3) := by decide +kernel
theorem dK03_6 : decode method_3_code 6 = .ok (.iconst 1, 1) := by decide +kernel
theorem dK03_7 : decode method_3_code 7 = .ok (.ireturn, 1) := by decide +kernel
theorem pnK03 : plainName "com/example/runs_to_nets/runstonets/core/PlaceTransitionSynthesisNegatedPinLaw" = true := by first | (simp [plainName, overriddenIn]; done) | decide +kernel
theorem efK03 (m : MethodId) (a : Addr) (b : Addr) (d : Addr) : entryFrame m #[(.ref a), (.ref b), (.ref d), (.int (3 : Int32)), (.int (0 : Int32))] 5 = mkF m 0 #[.val (.ref a), .val (.ref b), .val (.ref d), .val (.int (3 : Int32)), .val (.int (0 : Int32))] [] := by first | (simp [entryFrame, mkF, argsToLocals, Value.category]; done) | rfl
def QK03 (Z : State) (a : Addr) (b : Addr) (d : Addr) (h0 : Heap) (n0 : Nat) (v : Option Value) (h : Heap) (L : List Loc) : Prop := (v = some (.int (1 : Int32)) ∧ Fr n0 L ∧ h = h0)
set_option maxRecDepth 65536 in
set_option maxHeartbeats 40000000 in
theorem rmK03 (l : Launch) (Z : State) (a0 : Array Value) (hw : ∀ d ∈ tables_1, d.before a0 Z = true) (ws : List Jvm.Cond) (a : Addr) (b : Addr) (d : Addr) (h0 : Heap) (n0 : Nat) (Z0 : n0 ≤ h0.size) :
    MetFree l (⟨"com/example/runs_to_nets/runstonets/core/PlaceTransitionSynthesisNegatedPinLaw", "ok", "([J[J[JII)Z"⟩ : MethodName) (head1 (Jvm.Cond.code (⟨"com/example/runs_to_nets/runstonets/core/PlaceTransitionSynthesisNegatedPinLaw", "ok", "([J[J[JII)Z"⟩ : MethodName) method_3_code 5 (some .boolean) :: ws) ({ frames := 0, cells := 0, slots := 0, locals := 0 } : Room)) (fun aa_ U_ => aa_ = #[(.ref a), (.ref b), (.ref d), (.int (3 : Int32)), (.int (0 : Int32))] ∧ Z.Warmed39 U_.vm ∧ U_.heap = h0) (fun _ _ _ _ _ => True) (fun _ U_ o_ V_ => ∃ v_ L_, o_ = .returned v_ ∧ QK03 Z a b d h0 n0 v_ V_.heap L_ ∧ FrameEnd U_ o_ V_ L_ ({ frames := 0, cells := 0, slots := 0, locals := 0 } : Room).cells ({ frames := 0, cells := 0, slots := 0, locals := 0 } : Room).slots) := by
  refine MetFree.of_bodySF (plainFor_of_name pnK03) hisR ?_
  intro p e s m args below meth c s₁ Bd hml0 hP hK
  obtain ⟨rfl, hZ, hh⟩ := hP
  have hx := Bd.exec
  have hby := Bd.bytes
  have hml : c.maxLocals = 5 := hml0
  have hown : s.vm.findClass "com/example/runs_to_nets/runstonets/core/PlaceTransitionSynthesisNegatedPinLaw" = some m.cls := findClass_of_methodNamed Bd.named
  have hnm := (name_of_methodNamed Bd.named Bd.method).1
  have hlk : meth.locks = false := BodyLoose.notSynchronized Bd
  have hret : meth.sig.returnType = (some .boolean) := Bd.returns
  have X0 : Stand p l e ({ frames := 0, cells := 0, slots := 0, locals := 0 } : Room) s m #[(.ref a), (.ref b), (.ref d), (.int (3 : Int32)), (.int (0 : Int32))] below meth c s₁ [] 0 0 := Stand.of_body Bd
  have e0 : s₁.heap = h0 := by rw [← hh, Bd.state]; rfl
  have N0 := Fr.nil n0
  show Go p e below s ({ frames := 0, cells := 0, slots := 0, locals := 0 } : Room).cells ({ frames := 0, cells := 0, slots := 0, locals := 0 } : Room).slots (QK03 Z a b d h0 n0) (s₁.setTop (entryFrame m #[(.ref a), (.ref b), (.ref d), (.int (3 : Int32)), (.int (0 : Int32))] 5))
  rw [efK03]
  refine Go.by (fun _ kont => XS.iloadN X0.here hx rfl (hb hby dK03_0) rfl (XS.iload X0.here hx rfl (hb hby dK03_1) rfl kont)) ?_
  show Go _ _ _ _ _ _ _ (s₁.setTop (mkF m 3 #[.val (.ref a), .val (.ref b), .val (.ref d), .val (.int (3 : Int32)), .val (.int (0 : Int32))] [(.int (0 : Int32)), (.int (3 : Int32))]))
  refine Go.by (fun _ kont => XS.icmpNo X0.here hx rfl (hb hby dK03_3) rfl (by decide) kont) ?_
  show Go _ _ _ _ _ _ _ (s₁.setTop (mkF m 6 #[.val (.ref a), .val (.ref b), .val (.ref d), .val (.int (3 : Int32)), .val (.int (0 : Int32))] []))
  refine Go.by (fun _ kont => XS.iconst X0.here hx rfl (hb hby dK03_6) kont) ?_
  show Go _ _ _ _ _ _ _ (s₁.setTop (mkF m 7 #[.val (.ref a), .val (.ref b), .val (.ref d), .val (.int (3 : Int32)), .val (.int (0 : Int32))] [(.int (1 : Int32))]))
  refine Go.retN X0 hx (t := .boolean) hret (by simp) hlk (hb hby dK03_7) ?_ (by decide) (by decide)
  show QK03 Z a b d h0 n0 (some (.int (1 : Int32))) s₁.heap _
  rw [e0]
  exact ⟨rfl, N0, rfl⟩

theorem dK04_0 : decode method_3_code 0 = .ok (.iload_n 3, 1) := by decide +kernel
theorem dK04_1 : decode method_3_code 1 = .ok (.iload 4, 2) := by decide +kernel
theorem dK04_3 : decode method_3_code 3 = .ok (.if_icmp .lt 5, 3) := by decide +kernel
theorem dK04_6 : decode method_3_code 6 = .ok (.iconst 1, 1) := by decide +kernel
theorem dK04_7 : decode method_3_code 7 = .ok (.ireturn, 1) := by decide +kernel
theorem pnK04 : plainName "com/example/runs_to_nets/runstonets/core/PlaceTransitionSynthesisNegatedPinLaw" = true := by first | (simp [plainName, overriddenIn]; done) | decide +kernel
theorem efK04 (m : MethodId) (a : Addr) (b : Addr) (d : Addr) : entryFrame m #[(.ref a), (.ref b), (.ref d), (.int (4 : Int32)), (.int (0 : Int32))] 5 = mkF m 0 #[.val (.ref a), .val (.ref b), .val (.ref d), .val (.int (4 : Int32)), .val (.int (0 : Int32))] [] := by first | (simp [entryFrame, mkF, argsToLocals, Value.category]; done) | rfl
def QK04 (Z : State) (a : Addr) (b : Addr) (d : Addr) (h0 : Heap) (n0 : Nat) (v : Option Value) (h : Heap) (L : List Loc) : Prop := (v = some (.int (1 : Int32)) ∧ Fr n0 L ∧ h = h0)
set_option maxRecDepth 65536 in
set_option maxHeartbeats 40000000 in
theorem rmK04 (l : Launch) (Z : State) (a0 : Array Value) (hw : ∀ d ∈ tables_1, d.before a0 Z = true) (ws : List Jvm.Cond) (a : Addr) (b : Addr) (d : Addr) (h0 : Heap) (n0 : Nat) (Z0 : n0 ≤ h0.size) :
    MetFree l (⟨"com/example/runs_to_nets/runstonets/core/PlaceTransitionSynthesisNegatedPinLaw", "ok", "([J[J[JII)Z"⟩ : MethodName) (head1 (Jvm.Cond.code (⟨"com/example/runs_to_nets/runstonets/core/PlaceTransitionSynthesisNegatedPinLaw", "ok", "([J[J[JII)Z"⟩ : MethodName) method_3_code 5 (some .boolean) :: ws) ({ frames := 0, cells := 0, slots := 0, locals := 0 } : Room)) (fun aa_ U_ => aa_ = #[(.ref a), (.ref b), (.ref d), (.int (4 : Int32)), (.int (0 : Int32))] ∧ Z.Warmed39 U_.vm ∧ U_.heap = h0) (fun _ _ _ _ _ => True) (fun _ U_ o_ V_ => ∃ v_ L_, o_ = .returned v_ ∧ QK04 Z a b d h0 n0 v_ V_.heap L_ ∧ FrameEnd U_ o_ V_ L_ ({ frames := 0, cells := 0, slots := 0, locals := 0 } : Room).cells ({ frames := 0, cells := 0, slots := 0, locals := 0 } : Room).slots) := by
  refine MetFree.of_bodySF (plainFor_of_name pnK04) hisR ?_
  intro p e s m args below meth c s₁ Bd hml0 hP hK
  obtain ⟨rfl, hZ, hh⟩ := hP
  have hx := Bd.exec
  have hby := Bd.bytes
  have hml : c.maxLocals = 5 := hml0
  have hown : s.vm.findClass "com/example/runs_to_nets/runstonets/core/PlaceTransitionSynthesisNegatedPinLaw" = some m.cls := findClass_of_methodNamed Bd.named
  have hnm := (name_of_methodNamed Bd.named Bd.method).1
  have hlk : meth.locks = false := BodyLoose.notSynchronized Bd
  have hret : meth.sig.returnType = (some .boolean) := Bd.returns
  have X0 : Stand p l e ({ frames := 0, cells := 0, slots := 0, locals := 0 } : Room) s m #[(.ref a), (.ref b), (.ref d), (.int (4 : Int32)), (.int (0 : Int32))] below meth c s₁ [] 0 0 := Stand.of_body Bd
  have e0 : s₁.heap = h0 := by rw [← hh, Bd.state]; rfl
  have N0 := Fr.nil n0
  show Go p e below s ({ frames := 0, cells := 0, slots := 0, locals := 0 } : Room).cells ({ frames := 0, cells := 0, slots := 0, locals := 0 } : Room).slots (QK04 Z a b d h0 n0) (s₁.setTop (entryFrame m #[(.ref a), (.ref b), (.ref d), (.int (4 : Int32)), (.int (0 : Int32))] 5))
  rw [efK04]
  refine Go.by (fun _ kont => XS.iloadN X0.here hx rfl (hb hby dK04_0) rfl (XS.iload X0.here hx rfl (hb hby dK04_1) rfl kont)) ?_
  show Go _ _ _ _ _ _ _ (s₁.setTop (mkF m 3 #[.val (.ref a), .val (.ref b), .val (.ref d), .val (.int (4 : Int32)), .val (.int (0 : Int32))] [(.int (0 : Int32)), (.int (4 : Int32))]))
  refine Go.by (fun _ kont => XS.icmpNo X0.here hx rfl (hb hby dK04_3) rfl (by decide) kont) ?_
  show Go _ _ _ _ _ _ _ (s₁.setTop (mkF m 6 #[.val (.ref a), .val (.ref b), .val (.ref d), .val (.int (4 : Int32)), .val (.int (0 : Int32))] []))
  refine Go.by (fun _ kont => XS.iconst X0.here hx rfl (hb hby dK04_6) kont) ?_
  show Go _ _ _ _ _ _ _ (s₁.setTop (mkF m 7 #[.val (.ref a), .val (.ref b), .val (.ref d), .val (.int (4 : Int32)), .val (.int (0 : Int32))] [(.int (1 : Int32))]))
  refine Go.retN X0 hx (t := .boolean) hret (by simp) hlk (hb hby dK04_7) ?_ (by decide) (by decide)
  show QK04 Z a b d h0 n0 (some (.int (1 : Int32))) s₁.heap _
  rw [e0]
  exact ⟨rfl, N0, rfl⟩

theorem dN1_0 : decode prog_27_method_10_code 0 = .ok (.aload_n 0, 1) := by decide +kernel
theorem dN1_1 : decode prog_27_method_10_code 1 = .ok (.arraylength, 1) := by decide +kernel
theorem dN1_2 : decode prog_27_method_10_code 2 = .ok (.newarray .long, 2) := by decide +kernel
theorem dN1_4 : decode prog_27_method_10_code 4 = .ok (.astore_n 1, 1) := by decide +kernel
theorem dN1_5 : decode prog_27_method_10_code 5 = .ok (.iconst 0, 1) := by decide +kernel
theorem dN1_6 : decode prog_27_method_10_code 6 = .ok (.istore_n 2, 1) := by decide +kernel
theorem dN1_7 : decode prog_27_method_10_code 7 = .ok (.iload_n 2, 1) := by decide +kernel
theorem dN1_8 : decode prog_27_method_10_code 8 = .ok (.aload_n 0, 1) := by decide +kernel
theorem dN1_9 : decode prog_27_method_10_code 9 = .ok (.arraylength, 1) := by decide +kernel
theorem dN1_10 : decode prog_27_method_10_code 10 = .ok (.if_icmp .ge 16, 3) := by decide +kernel
theorem dN1_13 : decode prog_27_method_10_code 13 = .ok (.aload_n 1, 1) := by decide +kernel
theorem dN1_14 : decode prog_27_method_10_code 14 = .ok (.iload_n 2, 1) := by decide +kernel
theorem dN1_15 : decode prog_27_method_10_code 15 = .ok (.aload_n 0, 1) := by decide +kernel
theorem dN1_16 : decode prog_27_method_10_code 16 = .ok (.iload_n 2, 1) := by decide +kernel
theorem dN1_17 : decode prog_27_method_10_code 17 = .ok (.laload, 1) := by decide +kernel
theorem dN1_18 : decode prog_27_method_10_code 18 = .ok (.lneg, 1) := by decide +kernel
theorem dN1_19 : decode prog_27_method_10_code 19 = .ok (.lastore, 1) := by decide +kernel
theorem dN1_20 : decode prog_27_method_10_code 20 = .ok (.iinc 2 1, 3) := by decide +kernel
theorem dN1_23 : decode prog_27_method_10_code 23 = .ok (.goto (-16), 3) := by decide +kernel
theorem dN1_26 : decode prog_27_method_10_code 26 = .ok (.aload_n 1, 1) := by decide +kernel
theorem dN1_27 : decode prog_27_method_10_code 27 = .ok (.areturn, 1) := by decide +kernel
theorem pnN1 : plainName "com/example/runs_to_nets/runstonets/core/PlaceTransitionSynthesis" = true := by first | (simp [plainName, overriddenIn]; done) | decide +kernel
theorem efN1 (m : MethodId) (a : Addr) : entryFrame m #[(.ref a)] 3 = mkF m 0 #[.val (.ref a), .unset, .unset] [] := by first | (simp [entryFrame, mkF, argsToLocals, Value.category]; done) | rfl
def QN1 (Z : State) (a : Addr) (kc_a : ClassId) (v0 : Int64) (h0 : Heap) (n0 : Nat) (v : Option Value) (h : Heap) (L : List Loc) : Prop := ∃ b102 : Addr, ∃ k102 : ClassId, (v = some (.ref b102) ∧ Fr n0 L ∧ Keep h0 h [] ∧ n0 ≤ b102 ∧ h0.size ≤ b102 ∧ Arv Z h b102 k102 .long (1 : Int32) [(.long (-v0))] (.long (0 : Int64)))
set_option maxRecDepth 65536 in
set_option maxHeartbeats 40000000 in
theorem rmN1 (l : Launch) (Z : State) (a0 : Array Value) (hw : ∀ d ∈ tables_1, d.before a0 Z = true) (ws : List Jvm.Cond) (a : Addr) (kc_a : ClassId) (v0 : Int64) (h0 : Heap) (n0 : Nat) (Z0 : n0 ≤ h0.size) (V0_a : Arv Z h0 a kc_a .long (1 : Int32) [(.long v0)] (.long (0 : Int64))) :
    MetFree l (⟨"com/example/runs_to_nets/runstonets/core/PlaceTransitionSynthesis", "negated", "([J)[J"⟩ : MethodName) (head1 (Jvm.Cond.code (⟨"com/example/runs_to_nets/runstonets/core/PlaceTransitionSynthesis", "negated", "([J)[J"⟩ : MethodName) prog_27_method_10_code 3 (some (.array .long)) :: ws) ({ frames := 0, cells := 1, slots := 1, locals := 0 } : Room)) (fun aa_ U_ => aa_ = #[(.ref a)] ∧ Z.Warmed39 U_.vm ∧ U_.heap = h0) (fun _ _ _ _ _ => True) (fun _ U_ o_ V_ => ∃ v_ L_, o_ = .returned v_ ∧ QN1 Z a kc_a v0 h0 n0 v_ V_.heap L_ ∧ FrameEnd U_ o_ V_ L_ ({ frames := 0, cells := 1, slots := 1, locals := 0 } : Room).cells ({ frames := 0, cells := 1, slots := 1, locals := 0 } : Room).slots) := by
  refine MetFree.of_bodySF (plainFor_of_name pnN1) hisR ?_
  intro p e s m args below meth c s₁ Bd hml0 hP hK
  obtain ⟨rfl, hZ, hh⟩ := hP
  have hx := Bd.exec
  have hby := Bd.bytes
  have hml : c.maxLocals = 3 := hml0
  have hown : s.vm.findClass "com/example/runs_to_nets/runstonets/core/PlaceTransitionSynthesis" = some m.cls := findClass_of_methodNamed Bd.named
  have hnm := (name_of_methodNamed Bd.named Bd.method).1
  have hlk : meth.locks = false := BodyLoose.notSynchronized Bd
  have hret : meth.sig.returnType = (some (.array .long)) := Bd.returns
  have X0 : Stand p l e ({ frames := 0, cells := 1, slots := 1, locals := 0 } : Room) s m #[(.ref a)] below meth c s₁ [] 0 0 := Stand.of_body Bd
  have e0 : s₁.heap = h0 := by rw [← hh, Bd.state]; rfl
  have N0 := Fr.nil n0
  show Go p e below s ({ frames := 0, cells := 1, slots := 1, locals := 0 } : Room).cells ({ frames := 0, cells := 1, slots := 1, locals := 0 } : Room).slots (QN1 Z a kc_a v0 h0 n0) (s₁.setTop (entryFrame m #[(.ref a)] 3))
  rw [efN1]
  refine Go.by (fun _ kont => XS.aloadN X0.here hx rfl (hb hby dN1_0) rfl rfl kont) ?_
  show Go _ _ _ _ _ _ _ (s₁.setTop (mkF m 1 #[.val (.ref a), .unset, .unset] [(.ref a)]))
  obtain ⟨cl_q101, Ar_q101, q1_q101, S_q101, N_q101, H_q101, G_q101⟩ := id V0_a
  refine Go.by (X0.arraylength hx (by first | exact Ar_q101.1 | (rw [e0]; exact Ar_q101.1)) (State.isArrayOf_alike hZ.alike Ar_q101.2.1) (g := (mkF m 1 #[.val (.ref a), .unset, .unset] [(.ref a)])) rfl rfl (hb hby dN1_1)) ?_
  rw [len_of S_q101 N_q101]
  show Go _ _ _ _ _ _ _ (s₁.setTop (mkF m 2 #[.val (.ref a), .unset, .unset] [(.int (1 : Int32))]))
  obtain ⟨T102, h102, k102, X102, e102, X_102, A102, st102⟩ := newP X0 hx hZ (hw _ (List.mem_of_getElem? (i := 1) rfl)) e0 (g := (mkF m 2 #[.val (.ref a), .unset, .unset] [(.int (1 : Int32))])) rfl (hb hby dN1_2) rfl (by decide) (cap := 1) (by decide) (by decide) (by decide) (by decide)
  obtain ⟨b102, g102⟩ : ∃ z, z = h0.size := ⟨_, rfl⟩
  rw [← g102] at A102 st102
  have ne_a_b102 : a ≠ b102 := Nat.ne_of_lt (Nat.lt_of_lt_of_le V0_a.lt (Nat.le_of_eq g102.symm))
  have ge_b102 : n0 ≤ b102 := Nat.le_trans Z0 (Nat.le_of_eq g102.symm)
  have sz_b102 : h0.size ≤ b102 := Nat.le_trans (Keep.refl h0 []).1 (Nat.le_of_eq g102.symm)
  have V103_a := V0_a.ext X_102
  have Z103 := Nat.le_trans Z0 X_102.1
  have K103 : Keep h0 h102 [] := (Keep.refl h0 []).ext X_102
  have V102 : Arv Z h102 b102 k102 .long (1 : Int32) [(.long (0 : Int64))] (.long (0 : Int64)) := (Arv.new A102 (by decide)).pad (pad_rep [] (.long (0 : Int64)) 1)
  refine Go.by st102 ?_
  show Go _ _ _ _ _ _ _ (T102.setTop (mkF m 4 #[.val (.ref a), .unset, .unset] [(.ref b102)]))
  refine Go.by (fun _ kont => XS.astoreN X102.here hx rfl (hb hby dN1_4) rfl rfl (l' := #[.val (.ref a), .val (.ref b102), .unset]) rfl (XS.iconst X102.here hx rfl (hb hby dN1_5) (XS.istoreN X102.here hx rfl (hb hby dN1_6) rfl (l' := #[.val (.ref a), .val (.ref b102), .val (.int (0 : Int32))]) rfl (XS.iloadN X102.here hx rfl (hb hby dN1_7) rfl (XS.aloadN X102.here hx rfl (hb hby dN1_8) rfl rfl kont))))) ?_
  show Go _ _ _ _ _ _ _ (T102.setTop (mkF m 9 #[.val (.ref a), .val (.ref b102), .val (.int (0 : Int32))] [(.ref a), (.int (0 : Int32))]))
  obtain ⟨cl_q104, Ar_q104, q1_q104, S_q104, N_q104, H_q104, G_q104⟩ := id V103_a
  refine Go.by (X102.arraylength hx (by first | exact Ar_q104.1 | (rw [e102]; exact Ar_q104.1)) (State.isArrayOf_alike hZ.alike Ar_q104.2.1) (g := (mkF m 9 #[.val (.ref a), .val (.ref b102), .val (.int (0 : Int32))] [(.ref a), (.int (0 : Int32))])) rfl rfl (hb hby dN1_9)) ?_
  rw [len_of S_q104 N_q104]
  show Go _ _ _ _ _ _ _ (T102.setTop (mkF m 10 #[.val (.ref a), .val (.ref b102), .val (.int (0 : Int32))] [(.int (1 : Int32)), (.int (0 : Int32))]))
  refine Go.by (fun _ kont => XS.icmpNo X102.here hx rfl (hb hby dN1_10) rfl (by decide) kont) ?_
  show Go _ _ _ _ _ _ _ (T102.setTop (mkF m 13 #[.val (.ref a), .val (.ref b102), .val (.int (0 : Int32))] []))
  refine Go.by (fun _ kont => XS.aloadN X102.here hx rfl (hb hby dN1_13) rfl rfl (XS.iloadN X102.here hx rfl (hb hby dN1_14) rfl (XS.aloadN X102.here hx rfl (hb hby dN1_15) rfl rfl (XS.iloadN X102.here hx rfl (hb hby dN1_16) rfl kont)))) ?_
  show Go _ _ _ _ _ _ _ (T102.setTop (mkF m 17 #[.val (.ref a), .val (.ref b102), .val (.int (0 : Int32))] [(.int (0 : Int32)), (.ref a), (.int (0 : Int32)), (.ref b102)]))
  obtain ⟨cl_q105, Ar_q105, q1_q105, S_q105, N_q105, H_q105, G_q105⟩ := id V103_a
  have hin_q105 : ¬ ((0 : Int32) < 0 ∨ cl_q105.slots.size ≤ ((0 : Int32)).toNatClampNeg) := inb_of S_q105 ⟨by decide, by decide⟩
  have hat_q105 : cl_q105.slots[((0 : Int32)).toNatClampNeg]? = some (.long v0) := Has.at H_q105 hin_q105 rfl
  refine Go.by (X102.laload hx (j := (0 : Int32)) (v := (.long v0)) (by first | exact Ar_q105.1 | (rw [e102]; exact Ar_q105.1)) (State.isArrayOf_alike hZ.alike Ar_q105.2.1) Ar_q105.2.2 hin_q105 hat_q105 (g := (mkF m 17 #[.val (.ref a), .val (.ref b102), .val (.int (0 : Int32))] [(.int (0 : Int32)), (.ref a), (.int (0 : Int32)), (.ref b102)])) rfl rfl (hb hby dN1_17)) ?_
  show Go _ _ _ _ _ _ _ (T102.setTop (mkF m 18 #[.val (.ref a), .val (.ref b102), .val (.int (0 : Int32))] [(.long v0), (.int (0 : Int32)), (.ref b102)]))
  refine Go.by (fun _ kont => XS.lneg X102.here hx rfl (hb hby dN1_18) rfl kont) ?_
  show Go _ _ _ _ _ _ _ (T102.setTop (mkF m 19 #[.val (.ref a), .val (.ref b102), .val (.int (0 : Int32))] [(.long (-v0)), (.int (0 : Int32)), (.ref b102)]))
  obtain ⟨cl_q106, Ar_q106, q1_q106, S_q106, N_q106, H_q106, G_q106⟩ := id V102
  have hin_q106 : ¬ ((0 : Int32) < 0 ∨ cl_q106.slots.size ≤ ((0 : Int32)).toNatClampNeg) := inb_of S_q106 ⟨by decide, by decide⟩
  obtain ⟨T107, h107, X107, e107, W107, st107⟩ := stJ X102 hx hZ e102 Ar_q106 (j := (0 : Int32)) hin_q106 (g := (mkF m 19 #[.val (.ref a), .val (.ref b102), .val (.int (0 : Int32))] [(.long (-v0)), (.int (0 : Int32)), (.ref b102)])) rfl rfl (hb hby dN1_19)
  have V107 : Arv Z h107 b102 k102 .long (1 : Int32) [(.long (-v0))] (.long (0 : Int64)) := Arv.set Ar_q106 q1_q106 S_q106 N_q106 H_q106 G_q106 rfl W107 0 rfl (Nat.le_of_ble_eq_true rfl)
  have V108_a := V103_a.other W107 ne_a_b102
  have Z108 := Nat.le_trans Z103 (Keep.of_wr W107).1
  have K108 : Keep h0 h107 [] := K103.wr W107 (Or.inr sz_b102)
  have N107 := Fr.snoc X107 N0 ge_b102
  refine Go.by st107 ?_
  show Go _ _ _ _ _ _ _ (T107.setTop (mkF m 20 #[.val (.ref a), .val (.ref b102), .val (.int (0 : Int32))] []))
  refine Go.by (fun _ kont => XS.iinc X107.here hx rfl (hb hby dN1_20) rfl (l' := #[.val (.ref a), .val (.ref b102), .val (.int (1 : Int32))]) rfl (XS.goto X107.here hx rfl (pc0 := 23) (pc' := 7) rfl (hb hby dN1_23) (by decide) (by decide) (XS.iloadN X107.here hx rfl (hb hby dN1_7) rfl (XS.aloadN X107.here hx rfl (hb hby dN1_8) rfl rfl kont)))) ?_
  show Go _ _ _ _ _ _ _ (T107.setTop (mkF m 9 #[.val (.ref a), .val (.ref b102), .val (.int (1 : Int32))] [(.ref a), (.int (1 : Int32))]))
  obtain ⟨cl_q109, Ar_q109, q1_q109, S_q109, N_q109, H_q109, G_q109⟩ := id V108_a
  refine Go.by (X107.arraylength hx (by first | exact Ar_q109.1 | (rw [e107]; exact Ar_q109.1)) (State.isArrayOf_alike hZ.alike Ar_q109.2.1) (g := (mkF m 9 #[.val (.ref a), .val (.ref b102), .val (.int (1 : Int32))] [(.ref a), (.int (1 : Int32))])) rfl rfl (hb hby dN1_9)) ?_
  rw [len_of S_q109 N_q109]
  show Go _ _ _ _ _ _ _ (T107.setTop (mkF m 10 #[.val (.ref a), .val (.ref b102), .val (.int (1 : Int32))] [(.int (1 : Int32)), (.int (1 : Int32))]))
  refine Go.by (fun _ kont => XS.icmpYes X107.here hx rfl (pc0 := 10) (pc' := 26) rfl (hb hby dN1_10) rfl (by decide) (by decide) (by decide) kont) ?_
  show Go _ _ _ _ _ _ _ (T107.setTop (mkF m 26 #[.val (.ref a), .val (.ref b102), .val (.int (1 : Int32))] []))
  refine Go.by (fun _ kont => XS.aloadN X107.here hx rfl (hb hby dN1_26) rfl rfl kont) ?_
  show Go _ _ _ _ _ _ _ (T107.setTop (mkF m 27 #[.val (.ref a), .val (.ref b102), .val (.int (1 : Int32))] [(.ref b102)]))
  refine Go.retR X107 hx hret rfl rfl hlk (hb hby dN1_27) ?_ (by decide) (by decide)
  show QN1 Z a kc_a v0 h0 n0 (some (.ref b102)) T107.heap _
  rw [e107]
  exact ⟨b102, k102, rfl, N107, K108, ge_b102, sz_b102, V107⟩

theorem dK10_0 : decode method_3_code 0 = .ok (.iload_n 3, 1) := by decide +kernel
theorem dK10_1 : decode method_3_code 1 = .ok (.iload 4, 2) := by decide +kernel
theorem dK10_3 : decode method_3_code 3 = .ok (.if_icmp .lt 5, 3) := by decide +kernel
theorem dK10_8 : decode method_3_code 8 = .ok (.aload_n 0, 1) := by decide +kernel
theorem dK10_9 : decode method_3_code 9 = .ok (.iload_n 3, 1) := by decide +kernel
theorem dK10_10 : decode method_3_code 10 = .ok (.laload, 1) := by decide +kernel
theorem dK10_11 : decode method_3_code 11 = .ok (.aload_n 2, 1) := by decide +kernel
theorem dK10_12 : decode method_3_code 12 = .ok (.iload_n 3, 1) := by decide +kernel
theorem dK10_13 : decode method_3_code 13 = .ok (.laload, 1) := by decide +kernel
theorem dK10_14 : decode method_3_code 14 = .ok (.lcmp, 1) := by decide +kernel
theorem dK10_15 : decode method_3_code 15 = .ok (.ifCond .ne 19, 3) := by decide +kernel
theorem dK10_18 : decode method_3_code 18 = .ok (.aload_n 0, 1) := by decide +kernel
theorem dK10_19 : decode method_3_code 19 = .ok (.iload_n 3, 1) := by decide +kernel
theorem dK10_20 : decode method_3_code 20 = .ok (.laload, 1) := by decide +kernel
theorem dK10_21 : decode method_3_code 21 = .ok (.aload_n 1, 1) := by decide +kernel
theorem dK10_22 : decode method_3_code 22 = .ok (.iload_n 3, 1) := by decide +kernel
theorem dK10_23 : decode method_3_code 23 = .ok (.laload, 1) := by decide +kernel
theorem dK10_24 : decode method_3_code 24 = .ok (.ladd, 1) := by decide +kernel
theorem dK10_25 : decode method_3_code 25 = .ok (.lconst 0, 1) := by decide +kernel
theorem dK10_26 : decode method_3_code 26 = .ok (.lcmp, 1) := by decide +kernel
theorem dK10_27 : decode method_3_code 27 = .ok (.ifCond .ne 7, 3) := by decide +kernel
theorem dK10_30 : decode method_3_code 30 = .ok (.iconst 1, 1) := by decide +kernel
theorem dK10_31 : decode method_3_code 31 = .ok (.goto 4, 3) := by decide +kernel
theorem dK10_35 : decode method_3_code 35 = .ok (.ireturn, 1) := by decide +kernel
theorem pnK10 : plainName "com/example/runs_to_nets/runstonets/core/PlaceTransitionSynthesisNegatedPinLaw" = true := by first | (simp [plainName, overriddenIn]; done) | decide +kernel
theorem efK10 (m : MethodId) (a : Addr) (b : Addr) (d : Addr) : entryFrame m #[(.ref a), (.ref b), (.ref d), (.int (0 : Int32)), (.int (1 : Int32))] 5 = mkF m 0 #[.val (.ref a), .val (.ref b), .val (.ref d), .val (.int (0 : Int32)), .val (.int (1 : Int32))] [] := by first | (simp [entryFrame, mkF, argsToLocals, Value.category]; done) | rfl
def QK10 (Z : State) (a : Addr) (b : Addr) (d : Addr) (kc_a : ClassId) (v0 : Int64) (kc_b : ClassId) (kc_d : ClassId) (v1 : Int64) (v2 : Int64) (v3 : Int64) (v4 : Int64) (h0 : Heap) (n0 : Nat) (v : Option Value) (h : Heap) (L : List Loc) : Prop := (v = some (.int (1 : Int32)) ∧ Fr n0 L ∧ h = h0)
set_option maxRecDepth 65536 in
set_option maxHeartbeats 40000000 in
theorem rmK10 (l : Launch) (Z : State) (a0 : Array Value) (hw : ∀ d ∈ tables_1, d.before a0 Z = true) (ws : List Jvm.Cond) (a : Addr) (b : Addr) (d : Addr) (kc_a : ClassId) (v0 : Int64) (kc_b : ClassId) (kc_d : ClassId) (v1 : Int64) (v2 : Int64) (v3 : Int64) (v4 : Int64) (h0 : Heap) (n0 : Nat) (Z0 : n0 ≤ h0.size) (V0_a : Arv Z h0 a kc_a .long (1 : Int32) [(.long v0)] (.long (0 : Int64))) (V0_b : Arv Z h0 b kc_b .long (1 : Int32) [(.long (-v0))] (.long (0 : Int64))) (V0_d : Arv Z h0 d kc_d .long (5 : Int32) [(.long v0), (.long v1), (.long v2), (.long v3), (.long v4)] (.long (0 : Int64))) :
    MetFree l (⟨"com/example/runs_to_nets/runstonets/core/PlaceTransitionSynthesisNegatedPinLaw", "ok", "([J[J[JII)Z"⟩ : MethodName) (head1 (Jvm.Cond.code (⟨"com/example/runs_to_nets/runstonets/core/PlaceTransitionSynthesisNegatedPinLaw", "ok", "([J[J[JII)Z"⟩ : MethodName) method_3_code 5 (some .boolean) :: ws) ({ frames := 0, cells := 0, slots := 0, locals := 0 } : Room)) (fun aa_ U_ => aa_ = #[(.ref a), (.ref b), (.ref d), (.int (0 : Int32)), (.int (1 : Int32))] ∧ Z.Warmed39 U_.vm ∧ U_.heap = h0) (fun _ _ _ _ _ => True) (fun _ U_ o_ V_ => ∃ v_ L_, o_ = .returned v_ ∧ QK10 Z a b d kc_a v0 kc_b kc_d v1 v2 v3 v4 h0 n0 v_ V_.heap L_ ∧ FrameEnd U_ o_ V_ L_ ({ frames := 0, cells := 0, slots := 0, locals := 0 } : Room).cells ({ frames := 0, cells := 0, slots := 0, locals := 0 } : Room).slots) := by
  refine MetFree.of_bodySF (plainFor_of_name pnK10) hisR ?_
  intro p e s m args below meth c s₁ Bd hml0 hP hK
  obtain ⟨rfl, hZ, hh⟩ := hP
  have hx := Bd.exec
  have hby := Bd.bytes
  have hml : c.maxLocals = 5 := hml0
  have hown : s.vm.findClass "com/example/runs_to_nets/runstonets/core/PlaceTransitionSynthesisNegatedPinLaw" = some m.cls := findClass_of_methodNamed Bd.named
  have hnm := (name_of_methodNamed Bd.named Bd.method).1
  have hlk : meth.locks = false := BodyLoose.notSynchronized Bd
  have hret : meth.sig.returnType = (some .boolean) := Bd.returns
  have X0 : Stand p l e ({ frames := 0, cells := 0, slots := 0, locals := 0 } : Room) s m #[(.ref a), (.ref b), (.ref d), (.int (0 : Int32)), (.int (1 : Int32))] below meth c s₁ [] 0 0 := Stand.of_body Bd
  have e0 : s₁.heap = h0 := by rw [← hh, Bd.state]; rfl
  have N0 := Fr.nil n0
  show Go p e below s ({ frames := 0, cells := 0, slots := 0, locals := 0 } : Room).cells ({ frames := 0, cells := 0, slots := 0, locals := 0 } : Room).slots (QK10 Z a b d kc_a v0 kc_b kc_d v1 v2 v3 v4 h0 n0) (s₁.setTop (entryFrame m #[(.ref a), (.ref b), (.ref d), (.int (0 : Int32)), (.int (1 : Int32))] 5))
  rw [efK10]
  refine Go.by (fun _ kont => XS.iloadN X0.here hx rfl (hb hby dK10_0) rfl (XS.iload X0.here hx rfl (hb hby dK10_1) rfl kont)) ?_
  show Go _ _ _ _ _ _ _ (s₁.setTop (mkF m 3 #[.val (.ref a), .val (.ref b), .val (.ref d), .val (.int (0 : Int32)), .val (.int (1 : Int32))] [(.int (1 : Int32)), (.int (0 : Int32))]))
  refine Go.by (fun _ kont => XS.icmpYes X0.here hx rfl (pc0 := 3) (pc' := 8) rfl (hb hby dK10_3) rfl (by decide) (by decide) (by decide) kont) ?_
  show Go _ _ _ _ _ _ _ (s₁.setTop (mkF m 8 #[.val (.ref a), .val (.ref b), .val (.ref d), .val (.int (0 : Int32)), .val (.int (1 : Int32))] []))
  refine Go.by (fun _ kont => XS.aloadN X0.here hx rfl (hb hby dK10_8) rfl rfl (XS.iloadN X0.here hx rfl (hb hby dK10_9) rfl kont)) ?_
  show Go _ _ _ _ _ _ _ (s₁.setTop (mkF m 10 #[.val (.ref a), .val (.ref b), .val (.ref d), .val (.int (0 : Int32)), .val (.int (1 : Int32))] [(.int (0 : Int32)), (.ref a)]))
  obtain ⟨cl_q101, Ar_q101, q1_q101, S_q101, N_q101, H_q101, G_q101⟩ := id V0_a
  have hin_q101 : ¬ ((0 : Int32) < 0 ∨ cl_q101.slots.size ≤ ((0 : Int32)).toNatClampNeg) := inb_of S_q101 ⟨by decide, by decide⟩
  have hat_q101 : cl_q101.slots[((0 : Int32)).toNatClampNeg]? = some (.long v0) := Has.at H_q101 hin_q101 rfl
  refine Go.by (X0.laload hx (j := (0 : Int32)) (v := (.long v0)) (by first | exact Ar_q101.1 | (rw [e0]; exact Ar_q101.1)) (State.isArrayOf_alike hZ.alike Ar_q101.2.1) Ar_q101.2.2 hin_q101 hat_q101 (g := (mkF m 10 #[.val (.ref a), .val (.ref b), .val (.ref d), .val (.int (0 : Int32)), .val (.int (1 : Int32))] [(.int (0 : Int32)), (.ref a)])) rfl rfl (hb hby dK10_10)) ?_
  show Go _ _ _ _ _ _ _ (s₁.setTop (mkF m 11 #[.val (.ref a), .val (.ref b), .val (.ref d), .val (.int (0 : Int32)), .val (.int (1 : Int32))] [(.long v0)]))
  refine Go.by (fun _ kont => XS.aloadN X0.here hx rfl (hb hby dK10_11) rfl rfl (XS.iloadN X0.here hx rfl (hb hby dK10_12) rfl kont)) ?_
  show Go _ _ _ _ _ _ _ (s₁.setTop (mkF m 13 #[.val (.ref a), .val (.ref b), .val (.ref d), .val (.int (0 : Int32)), .val (.int (1 : Int32))] [(.int (0 : Int32)), (.ref d), (.long v0)]))
  obtain ⟨cl_q102, Ar_q102, q1_q102, S_q102, N_q102, H_q102, G_q102⟩ := id V0_d
  have hin_q102 : ¬ ((0 : Int32) < 0 ∨ cl_q102.slots.size ≤ ((0 : Int32)).toNatClampNeg) := inb_of S_q102 ⟨by decide, by decide⟩
  have hat_q102 : cl_q102.slots[((0 : Int32)).toNatClampNeg]? = some (.long v0) := Has.at H_q102 hin_q102 rfl
  refine Go.by (X0.laload hx (j := (0 : Int32)) (v := (.long v0)) (by first | exact Ar_q102.1 | (rw [e0]; exact Ar_q102.1)) (State.isArrayOf_alike hZ.alike Ar_q102.2.1) Ar_q102.2.2 hin_q102 hat_q102 (g := (mkF m 13 #[.val (.ref a), .val (.ref b), .val (.ref d), .val (.int (0 : Int32)), .val (.int (1 : Int32))] [(.int (0 : Int32)), (.ref d), (.long v0)])) rfl rfl (hb hby dK10_13)) ?_
  show Go _ _ _ _ _ _ _ (s₁.setTop (mkF m 14 #[.val (.ref a), .val (.ref b), .val (.ref d), .val (.int (0 : Int32)), .val (.int (1 : Int32))] [(.long v0), (.long v0)]))
  refine Go.by (fun _ kont => XS.lcmp X0.here hx rfl (hb hby dK10_14) rfl kont) ?_
  show Go _ _ _ _ _ _ _ (s₁.setTop (mkF m 15 #[.val (.ref a), .val (.ref b), .val (.ref d), .val (.int (0 : Int32)), .val (.int (1 : Int32))] [(.int (lcmpW v0 v0))]))
  refine Go.by (fun _ kont => XS.ifNo X0.here hx rfl (hb hby dK10_15) rfl ((if0 _ _).trans (teq ((lw_eq _ _).mpr rfl)).2) kont) ?_
  show Go _ _ _ _ _ _ _ (s₁.setTop (mkF m 18 #[.val (.ref a), .val (.ref b), .val (.ref d), .val (.int (0 : Int32)), .val (.int (1 : Int32))] []))
  refine Go.by (fun _ kont => XS.aloadN X0.here hx rfl (hb hby dK10_18) rfl rfl (XS.iloadN X0.here hx rfl (hb hby dK10_19) rfl kont)) ?_
  show Go _ _ _ _ _ _ _ (s₁.setTop (mkF m 20 #[.val (.ref a), .val (.ref b), .val (.ref d), .val (.int (0 : Int32)), .val (.int (1 : Int32))] [(.int (0 : Int32)), (.ref a)]))
  obtain ⟨cl_q103, Ar_q103, q1_q103, S_q103, N_q103, H_q103, G_q103⟩ := id V0_a
  have hin_q103 : ¬ ((0 : Int32) < 0 ∨ cl_q103.slots.size ≤ ((0 : Int32)).toNatClampNeg) := inb_of S_q103 ⟨by decide, by decide⟩
  have hat_q103 : cl_q103.slots[((0 : Int32)).toNatClampNeg]? = some (.long v0) := Has.at H_q103 hin_q103 rfl
  refine Go.by (X0.laload hx (j := (0 : Int32)) (v := (.long v0)) (by first | exact Ar_q103.1 | (rw [e0]; exact Ar_q103.1)) (State.isArrayOf_alike hZ.alike Ar_q103.2.1) Ar_q103.2.2 hin_q103 hat_q103 (g := (mkF m 20 #[.val (.ref a), .val (.ref b), .val (.ref d), .val (.int (0 : Int32)), .val (.int (1 : Int32))] [(.int (0 : Int32)), (.ref a)])) rfl rfl (hb hby dK10_20)) ?_
  show Go _ _ _ _ _ _ _ (s₁.setTop (mkF m 21 #[.val (.ref a), .val (.ref b), .val (.ref d), .val (.int (0 : Int32)), .val (.int (1 : Int32))] [(.long v0)]))
  refine Go.by (fun _ kont => XS.aloadN X0.here hx rfl (hb hby dK10_21) rfl rfl (XS.iloadN X0.here hx rfl (hb hby dK10_22) rfl kont)) ?_
  show Go _ _ _ _ _ _ _ (s₁.setTop (mkF m 23 #[.val (.ref a), .val (.ref b), .val (.ref d), .val (.int (0 : Int32)), .val (.int (1 : Int32))] [(.int (0 : Int32)), (.ref b), (.long v0)]))
  obtain ⟨cl_q104, Ar_q104, q1_q104, S_q104, N_q104, H_q104, G_q104⟩ := id V0_b
  have hin_q104 : ¬ ((0 : Int32) < 0 ∨ cl_q104.slots.size ≤ ((0 : Int32)).toNatClampNeg) := inb_of S_q104 ⟨by decide, by decide⟩
  have hat_q104 : cl_q104.slots[((0 : Int32)).toNatClampNeg]? = some (.long (-v0)) := Has.at H_q104 hin_q104 rfl
  refine Go.by (X0.laload hx (j := (0 : Int32)) (v := (.long (-v0))) (by first | exact Ar_q104.1 | (rw [e0]; exact Ar_q104.1)) (State.isArrayOf_alike hZ.alike Ar_q104.2.1) Ar_q104.2.2 hin_q104 hat_q104 (g := (mkF m 23 #[.val (.ref a), .val (.ref b), .val (.ref d), .val (.int (0 : Int32)), .val (.int (1 : Int32))] [(.int (0 : Int32)), (.ref b), (.long v0)])) rfl rfl (hb hby dK10_23)) ?_
  show Go _ _ _ _ _ _ _ (s₁.setTop (mkF m 24 #[.val (.ref a), .val (.ref b), .val (.ref d), .val (.int (0 : Int32)), .val (.int (1 : Int32))] [(.long (-v0)), (.long v0)]))
  refine Go.by (fun _ kont => XS.ladd X0.here hx rfl (hb hby dK10_24) rfl (XS.lconst X0.here hx rfl (hb hby dK10_25) (XS.lcmp X0.here hx rfl (hb hby dK10_26) rfl kont))) ?_
  show Go _ _ _ _ _ _ _ (s₁.setTop (mkF m 27 #[.val (.ref a), .val (.ref b), .val (.ref d), .val (.int (0 : Int32)), .val (.int (1 : Int32))] [(.int (lcmpW (v0 + (-v0)) (0 : Int64)))]))
  have hd105 : (v0 + (-v0)) = (0 : Int64) := Int64.add_right_neg _
  refine Go.by (fun _ kont => XS.ifNo X0.here hx rfl (hb hby dK10_27) rfl ((if0 _ _).trans (teq ((lw_eq _ _).mpr hd105)).2) kont) ?_
  show Go _ _ _ _ _ _ _ (s₁.setTop (mkF m 30 #[.val (.ref a), .val (.ref b), .val (.ref d), .val (.int (0 : Int32)), .val (.int (1 : Int32))] []))
  refine Go.by (fun _ kont => XS.iconst X0.here hx rfl (hb hby dK10_30) (XS.goto X0.here hx rfl (pc0 := 31) (pc' := 35) rfl (hb hby dK10_31) (by decide) (by decide) kont)) ?_
  show Go _ _ _ _ _ _ _ (s₁.setTop (mkF m 35 #[.val (.ref a), .val (.ref b), .val (.ref d), .val (.int (0 : Int32)), .val (.int (1 : Int32))] [(.int (1 : Int32))]))
  refine Go.retN X0 hx (t := .boolean) hret (by simp) hlk (hb hby dK10_35) ?_ (by decide) (by decide)
  show QK10 Z a b d kc_a v0 kc_b kc_d v1 v2 v3 v4 h0 n0 (some (.int (1 : Int32))) s₁.heap _
  rw [e0]
  exact ⟨rfl, N0, rfl⟩

theorem dK11_0 : decode method_3_code 0 = .ok (.iload_n 3, 1) := by decide +kernel
theorem dK11_1 : decode method_3_code 1 = .ok (.iload 4, 2) := by decide +kernel
theorem dK11_3 : decode method_3_code 3 = .ok (.if_icmp .lt 5, 3) := by decide +kernel
theorem dK11_6 : decode method_3_code 6 = .ok (.iconst 1, 1) := by decide +kernel
theorem dK11_7 : decode method_3_code 7 = .ok (.ireturn, 1) := by decide +kernel
theorem pnK11 : plainName "com/example/runs_to_nets/runstonets/core/PlaceTransitionSynthesisNegatedPinLaw" = true := by first | (simp [plainName, overriddenIn]; done) | decide +kernel
theorem efK11 (m : MethodId) (a : Addr) (b : Addr) (d : Addr) : entryFrame m #[(.ref a), (.ref b), (.ref d), (.int (1 : Int32)), (.int (1 : Int32))] 5 = mkF m 0 #[.val (.ref a), .val (.ref b), .val (.ref d), .val (.int (1 : Int32)), .val (.int (1 : Int32))] [] := by first | (simp [entryFrame, mkF, argsToLocals, Value.category]; done) | rfl
def QK11 (Z : State) (a : Addr) (b : Addr) (d : Addr) (h0 : Heap) (n0 : Nat) (v : Option Value) (h : Heap) (L : List Loc) : Prop := (v = some (.int (1 : Int32)) ∧ Fr n0 L ∧ h = h0)
set_option maxRecDepth 65536 in
set_option maxHeartbeats 40000000 in
theorem rmK11 (l : Launch) (Z : State) (a0 : Array Value) (hw : ∀ d ∈ tables_1, d.before a0 Z = true) (ws : List Jvm.Cond) (a : Addr) (b : Addr) (d : Addr) (h0 : Heap) (n0 : Nat) (Z0 : n0 ≤ h0.size) :
    MetFree l (⟨"com/example/runs_to_nets/runstonets/core/PlaceTransitionSynthesisNegatedPinLaw", "ok", "([J[J[JII)Z"⟩ : MethodName) (head1 (Jvm.Cond.code (⟨"com/example/runs_to_nets/runstonets/core/PlaceTransitionSynthesisNegatedPinLaw", "ok", "([J[J[JII)Z"⟩ : MethodName) method_3_code 5 (some .boolean) :: ws) ({ frames := 0, cells := 0, slots := 0, locals := 0 } : Room)) (fun aa_ U_ => aa_ = #[(.ref a), (.ref b), (.ref d), (.int (1 : Int32)), (.int (1 : Int32))] ∧ Z.Warmed39 U_.vm ∧ U_.heap = h0) (fun _ _ _ _ _ => True) (fun _ U_ o_ V_ => ∃ v_ L_, o_ = .returned v_ ∧ QK11 Z a b d h0 n0 v_ V_.heap L_ ∧ FrameEnd U_ o_ V_ L_ ({ frames := 0, cells := 0, slots := 0, locals := 0 } : Room).cells ({ frames := 0, cells := 0, slots := 0, locals := 0 } : Room).slots) := by
  refine MetFree.of_bodySF (plainFor_of_name pnK11) hisR ?_
  intro p e s m args below meth c s₁ Bd hml0 hP hK
  obtain ⟨rfl, hZ, hh⟩ := hP
  have hx := Bd.exec
  have hby := Bd.bytes
  have hml : c.maxLocals = 5 := hml0
  have hown : s.vm.findClass "com/example/runs_to_nets/runstonets/core/PlaceTransitionSynthesisNegatedPinLaw" = some m.cls := findClass_of_methodNamed Bd.named
  have hnm := (name_of_methodNamed Bd.named Bd.method).1
  have hlk : meth.locks = false := BodyLoose.notSynchronized Bd
  have hret : meth.sig.returnType = (some .boolean) := Bd.returns
  have X0 : Stand p l e ({ frames := 0, cells := 0, slots := 0, locals := 0 } : Room) s m #[(.ref a), (.ref b), (.ref d), (.int (1 : Int32)), (.int (1 : Int32))] below meth c s₁ [] 0 0 := Stand.of_body Bd
  have e0 : s₁.heap = h0 := by rw [← hh, Bd.state]; rfl
  have N0 := Fr.nil n0
  show Go p e below s ({ frames := 0, cells := 0, slots := 0, locals := 0 } : Room).cells ({ frames := 0, cells := 0, slots := 0, locals := 0 } : Room).slots (QK11 Z a b d h0 n0) (s₁.setTop (entryFrame m #[(.ref a), (.ref b), (.ref d), (.int (1 : Int32)), (.int (1 : Int32))] 5))
  rw [efK11]
  refine Go.by (fun _ kont => XS.iloadN X0.here hx rfl (hb hby dK11_0) rfl (XS.iload X0.here hx rfl (hb hby dK11_1) rfl kont)) ?_
  show Go _ _ _ _ _ _ _ (s₁.setTop (mkF m 3 #[.val (.ref a), .val (.ref b), .val (.ref d), .val (.int (1 : Int32)), .val (.int (1 : Int32))] [(.int (1 : Int32)), (.int (1 : Int32))]))
  refine Go.by (fun _ kont => XS.icmpNo X0.here hx rfl (hb hby dK11_3) rfl (by decide) kont) ?_
  show Go _ _ _ _ _ _ _ (s₁.setTop (mkF m 6 #[.val (.ref a), .val (.ref b), .val (.ref d), .val (.int (1 : Int32)), .val (.int (1 : Int32))] []))
  refine Go.by (fun _ kont => XS.iconst X0.here hx rfl (hb hby dK11_6) kont) ?_
  show Go _ _ _ _ _ _ _ (s₁.setTop (mkF m 7 #[.val (.ref a), .val (.ref b), .val (.ref d), .val (.int (1 : Int32)), .val (.int (1 : Int32))] [(.int (1 : Int32))]))
  refine Go.retN X0 hx (t := .boolean) hret (by simp) hlk (hb hby dK11_7) ?_ (by decide) (by decide)
  show QK11 Z a b d h0 n0 (some (.int (1 : Int32))) s₁.heap _
  rw [e0]
  exact ⟨rfl, N0, rfl⟩

theorem dK12_0 : decode method_3_code 0 = .ok (.iload_n 3, 1) := by decide +kernel
theorem dK12_1 : decode method_3_code 1 = .ok (.iload 4, 2) := by decide +kernel
theorem dK12_3 : decode method_3_code 3 = .ok (.if_icmp .lt 5, 3) := by decide +kernel
theorem dK12_6 : decode method_3_code 6 = .ok (.iconst 1, 1) := by decide +kernel
theorem dK12_7 : decode method_3_code 7 = .ok (.ireturn, 1) := by decide +kernel
theorem pnK12 : plainName "com/example/runs_to_nets/runstonets/core/PlaceTransitionSynthesisNegatedPinLaw" = true := by first | (simp [plainName, overriddenIn]; done) | decide +kernel
theorem efK12 (m : MethodId) (a : Addr) (b : Addr) (d : Addr) : entryFrame m #[(.ref a), (.ref b), (.ref d), (.int (2 : Int32)), (.int (1 : Int32))] 5 = mkF m 0 #[.val (.ref a), .val (.ref b), .val (.ref d), .val (.int (2 : Int32)), .val (.int (1 : Int32))] [] := by first | (simp [entryFrame, mkF, argsToLocals, Value.category]; done) | rfl
def QK12 (Z : State) (a : Addr) (b : Addr) (d : Addr) (h0 : Heap) (n0 : Nat) (v : Option Value) (h : Heap) (L : List Loc) : Prop := (v = some (.int (1 : Int32)) ∧ Fr n0 L ∧ h = h0)
set_option maxRecDepth 65536 in
set_option maxHeartbeats 40000000 in
theorem rmK12 (l : Launch) (Z : State) (a0 : Array Value) (hw : ∀ d ∈ tables_1, d.before a0 Z = true) (ws : List Jvm.Cond) (a : Addr) (b : Addr) (d : Addr) (h0 : Heap) (n0 : Nat) (Z0 : n0 ≤ h0.size) :
    MetFree l (⟨"com/example/runs_to_nets/runstonets/core/PlaceTransitionSynthesisNegatedPinLaw", "ok", "([J[J[JII)Z"⟩ : MethodName) (head1 (Jvm.Cond.code (⟨"com/example/runs_to_nets/runstonets/core/PlaceTransitionSynthesisNegatedPinLaw", "ok", "([J[J[JII)Z"⟩ : MethodName) method_3_code 5 (some .boolean) :: ws) ({ frames := 0, cells := 0, slots := 0, locals := 0 } : Room)) (fun aa_ U_ => aa_ = #[(.ref a), (.ref b), (.ref d), (.int (2 : Int32)), (.int (1 : Int32))] ∧ Z.Warmed39 U_.vm ∧ U_.heap = h0) (fun _ _ _ _ _ => True) (fun _ U_ o_ V_ => ∃ v_ L_, o_ = .returned v_ ∧ QK12 Z a b d h0 n0 v_ V_.heap L_ ∧ FrameEnd U_ o_ V_ L_ ({ frames := 0, cells := 0, slots := 0, locals := 0 } : Room).cells ({ frames := 0, cells := 0, slots := 0, locals := 0 } : Room).slots) := by
  refine MetFree.of_bodySF (plainFor_of_name pnK12) hisR ?_
  intro p e s m args below meth c s₁ Bd hml0 hP hK
  obtain ⟨rfl, hZ, hh⟩ := hP
  have hx := Bd.exec
  have hby := Bd.bytes
  have hml : c.maxLocals = 5 := hml0
  have hown : s.vm.findClass "com/example/runs_to_nets/runstonets/core/PlaceTransitionSynthesisNegatedPinLaw" = some m.cls := findClass_of_methodNamed Bd.named
  have hnm := (name_of_methodNamed Bd.named Bd.method).1
  have hlk : meth.locks = false := BodyLoose.notSynchronized Bd
  have hret : meth.sig.returnType = (some .boolean) := Bd.returns
  have X0 : Stand p l e ({ frames := 0, cells := 0, slots := 0, locals := 0 } : Room) s m #[(.ref a), (.ref b), (.ref d), (.int (2 : Int32)), (.int (1 : Int32))] below meth c s₁ [] 0 0 := Stand.of_body Bd
  have e0 : s₁.heap = h0 := by rw [← hh, Bd.state]; rfl
  have N0 := Fr.nil n0
  show Go p e below s ({ frames := 0, cells := 0, slots := 0, locals := 0 } : Room).cells ({ frames := 0, cells := 0, slots := 0, locals := 0 } : Room).slots (QK12 Z a b d h0 n0) (s₁.setTop (entryFrame m #[(.ref a), (.ref b), (.ref d), (.int (2 : Int32)), (.int (1 : Int32))] 5))
  rw [efK12]
  refine Go.by (fun _ kont => XS.iloadN X0.here hx rfl (hb hby dK12_0) rfl (XS.iload X0.here hx rfl (hb hby dK12_1) rfl kont)) ?_
  show Go _ _ _ _ _ _ _ (s₁.setTop (mkF m 3 #[.val (.ref a), .val (.ref b), .val (.ref d), .val (.int (2 : Int32)), .val (.int (1 : Int32))] [(.int (1 : Int32)), (.int (2 : Int32))]))
  refine Go.by (fun _ kont => XS.icmpNo X0.here hx rfl (hb hby dK12_3) rfl (by decide) kont) ?_
  show Go _ _ _ _ _ _ _ (s₁.setTop (mkF m 6 #[.val (.ref a), .val (.ref b), .val (.ref d), .val (.int (2 : Int32)), .val (.int (1 : Int32))] []))
  refine Go.by (fun _ kont => XS.iconst X0.here hx rfl (hb hby dK12_6) kont) ?_
  show Go _ _ _ _ _ _ _ (s₁.setTop (mkF m 7 #[.val (.ref a), .val (.ref b), .val (.ref d), .val (.int (2 : Int32)), .val (.int (1 : Int32))] [(.int (1 : Int32))]))
  refine Go.retN X0 hx (t := .boolean) hret (by simp) hlk (hb hby dK12_7) ?_ (by decide) (by decide)
  show QK12 Z a b d h0 n0 (some (.int (1 : Int32))) s₁.heap _
  rw [e0]
  exact ⟨rfl, N0, rfl⟩

theorem dK13_0 : decode method_3_code 0 = .ok (.iload_n 3, 1) := by decide +kernel
theorem dK13_1 : decode method_3_code 1 = .ok (.iload 4, 2) := by decide +kernel
theorem dK13_3 : decode method_3_code 3 = .ok (.if_icmp .lt 5, 3) := by decide +kernel
theorem dK13_6 : decode method_3_code 6 = .ok (.iconst 1, 1) := by decide +kernel
theorem dK13_7 : decode method_3_code 7 = .ok (.ireturn, 1) := by decide +kernel
theorem pnK13 : plainName "com/example/runs_to_nets/runstonets/core/PlaceTransitionSynthesisNegatedPinLaw" = true := by first | (simp [plainName, overriddenIn]; done) | decide +kernel
theorem efK13 (m : MethodId) (a : Addr) (b : Addr) (d : Addr) : entryFrame m #[(.ref a), (.ref b), (.ref d), (.int (3 : Int32)), (.int (1 : Int32))] 5 = mkF m 0 #[.val (.ref a), .val (.ref b), .val (.ref d), .val (.int (3 : Int32)), .val (.int (1 : Int32))] [] := by first | (simp [entryFrame, mkF, argsToLocals, Value.category]; done) | rfl
def QK13 (Z : State) (a : Addr) (b : Addr) (d : Addr) (h0 : Heap) (n0 : Nat) (v : Option Value) (h : Heap) (L : List Loc) : Prop := (v = some (.int (1 : Int32)) ∧ Fr n0 L ∧ h = h0)
set_option maxRecDepth 65536 in
set_option maxHeartbeats 40000000 in
theorem rmK13 (l : Launch) (Z : State) (a0 : Array Value) (hw : ∀ d ∈ tables_1, d.before a0 Z = true) (ws : List Jvm.Cond) (a : Addr) (b : Addr) (d : Addr) (h0 : Heap) (n0 : Nat) (Z0 : n0 ≤ h0.size) :
    MetFree l (⟨"com/example/runs_to_nets/runstonets/core/PlaceTransitionSynthesisNegatedPinLaw", "ok", "([J[J[JII)Z"⟩ : MethodName) (head1 (Jvm.Cond.code (⟨"com/example/runs_to_nets/runstonets/core/PlaceTransitionSynthesisNegatedPinLaw", "ok", "([J[J[JII)Z"⟩ : MethodName) method_3_code 5 (some .boolean) :: ws) ({ frames := 0, cells := 0, slots := 0, locals := 0 } : Room)) (fun aa_ U_ => aa_ = #[(.ref a), (.ref b), (.ref d), (.int (3 : Int32)), (.int (1 : Int32))] ∧ Z.Warmed39 U_.vm ∧ U_.heap = h0) (fun _ _ _ _ _ => True) (fun _ U_ o_ V_ => ∃ v_ L_, o_ = .returned v_ ∧ QK13 Z a b d h0 n0 v_ V_.heap L_ ∧ FrameEnd U_ o_ V_ L_ ({ frames := 0, cells := 0, slots := 0, locals := 0 } : Room).cells ({ frames := 0, cells := 0, slots := 0, locals := 0 } : Room).slots) := by
  refine MetFree.of_bodySF (plainFor_of_name pnK13) hisR ?_
  intro p e s m args below meth c s₁ Bd hml0 hP hK
  obtain ⟨rfl, hZ, hh⟩ := hP
  have hx := Bd.exec
  have hby := Bd.bytes
  have hml : c.maxLocals = 5 := hml0
  have hown : s.vm.findClass "com/example/runs_to_nets/runstonets/core/PlaceTransitionSynthesisNegatedPinLaw" = some m.cls := findClass_of_methodNamed Bd.named
  have hnm := (name_of_methodNamed Bd.named Bd.method).1
  have hlk : meth.locks = false := BodyLoose.notSynchronized Bd
  have hret : meth.sig.returnType = (some .boolean) := Bd.returns
  have X0 : Stand p l e ({ frames := 0, cells := 0, slots := 0, locals := 0 } : Room) s m #[(.ref a), (.ref b), (.ref d), (.int (3 : Int32)), (.int (1 : Int32))] below meth c s₁ [] 0 0 := Stand.of_body Bd
  have e0 : s₁.heap = h0 := by rw [← hh, Bd.state]; rfl
  have N0 := Fr.nil n0
  show Go p e below s ({ frames := 0, cells := 0, slots := 0, locals := 0 } : Room).cells ({ frames := 0, cells := 0, slots := 0, locals := 0 } : Room).slots (QK13 Z a b d h0 n0) (s₁.setTop (entryFrame m #[(.ref a), (.ref b), (.ref d), (.int (3 : Int32)), (.int (1 : Int32))] 5))
  rw [efK13]
  refine Go.by (fun _ kont => XS.iloadN X0.here hx rfl (hb hby dK13_0) rfl (XS.iload X0.here hx rfl (hb hby dK13_1) rfl kont)) ?_
  show Go _ _ _ _ _ _ _ (s₁.setTop (mkF m 3 #[.val (.ref a), .val (.ref b), .val (.ref d), .val (.int (3 : Int32)), .val (.int (1 : Int32))] [(.int (1 : Int32)), (.int (3 : Int32))]))
  refine Go.by (fun _ kont => XS.icmpNo X0.here hx rfl (hb hby dK13_3) rfl (by decide) kont) ?_
  show Go _ _ _ _ _ _ _ (s₁.setTop (mkF m 6 #[.val (.ref a), .val (.ref b), .val (.ref d), .val (.int (3 : Int32)), .val (.int (1 : Int32))] []))
  refine Go.by (fun _ kont => XS.iconst X0.here hx rfl (hb hby dK13_6) kont) ?_
  show Go _ _ _ _ _ _ _ (s₁.setTop (mkF m 7 #[.val (.ref a), .val (.ref b), .val (.ref d), .val (.int (3 : Int32)), .val (.int (1 : Int32))] [(.int (1 : Int32))]))
  refine Go.retN X0 hx (t := .boolean) hret (by simp) hlk (hb hby dK13_7) ?_ (by decide) (by decide)
  show QK13 Z a b d h0 n0 (some (.int (1 : Int32))) s₁.heap _
  rw [e0]
  exact ⟨rfl, N0, rfl⟩

theorem dK14_0 : decode method_3_code 0 = .ok (.iload_n 3, 1) := by decide +kernel
theorem dK14_1 : decode method_3_code 1 = .ok (.iload 4, 2) := by decide +kernel
theorem dK14_3 : decode method_3_code 3 = .ok (.if_icmp .lt 5, 3) := by decide +kernel
theorem dK14_6 : decode method_3_code 6 = .ok (.iconst 1, 1) := by decide +kernel
theorem dK14_7 : decode method_3_code 7 = .ok (.ireturn, 1) := by decide +kernel
theorem pnK14 : plainName "com/example/runs_to_nets/runstonets/core/PlaceTransitionSynthesisNegatedPinLaw" = true := by first | (simp [plainName, overriddenIn]; done) | decide +kernel
theorem efK14 (m : MethodId) (a : Addr) (b : Addr) (d : Addr) : entryFrame m #[(.ref a), (.ref b), (.ref d), (.int (4 : Int32)), (.int (1 : Int32))] 5 = mkF m 0 #[.val (.ref a), .val (.ref b), .val (.ref d), .val (.int (4 : Int32)), .val (.int (1 : Int32))] [] := by first | (simp [entryFrame, mkF, argsToLocals, Value.category]; done) | rfl
def QK14 (Z : State) (a : Addr) (b : Addr) (d : Addr) (h0 : Heap) (n0 : Nat) (v : Option Value) (h : Heap) (L : List Loc) : Prop := (v = some (.int (1 : Int32)) ∧ Fr n0 L ∧ h = h0)
set_option maxRecDepth 65536 in
set_option maxHeartbeats 40000000 in
theorem rmK14 (l : Launch) (Z : State) (a0 : Array Value) (hw : ∀ d ∈ tables_1, d.before a0 Z = true) (ws : List Jvm.Cond) (a : Addr) (b : Addr) (d : Addr) (h0 : Heap) (n0 : Nat) (Z0 : n0 ≤ h0.size) :
    MetFree l (⟨"com/example/runs_to_nets/runstonets/core/PlaceTransitionSynthesisNegatedPinLaw", "ok", "([J[J[JII)Z"⟩ : MethodName) (head1 (Jvm.Cond.code (⟨"com/example/runs_to_nets/runstonets/core/PlaceTransitionSynthesisNegatedPinLaw", "ok", "([J[J[JII)Z"⟩ : MethodName) method_3_code 5 (some .boolean) :: ws) ({ frames := 0, cells := 0, slots := 0, locals := 0 } : Room)) (fun aa_ U_ => aa_ = #[(.ref a), (.ref b), (.ref d), (.int (4 : Int32)), (.int (1 : Int32))] ∧ Z.Warmed39 U_.vm ∧ U_.heap = h0) (fun _ _ _ _ _ => True) (fun _ U_ o_ V_ => ∃ v_ L_, o_ = .returned v_ ∧ QK14 Z a b d h0 n0 v_ V_.heap L_ ∧ FrameEnd U_ o_ V_ L_ ({ frames := 0, cells := 0, slots := 0, locals := 0 } : Room).cells ({ frames := 0, cells := 0, slots := 0, locals := 0 } : Room).slots) := by
  refine MetFree.of_bodySF (plainFor_of_name pnK14) hisR ?_
  intro p e s m args below meth c s₁ Bd hml0 hP hK
  obtain ⟨rfl, hZ, hh⟩ := hP
  have hx := Bd.exec
  have hby := Bd.bytes
  have hml : c.maxLocals = 5 := hml0
  have hown : s.vm.findClass "com/example/runs_to_nets/runstonets/core/PlaceTransitionSynthesisNegatedPinLaw" = some m.cls := findClass_of_methodNamed Bd.named
  have hnm := (name_of_methodNamed Bd.named Bd.method).1
  have hlk : meth.locks = false := BodyLoose.notSynchronized Bd
  have hret : meth.sig.returnType = (some .boolean) := Bd.returns
  have X0 : Stand p l e ({ frames := 0, cells := 0, slots := 0, locals := 0 } : Room) s m #[(.ref a), (.ref b), (.ref d), (.int (4 : Int32)), (.int (1 : Int32))] below meth c s₁ [] 0 0 := Stand.of_body Bd
  have e0 : s₁.heap = h0 := by rw [← hh, Bd.state]; rfl
  have N0 := Fr.nil n0
  show Go p e below s ({ frames := 0, cells := 0, slots := 0, locals := 0 } : Room).cells ({ frames := 0, cells := 0, slots := 0, locals := 0 } : Room).slots (QK14 Z a b d h0 n0) (s₁.setTop (entryFrame m #[(.ref a), (.ref b), (.ref d), (.int (4 : Int32)), (.int (1 : Int32))] 5))
  rw [efK14]
  refine Go.by (fun _ kont => XS.iloadN X0.here hx rfl (hb hby dK14_0) rfl (XS.iload X0.here hx rfl (hb hby dK14_1) rfl kont)) ?_
  show Go _ _ _ _ _ _ _ (s₁.setTop (mkF m 3 #[.val (.ref a), .val (.ref b), .val (.ref d), .val (.int (4 : Int32)), .val (.int (1 : Int32))] [(.int (1 : Int32)), (.int (4 : Int32))]))
  refine Go.by (fun _ kont => XS.icmpNo X0.here hx rfl (hb hby dK14_3) rfl (by decide) kont) ?_
  show Go _ _ _ _ _ _ _ (s₁.setTop (mkF m 6 #[.val (.ref a), .val (.ref b), .val (.ref d), .val (.int (4 : Int32)), .val (.int (1 : Int32))] []))
  refine Go.by (fun _ kont => XS.iconst X0.here hx rfl (hb hby dK14_6) kont) ?_
  show Go _ _ _ _ _ _ _ (s₁.setTop (mkF m 7 #[.val (.ref a), .val (.ref b), .val (.ref d), .val (.int (4 : Int32)), .val (.int (1 : Int32))] [(.int (1 : Int32))]))
  refine Go.retN X0 hx (t := .boolean) hret (by simp) hlk (hb hby dK14_7) ?_ (by decide) (by decide)
  show QK14 Z a b d h0 n0 (some (.int (1 : Int32))) s₁.heap _
  rw [e0]
  exact ⟨rfl, N0, rfl⟩

theorem dN2_0 : decode prog_27_method_10_code 0 = .ok (.aload_n 0, 1) := by decide +kernel
theorem dN2_1 : decode prog_27_method_10_code 1 = .ok (.arraylength, 1) := by decide +kernel
theorem dN2_2 : decode prog_27_method_10_code 2 = .ok (.newarray .long, 2) := by decide +kernel
theorem dN2_4 : decode prog_27_method_10_code 4 = .ok (.astore_n 1, 1) := by decide +kernel
theorem dN2_5 : decode prog_27_method_10_code 5 = .ok (.iconst 0, 1) := by decide +kernel
theorem dN2_6 : decode prog_27_method_10_code 6 = .ok (.istore_n 2, 1) := by decide +kernel
theorem dN2_7 : decode prog_27_method_10_code 7 = .ok (.iload_n 2, 1) := by decide +kernel
theorem dN2_8 : decode prog_27_method_10_code 8 = .ok (.aload_n 0, 1) := by decide +kernel
theorem dN2_9 : decode prog_27_method_10_code 9 = .ok (.arraylength, 1) := by decide +kernel
theorem dN2_10 : decode prog_27_method_10_code 10 = .ok (.if_icmp .ge 16, 3) := by decide +kernel
theorem dN2_13 : decode prog_27_method_10_code 13 = .ok (.aload_n 1, 1) := by decide +kernel
theorem dN2_14 : decode prog_27_method_10_code 14 = .ok (.iload_n 2, 1) := by decide +kernel
theorem dN2_15 : decode prog_27_method_10_code 15 = .ok (.aload_n 0, 1) := by decide +kernel
theorem dN2_16 : decode prog_27_method_10_code 16 = .ok (.iload_n 2, 1) := by decide +kernel
theorem dN2_17 : decode prog_27_method_10_code 17 = .ok (.laload, 1) := by decide +kernel
theorem dN2_18 : decode prog_27_method_10_code 18 = .ok (.lneg, 1) := by decide +kernel
theorem dN2_19 : decode prog_27_method_10_code 19 = .ok (.lastore, 1) := by decide +kernel
theorem dN2_20 : decode prog_27_method_10_code 20 = .ok (.iinc 2 1, 3) := by decide +kernel
theorem dN2_23 : decode prog_27_method_10_code 23 = .ok (.goto (-16), 3) := by decide +kernel
theorem dN2_26 : decode prog_27_method_10_code 26 = .ok (.aload_n 1, 1) := by decide +kernel
theorem dN2_27 : decode prog_27_method_10_code 27 = .ok (.areturn, 1) := by decide +kernel
theorem pnN2 : plainName "com/example/runs_to_nets/runstonets/core/PlaceTransitionSynthesis" = true := by first | (simp [plainName, overriddenIn]; done) | decide +kernel
theorem efN2 (m : MethodId) (a : Addr) : entryFrame m #[(.ref a)] 3 = mkF m 0 #[.val (.ref a), .unset, .unset] [] := by first | (simp [entryFrame, mkF, argsToLocals, Value.category]; done) | rfl
def QN2 (Z : State) (a : Addr) (kc_a : ClassId) (v0 : Int64) (v1 : Int64) (h0 : Heap) (n0 : Nat) (v : Option Value) (h : Heap) (L : List Loc) : Prop := ∃ b102 : Addr, ∃ k102 : ClassId, (v = some (.ref b102) ∧ Fr n0 L ∧ Keep h0 h [] ∧ n0 ≤ b102 ∧ h0.size ≤ b102 ∧ Arv Z h b102 k102 .long (2 : Int32) [(.long (-v0)), (.long (-v1))] (.long (0 : Int64)))
set_option maxRecDepth 65536 in
set_option maxHeartbeats 40000000 in
theorem rmN2 (l : Launch) (Z : State) (a0 : Array Value) (hw : ∀ d ∈ tables_1, d.before a0 Z = true) (ws : List Jvm.Cond) (a : Addr) (kc_a : ClassId) (v0 : Int64) (v1 : Int64) (h0 : Heap) (n0 : Nat) (Z0 : n0 ≤ h0.size) (V0_a : Arv Z h0 a kc_a .long (2 : Int32) [(.long v0), (.long v1)] (.long (0 : Int64))) :
    MetFree l (⟨"com/example/runs_to_nets/runstonets/core/PlaceTransitionSynthesis", "negated", "([J)[J"⟩ : MethodName) (head1 (Jvm.Cond.code (⟨"com/example/runs_to_nets/runstonets/core/PlaceTransitionSynthesis", "negated", "([J)[J"⟩ : MethodName) prog_27_method_10_code 3 (some (.array .long)) :: ws) ({ frames := 0, cells := 1, slots := 2, locals := 0 } : Room)) (fun aa_ U_ => aa_ = #[(.ref a)] ∧ Z.Warmed39 U_.vm ∧ U_.heap = h0) (fun _ _ _ _ _ => True) (fun _ U_ o_ V_ => ∃ v_ L_, o_ = .returned v_ ∧ QN2 Z a kc_a v0 v1 h0 n0 v_ V_.heap L_ ∧ FrameEnd U_ o_ V_ L_ ({ frames := 0, cells := 1, slots := 2, locals := 0 } : Room).cells ({ frames := 0, cells := 1, slots := 2, locals := 0 } : Room).slots) := by
  refine MetFree.of_bodySF (plainFor_of_name pnN2) hisR ?_
  intro p e s m args below meth c s₁ Bd hml0 hP hK
  obtain ⟨rfl, hZ, hh⟩ := hP
  have hx := Bd.exec
  have hby := Bd.bytes
  have hml : c.maxLocals = 3 := hml0
  have hown : s.vm.findClass "com/example/runs_to_nets/runstonets/core/PlaceTransitionSynthesis" = some m.cls := findClass_of_methodNamed Bd.named
  have hnm := (name_of_methodNamed Bd.named Bd.method).1
  have hlk : meth.locks = false := BodyLoose.notSynchronized Bd
  have hret : meth.sig.returnType = (some (.array .long)) := Bd.returns
  have X0 : Stand p l e ({ frames := 0, cells := 1, slots := 2, locals := 0 } : Room) s m #[(.ref a)] below meth c s₁ [] 0 0 := Stand.of_body Bd
  have e0 : s₁.heap = h0 := by rw [← hh, Bd.state]; rfl
  have N0 := Fr.nil n0
  show Go p e below s ({ frames := 0, cells := 1, slots := 2, locals := 0 } : Room).cells ({ frames := 0, cells := 1, slots := 2, locals := 0 } : Room).slots (QN2 Z a kc_a v0 v1 h0 n0) (s₁.setTop (entryFrame m #[(.ref a)] 3))
  rw [efN2]
  refine Go.by (fun _ kont => XS.aloadN X0.here hx rfl (hb hby dN2_0) rfl rfl kont) ?_
  show Go _ _ _ _ _ _ _ (s₁.setTop (mkF m 1 #[.val (.ref a), .unset, .unset] [(.ref a)]))
  obtain ⟨cl_q101, Ar_q101, q1_q101, S_q101, N_q101, H_q101, G_q101⟩ := id V0_a
  refine Go.by (X0.arraylength hx (by first | exact Ar_q101.1 | (rw [e0]; exact Ar_q101.1)) (State.isArrayOf_alike hZ.alike Ar_q101.2.1) (g := (mkF m 1 #[.val (.ref a), .unset, .unset] [(.ref a)])) rfl rfl (hb hby dN2_1)) ?_
  rw [len_of S_q101 N_q101]
  show Go _ _ _ _ _ _ _ (s₁.setTop (mkF m 2 #[.val (.ref a), .unset, .unset] [(.int (2 : Int32))]))
  obtain ⟨T102, h102, k102, X102, e102, X_102, A102, st102⟩ := newP X0 hx hZ (hw _ (List.mem_of_getElem? (i := 1) rfl)) e0 (g := (mkF m 2 #[.val (.ref a), .unset, .unset] [(.int (2 : Int32))])) rfl (hb hby dN2_2) rfl (by decide) (cap := 2) (by decide) (by decide) (by decide) (by decide)
  obtain ⟨b102, g102⟩ : ∃ z, z = h0.size := ⟨_, rfl⟩
  rw [← g102] at A102 st102
  have ne_a_b102 : a ≠ b102 := Nat.ne_of_lt (Nat.lt_of_lt_of_le V0_a.lt (Nat.le_of_eq g102.symm))
  have ge_b102 : n0 ≤ b102 := Nat.le_trans Z0 (Nat.le_of_eq g102.symm)
  have sz_b102 : h0.size ≤ b102 := Nat.le_trans (Keep.refl h0 []).1 (Nat.le_of_eq g102.symm)
  have V103_a := V0_a.ext X_102
  have Z103 := Nat.le_trans Z0 X_102.1
  have K103 : Keep h0 h102 [] := (Keep.refl h0 []).ext X_102
  have V102 : Arv Z h102 b102 k102 .long (2 : Int32) [(.long (0 : Int64)), (.long (0 : Int64))] (.long (0 : Int64)) := (Arv.new A102 (by decide)).pad (pad_rep [] (.long (0 : Int64)) 2)
  refine Go.by st102 ?_
  show Go _ _ _ _ _ _ _ (T102.setTop (mkF m 4 #[.val (.ref a), .unset, .unset] [(.ref b102)]))
  refine Go.by (fun _ kont => XS.astoreN X102.here hx rfl (hb hby dN2_4) rfl rfl (l' := #[.val (.ref a), .val (.ref b102), .unset]) rfl (XS.iconst X102.here hx rfl (hb hby dN2_5) (XS.istoreN X102.here hx rfl (hb hby dN2_6) rfl (l' := #[.val (.ref a), .val (.ref b102), .val (.int (0 : Int32))]) rfl (XS.iloadN X102.here hx rfl (hb hby dN2_7) rfl (XS.aloadN X102.here hx rfl (hb hby dN2_8) rfl rfl kont))))) ?_
  show Go _ _ _ _ _ _ _ (T102.setTop (mkF m 9 #[.val (.ref a), .val (.ref b102), .val (.int (0 : Int32))] [(.ref a), (.int (0 : Int32))]))
  obtain ⟨cl_q104, Ar_q104, q1_q104, S_q104, N_q104, H_q104, G_q104⟩ := id V103_a
  refine Go.by (X102.arraylength hx (by first | exact Ar_q104.1 | (rw [e102]; exact Ar_q104.1)) (State.isArrayOf_alike hZ.alike Ar_q104.2.1) (g := (mkF m 9 #[.val (.ref a), .val (.ref b102), .val (.int (0 : Int32))] [(.ref a), (.int (0 : Int32))])) rfl rfl (hb hby dN2_9)) ?_
  rw [len_of S_q104 N_q104]
  show Go _ _ _ _ _ _ _ (T102.setTop (mkF m 10 #[.val (.ref a), .val (.ref b102), .val (.int (0 : Int32))] [(.int (2 : Int32)), (.int (0 : Int32))]))
  refine Go.by (fun _ kont => XS.icmpNo X102.here hx rfl (hb hby dN2_10) rfl (by decide) kont) ?_
  show Go _ _ _ _ _ _ _ (T102.setTop (mkF m 13 #[.val (.ref a), .val (.ref b102), .val (.int (0 : Int32))] []))
  refine Go.by (fun _ kont => XS.aloadN X102.here hx rfl (hb hby dN2_13) rfl rfl (XS.iloadN X102.here hx rfl (hb hby dN2_14) rfl (XS.aloadN X102.here hx rfl (hb hby dN2_15) rfl rfl (XS.iloadN X102.here hx rfl (hb hby dN2_16) rfl kont)))) ?_
  show Go _ _ _ _ _ _ _ (T102.setTop (mkF m 17 #[.val (.ref a), .val (.ref b102), .val (.int (0 : Int32))] [(.int (0 : Int32)), (.ref a), (.int (0 : Int32)), (.ref b102)]))
  obtain ⟨cl_q105, Ar_q105, q1_q105, S_q105, N_q105, H_q105, G_q105⟩ := id V103_a
  have hin_q105 : ¬ ((0 : Int32) < 0 ∨ cl_q105.slots.size ≤ ((0 : Int32)).toNatClampNeg) := inb_of S_q105 ⟨by decide, by decide⟩
  have hat_q105 : cl_q105.slots[((0 : Int32)).toNatClampNeg]? = some (.long v0) := Has.at H_q105 hin_q105 rfl
  refine Go.by (X102.laload hx (j := (0 : Int32)) (v := (.long v0)) (by first | exact Ar_q105.1 | (rw [e102]; exact Ar_q105.1)) (State.isArrayOf_alike hZ.alike Ar_q105.2.1) Ar_q105.2.2 hin_q105 hat_q105 (g := (mkF m 17 #[.val (.ref a), .val (.ref b102), .val (.int (0 : Int32))] [(.int (0 : Int32)), (.ref a), (.int (0 : Int32)), (.ref b102)])) rfl rfl (hb hby dN2_17)) ?_
  show Go _ _ _ _ _ _ _ (T102.setTop (mkF m 18 #[.val (.ref a), .val (.ref b102), .val (.int (0 : Int32))] [(.long v0), (.int (0 : Int32)), (.ref b102)]))
  refine Go.by (fun _ kont => XS.lneg X102.here hx rfl (hb hby dN2_18) rfl kont) ?_
  show Go _ _ _ _ _ _ _ (T102.setTop (mkF m 19 #[.val (.ref a), .val (.ref b102), .val (.int (0 : Int32))] [(.long (-v0)), (.int (0 : Int32)), (.ref b102)]))
  obtain ⟨cl_q106, Ar_q106, q1_q106, S_q106, N_q106, H_q106, G_q106⟩ := id V102
  have hin_q106 : ¬ ((0 : Int32) < 0 ∨ cl_q106.slots.size ≤ ((0 : Int32)).toNatClampNeg) := inb_of S_q106 ⟨by decide, by decide⟩
  obtain ⟨T107, h107, X107, e107, W107, st107⟩ := stJ X102 hx hZ e102 Ar_q106 (j := (0 : Int32)) hin_q106 (g := (mkF m 19 #[.val (.ref a), .val (.ref b102), .val (.int (0 : Int32))] [(.long (-v0)), (.int (0 : Int32)), (.ref b102)])) rfl rfl (hb hby dN2_19)
  have V107 : Arv Z h107 b102 k102 .long (2 : Int32) [(.long (-v0)), (.long (0 : Int64))] (.long (0 : Int64)) := Arv.set Ar_q106 q1_q106 S_q106 N_q106 H_q106 G_q106 rfl W107 0 rfl (Nat.le_of_ble_eq_true rfl)
  have V108_a := V103_a.other W107 ne_a_b102
  have Z108 := Nat.le_trans Z103 (Keep.of_wr W107).1
  have K108 : Keep h0 h107 [] := K103.wr W107 (Or.inr sz_b102)
  have N107 := Fr.snoc X107 N0 ge_b102
  refine Go.by st107 ?_
  show Go _ _ _ _ _ _ _ (T107.setTop (mkF m 20 #[.val (.ref a), .val (.ref b102), .val (.int (0 : Int32))] []))
  refine Go.by (fun _ kont => XS.iinc X107.here hx rfl (hb hby dN2_20) rfl (l' := #[.val (.ref a), .val (.ref b102), .val (.int (1 : Int32))]) rfl (XS.goto X107.here hx rfl (pc0 := 23) (pc' := 7) rfl (hb hby dN2_23) (by decide) (by decide) (XS.iloadN X107.here hx rfl (hb hby dN2_7) rfl (XS.aloadN X107.here hx rfl (hb hby dN2_8) rfl rfl kont)))) ?_
  show Go _ _ _ _ _ _ _ (T107.setTop (mkF m 9 #[.val (.ref a), .val (.ref b102), .val (.int (1 : Int32))] [(.ref a), (.int (1 : Int32))]))
  obtain ⟨cl_q109, Ar_q109, q1_q109, S_q109, N_q109, H_q109, G_q109⟩ := id V108_a
  refine Go.by (X107.arraylength hx (by first | exact Ar_q109.1 | (rw [e107]; exact Ar_q109.1)) (State.isArrayOf_alike hZ.alike Ar_q109.2.1) (g := (mkF m 9 #[.val (.ref a), .val (.ref b102), .val (.int (1 : Int32))] [(.ref a), (.int (1 : Int32))])) rfl rfl (hb hby dN2_9)) ?_
  rw [len_of S_q109 N_q109]
  show Go _ _ _ _ _ _ _ (T107.setTop (mkF m 10 #[.val (.ref a), .val (.ref b102), .val (.int (1 : Int32))] [(.int (2 : Int32)), (.int (1 : Int32))]))
  refine Go.by (fun _ kont => XS.icmpNo X107.here hx rfl (hb hby dN2_10) rfl (by decide) kont) ?_
  show Go _ _ _ _ _ _ _ (T107.setTop (mkF m 13 #[.val (.ref a), .val (.ref b102), .val (.int (1 : Int32))] []))
  refine Go.by (fun _ kont => XS.aloadN X107.here hx rfl (hb hby dN2_13) rfl rfl (XS.iloadN X107.here hx rfl (hb hby dN2_14) rfl (XS.aloadN X107.here hx rfl (hb hby dN2_15) rfl rfl (XS.iloadN X107.here hx rfl (hb hby dN2_16) rfl kont)))) ?_
  show Go _ _ _ _ _ _ _ (T107.setTop (mkF m 17 #[.val (.ref a), .val (.ref b102), .val (.int (1 : Int32))] [(.int (1 : Int32)), (.ref a), (.int (1 : Int32)), (.ref b102)]))
  obtain ⟨cl_q110, Ar_q110, q1_q110, S_q110, N_q110, H_q110, G_q110⟩ := id V108_a
  have hin_q110 : ¬ ((1 : Int32) < 0 ∨ cl_q110.slots.size ≤ ((1 : Int32)).toNatClampNeg) := inb_of S_q110 ⟨by decide, by decide⟩
  have hat_q110 : cl_q110.slots[((1 : Int32)).toNatClampNeg]? = some (.long v1) := Has.at H_q110 hin_q110 rfl
  refine Go.by (X107.laload hx (j := (1 : Int32)) (v := (.long v1)) (by first | exact Ar_q110.1 | (rw [e107]; exact Ar_q110.1)) (State.isArrayOf_alike hZ.alike Ar_q110.2.1) Ar_q110.2.2 hin_q110 hat_q110 (g := (mkF m 17 #[.val (.ref a), .val (.ref b102), .val (.int (1 : Int32))] [(.int (1 : Int32)), (.ref a), (.int (1 : Int32)), (.ref b102)])) rfl rfl (hb hby dN2_17)) ?_
  show Go _ _ _ _ _ _ _ (T107.setTop (mkF m 18 #[.val (.ref a), .val (.ref b102), .val (.int (1 : Int32))] [(.long v1), (.int (1 : Int32)), (.ref b102)]))
  refine Go.by (fun _ kont => XS.lneg X107.here hx rfl (hb hby dN2_18) rfl kont) ?_
  show Go _ _ _ _ _ _ _ (T107.setTop (mkF m 19 #[.val (.ref a), .val (.ref b102), .val (.int (1 : Int32))] [(.long (-v1)), (.int (1 : Int32)), (.ref b102)]))
  obtain ⟨cl_q111, Ar_q111, q1_q111, S_q111, N_q111, H_q111, G_q111⟩ := id V107
  have hin_q111 : ¬ ((1 : Int32) < 0 ∨ cl_q111.slots.size ≤ ((1 : Int32)).toNatClampNeg) := inb_of S_q111 ⟨by decide, by decide⟩
  obtain ⟨T112, h112, X112, e112, W112, st112⟩ := stJ X107 hx hZ e107 Ar_q111 (j := (1 : Int32)) hin_q111 (g := (mkF m 19 #[.val (.ref a), .val (.ref b102), .val (.int (1 : Int32))] [(.long (-v1)), (.int (1 : Int32)), (.ref b102)])) rfl rfl (hb hby dN2_19)
  have V112 : Arv Z h112 b102 k102 .long (2 : Int32) [(.long (-v0)), (.long (-v1))] (.long (0 : Int64)) := Arv.set Ar_q111 q1_q111 S_q111 N_q111 H_q111 G_q111 rfl W112 1 rfl (Nat.le_of_ble_eq_true rfl)
  have V113_a := V108_a.other W112 ne_a_b102
  have Z113 := Nat.le_trans Z108 (Keep.of_wr W112).1
  have K113 : Keep h0 h112 [] := K108.wr W112 (Or.inr sz_b102)
  have N112 := Fr.snoc X112 N107 ge_b102
  refine Go.by st112 ?_
  show Go _ _ _ _ _ _ _ (T112.setTop (mkF m 20 #[.val (.ref a), .val (.ref b102), .val (.int (1 : Int32))] []))
  refine Go.by (fun _ kont => XS.iinc X112.here hx rfl (hb hby dN2_20) rfl (l' := #[.val (.ref a), .val (.ref b102), .val (.int (2 : Int32))]) rfl (XS.goto X112.here hx rfl (pc0 := 23) (pc' := 7) rfl (hb hby dN2_23) (by decide) (by decide) (XS.iloadN X112.here hx rfl (hb hby dN2_7) rfl (XS.aloadN X112.here hx rfl (hb hby dN2_8) rfl rfl kont)))) ?_
  show Go _ _ _ _ _ _ _ (T112.setTop (mkF m 9 #[.val (.ref a), .val (.ref b102), .val (.int (2 : Int32))] [(.ref a), (.int (2 : Int32))]))
  obtain ⟨cl_q114, Ar_q114, q1_q114, S_q114, N_q114, H_q114, G_q114⟩ := id V113_a
  refine Go.by (X112.arraylength hx (by first | exact Ar_q114.1 | (rw [e112]; exact Ar_q114.1)) (State.isArrayOf_alike hZ.alike Ar_q114.2.1) (g := (mkF m 9 #[.val (.ref a), .val (.ref b102), .val (.int (2 : Int32))] [(.ref a), (.int (2 : Int32))])) rfl rfl (hb hby dN2_9)) ?_
  rw [len_of S_q114 N_q114]
  show Go _ _ _ _ _ _ _ (T112.setTop (mkF m 10 #[.val (.ref a), .val (.ref b102), .val (.int (2 : Int32))] [(.int (2 : Int32)), (.int (2 : Int32))]))
  refine Go.by (fun _ kont => XS.icmpYes X112.here hx rfl (pc0 := 10) (pc' := 26) rfl (hb hby dN2_10) rfl (by decide) (by decide) (by decide) kont) ?_
  show Go _ _ _ _ _ _ _ (T112.setTop (mkF m 26 #[.val (.ref a), .val (.ref b102), .val (.int (2 : Int32))] []))
  refine Go.by (fun _ kont => XS.aloadN X112.here hx rfl (hb hby dN2_26) rfl rfl kont) ?_
  show Go _ _ _ _ _ _ _ (T112.setTop (mkF m 27 #[.val (.ref a), .val (.ref b102), .val (.int (2 : Int32))] [(.ref b102)]))
  refine Go.retR X112 hx hret rfl rfl hlk (hb hby dN2_27) ?_ (by decide) (by decide)
  show QN2 Z a kc_a v0 v1 h0 n0 (some (.ref b102)) T112.heap _
  rw [e112]
  exact ⟨b102, k102, rfl, N112, K113, ge_b102, sz_b102, V112⟩

theorem dK20_0 : decode method_3_code 0 = .ok (.iload_n 3, 1) := by decide +kernel
theorem dK20_1 : decode method_3_code 1 = .ok (.iload 4, 2) := by decide +kernel
theorem dK20_3 : decode method_3_code 3 = .ok (.if_icmp .lt 5, 3) := by decide +kernel
theorem dK20_8 : decode method_3_code 8 = .ok (.aload_n 0, 1) := by decide +kernel
theorem dK20_9 : decode method_3_code 9 = .ok (.iload_n 3, 1) := by decide +kernel
theorem dK20_10 : decode method_3_code 10 = .ok (.laload, 1) := by decide +kernel
theorem dK20_11 : decode method_3_code 11 = .ok (.aload_n 2, 1) := by decide +kernel
theorem dK20_12 : decode method_3_code 12 = .ok (.iload_n 3, 1) := by decide +kernel
theorem dK20_13 : decode method_3_code 13 = .ok (.laload, 1) := by decide +kernel
theorem dK20_14 : decode method_3_code 14 = .ok (.lcmp, 1) := by decide +kernel
theorem dK20_15 : decode method_3_code 15 = .ok (.ifCond .ne 19, 3) := by decide +kernel
theorem dK20_18 : decode method_3_code 18 = .ok (.aload_n 0, 1) := by decide +kernel
theorem dK20_19 : decode method_3_code 19 = .ok (.iload_n 3, 1) := by decide +kernel
theorem dK20_20 : decode method_3_code 20 = .ok (.laload, 1) := by decide +kernel
theorem dK20_21 : decode method_3_code 21 = .ok (.aload_n 1, 1) := by decide +kernel
theorem dK20_22 : decode method_3_code 22 = .ok (.iload_n 3, 1) := by decide +kernel
theorem dK20_23 : decode method_3_code 23 = .ok (.laload, 1) := by decide +kernel
theorem dK20_24 : decode method_3_code 24 = .ok (.ladd, 1) := by decide +kernel
theorem dK20_25 : decode method_3_code 25 = .ok (.lconst 0, 1) := by decide +kernel
theorem dK20_26 : decode method_3_code 26 = .ok (.lcmp, 1) := by decide +kernel
theorem dK20_27 : decode method_3_code 27 = .ok (.ifCond .ne 7, 3) := by decide +kernel
theorem dK20_30 : decode method_3_code 30 = .ok (.iconst 1, 1) := by decide +kernel
theorem dK20_31 : decode method_3_code 31 = .ok (.goto 4, 3) := by decide +kernel
theorem dK20_35 : decode method_3_code 35 = .ok (.ireturn, 1) := by decide +kernel
theorem pnK20 : plainName "com/example/runs_to_nets/runstonets/core/PlaceTransitionSynthesisNegatedPinLaw" = true := by first | (simp [plainName, overriddenIn]; done) | decide +kernel
theorem efK20 (m : MethodId) (a : Addr) (b : Addr) (d : Addr) : entryFrame m #[(.ref a), (.ref b), (.ref d), (.int (0 : Int32)), (.int (2 : Int32))] 5 = mkF m 0 #[.val (.ref a), .val (.ref b), .val (.ref d), .val (.int (0 : Int32)), .val (.int (2 : Int32))] [] := by first | (simp [entryFrame, mkF, argsToLocals, Value.category]; done) | rfl
def QK20 (Z : State) (a : Addr) (b : Addr) (d : Addr) (kc_a : ClassId) (v0 : Int64) (v1 : Int64) (kc_b : ClassId) (kc_d : ClassId) (v2 : Int64) (v3 : Int64) (v4 : Int64) (h0 : Heap) (n0 : Nat) (v : Option Value) (h : Heap) (L : List Loc) : Prop := (v = some (.int (1 : Int32)) ∧ Fr n0 L ∧ h = h0)
set_option maxRecDepth 65536 in
set_option maxHeartbeats 40000000 in
theorem rmK20 (l : Launch) (Z : State) (a0 : Array Value) (hw : ∀ d ∈ tables_1, d.before a0 Z = true) (ws : List Jvm.Cond) (a : Addr) (b : Addr) (d : Addr) (kc_a : ClassId) (v0 : Int64) (v1 : Int64) (kc_b : ClassId) (kc_d : ClassId) (v2 : Int64) (v3 : Int64) (v4 : Int64) (h0 : Heap) (n0 : Nat) (Z0 : n0 ≤ h0.size) (V0_a : Arv Z h0 a kc_a .long (2 : Int32) [(.long v0), (.long v1)] (.long (0 : Int64))) (V0_b : Arv Z h0 b kc_b .long (2 : Int32) [(.long (-v0)), (.long (-v1))] (.long (0 : Int64))) (V0_d : Arv Z h0 d kc_d .long (5 : Int32) [(.long v0), (.long v1), (.long v2), (.long v3), (.long v4)] (.long (0 : Int64))) :
    MetFree l (⟨"com/example/runs_to_nets/runstonets/core/PlaceTransitionSynthesisNegatedPinLaw", "ok", "([J[J[JII)Z"⟩ : MethodName) (head1 (Jvm.Cond.code (⟨"com/example/runs_to_nets/runstonets/core/PlaceTransitionSynthesisNegatedPinLaw", "ok", "([J[J[JII)Z"⟩ : MethodName) method_3_code 5 (some .boolean) :: ws) ({ frames := 0, cells := 0, slots := 0, locals := 0 } : Room)) (fun aa_ U_ => aa_ = #[(.ref a), (.ref b), (.ref d), (.int (0 : Int32)), (.int (2 : Int32))] ∧ Z.Warmed39 U_.vm ∧ U_.heap = h0) (fun _ _ _ _ _ => True) (fun _ U_ o_ V_ => ∃ v_ L_, o_ = .returned v_ ∧ QK20 Z a b d kc_a v0 v1 kc_b kc_d v2 v3 v4 h0 n0 v_ V_.heap L_ ∧ FrameEnd U_ o_ V_ L_ ({ frames := 0, cells := 0, slots := 0, locals := 0 } : Room).cells ({ frames := 0, cells := 0, slots := 0, locals := 0 } : Room).slots) := by
  refine MetFree.of_bodySF (plainFor_of_name pnK20) hisR ?_
  intro p e s m args below meth c s₁ Bd hml0 hP hK
  obtain ⟨rfl, hZ, hh⟩ := hP
  have hx := Bd.exec
  have hby := Bd.bytes
  have hml : c.maxLocals = 5 := hml0
  have hown : s.vm.findClass "com/example/runs_to_nets/runstonets/core/PlaceTransitionSynthesisNegatedPinLaw" = some m.cls := findClass_of_methodNamed Bd.named
  have hnm := (name_of_methodNamed Bd.named Bd.method).1
  have hlk : meth.locks = false := BodyLoose.notSynchronized Bd
  have hret : meth.sig.returnType = (some .boolean) := Bd.returns
  have X0 : Stand p l e ({ frames := 0, cells := 0, slots := 0, locals := 0 } : Room) s m #[(.ref a), (.ref b), (.ref d), (.int (0 : Int32)), (.int (2 : Int32))] below meth c s₁ [] 0 0 := Stand.of_body Bd
  have e0 : s₁.heap = h0 := by rw [← hh, Bd.state]; rfl
  have N0 := Fr.nil n0
  show Go p e below s ({ frames := 0, cells := 0, slots := 0, locals := 0 } : Room).cells ({ frames := 0, cells := 0, slots := 0, locals := 0 } : Room).slots (QK20 Z a b d kc_a v0 v1 kc_b kc_d v2 v3 v4 h0 n0) (s₁.setTop (entryFrame m #[(.ref a), (.ref b), (.ref d), (.int (0 : Int32)), (.int (2 : Int32))] 5))
  rw [efK20]
  refine Go.by (fun _ kont => XS.iloadN X0.here hx rfl (hb hby dK20_0) rfl (XS.iload X0.here hx rfl (hb hby dK20_1) rfl kont)) ?_
  show Go _ _ _ _ _ _ _ (s₁.setTop (mkF m 3 #[.val (.ref a), .val (.ref b), .val (.ref d), .val (.int (0 : Int32)), .val (.int (2 : Int32))] [(.int (2 : Int32)), (.int (0 : Int32))]))
  refine Go.by (fun _ kont => XS.icmpYes X0.here hx rfl (pc0 := 3) (pc' := 8) rfl (hb hby dK20_3) rfl (by decide) (by decide) (by decide) kont) ?_
  show Go _ _ _ _ _ _ _ (s₁.setTop (mkF m 8 #[.val (.ref a), .val (.ref b), .val (.ref d), .val (.int (0 : Int32)), .val (.int (2 : Int32))] []))
  refine Go.by (fun _ kont => XS.aloadN X0.here hx rfl (hb hby dK20_8) rfl rfl (XS.iloadN X0.here hx rfl (hb hby dK20_9) rfl kont)) ?_
  show Go _ _ _ _ _ _ _ (s₁.setTop (mkF m 10 #[.val (.ref a), .val (.ref b), .val (.ref d), .val (.int (0 : Int32)), .val (.int (2 : Int32))] [(.int (0 : Int32)), (.ref a)]))
  obtain ⟨cl_q101, Ar_q101, q1_q101, S_q101, N_q101, H_q101, G_q101⟩ := id V0_a
  have hin_q101 : ¬ ((0 : Int32) < 0 ∨ cl_q101.slots.size ≤ ((0 : Int32)).toNatClampNeg) := inb_of S_q101 ⟨by decide, by decide⟩
  have hat_q101 : cl_q101.slots[((0 : Int32)).toNatClampNeg]? = some (.long v0) := Has.at H_q101 hin_q101 rfl
  refine Go.by (X0.laload hx (j := (0 : Int32)) (v := (.long v0)) (by first | exact Ar_q101.1 | (rw [e0]; exact Ar_q101.1)) (State.isArrayOf_alike hZ.alike Ar_q101.2.1) Ar_q101.2.2 hin_q101 hat_q101 (g := (mkF m 10 #[.val (.ref a), .val (.ref b), .val (.ref d), .val (.int (0 : Int32)), .val (.int (2 : Int32))] [(.int (0 : Int32)), (.ref a)])) rfl rfl (hb hby dK20_10)) ?_
  show Go _ _ _ _ _ _ _ (s₁.setTop (mkF m 11 #[.val (.ref a), .val (.ref b), .val (.ref d), .val (.int (0 : Int32)), .val (.int (2 : Int32))] [(.long v0)]))
  refine Go.by (fun _ kont => XS.aloadN X0.here hx rfl (hb hby dK20_11) rfl rfl (XS.iloadN X0.here hx rfl (hb hby dK20_12) rfl kont)) ?_
  show Go _ _ _ _ _ _ _ (s₁.setTop (mkF m 13 #[.val (.ref a), .val (.ref b), .val (.ref d), .val (.int (0 : Int32)), .val (.int (2 : Int32))] [(.int (0 : Int32)), (.ref d), (.long v0)]))
  obtain ⟨cl_q102, Ar_q102, q1_q102, S_q102, N_q102, H_q102, G_q102⟩ := id V0_d
  have hin_q102 : ¬ ((0 : Int32) < 0 ∨ cl_q102.slots.size ≤ ((0 : Int32)).toNatClampNeg) := inb_of S_q102 ⟨by decide, by decide⟩
  have hat_q102 : cl_q102.slots[((0 : Int32)).toNatClampNeg]? = some (.long v0) := Has.at H_q102 hin_q102 rfl
  refine Go.by (X0.laload hx (j := (0 : Int32)) (v := (.long v0)) (by first | exact Ar_q102.1 | (rw [e0]; exact Ar_q102.1)) (State.isArrayOf_alike hZ.alike Ar_q102.2.1) Ar_q102.2.2 hin_q102 hat_q102 (g := (mkF m 13 #[.val (.ref a), .val (.ref b), .val (.ref d), .val (.int (0 : Int32)), .val (.int (2 : Int32))] [(.int (0 : Int32)), (.ref d), (.long v0)])) rfl rfl (hb hby dK20_13)) ?_
  show Go _ _ _ _ _ _ _ (s₁.setTop (mkF m 14 #[.val (.ref a), .val (.ref b), .val (.ref d), .val (.int (0 : Int32)), .val (.int (2 : Int32))] [(.long v0), (.long v0)]))
  refine Go.by (fun _ kont => XS.lcmp X0.here hx rfl (hb hby dK20_14) rfl kont) ?_
  show Go _ _ _ _ _ _ _ (s₁.setTop (mkF m 15 #[.val (.ref a), .val (.ref b), .val (.ref d), .val (.int (0 : Int32)), .val (.int (2 : Int32))] [(.int (lcmpW v0 v0))]))
  refine Go.by (fun _ kont => XS.ifNo X0.here hx rfl (hb hby dK20_15) rfl ((if0 _ _).trans (teq ((lw_eq _ _).mpr rfl)).2) kont) ?_
  show Go _ _ _ _ _ _ _ (s₁.setTop (mkF m 18 #[.val (.ref a), .val (.ref b), .val (.ref d), .val (.int (0 : Int32)), .val (.int (2 : Int32))] []))
  refine Go.by (fun _ kont => XS.aloadN X0.here hx rfl (hb hby dK20_18) rfl rfl (XS.iloadN X0.here hx rfl (hb hby dK20_19) rfl kont)) ?_
  show Go _ _ _ _ _ _ _ (s₁.setTop (mkF m 20 #[.val (.ref a), .val (.ref b), .val (.ref d), .val (.int (0 : Int32)), .val (.int (2 : Int32))] [(.int (0 : Int32)), (.ref a)]))
  obtain ⟨cl_q103, Ar_q103, q1_q103, S_q103, N_q103, H_q103, G_q103⟩ := id V0_a
  have hin_q103 : ¬ ((0 : Int32) < 0 ∨ cl_q103.slots.size ≤ ((0 : Int32)).toNatClampNeg) := inb_of S_q103 ⟨by decide, by decide⟩
  have hat_q103 : cl_q103.slots[((0 : Int32)).toNatClampNeg]? = some (.long v0) := Has.at H_q103 hin_q103 rfl
  refine Go.by (X0.laload hx (j := (0 : Int32)) (v := (.long v0)) (by first | exact Ar_q103.1 | (rw [e0]; exact Ar_q103.1)) (State.isArrayOf_alike hZ.alike Ar_q103.2.1) Ar_q103.2.2 hin_q103 hat_q103 (g := (mkF m 20 #[.val (.ref a), .val (.ref b), .val (.ref d), .val (.int (0 : Int32)), .val (.int (2 : Int32))] [(.int (0 : Int32)), (.ref a)])) rfl rfl (hb hby dK20_20)) ?_
  show Go _ _ _ _ _ _ _ (s₁.setTop (mkF m 21 #[.val (.ref a), .val (.ref b), .val (.ref d), .val (.int (0 : Int32)), .val (.int (2 : Int32))] [(.long v0)]))
  refine Go.by (fun _ kont => XS.aloadN X0.here hx rfl (hb hby dK20_21) rfl rfl (XS.iloadN X0.here hx rfl (hb hby dK20_22) rfl kont)) ?_
  show Go _ _ _ _ _ _ _ (s₁.setTop (mkF m 23 #[.val (.ref a), .val (.ref b), .val (.ref d), .val (.int (0 : Int32)), .val (.int (2 : Int32))] [(.int (0 : Int32)), (.ref b), (.long v0)]))
  obtain ⟨cl_q104, Ar_q104, q1_q104, S_q104, N_q104, H_q104, G_q104⟩ := id V0_b
  have hin_q104 : ¬ ((0 : Int32) < 0 ∨ cl_q104.slots.size ≤ ((0 : Int32)).toNatClampNeg) := inb_of S_q104 ⟨by decide, by decide⟩
  have hat_q104 : cl_q104.slots[((0 : Int32)).toNatClampNeg]? = some (.long (-v0)) := Has.at H_q104 hin_q104 rfl
  refine Go.by (X0.laload hx (j := (0 : Int32)) (v := (.long (-v0))) (by first | exact Ar_q104.1 | (rw [e0]; exact Ar_q104.1)) (State.isArrayOf_alike hZ.alike Ar_q104.2.1) Ar_q104.2.2 hin_q104 hat_q104 (g := (mkF m 23 #[.val (.ref a), .val (.ref b), .val (.ref d), .val (.int (0 : Int32)), .val (.int (2 : Int32))] [(.int (0 : Int32)), (.ref b), (.long v0)])) rfl rfl (hb hby dK20_23)) ?_
  show Go _ _ _ _ _ _ _ (s₁.setTop (mkF m 24 #[.val (.ref a), .val (.ref b), .val (.ref d), .val (.int (0 : Int32)), .val (.int (2 : Int32))] [(.long (-v0)), (.long v0)]))
  refine Go.by (fun _ kont => XS.ladd X0.here hx rfl (hb hby dK20_24) rfl (XS.lconst X0.here hx rfl (hb hby dK20_25) (XS.lcmp X0.here hx rfl (hb hby dK20_26) rfl kont))) ?_
  show Go _ _ _ _ _ _ _ (s₁.setTop (mkF m 27 #[.val (.ref a), .val (.ref b), .val (.ref d), .val (.int (0 : Int32)), .val (.int (2 : Int32))] [(.int (lcmpW (v0 + (-v0)) (0 : Int64)))]))
  have hd105 : (v0 + (-v0)) = (0 : Int64) := Int64.add_right_neg _
  refine Go.by (fun _ kont => XS.ifNo X0.here hx rfl (hb hby dK20_27) rfl ((if0 _ _).trans (teq ((lw_eq _ _).mpr hd105)).2) kont) ?_
  show Go _ _ _ _ _ _ _ (s₁.setTop (mkF m 30 #[.val (.ref a), .val (.ref b), .val (.ref d), .val (.int (0 : Int32)), .val (.int (2 : Int32))] []))
  refine Go.by (fun _ kont => XS.iconst X0.here hx rfl (hb hby dK20_30) (XS.goto X0.here hx rfl (pc0 := 31) (pc' := 35) rfl (hb hby dK20_31) (by decide) (by decide) kont)) ?_
  show Go _ _ _ _ _ _ _ (s₁.setTop (mkF m 35 #[.val (.ref a), .val (.ref b), .val (.ref d), .val (.int (0 : Int32)), .val (.int (2 : Int32))] [(.int (1 : Int32))]))
  refine Go.retN X0 hx (t := .boolean) hret (by simp) hlk (hb hby dK20_35) ?_ (by decide) (by decide)
  show QK20 Z a b d kc_a v0 v1 kc_b kc_d v2 v3 v4 h0 n0 (some (.int (1 : Int32))) s₁.heap _
  rw [e0]
  exact ⟨rfl, N0, rfl⟩

theorem dK21_0 : decode method_3_code 0 = .ok (.iload_n 3, 1) := by decide +kernel
theorem dK21_1 : decode method_3_code 1 = .ok (.iload 4, 2) := by decide +kernel
theorem dK21_3 : decode method_3_code 3 = .ok (.if_icmp .lt 5, 3) := by decide +kernel
theorem dK21_8 : decode method_3_code 8 = .ok (.aload_n 0, 1) := by decide +kernel
theorem dK21_9 : decode method_3_code 9 = .ok (.iload_n 3, 1) := by decide +kernel
theorem dK21_10 : decode method_3_code 10 = .ok (.laload, 1) := by decide +kernel
theorem dK21_11 : decode method_3_code 11 = .ok (.aload_n 2, 1) := by decide +kernel
theorem dK21_12 : decode method_3_code 12 = .ok (.iload_n 3, 1) := by decide +kernel
theorem dK21_13 : decode method_3_code 13 = .ok (.laload, 1) := by decide +kernel
theorem dK21_14 : decode method_3_code 14 = .ok (.lcmp, 1) := by decide +kernel
theorem dK21_15 : decode method_3_code 15 = .ok (.ifCond .ne 19, 3) := by decide +kernel
theorem dK21_18 : decode method_3_code 18 = .ok (.aload_n 0, 1) := by decide +kernel
theorem dK21_19 : decode method_3_code 19 = .ok (.iload_n 3, 1) := by decide +kernel
theorem dK21_20 : decode method_3_code 20 = .ok (.laload, 1) := by decide +kernel
theorem dK21_21 : decode method_3_code 21 = .ok (.aload_n 1, 1) := by decide +kernel
theorem dK21_22 : decode method_3_code 22 = .ok (.iload_n 3, 1) := by decide +kernel
theorem dK21_23 : decode method_3_code 23 = .ok (.laload, 1) := by decide +kernel
theorem dK21_24 : decode method_3_code 24 = .ok (.ladd, 1) := by decide +kernel
theorem dK21_25 : decode method_3_code 25 = .ok (.lconst 0, 1) := by decide +kernel
theorem dK21_26 : decode method_3_code 26 = .ok (.lcmp, 1) := by decide +kernel
theorem dK21_27 : decode method_3_code 27 = .ok (.ifCond .ne 7, 3) := by decide +kernel
theorem dK21_30 : decode method_3_code 30 = .ok (.iconst 1, 1) := by decide +kernel
theorem dK21_31 : decode method_3_code 31 = .ok (.goto 4, 3) := by decide +kernel
theorem dK21_35 : decode method_3_code 35 = .ok (.ireturn, 1) := by decide +kernel
theorem pnK21 : plainName "com/example/runs_to_nets/runstonets/core/PlaceTransitionSynthesisNegatedPinLaw" = true := by first | (simp [plainName, overriddenIn]; done) | decide +kernel
theorem efK21 (m : MethodId) (a : Addr) (b : Addr) (d : Addr) : entryFrame m #[(.ref a), (.ref b), (.ref d), (.int (1 : Int32)), (.int (2 : Int32))] 5 = mkF m 0 #[.val (.ref a), .val (.ref b), .val (.ref d), .val (.int (1 : Int32)), .val (.int (2 : Int32))] [] := by first | (simp [entryFrame, mkF, argsToLocals, Value.category]; done) | rfl
def QK21 (Z : State) (a : Addr) (b : Addr) (d : Addr) (kc_a : ClassId) (v0 : Int64) (v1 : Int64) (kc_b : ClassId) (kc_d : ClassId) (v2 : Int64) (v3 : Int64) (v4 : Int64) (h0 : Heap) (n0 : Nat) (v : Option Value) (h : Heap) (L : List Loc) : Prop := (v = some (.int (1 : Int32)) ∧ Fr n0 L ∧ h = h0)
set_option maxRecDepth 65536 in
set_option maxHeartbeats 40000000 in
theorem rmK21 (l : Launch) (Z : State) (a0 : Array Value) (hw : ∀ d ∈ tables_1, d.before a0 Z = true) (ws : List Jvm.Cond) (a : Addr) (b : Addr) (d : Addr) (kc_a : ClassId) (v0 : Int64) (v1 : Int64) (kc_b : ClassId) (kc_d : ClassId) (v2 : Int64) (v3 : Int64) (v4 : Int64) (h0 : Heap) (n0 : Nat) (Z0 : n0 ≤ h0.size) (V0_a : Arv Z h0 a kc_a .long (2 : Int32) [(.long v0), (.long v1)] (.long (0 : Int64))) (V0_b : Arv Z h0 b kc_b .long (2 : Int32) [(.long (-v0)), (.long (-v1))] (.long (0 : Int64))) (V0_d : Arv Z h0 d kc_d .long (5 : Int32) [(.long v0), (.long v1), (.long v2), (.long v3), (.long v4)] (.long (0 : Int64))) :
    MetFree l (⟨"com/example/runs_to_nets/runstonets/core/PlaceTransitionSynthesisNegatedPinLaw", "ok", "([J[J[JII)Z"⟩ : MethodName) (head1 (Jvm.Cond.code (⟨"com/example/runs_to_nets/runstonets/core/PlaceTransitionSynthesisNegatedPinLaw", "ok", "([J[J[JII)Z"⟩ : MethodName) method_3_code 5 (some .boolean) :: ws) ({ frames := 0, cells := 0, slots := 0, locals := 0 } : Room)) (fun aa_ U_ => aa_ = #[(.ref a), (.ref b), (.ref d), (.int (1 : Int32)), (.int (2 : Int32))] ∧ Z.Warmed39 U_.vm ∧ U_.heap = h0) (fun _ _ _ _ _ => True) (fun _ U_ o_ V_ => ∃ v_ L_, o_ = .returned v_ ∧ QK21 Z a b d kc_a v0 v1 kc_b kc_d v2 v3 v4 h0 n0 v_ V_.heap L_ ∧ FrameEnd U_ o_ V_ L_ ({ frames := 0, cells := 0, slots := 0, locals := 0 } : Room).cells ({ frames := 0, cells := 0, slots := 0, locals := 0 } : Room).slots) := by
  refine MetFree.of_bodySF (plainFor_of_name pnK21) hisR ?_
  intro p e s m args below meth c s₁ Bd hml0 hP hK
  obtain ⟨rfl, hZ, hh⟩ := hP
  have hx := Bd.exec
  have hby := Bd.bytes
  have hml : c.maxLocals = 5 := hml0
  have hown : s.vm.findClass "com/example/runs_to_nets/runstonets/core/PlaceTransitionSynthesisNegatedPinLaw" = some m.cls := findClass_of_methodNamed Bd.named
  have hnm := (name_of_methodNamed Bd.named Bd.method).1
  have hlk : meth.locks = false := BodyLoose.notSynchronized Bd
  have hret : meth.sig.returnType = (some .boolean) := Bd.returns
  have X0 : Stand p l e ({ frames := 0, cells := 0, slots := 0, locals := 0 } : Room) s m #[(.ref a), (.ref b), (.ref d), (.int (1 : Int32)), (.int (2 : Int32))] below meth c s₁ [] 0 0 := Stand.of_body Bd
  have e0 : s₁.heap = h0 := by rw [← hh, Bd.state]; rfl
  have N0 := Fr.nil n0
  show Go p e below s ({ frames := 0, cells := 0, slots := 0, locals := 0 } : Room).cells ({ frames := 0, cells := 0, slots := 0, locals := 0 } : Room).slots (QK21 Z a b d kc_a v0 v1 kc_b kc_d v2 v3 v4 h0 n0) (s₁.setTop (entryFrame m #[(.ref a), (.ref b), (.ref d), (.int (1 : Int32)), (.int (2 : Int32))] 5))
  rw [efK21]
  refine Go.by (fun _ kont => XS.iloadN X0.here hx rfl (hb hby dK21_0) rfl (XS.iload X0.here hx rfl (hb hby dK21_1) rfl kont)) ?_
  show Go _ _ _ _ _ _ _ (s₁.setTop (mkF m 3 #[.val (.ref a), .val (.ref b), .val (.ref d), .val (.int (1 : Int32)), .val (.int (2 : Int32))] [(.int (2 : Int32)), (.int (1 : Int32))]))
  refine Go.by (fun _ kont => XS.icmpYes X0.here hx rfl (pc0 := 3) (pc' := 8) rfl (hb hby dK21_3) rfl (by decide) (by decide) (by decide) kont) ?_
  show Go _ _ _ _ _ _ _ (s₁.setTop (mkF m 8 #[.val (.ref a), .val (.ref b), .val (.ref d), .val (.int (1 : Int32)), .val (.int (2 : Int32))] []))
  refine Go.by (fun _ kont => XS.aloadN X0.here hx rfl (hb hby dK21_8) rfl rfl (XS.iloadN X0.here hx rfl (hb hby dK21_9) rfl kont)) ?_
  show Go _ _ _ _ _ _ _ (s₁.setTop (mkF m 10 #[.val (.ref a), .val (.ref b), .val (.ref d), .val (.int (1 : Int32)), .val (.int (2 : Int32))] [(.int (1 : Int32)), (.ref a)]))
  obtain ⟨cl_q101, Ar_q101, q1_q101, S_q101, N_q101, H_q101, G_q101⟩ := id V0_a
  have hin_q101 : ¬ ((1 : Int32) < 0 ∨ cl_q101.slots.size ≤ ((1 : Int32)).toNatClampNeg) := inb_of S_q101 ⟨by decide, by decide⟩
  have hat_q101 : cl_q101.slots[((1 : Int32)).toNatClampNeg]? = some (.long v1) := Has.at H_q101 hin_q101 rfl
  refine Go.by (X0.laload hx (j := (1 : Int32)) (v := (.long v1)) (by first | exact Ar_q101.1 | (rw [e0]; exact Ar_q101.1)) (State.isArrayOf_alike hZ.alike Ar_q101.2.1) Ar_q101.2.2 hin_q101 hat_q101 (g := (mkF m 10 #[.val (.ref a), .val (.ref b), .val (.ref d), .val (.int (1 : Int32)), .val (.int (2 : Int32))] [(.int (1 : Int32)), (.ref a)])) rfl rfl (hb hby dK21_10)) ?_
  show Go _ _ _ _ _ _ _ (s₁.setTop (mkF m 11 #[.val (.ref a), .val (.ref b), .val (.ref d), .val (.int (1 : Int32)), .val (.int (2 : Int32))] [(.long v1)]))
  refine Go.by (fun _ kont => XS.aloadN X0.here hx rfl (hb hby dK21_11) rfl rfl (XS.iloadN X0.here hx rfl (hb hby dK21_12) rfl kont)) ?_
  show Go _ _ _ _ _ _ _ (s₁.setTop (mkF m 13 #[.val (.ref a), .val (.ref b), .val (.ref d), .val (.int (1 : Int32)), .val (.int (2 : Int32))] [(.int (1 : Int32)), (.ref d), (.long v1)]))
  obtain ⟨cl_q102, Ar_q102, q1_q102, S_q102, N_q102, H_q102, G_q102⟩ := id V0_d
  have hin_q102 : ¬ ((1 : Int32) < 0 ∨ cl_q102.slots.size ≤ ((1 : Int32)).toNatClampNeg) := inb_of S_q102 ⟨by decide, by decide⟩
  have hat_q102 : cl_q102.slots[((1 : Int32)).toNatClampNeg]? = some (.long v1) := Has.at H_q102 hin_q102 rfl
  refine Go.by (X0.laload hx (j := (1 : Int32)) (v := (.long v1)) (by first | exact Ar_q102.1 | (rw [e0]; exact Ar_q102.1)) (State.isArrayOf_alike hZ.alike Ar_q102.2.1) Ar_q102.2.2 hin_q102 hat_q102 (g := (mkF m 13 #[.val (.ref a), .val (.ref b), .val (.ref d), .val (.int (1 : Int32)), .val (.int (2 : Int32))] [(.int (1 : Int32)), (.ref d), (.long v1)])) rfl rfl (hb hby dK21_13)) ?_
  show Go _ _ _ _ _ _ _ (s₁.setTop (mkF m 14 #[.val (.ref a), .val (.ref b), .val (.ref d), .val (.int (1 : Int32)), .val (.int (2 : Int32))] [(.long v1), (.long v1)]))
  refine Go.by (fun _ kont => XS.lcmp X0.here hx rfl (hb hby dK21_14) rfl kont) ?_
  show Go _ _ _ _ _ _ _ (s₁.setTop (mkF m 15 #[.val (.ref a), .val (.ref b), .val (.ref d), .val (.int (1 : Int32)), .val (.int (2 : Int32))] [(.int (lcmpW v1 v1))]))
  refine Go.by (fun _ kont => XS.ifNo X0.here hx rfl (hb hby dK21_15) rfl ((if0 _ _).trans (teq ((lw_eq _ _).mpr rfl)).2) kont) ?_
  show Go _ _ _ _ _ _ _ (s₁.setTop (mkF m 18 #[.val (.ref a), .val (.ref b), .val (.ref d), .val (.int (1 : Int32)), .val (.int (2 : Int32))] []))
  refine Go.by (fun _ kont => XS.aloadN X0.here hx rfl (hb hby dK21_18) rfl rfl (XS.iloadN X0.here hx rfl (hb hby dK21_19) rfl kont)) ?_
  show Go _ _ _ _ _ _ _ (s₁.setTop (mkF m 20 #[.val (.ref a), .val (.ref b), .val (.ref d), .val (.int (1 : Int32)), .val (.int (2 : Int32))] [(.int (1 : Int32)), (.ref a)]))
  obtain ⟨cl_q103, Ar_q103, q1_q103, S_q103, N_q103, H_q103, G_q103⟩ := id V0_a
  have hin_q103 : ¬ ((1 : Int32) < 0 ∨ cl_q103.slots.size ≤ ((1 : Int32)).toNatClampNeg) := inb_of S_q103 ⟨by decide, by decide⟩
  have hat_q103 : cl_q103.slots[((1 : Int32)).toNatClampNeg]? = some (.long v1) := Has.at H_q103 hin_q103 rfl
  refine Go.by (X0.laload hx (j := (1 : Int32)) (v := (.long v1)) (by first | exact Ar_q103.1 | (rw [e0]; exact Ar_q103.1)) (State.isArrayOf_alike hZ.alike Ar_q103.2.1) Ar_q103.2.2 hin_q103 hat_q103 (g := (mkF m 20 #[.val (.ref a), .val (.ref b), .val (.ref d), .val (.int (1 : Int32)), .val (.int (2 : Int32))] [(.int (1 : Int32)), (.ref a)])) rfl rfl (hb hby dK21_20)) ?_
  show Go _ _ _ _ _ _ _ (s₁.setTop (mkF m 21 #[.val (.ref a), .val (.ref b), .val (.ref d), .val (.int (1 : Int32)), .val (.int (2 : Int32))] [(.long v1)]))
  refine Go.by (fun _ kont => XS.aloadN X0.here hx rfl (hb hby dK21_21) rfl rfl (XS.iloadN X0.here hx rfl (hb hby dK21_22) rfl kont)) ?_
  show Go _ _ _ _ _ _ _ (s₁.setTop (mkF m 23 #[.val (.ref a), .val (.ref b), .val (.ref d), .val (.int (1 : Int32)), .val (.int (2 : Int32))] [(.int (1 : Int32)), (.ref b), (.long v1)]))
  obtain ⟨cl_q104, Ar_q104, q1_q104, S_q104, N_q104, H_q104, G_q104⟩ := id V0_b
  have hin_q104 : ¬ ((1 : Int32) < 0 ∨ cl_q104.slots.size ≤ ((1 : Int32)).toNatClampNeg) := inb_of S_q104 ⟨by decide, by decide⟩
  have hat_q104 : cl_q104.slots[((1 : Int32)).toNatClampNeg]? = some (.long (-v1)) := Has.at H_q104 hin_q104 rfl
  refine Go.by (X0.laload hx (j := (1 : Int32)) (v := (.long (-v1))) (by first | exact Ar_q104.1 | (rw [e0]; exact Ar_q104.1)) (State.isArrayOf_alike hZ.alike Ar_q104.2.1) Ar_q104.2.2 hin_q104 hat_q104 (g := (mkF m 23 #[.val (.ref a), .val (.ref b), .val (.ref d), .val (.int (1 : Int32)), .val (.int (2 : Int32))] [(.int (1 : Int32)), (.ref b), (.long v1)])) rfl rfl (hb hby dK21_23)) ?_
  show Go _ _ _ _ _ _ _ (s₁.setTop (mkF m 24 #[.val (.ref a), .val (.ref b), .val (.ref d), .val (.int (1 : Int32)), .val (.int (2 : Int32))] [(.long (-v1)), (.long v1)]))
  refine Go.by (fun _ kont => XS.ladd X0.here hx rfl (hb hby dK21_24) rfl (XS.lconst X0.here hx rfl (hb hby dK21_25) (XS.lcmp X0.here hx rfl (hb hby dK21_26) rfl kont))) ?_
  show Go _ _ _ _ _ _ _ (s₁.setTop (mkF m 27 #[.val (.ref a), .val (.ref b), .val (.ref d), .val (.int (1 : Int32)), .val (.int (2 : Int32))] [(.int (lcmpW (v1 + (-v1)) (0 : Int64)))]))
  have hd105 : (v1 + (-v1)) = (0 : Int64) := Int64.add_right_neg _
  refine Go.by (fun _ kont => XS.ifNo X0.here hx rfl (hb hby dK21_27) rfl ((if0 _ _).trans (teq ((lw_eq _ _).mpr hd105)).2) kont) ?_
  show Go _ _ _ _ _ _ _ (s₁.setTop (mkF m 30 #[.val (.ref a), .val (.ref b), .val (.ref d), .val (.int (1 : Int32)), .val (.int (2 : Int32))] []))
  refine Go.by (fun _ kont => XS.iconst X0.here hx rfl (hb hby dK21_30) (XS.goto X0.here hx rfl (pc0 := 31) (pc' := 35) rfl (hb hby dK21_31) (by decide) (by decide) kont)) ?_
  show Go _ _ _ _ _ _ _ (s₁.setTop (mkF m 35 #[.val (.ref a), .val (.ref b), .val (.ref d), .val (.int (1 : Int32)), .val (.int (2 : Int32))] [(.int (1 : Int32))]))
  refine Go.retN X0 hx (t := .boolean) hret (by simp) hlk (hb hby dK21_35) ?_ (by decide) (by decide)
  show QK21 Z a b d kc_a v0 v1 kc_b kc_d v2 v3 v4 h0 n0 (some (.int (1 : Int32))) s₁.heap _
  rw [e0]
  exact ⟨rfl, N0, rfl⟩

theorem dK22_0 : decode method_3_code 0 = .ok (.iload_n 3, 1) := by decide +kernel
theorem dK22_1 : decode method_3_code 1 = .ok (.iload 4, 2) := by decide +kernel
theorem dK22_3 : decode method_3_code 3 = .ok (.if_icmp .lt 5, 3) := by decide +kernel
theorem dK22_6 : decode method_3_code 6 = .ok (.iconst 1, 1) := by decide +kernel
theorem dK22_7 : decode method_3_code 7 = .ok (.ireturn, 1) := by decide +kernel
theorem pnK22 : plainName "com/example/runs_to_nets/runstonets/core/PlaceTransitionSynthesisNegatedPinLaw" = true := by first | (simp [plainName, overriddenIn]; done) | decide +kernel
theorem efK22 (m : MethodId) (a : Addr) (b : Addr) (d : Addr) : entryFrame m #[(.ref a), (.ref b), (.ref d), (.int (2 : Int32)), (.int (2 : Int32))] 5 = mkF m 0 #[.val (.ref a), .val (.ref b), .val (.ref d), .val (.int (2 : Int32)), .val (.int (2 : Int32))] [] := by first | (simp [entryFrame, mkF, argsToLocals, Value.category]; done) | rfl
def QK22 (Z : State) (a : Addr) (b : Addr) (d : Addr) (h0 : Heap) (n0 : Nat) (v : Option Value) (h : Heap) (L : List Loc) : Prop := (v = some (.int (1 : Int32)) ∧ Fr n0 L ∧ h = h0)
set_option maxRecDepth 65536 in
set_option maxHeartbeats 40000000 in
theorem rmK22 (l : Launch) (Z : State) (a0 : Array Value) (hw : ∀ d ∈ tables_1, d.before a0 Z = true) (ws : List Jvm.Cond) (a : Addr) (b : Addr) (d : Addr) (h0 : Heap) (n0 : Nat) (Z0 : n0 ≤ h0.size) :
    MetFree l (⟨"com/example/runs_to_nets/runstonets/core/PlaceTransitionSynthesisNegatedPinLaw", "ok", "([J[J[JII)Z"⟩ : MethodName) (head1 (Jvm.Cond.code (⟨"com/example/runs_to_nets/runstonets/core/PlaceTransitionSynthesisNegatedPinLaw", "ok", "([J[J[JII)Z"⟩ : MethodName) method_3_code 5 (some .boolean) :: ws) ({ frames := 0, cells := 0, slots := 0, locals := 0 } : Room)) (fun aa_ U_ => aa_ = #[(.ref a), (.ref b), (.ref d), (.int (2 : Int32)), (.int (2 : Int32))] ∧ Z.Warmed39 U_.vm ∧ U_.heap = h0) (fun _ _ _ _ _ => True) (fun _ U_ o_ V_ => ∃ v_ L_, o_ = .returned v_ ∧ QK22 Z a b d h0 n0 v_ V_.heap L_ ∧ FrameEnd U_ o_ V_ L_ ({ frames := 0, cells := 0, slots := 0, locals := 0 } : Room).cells ({ frames := 0, cells := 0, slots := 0, locals := 0 } : Room).slots) := by
  refine MetFree.of_bodySF (plainFor_of_name pnK22) hisR ?_
  intro p e s m args below meth c s₁ Bd hml0 hP hK
  obtain ⟨rfl, hZ, hh⟩ := hP
  have hx := Bd.exec
  have hby := Bd.bytes
  have hml : c.maxLocals = 5 := hml0
  have hown : s.vm.findClass "com/example/runs_to_nets/runstonets/core/PlaceTransitionSynthesisNegatedPinLaw" = some m.cls := findClass_of_methodNamed Bd.named
  have hnm := (name_of_methodNamed Bd.named Bd.method).1
  have hlk : meth.locks = false := BodyLoose.notSynchronized Bd
  have hret : meth.sig.returnType = (some .boolean) := Bd.returns
  have X0 : Stand p l e ({ frames := 0, cells := 0, slots := 0, locals := 0 } : Room) s m #[(.ref a), (.ref b), (.ref d), (.int (2 : Int32)), (.int (2 : Int32))] below meth c s₁ [] 0 0 := Stand.of_body Bd
  have e0 : s₁.heap = h0 := by rw [← hh, Bd.state]; rfl
  have N0 := Fr.nil n0
  show Go p e below s ({ frames := 0, cells := 0, slots := 0, locals := 0 } : Room).cells ({ frames := 0, cells := 0, slots := 0, locals := 0 } : Room).slots (QK22 Z a b d h0 n0) (s₁.setTop (entryFrame m #[(.ref a), (.ref b), (.ref d), (.int (2 : Int32)), (.int (2 : Int32))] 5))
  rw [efK22]
  refine Go.by (fun _ kont => XS.iloadN X0.here hx rfl (hb hby dK22_0) rfl (XS.iload X0.here hx rfl (hb hby dK22_1) rfl kont)) ?_
  show Go _ _ _ _ _ _ _ (s₁.setTop (mkF m 3 #[.val (.ref a), .val (.ref b), .val (.ref d), .val (.int (2 : Int32)), .val (.int (2 : Int32))] [(.int (2 : Int32)), (.int (2 : Int32))]))
  refine Go.by (fun _ kont => XS.icmpNo X0.here hx rfl (hb hby dK22_3) rfl (by decide) kont) ?_
  show Go _ _ _ _ _ _ _ (s₁.setTop (mkF m 6 #[.val (.ref a), .val (.ref b), .val (.ref d), .val (.int (2 : Int32)), .val (.int (2 : Int32))] []))
  refine Go.by (fun _ kont => XS.iconst X0.here hx rfl (hb hby dK22_6) kont) ?_
  show Go _ _ _ _ _ _ _ (s₁.setTop (mkF m 7 #[.val (.ref a), .val (.ref b), .val (.ref d), .val (.int (2 : Int32)), .val (.int (2 : Int32))] [(.int (1 : Int32))]))
  refine Go.retN X0 hx (t := .boolean) hret (by simp) hlk (hb hby dK22_7) ?_ (by decide) (by decide)
  show QK22 Z a b d h0 n0 (some (.int (1 : Int32))) s₁.heap _
  rw [e0]
  exact ⟨rfl, N0, rfl⟩

theorem dK23_0 : decode method_3_code 0 = .ok (.iload_n 3, 1) := by decide +kernel
theorem dK23_1 : decode method_3_code 1 = .ok (.iload 4, 2) := by decide +kernel
theorem dK23_3 : decode method_3_code 3 = .ok (.if_icmp .lt 5, 3) := by decide +kernel
theorem dK23_6 : decode method_3_code 6 = .ok (.iconst 1, 1) := by decide +kernel
theorem dK23_7 : decode method_3_code 7 = .ok (.ireturn, 1) := by decide +kernel
theorem pnK23 : plainName "com/example/runs_to_nets/runstonets/core/PlaceTransitionSynthesisNegatedPinLaw" = true := by first | (simp [plainName, overriddenIn]; done) | decide +kernel
theorem efK23 (m : MethodId) (a : Addr) (b : Addr) (d : Addr) : entryFrame m #[(.ref a), (.ref b), (.ref d), (.int (3 : Int32)), (.int (2 : Int32))] 5 = mkF m 0 #[.val (.ref a), .val (.ref b), .val (.ref d), .val (.int (3 : Int32)), .val (.int (2 : Int32))] [] := by first | (simp [entryFrame, mkF, argsToLocals, Value.category]; done) | rfl
def QK23 (Z : State) (a : Addr) (b : Addr) (d : Addr) (h0 : Heap) (n0 : Nat) (v : Option Value) (h : Heap) (L : List Loc) : Prop := (v = some (.int (1 : Int32)) ∧ Fr n0 L ∧ h = h0)
set_option maxRecDepth 65536 in
set_option maxHeartbeats 40000000 in
theorem rmK23 (l : Launch) (Z : State) (a0 : Array Value) (hw : ∀ d ∈ tables_1, d.before a0 Z = true) (ws : List Jvm.Cond) (a : Addr) (b : Addr) (d : Addr) (h0 : Heap) (n0 : Nat) (Z0 : n0 ≤ h0.size) :
    MetFree l (⟨"com/example/runs_to_nets/runstonets/core/PlaceTransitionSynthesisNegatedPinLaw", "ok", "([J[J[JII)Z"⟩ : MethodName) (head1 (Jvm.Cond.code (⟨"com/example/runs_to_nets/runstonets/core/PlaceTransitionSynthesisNegatedPinLaw", "ok", "([J[J[JII)Z"⟩ : MethodName) method_3_code 5 (some .boolean) :: ws) ({ frames := 0, cells := 0, slots := 0, locals := 0 } : Room)) (fun aa_ U_ => aa_ = #[(.ref a), (.ref b), (.ref d), (.int (3 : Int32)), (.int (2 : Int32))] ∧ Z.Warmed39 U_.vm ∧ U_.heap = h0) (fun _ _ _ _ _ => True) (fun _ U_ o_ V_ => ∃ v_ L_, o_ = .returned v_ ∧ QK23 Z a b d h0 n0 v_ V_.heap L_ ∧ FrameEnd U_ o_ V_ L_ ({ frames := 0, cells := 0, slots := 0, locals := 0 } : Room).cells ({ frames := 0, cells := 0, slots := 0, locals := 0 } : Room).slots) := by
  refine MetFree.of_bodySF (plainFor_of_name pnK23) hisR ?_
  intro p e s m args below meth c s₁ Bd hml0 hP hK
  obtain ⟨rfl, hZ, hh⟩ := hP
  have hx := Bd.exec
  have hby := Bd.bytes
  have hml : c.maxLocals = 5 := hml0
  have hown : s.vm.findClass "com/example/runs_to_nets/runstonets/core/PlaceTransitionSynthesisNegatedPinLaw" = some m.cls := findClass_of_methodNamed Bd.named
  have hnm := (name_of_methodNamed Bd.named Bd.method).1
  have hlk : meth.locks = false := BodyLoose.notSynchronized Bd
  have hret : meth.sig.returnType = (some .boolean) := Bd.returns
  have X0 : Stand p l e ({ frames := 0, cells := 0, slots := 0, locals := 0 } : Room) s m #[(.ref a), (.ref b), (.ref d), (.int (3 : Int32)), (.int (2 : Int32))] below meth c s₁ [] 0 0 := Stand.of_body Bd
  have e0 : s₁.heap = h0 := by rw [← hh, Bd.state]; rfl
  have N0 := Fr.nil n0
  show Go p e below s ({ frames := 0, cells := 0, slots := 0, locals := 0 } : Room).cells ({ frames := 0, cells := 0, slots := 0, locals := 0 } : Room).slots (QK23 Z a b d h0 n0) (s₁.setTop (entryFrame m #[(.ref a), (.ref b), (.ref d), (.int (3 : Int32)), (.int (2 : Int32))] 5))
  rw [efK23]
  refine Go.by (fun _ kont => XS.iloadN X0.here hx rfl (hb hby dK23_0) rfl (XS.iload X0.here hx rfl (hb hby dK23_1) rfl kont)) ?_
  show Go _ _ _ _ _ _ _ (s₁.setTop (mkF m 3 #[.val (.ref a), .val (.ref b), .val (.ref d), .val (.int (3 : Int32)), .val (.int (2 : Int32))] [(.int (2 : Int32)), (.int (3 : Int32))]))
  refine Go.by (fun _ kont => XS.icmpNo X0.here hx rfl (hb hby dK23_3) rfl (by decide) kont) ?_
  show Go _ _ _ _ _ _ _ (s₁.setTop (mkF m 6 #[.val (.ref a), .val (.ref b), .val (.ref d), .val (.int (3 : Int32)), .val (.int (2 : Int32))] []))
  refine Go.by (fun _ kont => XS.iconst X0.here hx rfl (hb hby dK23_6) kont) ?_
  show Go _ _ _ _ _ _ _ (s₁.setTop (mkF m 7 #[.val (.ref a), .val (.ref b), .val (.ref d), .val (.int (3 : Int32)), .val (.int (2 : Int32))] [(.int (1 : Int32))]))
  refine Go.retN X0 hx (t := .boolean) hret (by simp) hlk (hb hby dK23_7) ?_ (by decide) (by decide)
  show QK23 Z a b d h0 n0 (some (.int (1 : Int32))) s₁.heap _
  rw [e0]
  exact ⟨rfl, N0, rfl⟩

theorem dK24_0 : decode method_3_code 0 = .ok (.iload_n 3, 1) := by decide +kernel
theorem dK24_1 : decode method_3_code 1 = .ok (.iload 4, 2) := by decide +kernel
theorem dK24_3 : decode method_3_code 3 = .ok (.if_icmp .lt 5, 3) := by decide +kernel
theorem dK24_6 : decode method_3_code 6 = .ok (.iconst 1, 1) := by decide +kernel
theorem dK24_7 : decode method_3_code 7 = .ok (.ireturn, 1) := by decide +kernel
theorem pnK24 : plainName "com/example/runs_to_nets/runstonets/core/PlaceTransitionSynthesisNegatedPinLaw" = true := by first | (simp [plainName, overriddenIn]; done) | decide +kernel
theorem efK24 (m : MethodId) (a : Addr) (b : Addr) (d : Addr) : entryFrame m #[(.ref a), (.ref b), (.ref d), (.int (4 : Int32)), (.int (2 : Int32))] 5 = mkF m 0 #[.val (.ref a), .val (.ref b), .val (.ref d), .val (.int (4 : Int32)), .val (.int (2 : Int32))] [] := by first | (simp [entryFrame, mkF, argsToLocals, Value.category]; done) | rfl
def QK24 (Z : State) (a : Addr) (b : Addr) (d : Addr) (h0 : Heap) (n0 : Nat) (v : Option Value) (h : Heap) (L : List Loc) : Prop := (v = some (.int (1 : Int32)) ∧ Fr n0 L ∧ h = h0)
set_option maxRecDepth 65536 in
set_option maxHeartbeats 40000000 in
theorem rmK24 (l : Launch) (Z : State) (a0 : Array Value) (hw : ∀ d ∈ tables_1, d.before a0 Z = true) (ws : List Jvm.Cond) (a : Addr) (b : Addr) (d : Addr) (h0 : Heap) (n0 : Nat) (Z0 : n0 ≤ h0.size) :
    MetFree l (⟨"com/example/runs_to_nets/runstonets/core/PlaceTransitionSynthesisNegatedPinLaw", "ok", "([J[J[JII)Z"⟩ : MethodName) (head1 (Jvm.Cond.code (⟨"com/example/runs_to_nets/runstonets/core/PlaceTransitionSynthesisNegatedPinLaw", "ok", "([J[J[JII)Z"⟩ : MethodName) method_3_code 5 (some .boolean) :: ws) ({ frames := 0, cells := 0, slots := 0, locals := 0 } : Room)) (fun aa_ U_ => aa_ = #[(.ref a), (.ref b), (.ref d), (.int (4 : Int32)), (.int (2 : Int32))] ∧ Z.Warmed39 U_.vm ∧ U_.heap = h0) (fun _ _ _ _ _ => True) (fun _ U_ o_ V_ => ∃ v_ L_, o_ = .returned v_ ∧ QK24 Z a b d h0 n0 v_ V_.heap L_ ∧ FrameEnd U_ o_ V_ L_ ({ frames := 0, cells := 0, slots := 0, locals := 0 } : Room).cells ({ frames := 0, cells := 0, slots := 0, locals := 0 } : Room).slots) := by
  refine MetFree.of_bodySF (plainFor_of_name pnK24) hisR ?_
  intro p e s m args below meth c s₁ Bd hml0 hP hK
  obtain ⟨rfl, hZ, hh⟩ := hP
  have hx := Bd.exec
  have hby := Bd.bytes
  have hml : c.maxLocals = 5 := hml0
  have hown : s.vm.findClass "com/example/runs_to_nets/runstonets/core/PlaceTransitionSynthesisNegatedPinLaw" = some m.cls := findClass_of_methodNamed Bd.named
  have hnm := (name_of_methodNamed Bd.named Bd.method).1
  have hlk : meth.locks = false := BodyLoose.notSynchronized Bd
  have hret : meth.sig.returnType = (some .boolean) := Bd.returns
  have X0 : Stand p l e ({ frames := 0, cells := 0, slots := 0, locals := 0 } : Room) s m #[(.ref a), (.ref b), (.ref d), (.int (4 : Int32)), (.int (2 : Int32))] below meth c s₁ [] 0 0 := Stand.of_body Bd
  have e0 : s₁.heap = h0 := by rw [← hh, Bd.state]; rfl
  have N0 := Fr.nil n0
  show Go p e below s ({ frames := 0, cells := 0, slots := 0, locals := 0 } : Room).cells ({ frames := 0, cells := 0, slots := 0, locals := 0 } : Room).slots (QK24 Z a b d h0 n0) (s₁.setTop (entryFrame m #[(.ref a), (.ref b), (.ref d), (.int (4 : Int32)), (.int (2 : Int32))] 5))
  rw [efK24]
  refine Go.by (fun _ kont => XS.iloadN X0.here hx rfl (hb hby dK24_0) rfl (XS.iload X0.here hx rfl (hb hby dK24_1) rfl kont)) ?_
  show Go _ _ _ _ _ _ _ (s₁.setTop (mkF m 3 #[.val (.ref a), .val (.ref b), .val (.ref d), .val (.int (4 : Int32)), .val (.int (2 : Int32))] [(.int (2 : Int32)), (.int (4 : Int32))]))
  refine Go.by (fun _ kont => XS.icmpNo X0.here hx rfl (hb hby dK24_3) rfl (by decide) kont) ?_
  show Go _ _ _ _ _ _ _ (s₁.setTop (mkF m 6 #[.val (.ref a), .val (.ref b), .val (.ref d), .val (.int (4 : Int32)), .val (.int (2 : Int32))] []))
  refine Go.by (fun _ kont => XS.iconst X0.here hx rfl (hb hby dK24_6) kont) ?_
  show Go _ _ _ _ _ _ _ (s₁.setTop (mkF m 7 #[.val (.ref a), .val (.ref b), .val (.ref d), .val (.int (4 : Int32)), .val (.int (2 : Int32))] [(.int (1 : Int32))]))
  refine Go.retN X0 hx (t := .boolean) hret (by simp) hlk (hb hby dK24_7) ?_ (by decide) (by decide)
  show QK24 Z a b d h0 n0 (some (.int (1 : Int32))) s₁.heap _
  rw [e0]
  exact ⟨rfl, N0, rfl⟩

theorem dN3_0 : decode prog_27_method_10_code 0 = .ok (.aload_n 0, 1) := by decide +kernel
theorem dN3_1 : decode prog_27_method_10_code 1 = .ok (.arraylength, 1) := by decide +kernel
theorem dN3_2 : decode prog_27_method_10_code 2 = .ok (.newarray .long, 2) := by decide +kernel
theorem dN3_4 : decode prog_27_method_10_code 4 = .ok (.astore_n 1, 1) := by decide +kernel
theorem dN3_5 : decode prog_27_method_10_code 5 = .ok (.iconst 0, 1) := by decide +kernel
theorem dN3_6 : decode prog_27_method_10_code 6 = .ok (.istore_n 2, 1) := by decide +kernel
theorem dN3_7 : decode prog_27_method_10_code 7 = .ok (.iload_n 2, 1) := by decide +kernel
theorem dN3_8 : decode prog_27_method_10_code 8 = .ok (.aload_n 0, 1) := by decide +kernel
theorem dN3_9 : decode prog_27_method_10_code 9 = .ok (.arraylength, 1) := by decide +kernel
theorem dN3_10 : decode prog_27_method_10_code 10 = .ok (.if_icmp .ge 16, 3) := by decide +kernel
theorem dN3_13 : decode prog_27_method_10_code 13 = .ok (.aload_n 1, 1) := by decide +kernel
theorem dN3_14 : decode prog_27_method_10_code 14 = .ok (.iload_n 2, 1) := by decide +kernel
theorem dN3_15 : decode prog_27_method_10_code 15 = .ok (.aload_n 0, 1) := by decide +kernel
theorem dN3_16 : decode prog_27_method_10_code 16 = .ok (.iload_n 2, 1) := by decide +kernel
theorem dN3_17 : decode prog_27_method_10_code 17 = .ok (.laload, 1) := by decide +kernel
theorem dN3_18 : decode prog_27_method_10_code 18 = .ok (.lneg, 1) := by decide +kernel
theorem dN3_19 : decode prog_27_method_10_code 19 = .ok (.lastore, 1) := by decide +kernel
theorem dN3_20 : decode prog_27_method_10_code 20 = .ok (.iinc 2 1, 3) := by decide +kernel
theorem dN3_23 : decode prog_27_method_10_code 23 = .ok (.goto (-16), 3) := by decide +kernel
theorem dN3_26 : decode prog_27_method_10_code 26 = .ok (.aload_n 1, 1) := by decide +kernel
theorem dN3_27 : decode prog_27_method_10_code 27 = .ok (.areturn, 1) := by decide +kernel
theorem pnN3 : plainName "com/example/runs_to_nets/runstonets/core/PlaceTransitionSynthesis" = true := by first | (simp [plainName, overriddenIn]; done) | decide +kernel
theorem efN3 (m : MethodId) (a : Addr) : entryFrame m #[(.ref a)] 3 = mkF m 0 #[.val (.ref a), .unset, .unset] [] := by first | (simp [entryFrame, mkF, argsToLocals, Value.category]; done) | rfl
def QN3 (Z : State) (a : Addr) (kc_a : ClassId) (v0 : Int64) (v1 : Int64) (v2 : Int64) (h0 : Heap) (n0 : Nat) (v : Option Value) (h : Heap) (L : List Loc) : Prop := ∃ b102 : Addr, ∃ k102 : ClassId, (v = some (.ref b102) ∧ Fr n0 L ∧ Keep h0 h [] ∧ n0 ≤ b102 ∧ h0.size ≤ b102 ∧ Arv Z h b102 k102 .long (3 : Int32) [(.long (-v0)), (.long (-v1)), (.long (-v2))] (.long (0 : Int64)))
set_option maxRecDepth 65536 in
set_option maxHeartbeats 40000000 in
theorem rmN3 (l : Launch) (Z : State) (a0 : Array Value) (hw : ∀ d ∈ tables_1, d.before a0 Z = true) (ws : List Jvm.Cond) (a : Addr) (kc_a : ClassId) (v0 : Int64) (v1 : Int64) (v2 : Int64) (h0 : Heap) (n0 : Nat) (Z0 : n0 ≤ h0.size) (V0_a : Arv Z h0 a kc_a .long (3 : Int32) [(.long v0), (.long v1), (.long v2)] (.long (0 : Int64))) :
    MetFree l (⟨"com/example/runs_to_nets/runstonets/core/PlaceTransitionSynthesis", "negated", "([J)[J"⟩ : MethodName) (head1 (Jvm.Cond.code (⟨"com/example/runs_to_nets/runstonets/core/PlaceTransitionSynthesis", "negated", "([J)[J"⟩ : MethodName) prog_27_method_10_code 3 (some (.array .long)) :: ws) ({ frames := 0, cells := 1, slots := 3, locals := 0 } : Room)) (fun aa_ U_ => aa_ = #[(.ref a)] ∧ Z.Warmed39 U_.vm ∧ U_.heap = h0) (fun _ _ _ _ _ => True) (fun _ U_ o_ V_ => ∃ v_ L_, o_ = .returned v_ ∧ QN3 Z a kc_a v0 v1 v2 h0 n0 v_ V_.heap L_ ∧ FrameEnd U_ o_ V_ L_ ({ frames := 0, cells := 1, slots := 3, locals := 0 } : Room).cells ({ frames := 0, cells := 1, slots := 3, locals := 0 } : Room).slots) := by
  refine MetFree.of_bodySF (plainFor_of_name pnN3) hisR ?_
  intro p e s m args below meth c s₁ Bd hml0 hP hK
  obtain ⟨rfl, hZ, hh⟩ := hP
  have hx := Bd.exec
  have hby := Bd.bytes
  have hml : c.maxLocals = 3 := hml0
  have hown : s.vm.findClass "com/example/runs_to_nets/runstonets/core/PlaceTransitionSynthesis" = some m.cls := findClass_of_methodNamed Bd.named
  have hnm := (name_of_methodNamed Bd.named Bd.method).1
  have hlk : meth.locks = false := BodyLoose.notSynchronized Bd
  have hret : meth.sig.returnType = (some (.array .long)) := Bd.returns
  have X0 : Stand p l e ({ frames := 0, cells := 1, slots := 3, locals := 0 } : Room) s m #[(.ref a)] below meth c s₁ [] 0 0 := Stand.of_body Bd
  have e0 : s₁.heap = h0 := by rw [← hh, Bd.state]; rfl
  have N0 := Fr.nil n0
  show Go p e below s ({ frames := 0, cells := 1, slots := 3, locals := 0 } : Room).cells ({ frames := 0, cells := 1, slots := 3, locals := 0 } : Room).slots (QN3 Z a kc_a v0 v1 v2 h0 n0) (s₁.setTop (entryFrame m #[(.ref a)] 3))
  rw [efN3]
  refine Go.by (fun _ kont => XS.aloadN X0.here hx rfl (hb hby dN3_0) rfl rfl kont) ?_
  show Go _ _ _ _ _ _ _ (s₁.setTop (mkF m 1 #[.val (.ref a), .unset, .unset] [(.ref a)]))
  obtain ⟨cl_q101, Ar_q101, q1_q101, S_q101, N_q101, H_q101, G_q101⟩ := id V0_a
  refine Go.by (X0.arraylength hx (by first | exact Ar_q101.1 | (rw [e0]; exact Ar_q101.1)) (State.isArrayOf_alike hZ.alike Ar_q101.2.1) (g := (mkF m 1 #[.val (.ref a), .unset, .unset] [(.ref a)])) rfl rfl (hb hby dN3_1)) ?_
  rw [len_of S_q101 N_q101]
  show Go _ _ _ _ _ _ _ (s₁.setTop (mkF m 2 #[.val (.ref a), .unset, .unset] [(.int (3 : Int32))]))
  obtain ⟨T102, h102, k102, X102, e102, X_102, A102, st102⟩ := newP X0 hx hZ (hw _ (List.mem_of_getElem? (i := 1) rfl)) e0 (g := (mkF m 2 #[.val (.ref a), .unset, .unset] [(.int (3 : Int32))])) rfl (hb hby dN3_2) rfl (by decide) (cap := 3) (by decide) (by decide) (by decide) (by decide)
  obtain ⟨b102, g102⟩ : ∃ z, z = h0.size := ⟨_, rfl⟩
  rw [← g102] at A102 st102
  have ne_a_b102 : a ≠ b102 := Nat.ne_of_lt (Nat.lt_of_lt_of_le V0_a.lt (Nat.le_of_eq g102.symm))
  have ge_b102 : n0 ≤ b102 := Nat.le_trans Z0 (Nat.le_of_eq g102.symm)
  have sz_b102 : h0.size ≤ b102 := Nat.le_trans (Keep.refl h0 []).1 (Nat.le_of_eq g102.symm)
  have V103_a := V0_a.ext X_102
  have Z103 := Nat.le_trans Z0 X_102.1
  have K103 : Keep h0 h102 [] := (Keep.refl h0 []).ext X_102
  have V102 : Arv Z h102 b102 k102 .long (3 : Int32) [(.long (0 : Int64)), (.long (0 : Int64)), (.long (0 : Int64))] (.long (0 : Int64)) := (Arv.new A102 (by decide)).pad (pad_rep [] (.long (0 : Int64)) 3)
  refine Go.by st102 ?_
  show Go _ _ _ _ _ _ _ (T102.setTop (mkF m 4 #[.val (.ref a), .unset, .unset] [(.ref b102)]))
  refine Go.by (fun _ kont => XS.astoreN X102.here hx rfl (hb hby dN3_4) rfl rfl (l' := #[.val (.ref a), .val (.ref b102), .unset]) rfl (XS.iconst X102.here hx rfl (hb hby dN3_5) (XS.istoreN X102.here hx rfl (hb hby dN3_6) rfl (l' := #[.val (.ref a), .val (.ref b102), .val (.int (0 : Int32))]) rfl (XS.iloadN X102.here hx rfl (hb hby dN3_7) rfl (XS.aloadN X102.here hx rfl (hb hby dN3_8) rfl rfl kont))))) ?_
  show Go _ _ _ _ _ _ _ (T102.setTop (mkF m 9 #[.val (.ref a), .val (.ref b102), .val (.int (0 : Int32))] [(.ref a), (.int (0 : Int32))]))
  obtain ⟨cl_q104, Ar_q104, q1_q104, S_q104, N_q104, H_q104, G_q104⟩ := id V103_a
  refine Go.by (X102.arraylength hx (by first | exact Ar_q104.1 | (rw [e102]; exact Ar_q104.1)) (State.isArrayOf_alike hZ.alike Ar_q104.2.1) (g := (mkF m 9 #[.val (.ref a), .val (.ref b102), .val (.int (0 : Int32))] [(.ref a), (.int (0 : Int32))])) rfl rfl (hb hby dN3_9)) ?_
  rw [len_of S_q104 N_q104]
  show Go _ _ _ _ _ _ _ (T102.setTop (mkF m 10 #[.val (.ref a), .val (.ref b102), .val (.int (0 : Int32))] [(.int (3 : Int32)), (.int (0 : Int32))]))
  refine Go.by (fun _ kont => XS.icmpNo X102.here hx rfl (hb hby dN3_10) rfl (by decide) kont) ?_
  show Go _ _ _ _ _ _ _ (T102.setTop (mkF m 13 #[.val (.ref a), .val (.ref b102), .val (.int (0 : Int32))] []))
  refine Go.by (fun _ kont => XS.aloadN X102.here hx rfl (hb hby dN3_13) rfl rfl (XS.iloadN X102.here hx rfl (hb hby dN3_14) rfl (XS.aloadN X102.here hx rfl (hb hby dN3_15) rfl rfl (XS.iloadN X102.here hx rfl (hb hby dN3_16) rfl kont)))) ?_
  show Go _ _ _ _ _ _ _ (T102.setTop (mkF m 17 #[.val (.ref a), .val (.ref b102), .val (.int (0 : Int32))] [(.int (0 : Int32)), (.ref a), (.int (0 : Int32)), (.ref b102)]))
  obtain ⟨cl_q105, Ar_q105, q1_q105, S_q105, N_q105, H_q105, G_q105⟩ := id V103_a
  have hin_q105 : ¬ ((0 : Int32) < 0 ∨ cl_q105.slots.size ≤ ((0 : Int32)).toNatClampNeg) := inb_of S_q105 ⟨by decide, by decide⟩
  have hat_q105 : cl_q105.slots[((0 : Int32)).toNatClampNeg]? = some (.long v0) := Has.at H_q105 hin_q105 rfl
  refine Go.by (X102.laload hx (j := (0 : Int32)) (v := (.long v0)) (by first | exact Ar_q105.1 | (rw [e102]; exact Ar_q105.1)) (State.isArrayOf_alike hZ.alike Ar_q105.2.1) Ar_q105.2.2 hin_q105 hat_q105 (g := (mkF m 17 #[.val (.ref a), .val (.ref b102), .val (.int (0 : Int32))] [(.int (0 : Int32)), (.ref a), (.int (0 : Int32)), (.ref b102)])) rfl rfl (hb hby dN3_17)) ?_
  show Go _ _ _ _ _ _ _ (T102.setTop (mkF m 18 #[.val (.ref a), .val (.ref b102), .val (.int (0 : Int32))] [(.long v0), (.int (0 : Int32)), (.ref b102)]))
  refine Go.by (fun _ kont => XS.lneg X102.here hx rfl (hb hby dN3_18) rfl kont) ?_
  show Go _ _ _ _ _ _ _ (T102.setTop (mkF m 19 #[.val (.ref a), .val (.ref b102), .val (.int (0 : Int32))] [(.long (-v0)), (.int (0 : Int32)), (.ref b102)]))
  obtain ⟨cl_q106, Ar_q106, q1_q106, S_q106, N_q106, H_q106, G_q106⟩ := id V102
  have hin_q106 : ¬ ((0 : Int32) < 0 ∨ cl_q106.slots.size ≤ ((0 : Int32)).toNatClampNeg) := inb_of S_q106 ⟨by decide, by decide⟩
  obtain ⟨T107, h107, X107, e107, W107, st107⟩ := stJ X102 hx hZ e102 Ar_q106 (j := (0 : Int32)) hin_q106 (g := (mkF m 19 #[.val (.ref a), .val (.ref b102), .val (.int (0 : Int32))] [(.long (-v0)), (.int (0 : Int32)), (.ref b102)])) rfl rfl (hb hby dN3_19)
  have V107 : Arv Z h107 b102 k102 .long (3 : Int32) [(.long (-v0)), (.long (0 : Int64)), (.long (0 : Int64))] (.long (0 : Int64)) := Arv.set Ar_q106 q1_q106 S_q106 N_q106 H_q106 G_q106 rfl W107 0 rfl (Nat.le_of_ble_eq_true rfl)
  have V108_a := V103_a.other W107 ne_a_b102
  have Z108 := Nat.le_trans Z103 (Keep.of_wr W107).1
  have K108 : Keep h0 h107 [] := K103.wr W107 (Or.inr sz_b102)
  have N107 := Fr.snoc X107 N0 ge_b102
  refine Go.by st107 ?_
  show Go _ _ _ _ _ _ _ (T107.setTop (mkF m 20 #[.val (.ref a), .val (.ref b102), .val (.int (0 : Int32))] []))
  refine Go.by (fun _ kont => XS.iinc X107.here hx rfl (hb hby dN3_20) rfl (l' := #[.val (.ref a), .val (.ref b102), .val (.int (1 : Int32))]) rfl (XS.goto X107.here hx rfl (pc0 := 23) (pc' := 7) rfl (hb hby dN3_23) (by decide) (by decide) (XS.iloadN X107.here hx rfl (hb hby dN3_7) rfl (XS.aloadN X107.here hx rfl (hb hby dN3_8) rfl rfl kont)))) ?_
  show Go _ _ _ _ _ _ _ (T107.setTop (mkF m 9 #[.val (.ref a), .val (.ref b102), .val (.int (1 : Int32))] [(.ref a), (.int (1 : Int32))]))
  obtain ⟨cl_q109, Ar_q109, q1_q109, S_q109, N_q109, H_q109, G_q109⟩ := id V108_a
  refine Go.by (X107.arraylength hx (by first | exact Ar_q109.1 | (rw [e107]; exact Ar_q109.1)) (State.isArrayOf_alike hZ.alike Ar_q109.2.1) (g := (mkF m 9 #[.val (.ref a), .val (.ref b102), .val (.int (1 : Int32))] [(.ref a), (.int (1 : Int32))])) rfl rfl (hb hby dN3_9)) ?_
  rw [len_of S_q109 N_q109]
  show Go _ _ _ _ _ _ _ (T107.setTop (mkF m 10 #[.val (.ref a), .val (.ref b102), .val (.int (1 : Int32))] [(.int (3 : Int32)), (.int (1 : Int32))]))
  refine Go.by (fun _ kont => XS.icmpNo X107.here hx rfl (hb hby dN3_10) rfl (by decide) kont) ?_
  show Go _ _ _ _ _ _ _ (T107.setTop (mkF m 13 #[.val (.ref a), .val (.ref b102), .val (.int (1 : Int32))] []))
  refine Go.by (fun _ kont => XS.aloadN X107.here hx rfl (hb hby dN3_13) rfl rfl (XS.iloadN X107.here hx rfl (hb hby dN3_14) rfl (XS.aloadN X107.here hx rfl (hb hby dN3_15) rfl rfl (XS.iloadN X107.here hx rfl (hb hby dN3_16) rfl kont)))) ?_
  show Go _ _ _ _ _ _ _ (T107.setTop (mkF m 17 #[.val (.ref a), .val (.ref b102), .val (.int (1 : Int32))] [(.int (1 : Int32)), (.ref a), (.int (1 : Int32)), (.ref b102)]))
  obtain ⟨cl_q110, Ar_q110, q1_q110, S_q110, N_q110, H_q110, G_q110⟩ := id V108_a
  have hin_q110 : ¬ ((1 : Int32) < 0 ∨ cl_q110.slots.size ≤ ((1 : Int32)).toNatClampNeg) := inb_of S_q110 ⟨by decide, by decide⟩
  have hat_q110 : cl_q110.slots[((1 : Int32)).toNatClampNeg]? = some (.long v1) := Has.at H_q110 hin_q110 rfl
  refine Go.by (X107.laload hx (j := (1 : Int32)) (v := (.long v1)) (by first | exact Ar_q110.1 | (rw [e107]; exact Ar_q110.1)) (State.isArrayOf_alike hZ.alike Ar_q110.2.1) Ar_q110.2.2 hin_q110 hat_q110 (g := (mkF m 17 #[.val (.ref a), .val (.ref b102), .val (.int (1 : Int32))] [(.int (1 : Int32)), (.ref a), (.int (1 : Int32)), (.ref b102)])) rfl rfl (hb hby dN3_17)) ?_
  show Go _ _ _ _ _ _ _ (T107.setTop (mkF m 18 #[.val (.ref a), .val (.ref b102), .val (.int (1 : Int32))] [(.long v1), (.int (1 : Int32)), (.ref b102)]))
  refine Go.by (fun _ kont => XS.lneg X107.here hx rfl (hb hby dN3_18) rfl kont) ?_
  show Go _ _ _ _ _ _ _ (T107.setTop (mkF m 19 #[.val (.ref a), .val (.ref b102), .val (.int (1 : Int32))] [(.long (-v1)), (.int (1 : Int32)), (.ref b102)]))
  obtain ⟨cl_q111, Ar_q111, q1_q111, S_q111, N_q111, H_q111, G_q111⟩ := id V107
  have hin_q111 : ¬ ((1 : Int32) < 0 ∨ cl_q111.slots.size ≤ ((1 : Int32)).toNatClampNeg) := inb_of S_q111 ⟨by decide, by decide⟩
  obtain ⟨T112, h112, X112, e112, W112, st112⟩ := stJ X107 hx hZ e107 Ar_q111 (j := (1 : Int32)) hin_q111 (g := (mkF m 19 #[.val (.ref a), .val (.ref b102), .val (.int (1 : Int32))] [(.long (-v1)), (.int (1 : Int32)), (.ref b102)])) rfl rfl (hb hby dN3_19)
  have V112 : Arv Z h112 b102 k102 .long (3 : Int32) [(.long (-v0)), (.long (-v1)), (.long (0 : Int64))] (.long (0 : Int64)) := Arv.set Ar_q111 q1_q111 S_q111 N_q111 H_q111 G_q111 rfl W112 1 rfl (Nat.le_of_ble_eq_true rfl)
  have V113_a := V108_a.other W112 ne_a_b102
  have Z113 := Nat.le_trans Z108 (Keep.of_wr W112).1
  have K113 : Keep h0 h112 [] := K108.wr W112 (Or.inr sz_b102)
  have N112 := Fr.snoc X112 N107 ge_b102
  refine Go.by st112 ?_
  show Go _ _ _ _ _ _ _ (T112.setTop (mkF m 20 #[.val (.ref a), .val (.ref b102), .val (.int (1 : Int32))] []))
  refine Go.by (fun _ kont => XS.iinc X112.here hx rfl (hb hby dN3_20) rfl (l' := #[.val (.ref a), .val (.ref b102), .val (.int (2 : Int32))]) rfl (XS.goto X112.here hx rfl (pc0 := 23) (pc' := 7) rfl (hb hby dN3_23) (by decide) (by decide) (XS.iloadN X112.here hx rfl (hb hby dN3_7) rfl (XS.aloadN X112.here hx rfl (hb hby dN3_8) rfl rfl kont)))) ?_
  show Go _ _ _ _ _ _ _ (T112.setTop (mkF m 9 #[.val (.ref a), .val (.ref b102), .val (.int (2 : Int32))] [(.ref a), (.int (2 : Int32))]))
  obtain ⟨cl_q114, Ar_q114, q1_q114, S_q114, N_q114, H_q114, G_q114⟩ := id V113_a
  refine Go.by (X112.arraylength hx (by first | exact Ar_q114.1 | (rw [e112]; exact Ar_q114.1)) (State.isArrayOf_alike hZ.alike Ar_q114.2.1) (g := (mkF m 9 #[.val (.ref a), .val (.ref b102), .val (.int (2 : Int32))] [(.ref a), (.int (2 : Int32))])) rfl rfl (hb hby dN3_9)) ?_
  rw [len_of S_q114 N_q114]
  show Go _ _ _ _ _ _ _ (T112.setTop (mkF m 10 #[.val (.ref a), .val (.ref b102), .val (.int (2 : Int32))] [(.int (3 : Int32)), (.int (2 : Int32))]))
  refine Go.by (fun _ kont => XS.icmpNo X112.here hx rfl (hb hby dN3_10) rfl (by decide) kont) ?_
  show Go _ _ _ _ _ _ _ (T112.setTop (mkF m 13 #[.val (.ref a), .val (.ref b102), .val (.int (2 : Int32))] []))
  refine Go.by (fun _ kont => XS.aloadN X112.here hx rfl (hb hby dN3_13) rfl rfl (XS.iloadN X112.here hx rfl (hb hby dN3_14) rfl (XS.aloadN X112.here hx rfl (hb hby dN3_15) rfl rfl (XS.iloadN X112.here hx rfl (hb hby dN3_16) rfl kont)))) ?_
  show Go _ _ _ _ _ _ _ (T112.setTop (mkF m 17 #[.val (.ref a), .val (.ref b102), .val (.int (2 : Int32))] [(.int (2 : Int32)), (.ref a), (.int (2 : Int32)), (.ref b102)]))
  obtain ⟨cl_q115, Ar_q115, q1_q115, S_q115, N_q115, H_q115, G_q115⟩ := id V113_a
  have hin_q115 : ¬ ((2 : Int32) < 0 ∨ cl_q115.slots.size ≤ ((2 : Int32)).toNatClampNeg) := inb_of S_q115 ⟨by decide, by decide⟩
  have hat_q115 : cl_q115.slots[((2 : Int32)).toNatClampNeg]? = some (.long v2) := Has.at H_q115 hin_q115 rfl
  refine Go.by (X112.laload hx (j := (2 : Int32)) (v := (.long v2)) (by first | exact Ar_q115.1 | (rw [e112]; exact Ar_q115.1)) (State.isArrayOf_alike hZ.alike Ar_q115.2.1) Ar_q115.2.2 hin_q115 hat_q115 (g := (mkF m 17 #[.val (.ref a), .val (.ref b102), .val (.int (2 : Int32))] [(.int (2 : Int32)), (.ref a), (.int (2 : Int32)), (.ref b102)])) rfl rfl (hb hby dN3_17)) ?_
  show Go _ _ _ _ _ _ _ (T112.setTop (mkF m 18 #[.val (.ref a), .val (.ref b102), .val (.int (2 : Int32))] [(.long v2), (.int (2 : Int32)), (.ref b102)]))
  refine Go.by (fun _ kont => XS.lneg X112.here hx rfl (hb hby dN3_18) rfl kont) ?_
  show Go _ _ _ _ _ _ _ (T112.setTop (mkF m 19 #[.val (.ref a), .val (.ref b102), .val (.int (2 : Int32))] [(.long (-v2)), (.int (2 : Int32)), (.ref b102)]))
  obtain ⟨cl_q116, Ar_q116, q1_q116, S_q116, N_q116, H_q116, G_q116⟩ := id V112
  have hin_q116 : ¬ ((2 : Int32) < 0 ∨ cl_q116.slots.size ≤ ((2 : Int32)).toNatClampNeg) := inb_of S_q116 ⟨by decide, by decide⟩
  obtain ⟨T117, h117, X117, e117, W117, st117⟩ := stJ X112 hx hZ e112 Ar_q116 (j := (2 : Int32)) hin_q116 (g := (mkF m 19 #[.val (.ref a), .val (.ref b102), .val (.int (2 : Int32))] [(.long (-v2)), (.int (2 : Int32)), (.ref b102)])) rfl rfl (hb hby dN3_19)
  have V117 : Arv Z h117 b102 k102 .long (3 : Int32) [(.long (-v0)), (.long (-v1)), (.long (-v2))] (.long (0 : Int64)) := Arv.set Ar_q116 q1_q116 S_q116 N_q116 H_q116 G_q116 rfl W117 2 rfl (Nat.le_of_ble_eq_true rfl)
  have V118_a := V113_a.other W117 ne_a_b102
  have Z118 := Nat.le_trans Z113 (Keep.of_wr W117).1
  have K118 : Keep h0 h117 [] := K113.wr W117 (Or.inr sz_b102)
  have N117 := Fr.snoc X117 N112 ge_b102
  refine Go.by st117 ?_
  show Go _ _ _ _ _ _ _ (T117.setTop (mkF m 20 #[.val (.ref a), .val (.ref b102), .val (.int (2 : Int32))] []))
  refine Go.by (fun _ kont => XS.iinc X117.here hx rfl (hb hby dN3_20) rfl (l' := #[.val (.ref a), .val (.ref b102), .val (.int (3 : Int32))]) rfl (XS.goto X117.here hx rfl (pc0 := 23) (pc' := 7) rfl (hb hby dN3_23) (by decide) (by decide) (XS.iloadN X117.here hx rfl (hb hby dN3_7) rfl (XS.aloadN X117.here hx rfl (hb hby dN3_8) rfl rfl kont)))) ?_
  show Go _ _ _ _ _ _ _ (T117.setTop (mkF m 9 #[.val (.ref a), .val (.ref b102), .val (.int (3 : Int32))] [(.ref a), (.int (3 : Int32))]))
  obtain ⟨cl_q119, Ar_q119, q1_q119, S_q119, N_q119, H_q119, G_q119⟩ := id V118_a
  refine Go.by (X117.arraylength hx (by first | exact Ar_q119.1 | (rw [e117]; exact Ar_q119.1)) (State.isArrayOf_alike hZ.alike Ar_q119.2.1) (g := (mkF m 9 #[.val (.ref a), .val (.ref b102), .val (.int (3 : Int32))] [(.ref a), (.int (3 : Int32))])) rfl rfl (hb hby dN3_9)) ?_
  rw [len_of S_q119 N_q119]
  show Go _ _ _ _ _ _ _ (T117.setTop (mkF m 10 #[.val (.ref a), .val (.ref b102), .val (.int (3 : Int32))] [(.int (3 : Int32)), (.int (3 : Int32))]))
  refine Go.by (fun _ kont => XS.icmpYes X117.here hx rfl (pc0 := 10) (pc' := 26) rfl (hb hby dN3_10) rfl (by decide) (by decide) (by decide) kont) ?_
  show Go _ _ _ _ _ _ _ (T117.setTop (mkF m 26 #[.val (.ref a), .val (.ref b102), .val (.int (3 : Int32))] []))
  refine Go.by (fun _ kont => XS.aloadN X117.here hx rfl (hb hby dN3_26) rfl rfl kont) ?_
  show Go _ _ _ _ _ _ _ (T117.setTop (mkF m 27 #[.val (.ref a), .val (.ref b102), .val (.int (3 : Int32))] [(.ref b102)]))
  refine Go.retR X117 hx hret rfl rfl hlk (hb hby dN3_27) ?_ (by decide) (by decide)
  show QN3 Z a kc_a v0 v1 v2 h0 n0 (some (.ref b102)) T117.heap _
  rw [e117]
  exact ⟨b102, k102, rfl, N117, K118, ge_b102, sz_b102, V117⟩

theorem dK30_0 : decode method_3_code 0 = .ok (.iload_n 3, 1) := by decide +kernel
theorem dK30_1 : decode method_3_code 1 = .ok (.iload 4, 2) := by decide +kernel
theorem dK30_3 : decode method_3_code 3 = .ok (.if_icmp .lt 5, 3) := by decide +kernel
theorem dK30_8 : decode method_3_code 8 = .ok (.aload_n 0, 1) := by decide +kernel
theorem dK30_9 : decode method_3_code 9 = .ok (.iload_n 3, 1) := by decide +kernel
theorem dK30_10 : decode method_3_code 10 = .ok (.laload, 1) := by decide +kernel
theorem dK30_11 : decode method_3_code 11 = .ok (.aload_n 2, 1) := by decide +kernel
theorem dK30_12 : decode method_3_code 12 = .ok (.iload_n 3, 1) := by decide +kernel
theorem dK30_13 : decode method_3_code 13 = .ok (.laload, 1) := by decide +kernel
theorem dK30_14 : decode method_3_code 14 = .ok (.lcmp, 1) := by decide +kernel
theorem dK30_15 : decode method_3_code 15 = .ok (.ifCond .ne 19, 3) := by decide +kernel
theorem dK30_18 : decode method_3_code 18 = .ok (.aload_n 0, 1) := by decide +kernel
theorem dK30_19 : decode method_3_code 19 = .ok (.iload_n 3, 1) := by decide +kernel
theorem dK30_20 : decode method_3_code 20 = .ok (.laload, 1) := by decide +kernel
theorem dK30_21 : decode method_3_code 21 = .ok (.aload_n 1, 1) := by decide +kernel
theorem dK30_22 : decode method_3_code 22 = .ok (.iload_n 3, 1) := by decide +kernel
theorem dK30_23 : decode method_3_code 23 = .ok (.laload, 1) := by decide +kernel
theorem dK30_24 : decode method_3_code 24 = .ok (.ladd, 1) := by decide +kernel
theorem dK30_25 : decode method_3_code 25 = .ok (.lconst 0, 1) := by decide +kernel
theorem dK30_26 : decode method_3_code 26 = .ok (.lcmp, 1) := by decide +kernel
theorem dK30_27 : decode method_3_code 27 = .ok (.ifCond .ne 7, 3) := by decide +kernel
theorem dK30_30 : decode method_3_code 30 = .ok (.iconst 1, 1) := by decide +kernel
theorem dK30_31 : decode method_3_code 31 = .ok (.goto 4, 3) := by decide +kernel
theorem dK30_35 : decode method_3_code 35 = .ok (.ireturn, 1) := by decide +kernel
theorem pnK30 : plainName "com/example/runs_to_nets/runstonets/core/PlaceTransitionSynthesisNegatedPinLaw" = true := by first | (simp [plainName, overriddenIn]; done) | decide +kernel
theorem efK30 (m : MethodId) (a : Addr) (b : Addr) (d : Addr) : entryFrame m #[(.ref a), (.ref b), (.ref d), (.int (0 : Int32)), (.int (3 : Int32))] 5 = mkF m 0 #[.val (.ref a), .val (.ref b), .val (.ref d), .val (.int (0 : Int32)), .val (.int (3 : Int32))] [] := by first | (simp [entryFrame, mkF, argsToLocals, Value.category]; done) | rfl
def QK30 (Z : State) (a : Addr) (b : Addr) (d : Addr) (kc_a : ClassId) (v0 : Int64) (v1 : Int64) (v2 : Int64) (kc_b : ClassId) (kc_d : ClassId) (v3 : Int64) (v4 : Int64) (h0 : Heap) (n0 : Nat) (v : Option Value) (h : Heap) (L : List Loc) : Prop := (v = some (.int (1 : Int32)) ∧ Fr n0 L ∧ h = h0)
set_option maxRecDepth 65536 in
set_option maxHeartbeats 40000000 in
theorem rmK30 (l : Launch) (Z : State) (a0 : Array Value) (hw : ∀ d ∈ tables_1, d.before a0 Z = true) (ws : List Jvm.Cond) (a : Addr) (b : Addr) (d : Addr) (kc_a : ClassId) (v0 : Int64) (v1 : Int64) (v2 : Int64) (kc_b : ClassId) (kc_d : ClassId) (v3 : Int64) (v4 : Int64) (h0 : Heap) (n0 : Nat) (Z0 : n0 ≤ h0.size) (V0_a : Arv Z h0 a kc_a .long (3 : Int32) [(.long v0), (.long v1), (.long v2)] (.long (0 : Int64))) (V0_b : Arv Z h0 b kc_b .long (3 : Int32) [(.long (-v0)), (.long (-v1)), (.long (-v2))] (.long (0 : Int64))) (V0_d : Arv Z h0 d kc_d .long (5 : Int32) [(.long v0), (.long v1), (.long v2), (.long v3), (.long v4)] (.long (0 : Int64))) :
    MetFree l (⟨"com/example/runs_to_nets/runstonets/core/PlaceTransitionSynthesisNegatedPinLaw", "ok", "([J[J[JII)Z"⟩ : MethodName) (head1 (Jvm.Cond.code (⟨"com/example/runs_to_nets/runstonets/core/PlaceTransitionSynthesisNegatedPinLaw", "ok", "([J[J[JII)Z"⟩ : MethodName) method_3_code 5 (some .boolean) :: ws) ({ frames := 0, cells := 0, slots := 0, locals := 0 } : Room)) (fun aa_ U_ => aa_ = #[(.ref a), (.ref b), (.ref d), (.int (0 : Int32)), (.int (3 : Int32))] ∧ Z.Warmed39 U_.vm ∧ U_.heap = h0) (fun _ _ _ _ _ => True) (fun _ U_ o_ V_ => ∃ v_ L_, o_ = .returned v_ ∧ QK30 Z a b d kc_a v0 v1 v2 kc_b kc_d v3 v4 h0 n0 v_ V_.heap L_ ∧ FrameEnd U_ o_ V_ L_ ({ frames := 0, cells := 0, slots := 0, locals := 0 } : Room).cells ({ frames := 0, cells := 0, slots := 0, locals := 0 } : Room).slots) := by
  refine MetFree.of_bodySF (plainFor_of_name pnK30) hisR ?_
  intro p e s m args below meth c s₁ Bd hml0 hP hK
  obtain ⟨rfl, hZ, hh⟩ := hP
  have hx := Bd.exec
  have hby := Bd.bytes
  have hml : c.maxLocals = 5 := hml0
  have hown : s.vm.findClass "com/example/runs_to_nets/runstonets/core/PlaceTransitionSynthesisNegatedPinLaw" = some m.cls := findClass_of_methodNamed Bd.named
  have hnm := (name_of_methodNamed Bd.named Bd.method).1
  have hlk : meth.locks = false := BodyLoose.notSynchronized Bd
  have hret : meth.sig.returnType = (some .boolean) := Bd.returns
  have X0 : Stand p l e ({ frames := 0, cells := 0, slots := 0, locals := 0 } : Room) s m #[(.ref a), (.ref b), (.ref d), (.int (0 : Int32)), (.int (3 : Int32))] below meth c s₁ [] 0 0 := Stand.of_body Bd
  have e0 : s₁.heap = h0 := by rw [← hh, Bd.state]; rfl
  have N0 := Fr.nil n0
  show Go p e below s ({ frames := 0, cells := 0, slots := 0, locals := 0 } : Room).cells ({ frames := 0, cells := 0, slots := 0, locals := 0 } : Room).slots (QK30 Z a b d kc_a v0 v1 v2 kc_b kc_d v3 v4 h0 n0) (s₁.setTop (entryFrame m #[(.ref a), (.ref b), (.ref d), (.int (0 : Int32)), (.int (3 : Int32))] 5))
  rw [efK30]
  refine Go.by (fun _ kont => XS.iloadN X0.here hx rfl (hb hby dK30_0) rfl (XS.iload X0.here hx rfl (hb hby dK30_1) rfl kont)) ?_
  show Go _ _ _ _ _ _ _ (s₁.setTop (mkF m 3 #[.val (.ref a), .val (.ref b), .val (.ref d), .val (.int (0 : Int32)), .val (.int (3 : Int32))] [(.int (3 : Int32)), (.int (0 : Int32))]))
  refine Go.by (fun _ kont => XS.icmpYes X0.here hx rfl (pc0 := 3) (pc' := 8) rfl (hb hby dK30_3) rfl (by decide) (by decide) (by decide) kont) ?_
  show Go _ _ _ _ _ _ _ (s₁.setTop (mkF m 8 #[.val (.ref a), .val (.ref b), .val (.ref d), .val (.int (0 : Int32)), .val (.int (3 : Int32))] []))
  refine Go.by (fun _ kont => XS.aloadN X0.here hx rfl (hb hby dK30_8) rfl rfl (XS.iloadN X0.here hx rfl (hb hby dK30_9) rfl kont)) ?_
  show Go _ _ _ _ _ _ _ (s₁.setTop (mkF m 10 #[.val (.ref a), .val (.ref b), .val (.ref d), .val (.int (0 : Int32)), .val (.int (3 : Int32))] [(.int (0 : Int32)), (.ref a)]))
  obtain ⟨cl_q101, Ar_q101, q1_q101, S_q101, N_q101, H_q101, G_q101⟩ := id V0_a
  have hin_q101 : ¬ ((0 : Int32) < 0 ∨ cl_q101.slots.size ≤ ((0 : Int32)).toNatClampNeg) := inb_of S_q101 ⟨by decide, by decide⟩
  have hat_q101 : cl_q101.slots[((0 : Int32)).toNatClampNeg]? = some (.long v0) := Has.at H_q101 hin_q101 rfl
  refine Go.by (X0.laload hx (j := (0 : Int32)) (v := (.long v0)) (by first | exact Ar_q101.1 | (rw [e0]; exact Ar_q101.1)) (State.isArrayOf_alike hZ.alike Ar_q101.2.1) Ar_q101.2.2 hin_q101 hat_q101 (g := (mkF m 10 #[.val (.ref a), .val (.ref b), .val (.ref d), .val (.int (0 : Int32)), .val (.int (3 : Int32))] [(.int (0 : Int32)), (.ref a)])) rfl rfl (hb hby dK30_10)) ?_
  show Go _ _ _ _ _ _ _ (s₁.setTop (mkF m 11 #[.val (.ref a), .val (.ref b), .val (.ref d), .val (.int (0 : Int32)), .val (.int (3 : Int32))] [(.long v0)]))
  refine Go.by (fun _ kont => XS.aloadN X0.here hx rfl (hb hby dK30_11) rfl rfl (XS.iloadN X0.here hx rfl (hb hby dK30_12) rfl kont)) ?_
  show Go _ _ _ _ _ _ _ (s₁.setTop (mkF m 13 #[.val (.ref a), .val (.ref b), .val (.ref d), .val (.int (0 : Int32)), .val (.int (3 : Int32))] [(.int (0 : Int32)), (.ref d), (.long v0)]))
  obtain ⟨cl_q102, Ar_q102, q1_q102, S_q102, N_q102, H_q102, G_q102⟩ := id V0_d
  have hin_q102 : ¬ ((0 : Int32) < 0 ∨ cl_q102.slots.size ≤ ((0 : Int32)).toNatClampNeg) := inb_of S_q102 ⟨by decide, by decide⟩
  have hat_q102 : cl_q102.slots[((0 : Int32)).toNatClampNeg]? = some (.long v0) := Has.at H_q102 hin_q102 rfl
  refine Go.by (X0.laload hx (j := (0 : Int32)) (v := (.long v0)) (by first | exact Ar_q102.1 | (rw [e0]; exact Ar_q102.1)) (State.isArrayOf_alike hZ.alike Ar_q102.2.1) Ar_q102.2.2 hin_q102 hat_q102 (g := (mkF m 13 #[.val (.ref a), .val (.ref b), .val (.ref d), .val (.int (0 : Int32)), .val (.int (3 : Int32))] [(.int (0 : Int32)), (.ref d), (.long v0)])) rfl rfl (hb hby dK30_13)) ?_
  show Go _ _ _ _ _ _ _ (s₁.setTop (mkF m 14 #[.val (.ref a), .val (.ref b), .val (.ref d), .val (.int (0 : Int32)), .val (.int (3 : Int32))] [(.long v0), (.long v0)]))
  refine Go.by (fun _ kont => XS.lcmp X0.here hx rfl (hb hby dK30_14) rfl kont) ?_
  show Go _ _ _ _ _ _ _ (s₁.setTop (mkF m 15 #[.val (.ref a), .val (.ref b), .val (.ref d), .val (.int (0 : Int32)), .val (.int (3 : Int32))] [(.int (lcmpW v0 v0))]))
  refine Go.by (fun _ kont => XS.ifNo X0.here hx rfl (hb hby dK30_15) rfl ((if0 _ _).trans (teq ((lw_eq _ _).mpr rfl)).2) kont) ?_
  show Go _ _ _ _ _ _ _ (s₁.setTop (mkF m 18 #[.val (.ref a), .val (.ref b), .val (.ref d), .val (.int (0 : Int32)), .val (.int (3 : Int32))] []))
  refine Go.by (fun _ kont => XS.aloadN X0.here hx rfl (hb hby dK30_18) rfl rfl (XS.iloadN X0.here hx rfl (hb hby dK30_19) rfl kont)) ?_
  show Go _ _ _ _ _ _ _ (s₁.setTop (mkF m 20 #[.val (.ref a), .val (.ref b), .val (.ref d), .val (.int (0 : Int32)), .val (.int (3 : Int32))] [(.int (0 : Int32)), (.ref a)]))
  obtain ⟨cl_q103, Ar_q103, q1_q103, S_q103, N_q103, H_q103, G_q103⟩ := id V0_a
  have hin_q103 : ¬ ((0 : Int32) < 0 ∨ cl_q103.slots.size ≤ ((0 : Int32)).toNatClampNeg) := inb_of S_q103 ⟨by decide, by decide⟩
  have hat_q103 : cl_q103.slots[((0 : Int32)).toNatClampNeg]? = some (.long v0) := Has.at H_q103 hin_q103 rfl
  refine Go.by (X0.laload hx (j := (0 : Int32)) (v := (.long v0)) (by first | exact Ar_q103.1 | (rw [e0]; exact Ar_q103.1)) (State.isArrayOf_alike hZ.alike Ar_q103.2.1) Ar_q103.2.2 hin_q103 hat_q103 (g := (mkF m 20 #[.val (.ref a), .val (.ref b), .val (.ref d), .val (.int (0 : Int32)), .val (.int (3 : Int32))] [(.int (0 : Int32)), (.ref a)])) rfl rfl (hb hby dK30_20)) ?_
  show Go _ _ _ _ _ _ _ (s₁.setTop (mkF m 21 #[.val (.ref a), .val (.ref b), .val (.ref d), .val (.int (0 : Int32)), .val (.int (3 : Int32))] [(.long v0)]))
  refine Go.by (fun _ kont => XS.aloadN X0.here hx rfl (hb hby dK30_21) rfl rfl (XS.iloadN X0.here hx rfl (hb hby dK30_22) rfl kont)) ?_
  show Go _ _ _ _ _ _ _ (s₁.setTop (mkF m 23 #[.val (.ref a), .val (.ref b), .val (.ref d), .val (.int (0 : Int32)), .val (.int (3 : Int32))] [(.int (0 : Int32)), (.ref b), (.long v0)]))
  obtain ⟨cl_q104, Ar_q104, q1_q104, S_q104, N_q104, H_q104, G_q104⟩ := id V0_b
  have hin_q104 : ¬ ((0 : Int32) < 0 ∨ cl_q104.slots.size ≤ ((0 : Int32)).toNatClampNeg) := inb_of S_q104 ⟨by decide, by decide⟩
  have hat_q104 : cl_q104.slots[((0 : Int32)).toNatClampNeg]? = some (.long (-v0)) := Has.at H_q104 hin_q104 rfl
  refine Go.by (X0.laload hx (j := (0 : Int32)) (v := (.long (-v0))) (by first | exact Ar_q104.1 | (rw [e0]; exact Ar_q104.1)) (State.isArrayOf_alike hZ.alike Ar_q104.2.1) Ar_q104.2.2 hin_q104 hat_q104 (g := (mkF m 23 #[.val (.ref a), .val (.ref b), .val (.ref d), .val (.int (0 : Int32)), .val (.int (3 : Int32))] [(.int (0 : Int32)), (.ref b), (.long v0)])) rfl rfl (hb hby dK30_23)) ?_
  show Go _ _ _ _ _ _ _ (s₁.setTop (mkF m 24 #[.val (.ref a), .val (.ref b), .val (.ref d), .val (.int (0 : Int32)), .val (.int (3 : Int32))] [(.long (-v0)), (.long v0)]))
  refine Go.by (fun _ kont => XS.ladd X0.here hx rfl (hb hby dK30_24) rfl (XS.lconst X0.here hx rfl (hb hby dK30_25) (XS.lcmp X0.here hx rfl (hb hby dK30_26) rfl kont))) ?_
  show Go _ _ _ _ _ _ _ (s₁.setTop (mkF m 27 #[.val (.ref a), .val (.ref b), .val (.ref d), .val (.int (0 : Int32)), .val (.int (3 : Int32))] [(.int (lcmpW (v0 + (-v0)) (0 : Int64)))]))
  have hd105 : (v0 + (-v0)) = (0 : Int64) := Int64.add_right_neg _
  refine Go.by (fun _ kont => XS.ifNo X0.here hx rfl (hb hby dK30_27) rfl ((if0 _ _).trans (teq ((lw_eq _ _).mpr hd105)).2) kont) ?_
  show Go _ _ _ _ _ _ _ (s₁.setTop (mkF m 30 #[.val (.ref a), .val (.ref b), .val (.ref d), .val (.int (0 : Int32)), .val (.int (3 : Int32))] []))
  refine Go.by (fun _ kont => XS.iconst X0.here hx rfl (hb hby dK30_30) (XS.goto X0.here hx rfl (pc0 := 31) (pc' := 35) rfl (hb hby dK30_31) (by decide) (by decide) kont)) ?_
  show Go _ _ _ _ _ _ _ (s₁.setTop (mkF m 35 #[.val (.ref a), .val (.ref b), .val (.ref d), .val (.int (0 : Int32)), .val (.int (3 : Int32))] [(.int (1 : Int32))]))
  refine Go.retN X0 hx (t := .boolean) hret (by simp) hlk (hb hby dK30_35) ?_ (by decide) (by decide)
  show QK30 Z a b d kc_a v0 v1 v2 kc_b kc_d v3 v4 h0 n0 (some (.int (1 : Int32))) s₁.heap _
  rw [e0]
  exact ⟨rfl, N0, rfl⟩

theorem dK31_0 : decode method_3_code 0 = .ok (.iload_n 3, 1) := by decide +kernel
theorem dK31_1 : decode method_3_code 1 = .ok (.iload 4, 2) := by decide +kernel
theorem dK31_3 : decode method_3_code 3 = .ok (.if_icmp .lt 5, 3) := by decide +kernel
theorem dK31_8 : decode method_3_code 8 = .ok (.aload_n 0, 1) := by decide +kernel
theorem dK31_9 : decode method_3_code 9 = .ok (.iload_n 3, 1) := by decide +kernel
theorem dK31_10 : decode method_3_code 10 = .ok (.laload, 1) := by decide +kernel
theorem dK31_11 : decode method_3_code 11 = .ok (.aload_n 2, 1) := by decide +kernel
theorem dK31_12 : decode method_3_code 12 = .ok (.iload_n 3, 1) := by decide +kernel
theorem dK31_13 : decode method_3_code 13 = .ok (.laload, 1) := by decide +kernel
theorem dK31_14 : decode method_3_code 14 = .ok (.lcmp, 1) := by decide +kernel
theorem dK31_15 : decode method_3_code 15 = .ok (.ifCond .ne 19, 3) := by decide +kernel
theorem dK31_18 : decode method_3_code 18 = .ok (.aload_n 0, 1) := by decide +kernel
theorem dK31_19 : decode method_3_code 19 = .ok (.iload_n 3, 1) := by decide +kernel
theorem dK31_20 : decode method_3_code 20 = .ok (.laload, 1) := by decide +kernel
theorem dK31_21 : decode method_3_code 21 = .ok (.aload_n 1, 1) := by decide +kernel
theorem dK31_22 : decode method_3_code 22 = .ok (.iload_n 3, 1) := by decide +kernel
theorem dK31_23 : decode method_3_code 23 = .ok (.laload, 1) := by decide +kernel
theorem dK31_24 : decode method_3_code 24 = .ok (.ladd, 1) := by decide +kernel
theorem dK31_25 : decode method_3_code 25 = .ok (.lconst 0, 1) := by decide +kernel
theorem dK31_26 : decode method_3_code 26 = .ok (.lcmp, 1) := by decide +kernel
theorem dK31_27 : decode method_3_code 27 = .ok (.ifCond .ne 7, 3) := by decide +kernel
theorem dK31_30 : decode method_3_code 30 = .ok (.iconst 1, 1) := by decide +kernel
theorem dK31_31 : decode method_3_code 31 = .ok (.goto 4, 3) := by decide +kernel
theorem dK31_35 : decode method_3_code 35 = .ok (.ireturn, 1) := by decide +kernel
theorem pnK31 : plainName "com/example/runs_to_nets/runstonets/core/PlaceTransitionSynthesisNegatedPinLaw" = true := by first | (simp [plainName, overriddenIn]; done) | decide +kernel
theorem efK31 (m : MethodId) (a : Addr) (b : Addr) (d : Addr) : entryFrame m #[(.ref a), (.ref b), (.ref d), (.int (1 : Int32)), (.int (3 : Int32))] 5 = mkF m 0 #[.val (.ref a), .val (.ref b), .val (.ref d), .val (.int (1 : Int32)), .val (.int (3 : Int32))] [] := by first | (simp [entryFrame, mkF, argsToLocals, Value.category]; done) | rfl
def QK31 (Z : State) (a : Addr) (b : Addr) (d : Addr) (kc_a : ClassId) (v0 : Int64) (v1 : Int64) (v2 : Int64) (kc_b : ClassId) (kc_d : ClassId) (v3 : Int64) (v4 : Int64) (h0 : Heap) (n0 : Nat) (v : Option Value) (h : Heap) (L : List Loc) : Prop := (v = some (.int (1 : Int32)) ∧ Fr n0 L ∧ h = h0)
set_option maxRecDepth 65536 in
set_option maxHeartbeats 40000000 in
theorem rmK31 (l : Launch) (Z : State) (a0 : Array Value) (hw : ∀ d ∈ tables_1, d.before a0 Z = true) (ws : List Jvm.Cond) (a : Addr) (b : Addr) (d : Addr) (kc_a : ClassId) (v0 : Int64) (v1 : Int64) (v2 : Int64) (kc_b : ClassId) (kc_d : ClassId) (v3 : Int64) (v4 : Int64) (h0 : Heap) (n0 : Nat) (Z0 : n0 ≤ h0.size) (V0_a : Arv Z h0 a kc_a .long (3 : Int32) [(.long v0), (.long v1), (.long v2)] (.long (0 : Int64))) (V0_b : Arv Z h0 b kc_b .long (3 : Int32) [(.long (-v0)), (.long (-v1)), (.long (-v2))] (.long (0 : Int64))) (V0_d : Arv Z h0 d kc_d .long (5 : Int32) [(.long v0), (.long v1), (.long v2), (.long v3), (.long v4)] (.long (0 : Int64))) :
    MetFree l (⟨"com/example/runs_to_nets/runstonets/core/PlaceTransitionSynthesisNegatedPinLaw", "ok", "([J[J[JII)Z"⟩ : MethodName) (head1 (Jvm.Cond.code (⟨"com/example/runs_to_nets/runstonets/core/PlaceTransitionSynthesisNegatedPinLaw", "ok", "([J[J[JII)Z"⟩ : MethodName) method_3_code 5 (some .boolean) :: ws) ({ frames := 0, cells := 0, slots := 0, locals := 0 } : Room)) (fun aa_ U_ => aa_ = #[(.ref a), (.ref b), (.ref d), (.int (1 : Int32)), (.int (3 : Int32))] ∧ Z.Warmed39 U_.vm ∧ U_.heap = h0) (fun _ _ _ _ _ => True) (fun _ U_ o_ V_ => ∃ v_ L_, o_ = .returned v_ ∧ QK31 Z a b d kc_a v0 v1 v2 kc_b kc_d v3 v4 h0 n0 v_ V_.heap L_ ∧ FrameEnd U_ o_ V_ L_ ({ frames := 0, cells := 0, slots := 0, locals := 0 } : Room).cells ({ frames := 0, cells := 0, slots := 0, locals := 0 } : Room).slots) := by
  refine MetFree.of_bodySF (plainFor_of_name pnK31) hisR ?_
  intro p e s m args below meth c s₁ Bd hml0 hP hK
  obtain ⟨rfl, hZ, hh⟩ := hP
  have hx := Bd.exec
  have hby := Bd.bytes
  have hml : c.maxLocals = 5 := hml0
  have hown : s.vm.findClass "com/example/runs_to_nets/runstonets/core/PlaceTransitionSynthesisNegatedPinLaw" = some m.cls := findClass_of_methodNamed Bd.named
  have hnm := (name_of_methodNamed Bd.named Bd.method).1
  have hlk : meth.locks = false := BodyLoose.notSynchronized Bd
  have hret : meth.sig.returnType = (some .boolean) := Bd.returns
  have X0 : Stand p l e ({ frames := 0, cells := 0, slots := 0, locals := 0 } : Room) s m #[(.ref a), (.ref b), (.ref d), (.int (1 : Int32)), (.int (3 : Int32))] below meth c s₁ [] 0 0 := Stand.of_body Bd
  have e0 : s₁.heap = h0 := by rw [← hh, Bd.state]; rfl
  have N0 := Fr.nil n0
  show Go p e below s ({ frames := 0, cells := 0, slots := 0, locals := 0 } : Room).cells ({ frames := 0, cells := 0, slots := 0, locals := 0 } : Room).slots (QK31 Z a b d kc_a v0 v1 v2 kc_b kc_d v3 v4 h0 n0) (s₁.setTop (entryFrame m #[(.ref a), (.ref b), (.ref d), (.int (1 : Int32)), (.int (3 : Int32))] 5))
  rw [efK31]
  refine Go.by (fun _ kont => XS.iloadN X0.here hx rfl (hb hby dK31_0) rfl (XS.iload X0.here hx rfl (hb hby dK31_1) rfl kont)) ?_
  show Go _ _ _ _ _ _ _ (s₁.setTop (mkF m 3 #[.val (.ref a), .val (.ref b), .val (.ref d), .val (.int (1 : Int32)), .val (.int (3 : Int32))] [(.int (3 : Int32)), (.int (1 : Int32))]))
  refine Go.by (fun _ kont => XS.icmpYes X0.here hx rfl (pc0 := 3) (pc' := 8) rfl (hb hby dK31_3) rfl (by decide) (by decide) (by decide) kont) ?_
  show Go _ _ _ _ _ _ _ (s₁.setTop (mkF m 8 #[.val (.ref a), .val (.ref b), .val (.ref d), .val (.int (1 : Int32)), .val (.int (3 : Int32))] []))
  refine Go.by (fun _ kont => XS.aloadN X0.here hx rfl (hb hby dK31_8) rfl rfl (XS.iloadN X0.here hx rfl (hb hby dK31_9) rfl kont)) ?_
  show Go _ _ _ _ _ _ _ (s₁.setTop (mkF m 10 #[.val (.ref a), .val (.ref b), .val (.ref d), .val (.int (1 : Int32)), .val (.int (3 : Int32))] [(.int (1 : Int32)), (.ref a)]))
  obtain ⟨cl_q101, Ar_q101, q1_q101, S_q101, N_q101, H_q101, G_q101⟩ := id V0_a
  have hin_q101 : ¬ ((1 : Int32) < 0 ∨ cl_q101.slots.size ≤ ((1 : Int32)).toNatClampNeg) := inb_of S_q101 ⟨by decide, by decide⟩
  have hat_q101 : cl_q101.slots[((1 : Int32)).toNatClampNeg]? = some (.long v1) := Has.at H_q101 hin_q101 rfl
  refine Go.by (X0.laload hx (j := (1 : Int32)) (v := (.long v1)) (by first | exact Ar_q101.1 | (rw [e0]; exact Ar_q101.1)) (State.isArrayOf_alike hZ.alike Ar_q101.2.1) Ar_q101.2.2 hin_q101 hat_q101 (g := (mkF m 10 #[.val (.ref a), .val (.ref b), .val (.ref d), .val (.int (1 : Int32)), .val (.int (3 : Int32))] [(.int (1 : Int32)), (.ref a)])) rfl rfl (hb hby dK31_10)) ?_
  show Go _ _ _ _ _ _ _ (s₁.setTop (mkF m 11 #[.val (.ref a), .val (.ref b), .val (.ref d), .val (.int (1 : Int32)), .val (.int (3 : Int32))] [(.long v1)]))
  refine Go.by (fun _ kont => XS.aloadN X0.here hx rfl (hb hby dK31_11) rfl rfl (XS.iloadN X0.here hx rfl (hb hby dK31_12) rfl kont)) ?_
  show Go _ _ _ _ _ _ _ (s₁.setTop (mkF m 13 #[.val (.ref a), .val (.ref b), .val (.ref d), .val (.int (1 : Int32)), .val (.int (3 : Int32))] [(.int (1 : Int32)), (.ref d), (.long v1)]))
  obtain ⟨cl_q102, Ar_q102, q1_q102, S_q102, N_q102, H_q102, G_q102⟩ := id V0_d
  have hin_q102 : ¬ ((1 : Int32) < 0 ∨ cl_q102.slots.size ≤ ((1 : Int32)).toNatClampNeg) := inb_of S_q102 ⟨by decide, by decide⟩
  have hat_q102 : cl_q102.slots[((1 : Int32)).toNatClampNeg]? = some (.long v1) := Has.at H_q102 hin_q102 rfl
  refine Go.by (X0.laload hx (j := (1 : Int32)) (v := (.long v1)) (by first | exact Ar_q102.1 | (rw [e0]; exact Ar_q102.1)) (State.isArrayOf_alike hZ.alike Ar_q102.2.1) Ar_q102.2.2 hin_q102 hat_q102 (g := (mkF m 13 #[.val (.ref a), .val (.ref b), .val (.ref d), .val (.int (1 : Int32)), .val (.int (3 : Int32))] [(.int (1 : Int32)), (.ref d), (.long v1)])) rfl rfl (hb hby dK31_13)) ?_
  show Go _ _ _ _ _ _ _ (s₁.setTop (mkF m 14 #[.val (.ref a), .val (.ref b), .val (.ref d), .val (.int (1 : Int32)), .val (.int (3 : Int32))] [(.long v1), (.long v1)]))
  refine Go.by (fun _ kont => XS.lcmp X0.here hx rfl (hb hby dK31_14) rfl kont) ?_
  show Go _ _ _ _ _ _ _ (s₁.setTop (mkF m 15 #[.val (.ref a), .val (.ref b), .val (.ref d), .val (.int (1 : Int32)), .val (.int (3 : Int32))] [(.int (lcmpW v1 v1))]))
  refine Go.by (fun _ kont => XS.ifNo X0.here hx rfl (hb hby dK31_15) rfl ((if0 _ _).trans (teq ((lw_eq _ _).mpr rfl)).2) kont) ?_
  show Go _ _ _ _ _ _ _ (s₁.setTop (mkF m 18 #[.val (.ref a), .val (.ref b), .val (.ref d), .val (.int (1 : Int32)), .val (.int (3 : Int32))] []))
  refine Go.by (fun _ kont => XS.aloadN X0.here hx rfl (hb hby dK31_18) rfl rfl (XS.iloadN X0.here hx rfl (hb hby dK31_19) rfl kont)) ?_
  show Go _ _ _ _ _ _ _ (s₁.setTop (mkF m 20 #[.val (.ref a), .val (.ref b), .val (.ref d), .val (.int (1 : Int32)), .val (.int (3 : Int32))] [(.int (1 : Int32)), (.ref a)]))
  obtain ⟨cl_q103, Ar_q103, q1_q103, S_q103, N_q103, H_q103, G_q103⟩ := id V0_a
  have hin_q103 : ¬ ((1 : Int32) < 0 ∨ cl_q103.slots.size ≤ ((1 : Int32)).toNatClampNeg) := inb_of S_q103 ⟨by decide, by decide⟩
  have hat_q103 : cl_q103.slots[((1 : Int32)).toNatClampNeg]? = some (.long v1) := Has.at H_q103 hin_q103 rfl
  refine Go.by (X0.laload hx (j := (1 : Int32)) (v := (.long v1)) (by first | exact Ar_q103.1 | (rw [e0]; exact Ar_q103.1)) (State.isArrayOf_alike hZ.alike Ar_q103.2.1) Ar_q103.2.2 hin_q103 hat_q103 (g := (mkF m 20 #[.val (.ref a), .val (.ref b), .val (.ref d), .val (.int (1 : Int32)), .val (.int (3 : Int32))] [(.int (1 : Int32)), (.ref a)])) rfl rfl (hb hby dK31_20)) ?_
  show Go _ _ _ _ _ _ _ (s₁.setTop (mkF m 21 #[.val (.ref a), .val (.ref b), .val (.ref d), .val (.int (1 : Int32)), .val (.int (3 : Int32))] [(.long v1)]))
  refine Go.by (fun _ kont => XS.aloadN X0.here hx rfl (hb hby dK31_21) rfl rfl (XS.iloadN X0.here hx rfl (hb hby dK31_22) rfl kont)) ?_
  show Go _ _ _ _ _ _ _ (s₁.setTop (mkF m 23 #[.val (.ref a), .val (.ref b), .val (.ref d), .val (.int (1 : Int32)), .val (.int (3 : Int32))] [(.int (1 : Int32)), (.ref b), (.long v1)]))
  obtain ⟨cl_q104, Ar_q104, q1_q104, S_q104, N_q104, H_q104, G_q104⟩ := id V0_b
  have hin_q104 : ¬ ((1 : Int32) < 0 ∨ cl_q104.slots.size ≤ ((1 : Int32)).toNatClampNeg) := inb_of S_q104 ⟨by decide, by decide⟩
  have hat_q104 : cl_q104.slots[((1 : Int32)).toNatClampNeg]? = some (.long (-v1)) := Has.at H_q104 hin_q104 rfl
  refine Go.by (X0.laload hx (j := (1 : Int32)) (v := (.long (-v1))) (by first | exact Ar_q104.1 | (rw [e0]; exact Ar_q104.1)) (State.isArrayOf_alike hZ.alike Ar_q104.2.1) Ar_q104.2.2 hin_q104 hat_q104 (g := (mkF m 23 #[.val (.ref a), .val (.ref b), .val (.ref d), .val (.int (1 : Int32)), .val (.int (3 : Int32))] [(.int (1 : Int32)), (.ref b), (.long v1)])) rfl rfl (hb hby dK31_23)) ?_
  show Go _ _ _ _ _ _ _ (s₁.setTop (mkF m 24 #[.val (.ref a), .val (.ref b), .val (.ref d), .val (.int (1 : Int32)), .val (.int (3 : Int32))] [(.long (-v1)), (.long v1)]))
  refine Go.by (fun _ kont => XS.ladd X0.here hx rfl (hb hby dK31_24) rfl (XS.lconst X0.here hx rfl (hb hby dK31_25) (XS.lcmp X0.here hx rfl (hb hby dK31_26) rfl kont))) ?_
  show Go _ _ _ _ _ _ _ (s₁.setTop (mkF m 27 #[.val (.ref a), .val (.ref b), .val (.ref d), .val (.int (1 : Int32)), .val (.int (3 : Int32))] [(.int (lcmpW (v1 + (-v1)) (0 : Int64)))]))
  have hd105 : (v1 + (-v1)) = (0 : Int64) := Int64.add_right_neg _
  refine Go.by (fun _ kont => XS.ifNo X0.here hx rfl (hb hby dK31_27) rfl ((if0 _ _).trans (teq ((lw_eq _ _).mpr hd105)).2) kont) ?_
  show Go _ _ _ _ _ _ _ (s₁.setTop (mkF m 30 #[.val (.ref a), .val (.ref b), .val (.ref d), .val (.int (1 : Int32)), .val (.int (3 : Int32))] []))
  refine Go.by (fun _ kont => XS.iconst X0.here hx rfl (hb hby dK31_30) (XS.goto X0.here hx rfl (pc0 := 31) (pc' := 35) rfl (hb hby dK31_31) (by decide) (by decide) kont)) ?_
  show Go _ _ _ _ _ _ _ (s₁.setTop (mkF m 35 #[.val (.ref a), .val (.ref b), .val (.ref d), .val (.int (1 : Int32)), .val (.int (3 : Int32))] [(.int (1 : Int32))]))
  refine Go.retN X0 hx (t := .boolean) hret (by simp) hlk (hb hby dK31_35) ?_ (by decide) (by decide)
  show QK31 Z a b d kc_a v0 v1 v2 kc_b kc_d v3 v4 h0 n0 (some (.int (1 : Int32))) s₁.heap _
  rw [e0]
  exact ⟨rfl, N0, rfl⟩

theorem dK32_0 : decode method_3_code 0 = .ok (.iload_n 3, 1) := by decide +kernel
theorem dK32_1 : decode method_3_code 1 = .ok (.iload 4, 2) := by decide +kernel
theorem dK32_3 : decode method_3_code 3 = .ok (.if_icmp .lt 5, 3) := by decide +kernel
theorem dK32_8 : decode method_3_code 8 = .ok (.aload_n 0, 1) := by decide +kernel
theorem dK32_9 : decode method_3_code 9 = .ok (.iload_n 3, 1) := by decide +kernel
theorem dK32_10 : decode method_3_code 10 = .ok (.laload, 1) := by decide +kernel
theorem dK32_11 : decode method_3_code 11 = .ok (.aload_n 2, 1) := by decide +kernel
theorem dK32_12 : decode method_3_code 12 = .ok (.iload_n 3, 1) := by decide +kernel
theorem dK32_13 : decode method_3_code 13 = .ok (.laload, 1) := by decide +kernel
theorem dK32_14 : decode method_3_code 14 = .ok (.lcmp, 1) := by decide +kernel
theorem dK32_15 : decode method_3_code 15 = .ok (.ifCond .ne 19, 3) := by decide +kernel
theorem dK32_18 : decode method_3_code 18 = .ok (.aload_n 0, 1) := by decide +kernel
theorem dK32_19 : decode method_3_code 19 = .ok (.iload_n 3, 1) := by decide +kernel
theorem dK32_20 : decode method_3_code 20 = .ok (.laload, 1) := by decide +kernel
theorem dK32_21 : decode method_3_code 21 = .ok (.aload_n 1, 1) := by decide +kernel
theorem dK32_22 : decode method_3_code 22 = .ok (.iload_n 3, 1) := by decide +kernel
theorem dK32_23 : decode method_3_code 23 = .ok (.laload, 1) := by decide +kernel
theorem dK32_24 : decode method_3_code 24 = .ok (.ladd, 1) := by decide +kernel
theorem dK32_25 : decode method_3_code 25 = .ok (.lconst 0, 1) := by decide +kernel
theorem dK32_26 : decode method_3_code 26 = .ok (.lcmp, 1) := by decide +kernel
theorem dK32_27 : decode method_3_code 27 = .ok (.ifCond .ne 7, 3) := by decide +kernel
theorem dK32_30 : decode method_3_code 30 = .ok (.iconst 1, 1) := by decide +kernel
theorem dK32_31 : decode method_3_code 31 = .ok (.goto 4, 3) := by decide +kernel
theorem dK32_35 : decode method_3_code 35 = .ok (.ireturn, 1) := by decide +kernel
theorem pnK32 : plainName "com/example/runs_to_nets/runstonets/core/PlaceTransitionSynthesisNegatedPinLaw" = true := by first | (simp [plainName, overriddenIn]; done) | decide +kernel
theorem efK32 (m : MethodId) (a : Addr) (b : Addr) (d : Addr) : entryFrame m #[(.ref a), (.ref b), (.ref d), (.int (2 : Int32)), (.int (3 : Int32))] 5 = mkF m 0 #[.val (.ref a), .val (.ref b), .val (.ref d), .val (.int (2 : Int32)), .val (.int (3 : Int32))] [] := by first | (simp [entryFrame, mkF, argsToLocals, Value.category]; done) | rfl
def QK32 (Z : State) (a : Addr) (b : Addr) (d : Addr) (kc_a : ClassId) (v0 : Int64) (v1 : Int64) (v2 : Int64) (kc_b : ClassId) (kc_d : ClassId) (v3 : Int64) (v4 : Int64) (h0 : Heap) (n0 : Nat) (v : Option Value) (h : Heap) (L : List Loc) : Prop := (v = some (.int (1 : Int32)) ∧ Fr n0 L ∧ h = h0)
set_option maxRecDepth 65536 in
set_option maxHeartbeats 40000000 in
theorem rmK32 (l : Launch) (Z : State) (a0 : Array Value) (hw : ∀ d ∈ tables_1, d.before a0 Z = true) (ws : List Jvm.Cond) (a : Addr) (b : Addr) (d : Addr) (kc_a : ClassId) (v0 : Int64) (v1 : Int64) (v2 : Int64) (kc_b : ClassId) (kc_d : ClassId) (v3 : Int64) (v4 : Int64) (h0 : Heap) (n0 : Nat) (Z0 : n0 ≤ h0.size) (V0_a : Arv Z h0 a kc_a .long (3 : Int32) [(.long v0), (.long v1), (.long v2)] (.long (0 : Int64))) (V0_b : Arv Z h0 b kc_b .long (3 : Int32) [(.long (-v0)), (.long (-v1)), (.long (-v2))] (.long (0 : Int64))) (V0_d : Arv Z h0 d kc_d .long (5 : Int32) [(.long v0), (.long v1), (.long v2), (.long v3), (.long v4)] (.long (0 : Int64))) :
    MetFree l (⟨"com/example/runs_to_nets/runstonets/core/PlaceTransitionSynthesisNegatedPinLaw", "ok", "([J[J[JII)Z"⟩ : MethodName) (head1 (Jvm.Cond.code (⟨"com/example/runs_to_nets/runstonets/core/PlaceTransitionSynthesisNegatedPinLaw", "ok", "([J[J[JII)Z"⟩ : MethodName) method_3_code 5 (some .boolean) :: ws) ({ frames := 0, cells := 0, slots := 0, locals := 0 } : Room)) (fun aa_ U_ => aa_ = #[(.ref a), (.ref b), (.ref d), (.int (2 : Int32)), (.int (3 : Int32))] ∧ Z.Warmed39 U_.vm ∧ U_.heap = h0) (fun _ _ _ _ _ => True) (fun _ U_ o_ V_ => ∃ v_ L_, o_ = .returned v_ ∧ QK32 Z a b d kc_a v0 v1 v2 kc_b kc_d v3 v4 h0 n0 v_ V_.heap L_ ∧ FrameEnd U_ o_ V_ L_ ({ frames := 0, cells := 0, slots := 0, locals := 0 } : Room).cells ({ frames := 0, cells := 0, slots := 0, locals := 0 } : Room).slots) := by
  refine MetFree.of_bodySF (plainFor_of_name pnK32) hisR ?_
  intro p e s m args below meth c s₁ Bd hml0 hP hK
  obtain ⟨rfl, hZ, hh⟩ := hP
  have hx := Bd.exec
  have hby := Bd.bytes
  have hml : c.maxLocals = 5 := hml0
  have hown : s.vm.findClass "com/example/runs_to_nets/runstonets/core/PlaceTransitionSynthesisNegatedPinLaw" = some m.cls := findClass_of_methodNamed Bd.named
  have hnm := (name_of_methodNamed Bd.named Bd.method).1
  have hlk : meth.locks = false := BodyLoose.notSynchronized Bd
  have hret : meth.sig.returnType = (some .boolean) := Bd.returns
  have X0 : Stand p l e ({ frames := 0, cells := 0, slots := 0, locals := 0 } : Room) s m #[(.ref a), (.ref b), (.ref d), (.int (2 : Int32)), (.int (3 : Int32))] below meth c s₁ [] 0 0 := Stand.of_body Bd
  have e0 : s₁.heap = h0 := by rw [← hh, Bd.state]; rfl
  have N0 := Fr.nil n0
  show Go p e below s ({ frames := 0, cells := 0, slots := 0, locals := 0 } : Room).cells ({ frames := 0, cells := 0, slots := 0, locals := 0 } : Room).slots (QK32 Z a b d kc_a v0 v1 v2 kc_b kc_d v3 v4 h0 n0) (s₁.setTop (entryFrame m #[(.ref a), (.ref b), (.ref d), (.int (2 : Int32)), (.int (3 : Int32))] 5))
  rw [efK32]
  refine Go.by (fun _ kont => XS.iloadN X0.here hx rfl (hb hby dK32_0) rfl (XS.iload X0.here hx rfl (hb hby dK32_1) rfl kont)) ?_
  show Go _ _ _ _ _ _ _ (s₁.setTop (mkF m 3 #[.val (.ref a), .val (.ref b), .val (.ref d), .val (.int (2 : Int32)), .val (.int (3 : Int32))] [(.int (3 : Int32)), (.int (2 : Int32))]))
  refine Go.by (fun _ kont => XS.icmpYes X0.here hx rfl (pc0 := 3) (pc' := 8) rfl (hb hby dK32_3) rfl (by decide) (by decide) (by decide) kont) ?_
  show Go _ _ _ _ _ _ _ (s₁.setTop (mkF m 8 #[.val (.ref a), .val (.ref b), .val (.ref d), .val (.int (2 : Int32)), .val (.int (3 : Int32))] []))
  refine Go.by (fun _ kont => XS.aloadN X0.here hx rfl (hb hby dK32_8) rfl rfl (XS.iloadN X0.here hx rfl (hb hby dK32_9) rfl kont)) ?_
  show Go _ _ _ _ _ _ _ (s₁.setTop (mkF m 10 #[.val (.ref a), .val (.ref b), .val (.ref d), .val (.int (2 : Int32)), .val (.int (3 : Int32))] [(.int (2 : Int32)), (.ref a)]))
  obtain ⟨cl_q101, Ar_q101, q1_q101, S_q101, N_q101, H_q101, G_q101⟩ := id V0_a
  have hin_q101 : ¬ ((2 : Int32) < 0 ∨ cl_q101.slots.size ≤ ((2 : Int32)).toNatClampNeg) := inb_of S_q101 ⟨by decide, by decide⟩
  have hat_q101 : cl_q101.slots[((2 : Int32)).toNatClampNeg]? = some (.long v2) := Has.at H_q101 hin_q101 rfl
  refine Go.by (X0.laload hx (j := (2 : Int32)) (v := (.long v2)) (by first | exact Ar_q101.1 | (rw [e0]; exact Ar_q101.1)) (State.isArrayOf_alike hZ.alike Ar_q101.2.1) Ar_q101.2.2 hin_q101 hat_q101 (g := (mkF m 10 #[.val (.ref a), .val (.ref b), .val (.ref d), .val (.int (2 : Int32)), .val (.int (3 : Int32))] [(.int (2 : Int32)), (.ref a)])) rfl rfl (hb hby dK32_10)) ?_
  show Go _ _ _ _ _ _ _ (s₁.setTop (mkF m 11 #[.val (.ref a), .val (.ref b), .val (.ref d), .val (.int (2 : Int32)), .val (.int (3 : Int32))] [(.long v2)]))
  refine Go.by (fun _ kont => XS.aloadN X0.here hx rfl (hb hby dK32_11) rfl rfl (XS.iloadN X0.here hx rfl (hb hby dK32_12) rfl kont)) ?_
  show Go _ _ _ _ _ _ _ (s₁.setTop (mkF m 13 #[.val (.ref a), .val (.ref b), .val (.ref d), .val (.int (2 : Int32)), .val (.int (3 : Int32))] [(.int (2 : Int32)), (.ref d), (.long v2)]))
  obtain ⟨cl_q102, Ar_q102, q1_q102, S_q102, N_q102, H_q102, G_q102⟩ := id V0_d
  have hin_q102 : ¬ ((2 : Int32) < 0 ∨ cl_q102.slots.size ≤ ((2 : Int32)).toNatClampNeg) := inb_of S_q102 ⟨by decide, by decide⟩
  have hat_q102 : cl_q102.slots[((2 : Int32)).toNatClampNeg]? = some (.long v2) := Has.at H_q102 hin_q102 rfl
  refine Go.by (X0.laload hx (j := (2 : Int32)) (v := (.long v2)) (by first | exact Ar_q102.1 | (rw [e0]; exact Ar_q102.1)) (State.isArrayOf_alike hZ.alike Ar_q102.2.1) Ar_q102.2.2 hin_q102 hat_q102 (g := (mkF m 13 #[.val (.ref a), .val (.ref b), .val (.ref d), .val (.int (2 : Int32)), .val (.int (3 : Int32))] [(.int (2 : Int32)), (.ref d), (.long v2)])) rfl rfl (hb hby dK32_13)) ?_
  show Go _ _ _ _ _ _ _ (s₁.setTop (mkF m 14 #[.val (.ref a), .val (.ref b), .val (.ref d), .val (.int (2 : Int32)), .val (.int (3 : Int32))] [(.long v2), (.long v2)]))
  refine Go.by (fun _ kont => XS.lcmp X0.here hx rfl (hb hby dK32_14) rfl kont) ?_
  show Go _ _ _ _ _ _ _ (s₁.setTop (mkF m 15 #[.val (.ref a), .val (.ref b), .val (.ref d), .val (.int (2 : Int32)), .val (.int (3 : Int32))] [(.int (lcmpW v2 v2))]))
  refine Go.by (fun _ kont => XS.ifNo X0.here hx rfl (hb hby dK32_15) rfl ((if0 _ _).trans (teq ((lw_eq _ _).mpr rfl)).2) kont) ?_
  show Go _ _ _ _ _ _ _ (s₁.setTop (mkF m 18 #[.val (.ref a), .val (.ref b), .val (.ref d), .val (.int (2 : Int32)), .val (.int (3 : Int32))] []))
  refine Go.by (fun _ kont => XS.aloadN X0.here hx rfl (hb hby dK32_18) rfl rfl (XS.iloadN X0.here hx rfl (hb hby dK32_19) rfl kont)) ?_
  show Go _ _ _ _ _ _ _ (s₁.setTop (mkF m 20 #[.val (.ref a), .val (.ref b), .val (.ref d), .val (.int (2 : Int32)), .val (.int (3 : Int32))] [(.int (2 : Int32)), (.ref a)]))
  obtain ⟨cl_q103, Ar_q103, q1_q103, S_q103, N_q103, H_q103, G_q103⟩ := id V0_a
  have hin_q103 : ¬ ((2 : Int32) < 0 ∨ cl_q103.slots.size ≤ ((2 : Int32)).toNatClampNeg) := inb_of S_q103 ⟨by decide, by decide⟩
  have hat_q103 : cl_q103.slots[((2 : Int32)).toNatClampNeg]? = some (.long v2) := Has.at H_q103 hin_q103 rfl
  refine Go.by (X0.laload hx (j := (2 : Int32)) (v := (.long v2)) (by first | exact Ar_q103.1 | (rw [e0]; exact Ar_q103.1)) (State.isArrayOf_alike hZ.alike Ar_q103.2.1) Ar_q103.2.2 hin_q103 hat_q103 (g := (mkF m 20 #[.val (.ref a), .val (.ref b), .val (.ref d), .val (.int (2 : Int32)), .val (.int (3 : Int32))] [(.int (2 : Int32)), (.ref a)])) rfl rfl (hb hby dK32_20)) ?_
  show Go _ _ _ _ _ _ _ (s₁.setTop (mkF m 21 #[.val (.ref a), .val (.ref b), .val (.ref d), .val (.int (2 : Int32)), .val (.int (3 : Int32))] [(.long v2)]))
  refine Go.by (fun _ kont => XS.aloadN X0.here hx rfl (hb hby dK32_21) rfl rfl (XS.iloadN X0.here hx rfl (hb hby dK32_22) rfl kont)) ?_
  show Go _ _ _ _ _ _ _ (s₁.setTop (mkF m 23 #[.val (.ref a), .val (.ref b), .val (.ref d), .val (.int (2 : Int32)), .val (.int (3 : Int32))] [(.int (2 : Int32)), (.ref b), (.long v2)]))
  obtain ⟨cl_q104, Ar_q104, q1_q104, S_q104, N_q104, H_q104, G_q104⟩ := id V0_b
  have hin_q104 : ¬ ((2 : Int32) < 0 ∨ cl_q104.slots.size ≤ ((2 : Int32)).toNatClampNeg) := inb_of S_q104 ⟨by decide, by decide⟩
  have hat_q104 : cl_q104.slots[((2 : Int32)).toNatClampNeg]? = some (.long (-v2)) := Has.at H_q104 hin_q104 rfl
  refine Go.by (X0.laload hx (j := (2 : Int32)) (v := (.long (-v2))) (by first | exact Ar_q104.1 | (rw [e0]; exact Ar_q104.1)) (State.isArrayOf_alike hZ.alike Ar_q104.2.1) Ar_q104.2.2 hin_q104 hat_q104 (g := (mkF m 23 #[.val (.ref a), .val (.ref b), .val (.ref d), .val (.int (2 : Int32)), .val (.int (3 : Int32))] [(.int (2 : Int32)), (.ref b), (.long v2)])) rfl rfl (hb hby dK32_23)) ?_
  show Go _ _ _ _ _ _ _ (s₁.setTop (mkF m 24 #[.val (.ref a), .val (.ref b), .val (.ref d), .val (.int (2 : Int32)), .val (.int (3 : Int32))] [(.long (-v2)), (.long v2)]))
  refine Go.by (fun _ kont => XS.ladd X0.here hx rfl (hb hby dK32_24) rfl (XS.lconst X0.here hx rfl (hb hby dK32_25) (XS.lcmp X0.here hx rfl (hb hby dK32_26) rfl kont))) ?_
  show Go _ _ _ _ _ _ _ (s₁.setTop (mkF m 27 #[.val (.ref a), .val (.ref b), .val (.ref d), .val (.int (2 : Int32)), .val (.int (3 : Int32))] [(.int (lcmpW (v2 + (-v2)) (0 : Int64)))]))
  have hd105 : (v2 + (-v2)) = (0 : Int64) := Int64.add_right_neg _
  refine Go.by (fun _ kont => XS.ifNo X0.here hx rfl (hb hby dK32_27) rfl ((if0 _ _).trans (teq ((lw_eq _ _).mpr hd105)).2) kont) ?_
  show Go _ _ _ _ _ _ _ (s₁.setTop (mkF m 30 #[.val (.ref a), .val (.ref b), .val (.ref d), .val (.int (2 : Int32)), .val (.int (3 : Int32))] []))
  refine Go.by (fun _ kont => XS.iconst X0.here hx rfl (hb hby dK32_30) (XS.goto X0.here hx rfl (pc0 := 31) (pc' := 35) rfl (hb hby dK32_31) (by decide) (by decide) kont)) ?_
  show Go _ _ _ _ _ _ _ (s₁.setTop (mkF m 35 #[.val (.ref a), .val (.ref b), .val (.ref d), .val (.int (2 : Int32)), .val (.int (3 : Int32))] [(.int (1 : Int32))]))
  refine Go.retN X0 hx (t := .boolean) hret (by simp) hlk (hb hby dK32_35) ?_ (by decide) (by decide)
  show QK32 Z a b d kc_a v0 v1 v2 kc_b kc_d v3 v4 h0 n0 (some (.int (1 : Int32))) s₁.heap _
  rw [e0]
  exact ⟨rfl, N0, rfl⟩

theorem dK33_0 : decode method_3_code 0 = .ok (.iload_n 3, 1) := by decide +kernel
theorem dK33_1 : decode method_3_code 1 = .ok (.iload 4, 2) := by decide +kernel
theorem dK33_3 : decode method_3_code 3 = .ok (.if_icmp .lt 5, 3) := by decide +kernel
theorem dK33_6 : decode method_3_code 6 = .ok (.iconst 1, 1) := by decide +kernel
theorem dK33_7 : decode method_3_code 7 = .ok (.ireturn, 1) := by decide +kernel
theorem pnK33 : plainName "com/example/runs_to_nets/runstonets/core/PlaceTransitionSynthesisNegatedPinLaw" = true := by first | (simp [plainName, overriddenIn]; done) | decide +kernel
theorem efK33 (m : MethodId) (a : Addr) (b : Addr) (d : Addr) : entryFrame m #[(.ref a), (.ref b), (.ref d), (.int (3 : Int32)), (.int (3 : Int32))] 5 = mkF m 0 #[.val (.ref a), .val (.ref b), .val (.ref d), .val (.int (3 : Int32)), .val (.int (3 : Int32))] [] := by first | (simp [entryFrame, mkF, argsToLocals, Value.category]; done) | rfl
def QK33 (Z : State) (a : Addr) (b : Addr) (d : Addr) (h0 : Heap) (n0 : Nat) (v : Option Value) (h : Heap) (L : List Loc) : Prop := (v = some (.int (1 : Int32)) ∧ Fr n0 L ∧ h = h0)
set_option maxRecDepth 65536 in
set_option maxHeartbeats 40000000 in
theorem rmK33 (l : Launch) (Z : State) (a0 : Array Value) (hw : ∀ d ∈ tables_1, d.before a0 Z = true) (ws : List Jvm.Cond) (a : Addr) (b : Addr) (d : Addr) (h0 : Heap) (n0 : Nat) (Z0 : n0 ≤ h0.size) :
    MetFree l (⟨"com/example/runs_to_nets/runstonets/core/PlaceTransitionSynthesisNegatedPinLaw", "ok", "([J[J[JII)Z"⟩ : MethodName) (head1 (Jvm.Cond.code (⟨"com/example/runs_to_nets/runstonets/core/PlaceTransitionSynthesisNegatedPinLaw", "ok", "([J[J[JII)Z"⟩ : MethodName) method_3_code 5 (some .boolean) :: ws) ({ frames := 0, cells := 0, slots := 0, locals := 0 } : Room)) (fun aa_ U_ => aa_ = #[(.ref a), (.ref b), (.ref d), (.int (3 : Int32)), (.int (3 : Int32))] ∧ Z.Warmed39 U_.vm ∧ U_.heap = h0) (fun _ _ _ _ _ => True) (fun _ U_ o_ V_ => ∃ v_ L_, o_ = .returned v_ ∧ QK33 Z a b d h0 n0 v_ V_.heap L_ ∧ FrameEnd U_ o_ V_ L_ ({ frames := 0, cells := 0, slots := 0, locals := 0 } : Room).cells ({ frames := 0, cells := 0, slots := 0, locals := 0 } : Room).slots) := by
  refine MetFree.of_bodySF (plainFor_of_name pnK33) hisR ?_
  intro p e s m args below meth c s₁ Bd hml0 hP hK
  obtain ⟨rfl, hZ, hh⟩ := hP
  have hx := Bd.exec
  have hby := Bd.bytes
  have hml : c.maxLocals = 5 := hml0
  have hown : s.vm.findClass "com/example/runs_to_nets/runstonets/core/PlaceTransitionSynthesisNegatedPinLaw" = some m.cls := findClass_of_methodNamed Bd.named
  have hnm := (name_of_methodNamed Bd.named Bd.method).1
  have hlk : meth.locks = false := BodyLoose.notSynchronized Bd
  have hret : meth.sig.returnType = (some .boolean) := Bd.returns
  have X0 : Stand p l e ({ frames := 0, cells := 0, slots := 0, locals := 0 } : Room) s m #[(.ref a), (.ref b), (.ref d), (.int (3 : Int32)), (.int (3 : Int32))] below meth c s₁ [] 0 0 := Stand.of_body Bd
  have e0 : s₁.heap = h0 := by rw [← hh, Bd.state]; rfl
  have N0 := Fr.nil n0
  show Go p e below s ({ frames := 0, cells := 0, slots := 0, locals := 0 } : Room).cells ({ frames := 0, cells := 0, slots := 0, locals := 0 } : Room).slots (QK33 Z a b d h0 n0) (s₁.setTop (entryFrame m #[(.ref a), (.ref b), (.ref d), (.int (3 : Int32)), (.int (3 : Int32))] 5))
  rw [efK33]
  refine Go.by (fun _ kont => XS.iloadN X0.here hx rfl (hb hby dK33_0) rfl (XS.iload X0.here hx rfl (hb hby dK33_1) rfl kont)) ?_
  show Go _ _ _ _ _ _ _ (s₁.setTop (mkF m 3 #[.val (.ref a), .val (.ref b), .val (.ref d), .val (.int (3 : Int32)), .val (.int (3 : Int32))] [(.int (3 : Int32)), (.int (3 : Int32))]))
  refine Go.by (fun _ kont => XS.icmpNo X0.here hx rfl (hb hby dK33_3) rfl (by decide) kont) ?_
  show Go _ _ _ _ _ _ _ (s₁.setTop (mkF m 6 #[.val (.ref a), .val (.ref b), .val (.ref d), .val (.int (3 : Int32)), .val (.int (3 : Int32))] []))
  refine Go.by (fun _ kont => XS.iconst X0.here hx rfl (hb hby dK33_6) kont) ?_
  show Go _ _ _ _ _ _ _ (s₁.setTop (mkF m 7 #[.val (.ref a), .val (.ref b), .val (.ref d), .val (.int (3 : Int32)), .val (.int (3 : Int32))] [(.int (1 : Int32))]))
  refine Go.retN X0 hx (t := .boolean) hret (by simp) hlk (hb hby dK33_7) ?_ (by decide) (by decide)
  show QK33 Z a b d h0 n0 (some (.int (1 : Int32))) s₁.heap _
  rw [e0]
  exact ⟨rfl, N0, rfl⟩

theorem dK34_0 : decode method_3_code 0 = .ok (.iload_n 3, 1) := by decide +kernel
theorem dK34_1 : decode method_3_code 1 = .ok (.iload 4, 2) := by decide +kernel
theorem dK34_3 : decode method_3_code 3 = .ok (.if_icmp .lt 5, 3) := by decide +kernel
theorem dK34_6 : decode method_3_code 6 = .ok (.iconst 1, 1) := by decide +kernel
theorem dK34_7 : decode method_3_code 7 = .ok (.ireturn, 1) := by decide +kernel
theorem pnK34 : plainName "com/example/runs_to_nets/runstonets/core/PlaceTransitionSynthesisNegatedPinLaw" = true := by first | (simp [plainName, overriddenIn]; done) | decide +kernel
theorem efK34 (m : MethodId) (a : Addr) (b : Addr) (d : Addr) : entryFrame m #[(.ref a), (.ref b), (.ref d), (.int (4 : Int32)), (.int (3 : Int32))] 5 = mkF m 0 #[.val (.ref a), .val (.ref b), .val (.ref d), .val (.int (4 : Int32)), .val (.int (3 : Int32))] [] := by first | (simp [entryFrame, mkF, argsToLocals, Value.category]; done) | rfl
def QK34 (Z : State) (a : Addr) (b : Addr) (d : Addr) (h0 : Heap) (n0 : Nat) (v : Option Value) (h : Heap) (L : List Loc) : Prop := (v = some (.int (1 : Int32)) ∧ Fr n0 L ∧ h = h0)
set_option maxRecDepth 65536 in
set_option maxHeartbeats 40000000 in
theorem rmK34 (l : Launch) (Z : State) (a0 : Array Value) (hw : ∀ d ∈ tables_1, d.before a0 Z = true) (ws : List Jvm.Cond) (a : Addr) (b : Addr) (d : Addr) (h0 : Heap) (n0 : Nat) (Z0 : n0 ≤ h0.size) :
    MetFree l (⟨"com/example/runs_to_nets/runstonets/core/PlaceTransitionSynthesisNegatedPinLaw", "ok", "([J[J[JII)Z"⟩ : MethodName) (head1 (Jvm.Cond.code (⟨"com/example/runs_to_nets/runstonets/core/PlaceTransitionSynthesisNegatedPinLaw", "ok", "([J[J[JII)Z"⟩ : MethodName) method_3_code 5 (some .boolean) :: ws) ({ frames := 0, cells := 0, slots := 0, locals := 0 } : Room)) (fun aa_ U_ => aa_ = #[(.ref a), (.ref b), (.ref d), (.int (4 : Int32)), (.int (3 : Int32))] ∧ Z.Warmed39 U_.vm ∧ U_.heap = h0) (fun _ _ _ _ _ => True) (fun _ U_ o_ V_ => ∃ v_ L_, o_ = .returned v_ ∧ QK34 Z a b d h0 n0 v_ V_.heap L_ ∧ FrameEnd U_ o_ V_ L_ ({ frames := 0, cells := 0, slots := 0, locals := 0 } : Room).cells ({ frames := 0, cells := 0, slots := 0, locals := 0 } : Room).slots) := by
  refine MetFree.of_bodySF (plainFor_of_name pnK34) hisR ?_
  intro p e s m args below meth c s₁ Bd hml0 hP hK
  obtain ⟨rfl, hZ, hh⟩ := hP
  have hx := Bd.exec
  have hby := Bd.bytes
  have hml : c.maxLocals = 5 := hml0
  have hown : s.vm.findClass "com/example/runs_to_nets/runstonets/core/PlaceTransitionSynthesisNegatedPinLaw" = some m.cls := findClass_of_methodNamed Bd.named
  have hnm := (name_of_methodNamed Bd.named Bd.method).1
  have hlk : meth.locks = false := BodyLoose.notSynchronized Bd
  have hret : meth.sig.returnType = (some .boolean) := Bd.returns
  have X0 : Stand p l e ({ frames := 0, cells := 0, slots := 0, locals := 0 } : Room) s m #[(.ref a), (.ref b), (.ref d), (.int (4 : Int32)), (.int (3 : Int32))] below meth c s₁ [] 0 0 := Stand.of_body Bd
  have e0 : s₁.heap = h0 := by rw [← hh, Bd.state]; rfl
  have N0 := Fr.nil n0
  show Go p e below s ({ frames := 0, cells := 0, slots := 0, locals := 0 } : Room).cells ({ frames := 0, cells := 0, slots := 0, locals := 0 } : Room).slots (QK34 Z a b d h0 n0) (s₁.setTop (entryFrame m #[(.ref a), (.ref b), (.ref d), (.int (4 : Int32)), (.int (3 : Int32))] 5))
  rw [efK34]
  refine Go.by (fun _ kont => XS.iloadN X0.here hx rfl (hb hby dK34_0) rfl (XS.iload X0.here hx rfl (hb hby dK34_1) rfl kont)) ?_
  show Go _ _ _ _ _ _ _ (s₁.setTop (mkF m 3 #[.val (.ref a), .val (.ref b), .val (.ref d), .val (.int (4 : Int32)), .val (.int (3 : Int32))] [(.int (3 : Int32)), (.int (4 : Int32))]))
  refine Go.by (fun _ kont => XS.icmpNo X0.here hx rfl (hb hby dK34_3) rfl (by decide) kont) ?_
  show Go _ _ _ _ _ _ _ (s₁.setTop (mkF m 6 #[.val (.ref a), .val (.ref b), .val (.ref d), .val (.int (4 : Int32)), .val (.int (3 : Int32))] []))
  refine Go.by (fun _ kont => XS.iconst X0.here hx rfl (hb hby dK34_6) kont) ?_
  show Go _ _ _ _ _ _ _ (s₁.setTop (mkF m 7 #[.val (.ref a), .val (.ref b), .val (.ref d), .val (.int (4 : Int32)), .val (.int (3 : Int32))] [(.int (1 : Int32))]))
  refine Go.retN X0 hx (t := .boolean) hret (by simp) hlk (hb hby dK34_7) ?_ (by decide) (by decide)
  show QK34 Z a b d h0 n0 (some (.int (1 : Int32))) s₁.heap _
  rw [e0]
  exact ⟨rfl, N0, rfl⟩

theorem dN4_0 : decode prog_27_method_10_code 0 = .ok (.aload_n 0, 1) := by decide +kernel
theorem dN4_1 : decode prog_27_method_10_code 1 = .ok (.arraylength, 1) := by decide +kernel
theorem dN4_2 : decode prog_27_method_10_code 2 = .ok (.newarray .long, 2) := by decide +kernel
theorem dN4_4 : decode prog_27_method_10_code 4 = .ok (.astore_n 1, 1) := by decide +kernel
theorem dN4_5 : decode prog_27_method_10_code 5 = .ok (.iconst 0, 1) := by decide +kernel
theorem dN4_6 : decode prog_27_method_10_code 6 = .ok (.istore_n 2, 1) := by decide +kernel
theorem dN4_7 : decode prog_27_method_10_code 7 = .ok (.iload_n 2, 1) := by decide +kernel
theorem dN4_8 : decode prog_27_method_10_code 8 = .ok (.aload_n 0, 1) := by decide +kernel
theorem dN4_9 : decode prog_27_method_10_code 9 = .ok (.arraylength, 1) := by decide +kernel
theorem dN4_10 : decode prog_27_method_10_code 10 = .ok (.if_icmp .ge 16, 3) := by decide +kernel
theorem dN4_13 : decode prog_27_method_10_code 13 = .ok (.aload_n 1, 1) := by decide +kernel
theorem dN4_14 : decode prog_27_method_10_code 14 = .ok (.iload_n 2, 1) := by decide +kernel
theorem dN4_15 : decode prog_27_method_10_code 15 = .ok (.aload_n 0, 1) := by decide +kernel
theorem dN4_16 : decode prog_27_method_10_code 16 = .ok (.iload_n 2, 1) := by decide +kernel
theorem dN4_17 : decode prog_27_method_10_code 17 = .ok (.laload, 1) := by decide +kernel
theorem dN4_18 : decode prog_27_method_10_code 18 = .ok (.lneg, 1) := by decide +kernel
theorem dN4_19 : decode prog_27_method_10_code 19 = .ok (.lastore, 1) := by decide +kernel
theorem dN4_20 : decode prog_27_method_10_code 20 = .ok (.iinc 2 1, 3) := by decide +kernel
theorem dN4_23 : decode prog_27_method_10_code 23 = .ok (.goto (-16), 3) := by decide +kernel
theorem dN4_26 : decode prog_27_method_10_code 26 = .ok (.aload_n 1, 1) := by decide +kernel
theorem dN4_27 : decode prog_27_method_10_code 27 = .ok (.areturn, 1) := by decide +kernel
theorem pnN4 : plainName "com/example/runs_to_nets/runstonets/core/PlaceTransitionSynthesis" = true := by first | (simp [plainName, overriddenIn]; done) | decide +kernel
theorem efN4 (m : MethodId) (a : Addr) : entryFrame m #[(.ref a)] 3 = mkF m 0 #[.val (.ref a), .unset, .unset] [] := by first | (simp [entryFrame, mkF, argsToLocals, Value.category]; done) | rfl
def QN4 (Z : State) (a : Addr) (kc_a : ClassId) (v0 : Int64) (v1 : Int64) (v2 : Int64) (v3 : Int64) (h0 : Heap) (n0 : Nat) (v : Option Value) (h : Heap) (L : List Loc) : Prop := ∃ b102 : Addr, ∃ k102 : ClassId, (v = some (.ref b102) ∧ Fr n0 L ∧ Keep h0 h [] ∧ n0 ≤ b102 ∧ h0.size ≤ b102 ∧ Arv Z h b102 k102 .long (4 : Int32) [(.long (-v0)), (.long (-v1)), (.long (-v2)), (.long (-v3))] (.long (0 : Int64)))
set_option maxRecDepth 65536 in
set_option maxHeartbeats 40000000 in
theorem rmN4 (l : Launch) (Z : State) (a0 : Array Value) (hw : ∀ d ∈ tables_1, d.before a0 Z = true) (ws : List Jvm.Cond) (a : Addr) (kc_a : ClassId) (v0 : Int64) (v1 : Int64) (v2 : Int64) (v3 : Int64) (h0 : Heap) (n0 : Nat) (Z0 : n0 ≤ h0.size) (V0_a : Arv Z h0 a kc_a .long (4 : Int32) [(.long v0), (.long v1), (.long v2), (.long v3)] (.long (0 : Int64))) :
    MetFree l (⟨"com/example/runs_to_nets/runstonets/core/PlaceTransitionSynthesis", "negated", "([J)[J"⟩ : MethodName) (head1 (Jvm.Cond.code (⟨"com/example/runs_to_nets/runstonets/core/PlaceTransitionSynthesis", "negated", "([J)[J"⟩ : MethodName) prog_27_method_10_code 3 (some (.array .long)) :: ws) ({ frames := 0, cells := 1, slots := 4, locals := 0 } : Room)) (fun aa_ U_ => aa_ = #[(.ref a)] ∧ Z.Warmed39 U_.vm ∧ U_.heap = h0) (fun _ _ _ _ _ => True) (fun _ U_ o_ V_ => ∃ v_ L_, o_ = .returned v_ ∧ QN4 Z a kc_a v0 v1 v2 v3 h0 n0 v_ V_.heap L_ ∧ FrameEnd U_ o_ V_ L_ ({ frames := 0, cells := 1, slots := 4, locals := 0 } : Room).cells ({ frames := 0, cells := 1, slots := 4, locals := 0 } : Room).slots) := by
  refine MetFree.of_bodySF (plainFor_of_name pnN4) hisR ?_
  intro p e s m args below meth c s₁ Bd hml0 hP hK
  obtain ⟨rfl, hZ, hh⟩ := hP
  have hx := Bd.exec
  have hby := Bd.bytes
  have hml : c.maxLocals = 3 := hml0
  have hown : s.vm.findClass "com/example/runs_to_nets/runstonets/core/PlaceTransitionSynthesis" = some m.cls := findClass_of_methodNamed Bd.named
  have hnm := (name_of_methodNamed Bd.named Bd.method).1
  have hlk : meth.locks = false := BodyLoose.notSynchronized Bd
  have hret : meth.sig.returnType = (some (.array .long)) := Bd.returns
  have X0 : Stand p l e ({ frames := 0, cells := 1, slots := 4, locals := 0 } : Room) s m #[(.ref a)] below meth c s₁ [] 0 0 := Stand.of_body Bd
  have e0 : s₁.heap = h0 := by rw [← hh, Bd.state]; rfl
  have N0 := Fr.nil n0
  show Go p e below s ({ frames := 0, cells := 1, slots := 4, locals := 0 } : Room).cells ({ frames := 0, cells := 1, slots := 4, locals := 0 } : Room).slots (QN4 Z a kc_a v0 v1 v2 v3 h0 n0) (s₁.setTop (entryFrame m #[(.ref a)] 3))
  rw [efN4]
  refine Go.by (fun _ kont => XS.aloadN X0.here hx rfl (hb hby dN4_0) rfl rfl kont) ?_
  show Go _ _ _ _ _ _ _ (s₁.setTop (mkF m 1 #[.val (.ref a), .unset, .unset] [(.ref a)]))
  obtain ⟨cl_q101, Ar_q101, q1_q101, S_q101, N_q101, H_q101, G_q101⟩ := id V0_a
  refine Go.by (X0.arraylength hx (by first | exact Ar_q101.1 | (rw [e0]; exact Ar_q101.1)) (State.isArrayOf_alike hZ.alike Ar_q101.2.1) (g := (mkF m 1 #[.val (.ref a), .unset, .unset] [(.ref a)])) rfl rfl (hb hby dN4_1)) ?_
  rw [len_of S_q101 N_q101]
  show Go _ _ _ _ _ _ _ (s₁.setTop (mkF m 2 #[.val (.ref a), .unset, .unset] [(.int (4 : Int32))]))
  obtain ⟨T102, h102, k102, X102, e102, X_102, A102, st102⟩ := newP X0 hx hZ (hw _ (List.mem_of_getElem? (i := 1) rfl)) e0 (g := (mkF m 2 #[.val (.ref a), .unset, .unset] [(.int (4 : Int32))])) rfl (hb hby dN4_2) rfl (by decide) (cap := 4) (by decide) (by decide) (by decide) (by decide)
  obtain ⟨b102, g102⟩ : ∃ z, z = h0.size := ⟨_, rfl⟩
  rw [← g102] at A102 st102
  have ne_a_b102 : a ≠ b102 := Nat.ne_of_lt (Nat.lt_of_lt_of_le V0_a.lt (Nat.le_of_eq g102.symm))
  have ge_b102 : n0 ≤ b102 := Nat.le_trans Z0 (Nat.le_of_eq g102.symm)
  have sz_b102 : h0.size ≤ b102 := Nat.le_trans (Keep.refl h0 []).1 (Nat.le_of_eq g102.symm)
  have V103_a := V0_a.ext X_102
  have Z103 := Nat.le_trans Z0 X_102.1
  have K103 : Keep h0 h102 [] := (Keep.refl h0 []).ext X_102
  have V102 : Arv Z h102 b102 k102 .long (4 : Int32) [(.long (0 : Int64)), (.long (0 : Int64)), (.long (0 : Int64)), (.long (0 : Int64))] (.long (0 : Int64)) := (Arv.new A102 (by decide)).pad (pad_rep [] (.long (0 : Int64)) 4)
  refine Go.by st102 ?_
  show Go _ _ _ _ _ _ _ (T102.setTop (mkF m 4 #[.val (.ref a), .unset, .unset] [(.ref b102)]))
  refine Go.by (fun _ kont => XS.astoreN X102.here hx rfl (hb hby dN4_4) rfl rfl (l' := #[.val (.ref a), .val (.ref b102), .unset]) rfl (XS.iconst X102.here hx rfl (hb hby dN4_5) (XS.istoreN X102.here hx rfl (hb hby dN4_6) rfl (l' := #[.val (.ref a), .val (.ref b102), .val (.int (0 : Int32))]) rfl (XS.iloadN X102.here hx rfl (hb hby dN4_7) rfl (XS.aloadN X102.here hx rfl (hb hby dN4_8) rfl rfl kont))))) ?_
  show Go _ _ _ _ _ _ _ (T102.setTop (mkF m 9 #[.val (.ref a), .val (.ref b102), .val (.int (0 : Int32))] [(.ref a), (.int (0 : Int32))]))
  obtain ⟨cl_q104, Ar_q104, q1_q104, S_q104, N_q104, H_q104, G_q104⟩ := id V103_a
  refine Go.by (X102.arraylength hx (by first | exact Ar_q104.1 | (rw [e102]; exact Ar_q104.1)) (State.isArrayOf_alike hZ.alike Ar_q104.2.1) (g := (mkF m 9 #[.val (.ref a), .val (.ref b102), .val (.int (0 : Int32))] [(.ref a), (.int (0 : Int32))])) rfl rfl (hb hby dN4_9)) ?_
  rw [len_of S_q104 N_q104]
  show Go _ _ _ _ _ _ _ (T102.setTop (mkF m 10 #[.val (.ref a), .val (.ref b102), .val (.int (0 : Int32))] [(.int (4 : Int32)), (.int (0 : Int32))]))
  refine Go.by (fun _ kont => XS.icmpNo X102.here hx rfl (hb hby dN4_10) rfl (by decide) kont) ?_
  show Go _ _ _ _ _ _ _ (T102.setTop (mkF m 13 #[.val (.ref a), .val (.ref b102), .val (.int (0 : Int32))] []))
  refine Go.by (fun _ kont => XS.aloadN X102.here hx rfl (hb hby dN4_13) rfl rfl (XS.iloadN X102.here hx rfl (hb hby dN4_14) rfl (XS.aloadN X102.here hx rfl (hb hby dN4_15) rfl rfl (XS.iloadN X102.here hx rfl (hb hby dN4_16) rfl kont)))) ?_
  show Go _ _ _ _ _ _ _ (T102.setTop (mkF m 17 #[.val (.ref a), .val (.ref b102), .val (.int (0 : Int32))] [(.int (0 : Int32)), (.ref a), (.int (0 : Int32)), (.ref b102)]))
  obtain ⟨cl_q105, Ar_q105, q1_q105, S_q105, N_q105, H_q105, G_q105⟩ := id V103_a
  have hin_q105 : ¬ ((0 : Int32) < 0 ∨ cl_q105.slots.size ≤ ((0 : Int32)).toNatClampNeg) := inb_of S_q105 ⟨by decide, by decide⟩
  have hat_q105 : cl_q105.slots[((0 : Int32)).toNatClampNeg]? = some (.long v0) := Has.at H_q105 hin_q105 rfl
  refine Go.by (X102.laload hx (j := (0 : Int32)) (v := (.long v0)) (by first | exact Ar_q105.1 | (rw [e102]; exact Ar_q105.1)) (State.isArrayOf_alike hZ.alike Ar_q105.2.1) Ar_q105.2.2 hin_q105 hat_q105 (g := (mkF m 17 #[.val (.ref a), .val (.ref b102), .val (.int (0 : Int32))] [(.int (0 : Int32)), (.ref a), (.int (0 : Int32)), (.ref b102)])) rfl rfl (hb hby dN4_17)) ?_
  show Go _ _ _ _ _ _ _ (T102.setTop (mkF m 18 #[.val (.ref a), .val (.ref b102), .val (.int (0 : Int32))] [(.long v0), (.int (0 : Int32)), (.ref b102)]))
  refine Go.by (fun _ kont => XS.lneg X102.here hx rfl (hb hby dN4_18) rfl kont) ?_
  show Go _ _ _ _ _ _ _ (T102.setTop (mkF m 19 #[.val (.ref a), .val (.ref b102), .val (.int (0 : Int32))] [(.long (-v0)), (.int (0 : Int32)), (.ref b102)]))
  obtain ⟨cl_q106, Ar_q106, q1_q106, S_q106, N_q106, H_q106, G_q106⟩ := id V102
  have hin_q106 : ¬ ((0 : Int32) < 0 ∨ cl_q106.slots.size ≤ ((0 : Int32)).toNatClampNeg) := inb_of S_q106 ⟨by decide, by decide⟩
  obtain ⟨T107, h107, X107, e107, W107, st107⟩ := stJ X102 hx hZ e102 Ar_q106 (j := (0 : Int32)) hin_q106 (g := (mkF m 19 #[.val (.ref a), .val (.ref b102), .val (.int (0 : Int32))] [(.long (-v0)), (.int (0 : Int32)), (.ref b102)])) rfl rfl (hb hby dN4_19)
  have V107 : Arv Z h107 b102 k102 .long (4 : Int32) [(.long (-v0)), (.long (0 : Int64)), (.long (0 : Int64)), (.long (0 : Int64))] (.long (0 : Int64)) := Arv.set Ar_q106 q1_q106 S_q106 N_q106 H_q106 G_q106 rfl W107 0 rfl (Nat.le_of_ble_eq_true rfl)
  have V108_a := V103_a.other W107 ne_a_b102
  have Z108 := Nat.le_trans Z103 (Keep.of_wr W107).1
  have K108 : Keep h0 h107 [] := K103.wr W107 (Or.inr sz_b102)
  have N107 := Fr.snoc X107 N0 ge_b102
  refine Go.by st107 ?_
  show Go _ _ _ _ _ _ _ (T107.setTop (mkF m 20 #[.val (.ref a), .val (.ref b102), .val (.int (0 : Int32))] []))
  refine Go.by (fun _ kont => XS.iinc X107.here hx rfl (hb hby dN4_20) rfl (l' := #[.val (.ref a), .val (.ref b102), .val (.int (1 : Int32))]) rfl (XS.goto X107.here hx rfl (pc0 := 23) (pc' := 7) rfl (hb hby dN4_23) (by decide) (by decide) (XS.iloadN X107.here hx rfl (hb hby dN4_7) rfl (XS.aloadN X107.here hx rfl (hb hby dN4_8) rfl rfl kont)))) ?_
  show Go _ _ _ _ _ _ _ (T107.setTop (mkF m 9 #[.val (.ref a), .val (.ref b102), .val (.int (1 : Int32))] [(.ref a), (.int (1 : Int32))]))
  obtain ⟨cl_q109, Ar_q109, q1_q109, S_q109, N_q109, H_q109, G_q109⟩ := id V108_a
  refine Go.by (X107.arraylength hx (by first | exact Ar_q109.1 | (rw [e107]; exact Ar_q109.1)) (State.isArrayOf_alike hZ.alike Ar_q109.2.1) (g := (mkF m 9 #[.val (.ref a), .val (.ref b102), .val (.int (1 : Int32))] [(.ref a), (.int (1 : Int32))])) rfl rfl (hb hby dN4_9)) ?_
  rw [len_of S_q109 N_q109]
  show Go _ _ _ _ _ _ _ (T107.setTop (mkF m 10 #[.val (.ref a), .val (.ref b102), .val (.int (1 : Int32))] [(.int (4 : Int32)), (.int (1 : Int32))]))
  refine Go.by (fun _ kont => XS.icmpNo X107.here hx rfl (hb hby dN4_10) rfl (by decide) kont) ?_
  show Go _ _ _ _ _ _ _ (T107.setTop (mkF m 13 #[.val (.ref a), .val (.ref b102), .val (.int (1 : Int32))] []))
  refine Go.by (fun _ kont => XS.aloadN X107.here hx rfl (hb hby dN4_13) rfl rfl (XS.iloadN X107.here hx rfl (hb hby dN4_14) rfl (XS.aloadN X107.here hx rfl (hb hby dN4_15) rfl rfl (XS.iloadN X107.here hx rfl (hb hby dN4_16) rfl kont)))) ?_
  show Go _ _ _ _ _ _ _ (T107.setTop (mkF m 17 #[.val (.ref a), .val (.ref b102), .val (.int (1 : Int32))] [(.int (1 : Int32)), (.ref a), (.int (1 : Int32)), (.ref b102)]))
  obtain ⟨cl_q110, Ar_q110, q1_q110, S_q110, N_q110, H_q110, G_q110⟩ := id V108_a
  have hin_q110 : ¬ ((1 : Int32) < 0 ∨ cl_q110.slots.size ≤ ((1 : Int32)).toNatClampNeg) := inb_of S_q110 ⟨by decide, by decide⟩
  have hat_q110 : cl_q110.slots[((1 : Int32)).toNatClampNeg]? = some (.long v1) := Has.at H_q110 hin_q110 rfl
  refine Go.by (X107.laload hx (j := (1 : Int32)) (v := (.long v1)) (by first | exact Ar_q110.1 | (rw [e107]; exact Ar_q110.1)) (State.isArrayOf_alike hZ.alike Ar_q110.2.1) Ar_q110.2.2 hin_q110 hat_q110 (g := (mkF m 17 #[.val (.ref a), .val (.ref b102), .val (.int (1 : Int32))] [(.int (1 : Int32)), (.ref a), (.int (1 : Int32)), (.ref b102)])) rfl rfl (hb hby dN4_17)) ?_
  show Go _ _ _ _ _ _ _ (T107.setTop (mkF m 18 #[.val (.ref a), .val (.ref b102), .val (.int (1 : Int32))] [(.long v1), (.int (1 : Int32)), (.ref b102)]))
  refine Go.by (fun _ kont => XS.lneg X107.here hx rfl (hb hby dN4_18) rfl kont) ?_
  show Go _ _ _ _ _ _ _ (T107.setTop (mkF m 19 #[.val (.ref a), .val (.ref b102), .val (.int (1 : Int32))] [(.long (-v1)), (.int (1 : Int32)), (.ref b102)]))
  obtain ⟨cl_q111, Ar_q111, q1_q111, S_q111, N_q111, H_q111, G_q111⟩ := id V107
  have hin_q111 : ¬ ((1 : Int32) < 0 ∨ cl_q111.slots.size ≤ ((1 : Int32)).toNatClampNeg) := inb_of S_q111 ⟨by decide, by decide⟩
  obtain ⟨T112, h112, X112, e112, W112, st112⟩ := stJ X107 hx hZ e107 Ar_q111 (j := (1 : Int32)) hin_q111 (g := (mkF m 19 #[.val (.ref a), .val (.ref b102), .val (.int (1 : Int32))] [(.long (-v1)), (.int (1 : Int32)), (.ref b102)])) rfl rfl (hb hby dN4_19)
  have V112 : Arv Z h112 b102 k102 .long (4 : Int32) [(.long (-v0)), (.long (-v1)), (.long (0 : Int64)), (.long (0 : Int64))] (.long (0 : Int64)) := Arv.set Ar_q111 q1_q111 S_q111 N_q111 H_q111 G_q111 rfl W112 1 rfl (Nat.le_of_ble_eq_true rfl)
  have V113_a := V108_a.other W112 ne_a_b102
  have Z113 := Nat.le_trans Z108 (Keep.of_wr W112).1
  have K113 : Keep h0 h112 [] := K108.wr W112 (Or.inr sz_b102)
  have N112 := Fr.snoc X112 N107 ge_b102
  refine Go.by st112 ?_
  show Go _ _ _ _ _ _ _ (T112.setTop (mkF m 20 #[.val (.ref a), .val (.ref b102), .val (.int (1 : Int32))] []))
  refine Go.by (fun _ kont => XS.iinc X112.here hx rfl (hb hby dN4_20) rfl (l' := #[.val (.ref a), .val (.ref b102), .val (.int (2 : Int32))]) rfl (XS.goto X112.here hx rfl (pc0 := 23) (pc' := 7) rfl (hb hby dN4_23) (by decide) (by decide) (XS.iloadN X112.here hx rfl (hb hby dN4_7) rfl (XS.aloadN X112.here hx rfl (hb hby dN4_8) rfl rfl kont)))) ?_
  show Go _ _ _ _ _ _ _ (T112.setTop (mkF m 9 #[.val (.ref a), .val (.ref b102), .val (.int (2 : Int32))] [(.ref a), (.int (2 : Int32))]))
  obtain ⟨cl_q114, Ar_q114, q1_q114, S_q114, N_q114, H_q114, G_q114⟩ := id V113_a
  refine Go.by (X112.arraylength hx (by first | exact Ar_q114.1 | (rw [e112]; exact Ar_q114.1)) (State.isArrayOf_alike hZ.alike Ar_q114.2.1) (g := (mkF m 9 #[.val (.ref a), .val (.ref b102), .val (.int (2 : Int32))] [(.ref a), (.int (2 : Int32))])) rfl rfl (hb hby dN4_9)) ?_
  rw [len_of S_q114 N_q114]
  show Go _ _ _ _ _ _ _ (T112.setTop (mkF m 10 #[.val (.ref a), .val (.ref b102), .val (.int (2 : Int32))] [(.int (4 : Int32)), (.int (2 : Int32))]))
  refine Go.by (fun _ kont => XS.icmpNo X112.here hx rfl (hb hby dN4_10) rfl (by decide) kont) ?_
  show Go _ _ _ _ _ _ _ (T112.setTop (mkF m 13 #[.val (.ref a), .val (.ref b102), .val (.int (2 : Int32))] []))
  refine Go.by (fun _ kont => XS.aloadN X112.here hx rfl (hb hby dN4_13) rfl rfl (XS.iloadN X112.here hx rfl (hb hby dN4_14) rfl (XS.aloadN X112.here hx rfl (hb hby dN4_15) rfl rfl (XS.iloadN X112.here hx rfl (hb hby dN4_16) rfl kont)))) ?_
  show Go _ _ _ _ _ _ _ (T112.setTop (mkF m 17 #[.val (.ref a), .val (.ref b102), .val (.int (2 : Int32))] [(.int (2 : Int32)), (.ref a), (.int (2 : Int32)), (.ref b102)]))
  obtain ⟨cl_q115, Ar_q115, q1_q115, S_q115, N_q115, H_q115, G_q115⟩ := id V113_a
  have hin_q115 : ¬ ((2 : Int32) < 0 ∨ cl_q115.slots.size ≤ ((2 : Int32)).toNatClampNeg) := inb_of S_q115 ⟨by decide, by decide⟩
  have hat_q115 : cl_q115.slots[((2 : Int32)).toNatClampNeg]? = some (.long v2) := Has.at H_q115 hin_q115 rfl
  refine Go.by (X112.laload hx (j := (2 : Int32)) (v := (.long v2)) (by first | exact Ar_q115.1 | (rw [e112]; exact Ar_q115.1)) (State.isArrayOf_alike hZ.alike Ar_q115.2.1) Ar_q115.2.2 hin_q115 hat_q115 (g := (mkF m 17 #[.val (.ref a), .val (.ref b102), .val (.int (2 : Int32))] [(.int (2 : Int32)), (.ref a), (.int (2 : Int32)), (.ref b102)])) rfl rfl (hb hby dN4_17)) ?_
  show Go _ _ _ _ _ _ _ (T112.setTop (mkF m 18 #[.val (.ref a), .val (.ref b102), .val (.int (2 : Int32))] [(.long v2), (.int (2 : Int32)), (.ref b102)]))
  refine Go.by (fun _ kont => XS.lneg X112.here hx rfl (hb hby dN4_18) rfl kont) ?_
  show Go _ _ _ _ _ _ _ (T112.setTop (mkF m 19 #[.val (.ref a), .val (.ref b102), .val (.int (2 : Int32))] [(.long (-v2)), (.int (2 : Int32)), (.ref b102)]))
  obtain ⟨cl_q116, Ar_q116, q1_q116, S_q116, N_q116, H_q116, G_q116⟩ := id V112
  have hin_q116 : ¬ ((2 : Int32) < 0 ∨ cl_q116.slots.size ≤ ((2 : Int32)).toNatClampNeg) := inb_of S_q116 ⟨by decide, by decide⟩
  obtain ⟨T117, h117, X117, e117, W117, st117⟩ := stJ X112 hx hZ e112 Ar_q116 (j := (2 : Int32)) hin_q116 (g := (mkF m 19 #[.val (.ref a), .val (.ref b102), .val (.int (2 : Int32))] [(.long (-v2)), (.int (2 : Int32)), (.ref b102)])) rfl rfl (hb hby dN4_19)
  have V117 : Arv Z h117 b102 k102 .long (4 : Int32) [(.long (-v0)), (.long (-v1)), (.long (-v2)), (.long (0 : Int64))] (.long (0 : Int64)) := Arv.set Ar_q116 q1_q116 S_q116 N_q116 H_q116 G_q116 rfl W117 2 rfl (Nat.le_of_ble_eq_true rfl)
  have V118_a := V113_a.other W117 ne_a_b102
  have Z118 := Nat.le_trans Z113 (Keep.of_wr W117).1
  have K118 : Keep h0 h117 [] := K113.wr W117 (Or.inr sz_b102)
  have N117 := Fr.snoc X117 N112 ge_b102
  refine Go.by st117 ?_
  show Go _ _ _ _ _ _ _ (T117.setTop (mkF m 20 #[.val (.ref a), .val (.ref b102), .val (.int (2 : Int32))] []))
  refine Go.by (fun _ kont => XS.iinc X117.here hx rfl (hb hby dN4_20) rfl (l' := #[.val (.ref a), .val (.ref b102), .val (.int (3 : Int32))]) rfl (XS.goto X117.here hx rfl (pc0 := 23) (pc' := 7) rfl (hb hby dN4_23) (by decide) (by decide) (XS.iloadN X117.here hx rfl (hb hby dN4_7) rfl (XS.aloadN X117.here hx rfl (hb hby dN4_8) rfl rfl kont)))) ?_
  show Go _ _ _ _ _ _ _ (T117.setTop (mkF m 9 #[.val (.ref a), .val (.ref b102), .val (.int (3 : Int32))] [(.ref a), (.int (3 : Int32))]))
  obtain ⟨cl_q119, Ar_q119, q1_q119, S_q119, N_q119, H_q119, G_q119⟩ := id V118_a
  refine Go.by (X117.arraylength hx (by first | exact Ar_q119.1 | (rw [e117]; exact Ar_q119.1)) (State.isArrayOf_alike hZ.alike Ar_q119.2.1) (g := (mkF m 9 #[.val (.ref a), .val (.ref b102), .val (.int (3 : Int32))] [(.ref a), (.int (3 : Int32))])) rfl rfl (hb hby dN4_9)) ?_
  rw [len_of S_q119 N_q119]
  show Go _ _ _ _ _ _ _ (T117.setTop (mkF m 10 #[.val (.ref a), .val (.ref b102), .val (.int (3 : Int32))] [(.int (4 : Int32)), (.int (3 : Int32))]))
  refine Go.by (fun _ kont => XS.icmpNo X117.here hx rfl (hb hby dN4_10) rfl (by decide) kont) ?_
  show Go _ _ _ _ _ _ _ (T117.setTop (mkF m 13 #[.val (.ref a), .val (.ref b102), .val (.int (3 : Int32))] []))
  refine Go.by (fun _ kont => XS.aloadN X117.here hx rfl (hb hby dN4_13) rfl rfl (XS.iloadN X117.here hx rfl (hb hby dN4_14) rfl (XS.aloadN X117.here hx rfl (hb hby dN4_15) rfl rfl (XS.iloadN X117.here hx rfl (hb hby dN4_16) rfl kont)))) ?_
  show Go _ _ _ _ _ _ _ (T117.setTop (mkF m 17 #[.val (.ref a), .val (.ref b102), .val (.int (3 : Int32))] [(.int (3 : Int32)), (.ref a), (.int (3 : Int32)), (.ref b102)]))
  obtain ⟨cl_q120, Ar_q120, q1_q120, S_q120, N_q120, H_q120, G_q120⟩ := id V118_a
  have hin_q120 : ¬ ((3 : Int32) < 0 ∨ cl_q120.slots.size ≤ ((3 : Int32)).toNatClampNeg) := inb_of S_q120 ⟨by decide, by decide⟩
  have hat_q120 : cl_q120.slots[((3 : Int32)).toNatClampNeg]? = some (.long v3) := Has.at H_q120 hin_q120 rfl
  refine Go.by (X117.laload hx (j := (3 : Int32)) (v := (.long v3)) (by first | exact Ar_q120.1 | (rw [e117]; exact Ar_q120.1)) (State.isArrayOf_alike hZ.alike Ar_q120.2.1) Ar_q120.2.2 hin_q120 hat_q120 (g := (mkF m 17 #[.val (.ref a), .val (.ref b102), .val (.int (3 : Int32))] [(.int (3 : Int32)), (.ref a), (.int (3 : Int32)), (.ref b102)])) rfl rfl (hb hby dN4_17)) ?_
  show Go _ _ _ _ _ _ _ (T117.setTop (mkF m 18 #[.val (.ref a), .val (.ref b102), .val (.int (3 : Int32))] [(.long v3), (.int (3 : Int32)), (.ref b102)]))
  refine Go.by (fun _ kont => XS.lneg X117.here hx rfl (hb hby dN4_18) rfl kont) ?_
  show Go _ _ _ _ _ _ _ (T117.setTop (mkF m 19 #[.val (.ref a), .val (.ref b102), .val (.int (3 : Int32))] [(.long (-v3)), (.int (3 : Int32)), (.ref b102)]))
  obtain ⟨cl_q121, Ar_q121, q1_q121, S_q121, N_q121, H_q121, G_q121⟩ := id V117
  have hin_q121 : ¬ ((3 : Int32) < 0 ∨ cl_q121.slots.size ≤ ((3 : Int32)).toNatClampNeg) := inb_of S_q121 ⟨by decide, by decide⟩
  obtain ⟨T122, h122, X122, e122, W122, st122⟩ := stJ X117 hx hZ e117 Ar_q121 (j := (3 : Int32)) hin_q121 (g := (mkF m 19 #[.val (.ref a), .val (.ref b102), .val (.int (3 : Int32))] [(.long (-v3)), (.int (3 : Int32)), (.ref b102)])) rfl rfl (hb hby dN4_19)
  have V122 : Arv Z h122 b102 k102 .long (4 : Int32) [(.long (-v0)), (.long (-v1)), (.long (-v2)), (.long (-v3))] (.long (0 : Int64)) := Arv.set Ar_q121 q1_q121 S_q121 N_q121 H_q121 G_q121 rfl W122 3 rfl (Nat.le_of_ble_eq_true rfl)
  have V123_a := V118_a.other W122 ne_a_b102
  have Z123 := Nat.le_trans Z118 (Keep.of_wr W122).1
  have K123 : Keep h0 h122 [] := K118.wr W122 (Or.inr sz_b102)
  have N122 := Fr.snoc X122 N117 ge_b102
  refine Go.by st122 ?_
  show Go _ _ _ _ _ _ _ (T122.setTop (mkF m 20 #[.val (.ref a), .val (.ref b102), .val (.int (3 : Int32))] []))
  refine Go.by (fun _ kont => XS.iinc X122.here hx rfl (hb hby dN4_20) rfl (l' := #[.val (.ref a), .val (.ref b102), .val (.int (4 : Int32))]) rfl (XS.goto X122.here hx rfl (pc0 := 23) (pc' := 7) rfl (hb hby dN4_23) (by decide) (by decide) (XS.iloadN X122.here hx rfl (hb hby dN4_7) rfl (XS.aloadN X122.here hx rfl (hb hby dN4_8) rfl rfl kont)))) ?_
  show Go _ _ _ _ _ _ _ (T122.setTop (mkF m 9 #[.val (.ref a), .val (.ref b102), .val (.int (4 : Int32))] [(.ref a), (.int (4 : Int32))]))
  obtain ⟨cl_q124, Ar_q124, q1_q124, S_q124, N_q124, H_q124, G_q124⟩ := id V123_a
  refine Go.by (X122.arraylength hx (by first | exact Ar_q124.1 | (rw [e122]; exact Ar_q124.1)) (State.isArrayOf_alike hZ.alike Ar_q124.2.1) (g := (mkF m 9 #[.val (.ref a), .val (.ref b102), .val (.int (4 : Int32))] [(.ref a), (.int (4 : Int32))])) rfl rfl (hb hby dN4_9)) ?_
  rw [len_of S_q124 N_q124]
  show Go _ _ _ _ _ _ _ (T122.setTop (mkF m 10 #[.val (.ref a), .val (.ref b102), .val (.int (4 : Int32))] [(.int (4 : Int32)), (.int (4 : Int32))]))
  refine Go.by (fun _ kont => XS.icmpYes X122.here hx rfl (pc0 := 10) (pc' := 26) rfl (hb hby dN4_10) rfl (by decide) (by decide) (by decide) kont) ?_
  show Go _ _ _ _ _ _ _ (T122.setTop (mkF m 26 #[.val (.ref a), .val (.ref b102), .val (.int (4 : Int32))] []))
  refine Go.by (fun _ kont => XS.aloadN X122.here hx rfl (hb hby dN4_26) rfl rfl kont) ?_
  show Go _ _ _ _ _ _ _ (T122.setTop (mkF m 27 #[.val (.ref a), .val (.ref b102), .val (.int (4 : Int32))] [(.ref b102)]))
  refine Go.retR X122 hx hret rfl rfl hlk (hb hby dN4_27) ?_ (by decide) (by decide)
  show QN4 Z a kc_a v0 v1 v2 v3 h0 n0 (some (.ref b102)) T122.heap _
  rw [e122]
  exact ⟨b102, k102, rfl, N122, K123, ge_b102, sz_b102, V122⟩

theorem dK40_0 : decode method_3_code 0 = .ok (.iload_n 3, 1) := by decide +kernel
theorem dK40_1 : decode method_3_code 1 = .ok (.iload 4, 2) := by decide +kernel
theorem dK40_3 : decode method_3_code 3 = .ok (.if_icmp .lt 5, 3) := by decide +kernel
theorem dK40_8 : decode method_3_code 8 = .ok (.aload_n 0, 1) := by decide +kernel
theorem dK40_9 : decode method_3_code 9 = .ok (.iload_n 3, 1) := by decide +kernel
theorem dK40_10 : decode method_3_code 10 = .ok (.laload, 1) := by decide +kernel
theorem dK40_11 : decode method_3_code 11 = .ok (.aload_n 2, 1) := by decide +kernel
theorem dK40_12 : decode method_3_code 12 = .ok (.iload_n 3, 1) := by decide +kernel
theorem dK40_13 : decode method_3_code 13 = .ok (.laload, 1) := by decide +kernel
theorem dK40_14 : decode method_3_code 14 = .ok (.lcmp, 1) := by decide +kernel
theorem dK40_15 : decode method_3_code 15 = .ok (.ifCond .ne 19, 3) := by decide +kernel
theorem dK40_18 : decode method_3_code 18 = .ok (.aload_n 0, 1) := by decide +kernel
theorem dK40_19 : decode method_3_code 19 = .ok (.iload_n 3, 1) := by decide +kernel
theorem dK40_20 : decode method_3_code 20 = .ok (.laload, 1) := by decide +kernel
theorem dK40_21 : decode method_3_code 21 = .ok (.aload_n 1, 1) := by decide +kernel
theorem dK40_22 : decode method_3_code 22 = .ok (.iload_n 3, 1) := by decide +kernel
theorem dK40_23 : decode method_3_code 23 = .ok (.laload, 1) := by decide +kernel
theorem dK40_24 : decode method_3_code 24 = .ok (.ladd, 1) := by decide +kernel
theorem dK40_25 : decode method_3_code 25 = .ok (.lconst 0, 1) := by decide +kernel
theorem dK40_26 : decode method_3_code 26 = .ok (.lcmp, 1) := by decide +kernel
theorem dK40_27 : decode method_3_code 27 = .ok (.ifCond .ne 7, 3) := by decide +kernel
theorem dK40_30 : decode method_3_code 30 = .ok (.iconst 1, 1) := by decide +kernel
theorem dK40_31 : decode method_3_code 31 = .ok (.goto 4, 3) := by decide +kernel
theorem dK40_35 : decode method_3_code 35 = .ok (.ireturn, 1) := by decide +kernel
theorem pnK40 : plainName "com/example/runs_to_nets/runstonets/core/PlaceTransitionSynthesisNegatedPinLaw" = true := by first | (simp [plainName, overriddenIn]; done) | decide +kernel
theorem efK40 (m : MethodId) (a : Addr) (b : Addr) (d : Addr) : entryFrame m #[(.ref a), (.ref b), (.ref d), (.int (0 : Int32)), (.int (4 : Int32))] 5 = mkF m 0 #[.val (.ref a), .val (.ref b), .val (.ref d), .val (.int (0 : Int32)), .val (.int (4 : Int32))] [] := by first | (simp [entryFrame, mkF, argsToLocals, Value.category]; done) | rfl
def QK40 (Z : State) (a : Addr) (b : Addr) (d : Addr) (kc_a : ClassId) (v0 : Int64) (v1 : Int64) (v2 : Int64) (v3 : Int64) (kc_b : ClassId) (kc_d : ClassId) (v4 : Int64) (h0 : Heap) (n0 : Nat) (v : Option Value) (h : Heap) (L : List Loc) : Prop := (v = some (.int (1 : Int32)) ∧ Fr n0 L ∧ h = h0)
set_option maxRecDepth 65536 in
set_option maxHeartbeats 40000000 in
theorem rmK40 (l : Launch) (Z : State) (a0 : Array Value) (hw : ∀ d ∈ tables_1, d.before a0 Z = true) (ws : List Jvm.Cond) (a : Addr) (b : Addr) (d : Addr) (kc_a : ClassId) (v0 : Int64) (v1 : Int64) (v2 : Int64) (v3 : Int64) (kc_b : ClassId) (kc_d : ClassId) (v4 : Int64) (h0 : Heap) (n0 : Nat) (Z0 : n0 ≤ h0.size) (V0_a : Arv Z h0 a kc_a .long (4 : Int32) [(.long v0), (.long v1), (.long v2), (.long v3)] (.long (0 : Int64))) (V0_b : Arv Z h0 b kc_b .long (4 : Int32) [(.long (-v0)), (.long (-v1)), (.long (-v2)), (.long (-v3))] (.long (0 : Int64))) (V0_d : Arv Z h0 d kc_d .long (5 : Int32) [(.long v0), (.long v1), (.long v2), (.long v3), (.long v4)] (.long (0 : Int64))) :
    MetFree l (⟨"com/example/runs_to_nets/runstonets/core/PlaceTransitionSynthesisNegatedPinLaw", "ok", "([J[J[JII)Z"⟩ : MethodName) (head1 (Jvm.Cond.code (⟨"com/example/runs_to_nets/runstonets/core/PlaceTransitionSynthesisNegatedPinLaw", "ok", "([J[J[JII)Z"⟩ : MethodName) method_3_code 5 (some .boolean) :: ws) ({ frames := 0, cells := 0, slots := 0, locals := 0 } : Room)) (fun aa_ U_ => aa_ = #[(.ref a), (.ref b), (.ref d), (.int (0 : Int32)), (.int (4 : Int32))] ∧ Z.Warmed39 U_.vm ∧ U_.heap = h0) (fun _ _ _ _ _ => True) (fun _ U_ o_ V_ => ∃ v_ L_, o_ = .returned v_ ∧ QK40 Z a b d kc_a v0 v1 v2 v3 kc_b kc_d v4 h0 n0 v_ V_.heap L_ ∧ FrameEnd U_ o_ V_ L_ ({ frames := 0, cells := 0, slots := 0, locals := 0 } : Room).cells ({ frames := 0, cells := 0, slots := 0, locals := 0 } : Room).slots) := by
  refine MetFree.of_bodySF (plainFor_of_name pnK40) hisR ?_
  intro p e s m args below meth c s₁ Bd hml0 hP hK
  obtain ⟨rfl, hZ, hh⟩ := hP
  have hx := Bd.exec
  have hby := Bd.bytes
  have hml : c.maxLocals = 5 := hml0
  have hown : s.vm.findClass "com/example/runs_to_nets/runstonets/core/PlaceTransitionSynthesisNegatedPinLaw" = some m.cls := findClass_of_methodNamed Bd.named
  have hnm := (name_of_methodNamed Bd.named Bd.method).1
  have hlk : meth.locks = false := BodyLoose.notSynchronized Bd
  have hret : meth.sig.returnType = (some .boolean) := Bd.returns
  have X0 : Stand p l e ({ frames := 0, cells := 0, slots := 0, locals := 0 } : Room) s m #[(.ref a), (.ref b), (.ref d), (.int (0 : Int32)), (.int (4 : Int32))] below meth c s₁ [] 0 0 := Stand.of_body Bd
  have e0 : s₁.heap = h0 := by rw [← hh, Bd.state]; rfl
  have N0 := Fr.nil n0
  show Go p e below s ({ frames := 0, cells := 0, slots := 0, locals := 0 } : Room).cells ({ frames := 0, cells := 0, slots := 0, locals := 0 } : Room).slots (QK40 Z a b d kc_a v0 v1 v2 v3 kc_b kc_d v4 h0 n0) (s₁.setTop (entryFrame m #[(.ref a), (.ref b), (.ref d), (.int (0 : Int32)), (.int (4 : Int32))] 5))
  rw [efK40]
  refine Go.by (fun _ kont => XS.iloadN X0.here hx rfl (hb hby dK40_0) rfl (XS.iload X0.here hx rfl (hb hby dK40_1) rfl kont)) ?_
  show Go _ _ _ _ _ _ _ (s₁.setTop (mkF m 3 #[.val (.ref a), .val (.ref b), .val (.ref d), .val (.int (0 : Int32)), .val (.int (4 : Int32))] [(.int (4 : Int32)), (.int (0 : Int32))]))
  refine Go.by (fun _ kont => XS.icmpYes X0.here hx rfl (pc0 := 3) (pc' := 8) rfl (hb hby dK40_3) rfl (by decide) (by decide) (by decide) kont) ?_
  show Go _ _ _ _ _ _ _ (s₁.setTop (mkF m 8 #[.val (.ref a), .val (.ref b), .val (.ref d), .val (.int (0 : Int32)), .val (.int (4 : Int32))] []))
  refine Go.by (fun _ kont => XS.aloadN X0.here hx rfl (hb hby dK40_8) rfl rfl (XS.iloadN X0.here hx rfl (hb hby dK40_9) rfl kont)) ?_
  show Go _ _ _ _ _ _ _ (s₁.setTop (mkF m 10 #[.val (.ref a), .val (.ref b), .val (.ref d), .val (.int (0 : Int32)), .val (.int (4 : Int32))] [(.int (0 : Int32)), (.ref a)]))
  obtain ⟨cl_q101, Ar_q101, q1_q101, S_q101, N_q101, H_q101, G_q101⟩ := id V0_a
  have hin_q101 : ¬ ((0 : Int32) < 0 ∨ cl_q101.slots.size ≤ ((0 : Int32)).toNatClampNeg) := inb_of S_q101 ⟨by decide, by decide⟩
  have hat_q101 : cl_q101.slots[((0 : Int32)).toNatClampNeg]? = some (.long v0) := Has.at H_q101 hin_q101 rfl
  refine Go.by (X0.laload hx (j := (0 : Int32)) (v := (.long v0)) (by first | exact Ar_q101.1 | (rw [e0]; exact Ar_q101.1)) (State.isArrayOf_alike hZ.alike Ar_q101.2.1) Ar_q101.2.2 hin_q101 hat_q101 (g := (mkF m 10 #[.val (.ref a), .val (.ref b), .val (.ref d), .val (.int (0 : Int32)), .val (.int (4 : Int32))] [(.int (0 : Int32)), (.ref a)])) rfl rfl (hb hby dK40_10)) ?_
  show Go _ _ _ _ _ _ _ (s₁.setTop (mkF m 11 #[.val (.ref a), .val (.ref b), .val (.ref d), .val (.int (0 : Int32)), .val (.int (4 : Int32))] [(.long v0)]))
  refine Go.by (fun _ kont => XS.aloadN X0.here hx rfl (hb hby dK40_11) rfl rfl (XS.iloadN X0.here hx rfl (hb hby dK40_12) rfl kont)) ?_
  show Go _ _ _ _ _ _ _ (s₁.setTop (mkF m 13 #[.val (.ref a), .val (.ref b), .val (.ref d), .val (.int (0 : Int32)), .val (.int (4 : Int32))] [(.int (0 : Int32)), (.ref d), (.long v0)]))
  obtain ⟨cl_q102, Ar_q102, q1_q102, S_q102, N_q102, H_q102, G_q102⟩ := id V0_d
  have hin_q102 : ¬ ((0 : Int32) < 0 ∨ cl_q102.slots.size ≤ ((0 : Int32)).toNatClampNeg) := inb_of S_q102 ⟨by decide, by decide⟩
  have hat_q102 : cl_q102.slots[((0 : Int32)).toNatClampNeg]? = some (.long v0) := Has.at H_q102 hin_q102 rfl
  refine Go.by (X0.laload hx (j := (0 : Int32)) (v := (.long v0)) (by first | exact Ar_q102.1 | (rw [e0]; exact Ar_q102.1)) (State.isArrayOf_alike hZ.alike Ar_q102.2.1) Ar_q102.2.2 hin_q102 hat_q102 (g := (mkF m 13 #[.val (.ref a), .val (.ref b), .val (.ref d), .val (.int (0 : Int32)), .val (.int (4 : Int32))] [(.int (0 : Int32)), (.ref d), (.long v0)])) rfl rfl (hb hby dK40_13)) ?_
  show Go _ _ _ _ _ _ _ (s₁.setTop (mkF m 14 #[.val (.ref a), .val (.ref b), .val (.ref d), .val (.int (0 : Int32)), .val (.int (4 : Int32))] [(.long v0), (.long v0)]))
  refine Go.by (fun _ kont => XS.lcmp X0.here hx rfl (hb hby dK40_14) rfl kont) ?_
  show Go _ _ _ _ _ _ _ (s₁.setTop (mkF m 15 #[.val (.ref a), .val (.ref b), .val (.ref d), .val (.int (0 : Int32)), .val (.int (4 : Int32))] [(.int (lcmpW v0 v0))]))
  refine Go.by (fun _ kont => XS.ifNo X0.here hx rfl (hb hby dK40_15) rfl ((if0 _ _).trans (teq ((lw_eq _ _).mpr rfl)).2) kont) ?_
  show Go _ _ _ _ _ _ _ (s₁.setTop (mkF m 18 #[.val (.ref a), .val (.ref b), .val (.ref d), .val (.int (0 : Int32)), .val (.int (4 : Int32))] []))
  refine Go.by (fun _ kont => XS.aloadN X0.here hx rfl (hb hby dK40_18) rfl rfl (XS.iloadN X0.here hx rfl (hb hby dK40_19) rfl kont)) ?_
  show Go _ _ _ _ _ _ _ (s₁.setTop (mkF m 20 #[.val (.ref a), .val (.ref b), .val (.ref d), .val (.int (0 : Int32)), .val (.int (4 : Int32))] [(.int (0 : Int32)), (.ref a)]))
  obtain ⟨cl_q103, Ar_q103, q1_q103, S_q103, N_q103, H_q103, G_q103⟩ := id V0_a
  have hin_q103 : ¬ ((0 : Int32) < 0 ∨ cl_q103.slots.size ≤ ((0 : Int32)).toNatClampNeg) := inb_of S_q103 ⟨by decide, by decide⟩
  have hat_q103 : cl_q103.slots[((0 : Int32)).toNatClampNeg]? = some (.long v0) := Has.at H_q103 hin_q103 rfl
  refine Go.by (X0.laload hx (j := (0 : Int32)) (v := (.long v0)) (by first | exact Ar_q103.1 | (rw [e0]; exact Ar_q103.1)) (State.isArrayOf_alike hZ.alike Ar_q103.2.1) Ar_q103.2.2 hin_q103 hat_q103 (g := (mkF m 20 #[.val (.ref a), .val (.ref b), .val (.ref d), .val (.int (0 : Int32)), .val (.int (4 : Int32))] [(.int (0 : Int32)), (.ref a)])) rfl rfl (hb hby dK40_20)) ?_
  show Go _ _ _ _ _ _ _ (s₁.setTop (mkF m 21 #[.val (.ref a), .val (.ref b), .val (.ref d), .val (.int (0 : Int32)), .val (.int (4 : Int32))] [(.long v0)]))
  refine Go.by (fun _ kont => XS.aloadN X0.here hx rfl (hb hby dK40_21) rfl rfl (XS.iloadN X0.here hx rfl (hb hby dK40_22) rfl kont)) ?_
  show Go _ _ _ _ _ _ _ (s₁.setTop (mkF m 23 #[.val (.ref a), .val (.ref b), .val (.ref d), .val (.int (0 : Int32)), .val (.int (4 : Int32))] [(.int (0 : Int32)), (.ref b), (.long v0)]))
  obtain ⟨cl_q104, Ar_q104, q1_q104, S_q104, N_q104, H_q104, G_q104⟩ := id V0_b
  have hin_q104 : ¬ ((0 : Int32) < 0 ∨ cl_q104.slots.size ≤ ((0 : Int32)).toNatClampNeg) := inb_of S_q104 ⟨by decide, by decide⟩
  have hat_q104 : cl_q104.slots[((0 : Int32)).toNatClampNeg]? = some (.long (-v0)) := Has.at H_q104 hin_q104 rfl
  refine Go.by (X0.laload hx (j := (0 : Int32)) (v := (.long (-v0))) (by first | exact Ar_q104.1 | (rw [e0]; exact Ar_q104.1)) (State.isArrayOf_alike hZ.alike Ar_q104.2.1) Ar_q104.2.2 hin_q104 hat_q104 (g := (mkF m 23 #[.val (.ref a), .val (.ref b), .val (.ref d), .val (.int (0 : Int32)), .val (.int (4 : Int32))] [(.int (0 : Int32)), (.ref b), (.long v0)])) rfl rfl (hb hby dK40_23)) ?_
  show Go _ _ _ _ _ _ _ (s₁.setTop (mkF m 24 #[.val (.ref a), .val (.ref b), .val (.ref d), .val (.int (0 : Int32)), .val (.int (4 : Int32))] [(.long (-v0)), (.long v0)]))
  refine Go.by (fun _ kont => XS.ladd X0.here hx rfl (hb hby dK40_24) rfl (XS.lconst X0.here hx rfl (hb hby dK40_25) (XS.lcmp X0.here hx rfl (hb hby dK40_26) rfl kont))) ?_
  show Go _ _ _ _ _ _ _ (s₁.setTop (mkF m 27 #[.val (.ref a), .val (.ref b), .val (.ref d), .val (.int (0 : Int32)), .val (.int (4 : Int32))] [(.int (lcmpW (v0 + (-v0)) (0 : Int64)))]))
  have hd105 : (v0 + (-v0)) = (0 : Int64) := Int64.add_right_neg _
  refine Go.by (fun _ kont => XS.ifNo X0.here hx rfl (hb hby dK40_27) rfl ((if0 _ _).trans (teq ((lw_eq _ _).mpr hd105)).2) kont) ?_
  show Go _ _ _ _ _ _ _ (s₁.setTop (mkF m 30 #[.val (.ref a), .val (.ref b), .val (.ref d), .val (.int (0 : Int32)), .val (.int (4 : Int32))] []))
  refine Go.by (fun _ kont => XS.iconst X0.here hx rfl (hb hby dK40_30) (XS.goto X0.here hx rfl (pc0 := 31) (pc' := 35) rfl (hb hby dK40_31) (by decide) (by decide) kont)) ?_
  show Go _ _ _ _ _ _ _ (s₁.setTop (mkF m 35 #[.val (.ref a), .val (.ref b), .val (.ref d), .val (.int (0 : Int32)), .val (.int (4 : Int32))] [(.int (1 : Int32))]))
  refine Go.retN X0 hx (t := .boolean) hret (by simp) hlk (hb hby dK40_35) ?_ (by decide) (by decide)
  show QK40 Z a b d kc_a v0 v1 v2 v3 kc_b kc_d v4 h0 n0 (some (.int (1 : Int32))) s₁.heap _
  rw [e0]
  exact ⟨rfl, N0, rfl⟩

theorem dK41_0 : decode method_3_code 0 = .ok (.iload_n 3, 1) := by decide +kernel
theorem dK41_1 : decode method_3_code 1 = .ok (.iload 4, 2) := by decide +kernel
theorem dK41_3 : decode method_3_code 3 = .ok (.if_icmp .lt 5, 3) := by decide +kernel
theorem dK41_8 : decode method_3_code 8 = .ok (.aload_n 0, 1) := by decide +kernel
theorem dK41_9 : decode method_3_code 9 = .ok (.iload_n 3, 1) := by decide +kernel
theorem dK41_10 : decode method_3_code 10 = .ok (.laload, 1) := by decide +kernel
theorem dK41_11 : decode method_3_code 11 = .ok (.aload_n 2, 1) := by decide +kernel
theorem dK41_12 : decode method_3_code 12 = .ok (.iload_n 3, 1) := by decide +kernel
theorem dK41_13 : decode method_3_code 13 = .ok (.laload, 1) := by decide +kernel
theorem dK41_14 : decode method_3_code 14 = .ok (.lcmp, 1) := by decide +kernel
theorem dK41_15 : decode method_3_code 15 = .ok (.ifCond .ne 19, 3) := by decide +kernel
theorem dK41_18 : decode method_3_code 18 = .ok (.aload_n 0, 1) := by decide +kernel
theorem dK41_19 : decode method_3_code 19 = .ok (.iload_n 3, 1) := by decide +kernel
theorem dK41_20 : decode method_3_code 20 = .ok (.laload, 1) := by decide +kernel
theorem dK41_21 : decode method_3_code 21 = .ok (.aload_n 1, 1) := by decide +kernel
theorem dK41_22 : decode method_3_code 22 = .ok (.iload_n 3, 1) := by decide +kernel
theorem dK41_23 : decode method_3_code 23 = .ok (.laload, 1) := by decide +kernel
theorem dK41_24 : decode method_3_code 24 = .ok (.ladd, 1) := by decide +kernel
theorem dK41_25 : decode method_3_code 25 = .ok (.lconst 0, 1) := by decide +kernel
theorem dK41_26 : decode method_3_code 26 = .ok (.lcmp, 1) := by decide +kernel
theorem dK41_27 : decode method_3_code 27 = .ok (.ifCond .ne 7, 3) := by decide +kernel
theorem dK41_30 : decode method_3_code 30 = .ok (.iconst 1, 1) := by decide +kernel
theorem dK41_31 : decode method_3_code 31 = .ok (.goto 4, 3) := by decide +kernel
theorem dK41_35 : decode method_3_code 35 = .ok (.ireturn, 1) := by decide +kernel
theorem pnK41 : plainName "com/example/runs_to_nets/runstonets/core/PlaceTransitionSynthesisNegatedPinLaw" = true := by first | (simp [plainName, overriddenIn]; done) | decide +kernel
theorem efK41 (m : MethodId) (a : Addr) (b : Addr) (d : Addr) : entryFrame m #[(.ref a), (.ref b), (.ref d), (.int (1 : Int32)), (.int (4 : Int32))] 5 = mkF m 0 #[.val (.ref a), .val (.ref b), .val (.ref d), .val (.int (1 : Int32)), .val (.int (4 : Int32))] [] := by first | (simp [entryFrame, mkF, argsToLocals, Value.category]; done) | rfl
def QK41 (Z : State) (a : Addr) (b : Addr) (d : Addr) (kc_a : ClassId) (v0 : Int64) (v1 : Int64) (v2 : Int64) (v3 : Int64) (kc_b : ClassId) (kc_d : ClassId) (v4 : Int64) (h0 : Heap) (n0 : Nat) (v : Option Value) (h : Heap) (L : List Loc) : Prop := (v = some (.int (1 : Int32)) ∧ Fr n0 L ∧ h = h0)
set_option maxRecDepth 65536 in
set_option maxHeartbeats 40000000 in
theorem rmK41 (l : Launch) (Z : State) (a0 : Array Value) (hw : ∀ d ∈ tables_1, d.before a0 Z = true) (ws : List Jvm.Cond) (a : Addr) (b : Addr) (d : Addr) (kc_a : ClassId) (v0 : Int64) (v1 : Int64) (v2 : Int64) (v3 : Int64) (kc_b : ClassId) (kc_d : ClassId) (v4 : Int64) (h0 : Heap) (n0 : Nat) (Z0 : n0 ≤ h0.size) (V0_a : Arv Z h0 a kc_a .long (4 : Int32) [(.long v0), (.long v1), (.long v2), (.long v3)] (.long (0 : Int64))) (V0_b : Arv Z h0 b kc_b .long (4 : Int32) [(.long (-v0)), (.long (-v1)), (.long (-v2)), (.long (-v3))] (.long (0 : Int64))) (V0_d : Arv Z h0 d kc_d .long (5 : Int32) [(.long v0), (.long v1), (.long v2), (.long v3), (.long v4)] (.long (0 : Int64))) :
    MetFree l (⟨"com/example/runs_to_nets/runstonets/core/PlaceTransitionSynthesisNegatedPinLaw", "ok", "([J[J[JII)Z"⟩ : MethodName) (head1 (Jvm.Cond.code (⟨"com/example/runs_to_nets/runstonets/core/PlaceTransitionSynthesisNegatedPinLaw", "ok", "([J[J[JII)Z"⟩ : MethodName) method_3_code 5 (some .boolean) :: ws) ({ frames := 0, cells := 0, slots := 0, locals := 0 } : Room)) (fun aa_ U_ => aa_ = #[(.ref a), (.ref b), (.ref d), (.int (1 : Int32)), (.int (4 : Int32))] ∧ Z.Warmed39 U_.vm ∧ U_.heap = h0) (fun _ _ _ _ _ => True) (fun _ U_ o_ V_ => ∃ v_ L_, o_ = .returned v_ ∧ QK41 Z a b d kc_a v0 v1 v2 v3 kc_b kc_d v4 h0 n0 v_ V_.heap L_ ∧ FrameEnd U_ o_ V_ L_ ({ frames := 0, cells := 0, slots := 0, locals := 0 } : Room).cells ({ frames := 0, cells := 0, slots := 0, locals := 0 } : Room).slots) := by
  refine MetFree.of_bodySF (plainFor_of_name pnK41) hisR ?_
  intro p e s m args below meth c s₁ Bd hml0 hP hK
  obtain ⟨rfl, hZ, hh⟩ := hP
  have hx := Bd.exec
  have hby := Bd.bytes
  have hml : c.maxLocals = 5 := hml0
  have hown : s.vm.findClass "com/example/runs_to_nets/runstonets/core/PlaceTransitionSynthesisNegatedPinLaw" = some m.cls := findClass_of_methodNamed Bd.named
  have hnm := (name_of_methodNamed Bd.named Bd.method).1
  have hlk : meth.locks = false := BodyLoose.notSynchronized Bd
  have hret : meth.sig.returnType = (some .boolean) := Bd.returns
  have X0 : Stand p l e ({ frames := 0, cells := 0, slots := 0, locals := 0 } : Room) s m #[(.ref a), (.ref b), (.ref d), (.int (1 : Int32)), (.int (4 : Int32))] below meth c s₁ [] 0 0 := Stand.of_body Bd
  have e0 : s₁.heap = h0 := by rw [← hh, Bd.state]; rfl
  have N0 := Fr.nil n0
  show Go p e below s ({ frames := 0, cells := 0, slots := 0, locals := 0 } : Room).cells ({ frames := 0, cells := 0, slots := 0, locals := 0 } : Room).slots (QK41 Z a b d kc_a v0 v1 v2 v3 kc_b kc_d v4 h0 n0) (s₁.setTop (entryFrame m #[(.ref a), (.ref b), (.ref d), (.int (1 : Int32)), (.int (4 : Int32))] 5))
  rw [efK41]
  refine Go.by (fun _ kont => XS.iloadN X0.here hx rfl (hb hby dK41_0) rfl (XS.iload X0.here hx rfl (hb hby dK41_1) rfl kont)) ?_
  show Go _ _ _ _ _ _ _ (s₁.setTop (mkF m 3 #[.val (.ref a), .val (.ref b), .val (.ref d), .val (.int (1 : Int32)), .val (.int (4 : Int32))] [(.int (4 : Int32)), (.int (1 : Int32))]))
  refine Go.by (fun _ kont => XS.icmpYes X0.here hx rfl (pc0 := 3) (pc' := 8) rfl (hb hby dK41_3) rfl (by decide) (by decide) (by decide) kont) ?_
  show Go _ _ _ _ _ _ _ (s₁.setTop (mkF m 8 #[.val (.ref a), .val (.ref b), .val (.ref d), .val (.int (1 : Int32)), .val (.int (4 : Int32))] []))
  refine Go.by (fun _ kont => XS.aloadN X0.here hx rfl (hb hby dK41_8) rfl rfl (XS.iloadN X0.here hx rfl (hb hby dK41_9) rfl kont)) ?_
  show Go _ _ _ _ _ _ _ (s₁.setTop (mkF m 10 #[.val (.ref a), .val (.ref b), .val (.ref d), .val (.int (1 : Int32)), .val (.int (4 : Int32))] [(.int (1 : Int32)), (.ref a)]))
  obtain ⟨cl_q101, Ar_q101, q1_q101, S_q101, N_q101, H_q101, G_q101⟩ := id V0_a
  have hin_q101 : ¬ ((1 : Int32) < 0 ∨ cl_q101.slots.size ≤ ((1 : Int32)).toNatClampNeg) := inb_of S_q101 ⟨by decide, by decide⟩
  have hat_q101 : cl_q101.slots[((1 : Int32)).toNatClampNeg]? = some (.long v1) := Has.at H_q101 hin_q101 rfl
  refine Go.by (X0.laload hx (j := (1 : Int32)) (v := (.long v1)) (by first | exact Ar_q101.1 | (rw [e0]; exact Ar_q101.1)) (State.isArrayOf_alike hZ.alike Ar_q101.2.1) Ar_q101.2.2 hin_q101 hat_q101 (g := (mkF m 10 #[.val (.ref a), .val (.ref b), .val (.ref d), .val (.int (1 : Int32)), .val (.int (4 : Int32))] [(.int (1 : Int32)), (.ref a)])) rfl rfl (hb hby dK41_10)) ?_
  show Go _ _ _ _ _ _ _ (s₁.setTop (mkF m 11 #[.val (.ref a), .val (.ref b), .val (.ref d), .val (.int (1 : Int32)), .val (.int (4 : Int32))] [(.long v1)]))
  refine Go.by (fun _ kont => XS.aloadN X0.here hx rfl (hb hby dK41_11) rfl rfl (XS.iloadN X0.here hx rfl (hb hby dK41_12) rfl kont)) ?_
  show Go _ _ _ _ _ _ _ (s₁.setTop (mkF m 13 #[.val (.ref a), .val (.ref b), .val (.ref d), .val (.int (1 : Int32)), .val (.int (4 : Int32))] [(.int (1 : Int32)), (.ref d), (.long v1)]))
  obtain ⟨cl_q102, Ar_q102, q1_q102, S_q102, N_q102, H_q102, G_q102⟩ := id V0_d
  have hin_q102 : ¬ ((1 : Int32) < 0 ∨ cl_q102.slots.size ≤ ((1 : Int32)).toNatClampNeg) := inb_of S_q102 ⟨by decide, by decide⟩
  have hat_q102 : cl_q102.slots[((1 : Int32)).toNatClampNeg]? = some (.long v1) := Has.at H_q102 hin_q102 rfl
  refine Go.by (X0.laload hx (j := (1 : Int32)) (v := (.long v1)) (by first | exact Ar_q102.1 | (rw [e0]; exact Ar_q102.1)) (State.isArrayOf_alike hZ.alike Ar_q102.2.1) Ar_q102.2.2 hin_q102 hat_q102 (g := (mkF m 13 #[.val (.ref a), .val (.ref b), .val (.ref d), .val (.int (1 : Int32)), .val (.int (4 : Int32))] [(.int (1 : Int32)), (.ref d), (.long v1)])) rfl rfl (hb hby dK41_13)) ?_
  show Go _ _ _ _ _ _ _ (s₁.setTop (mkF m 14 #[.val (.ref a), .val (.ref b), .val (.ref d), .val (.int (1 : Int32)), .val (.int (4 : Int32))] [(.long v1), (.long v1)]))
  refine Go.by (fun _ kont => XS.lcmp X0.here hx rfl (hb hby dK41_14) rfl kont) ?_
  show Go _ _ _ _ _ _ _ (s₁.setTop (mkF m 15 #[.val (.ref a), .val (.ref b), .val (.ref d), .val (.int (1 : Int32)), .val (.int (4 : Int32))] [(.int (lcmpW v1 v1))]))
  refine Go.by (fun _ kont => XS.ifNo X0.here hx rfl (hb hby dK41_15) rfl ((if0 _ _).trans (teq ((lw_eq _ _).mpr rfl)).2) kont) ?_
  show Go _ _ _ _ _ _ _ (s₁.setTop (mkF m 18 #[.val (.ref a), .val (.ref b), .val (.ref d), .val (.int (1 : Int32)), .val (.int (4 : Int32))] []))
  refine Go.by (fun _ kont => XS.aloadN X0.here hx rfl (hb hby dK41_18) rfl rfl (XS.iloadN X0.here hx rfl (hb hby dK41_19) rfl kont)) ?_
  show Go _ _ _ _ _ _ _ (s₁.setTop (mkF m 20 #[.val (.ref a), .val (.ref b), .val (.ref d), .val (.int (1 : Int32)), .val (.int (4 : Int32))] [(.int (1 : Int32)), (.ref a)]))
  obtain ⟨cl_q103, Ar_q103, q1_q103, S_q103, N_q103, H_q103, G_q103⟩ := id V0_a
  have hin_q103 : ¬ ((1 : Int32) < 0 ∨ cl_q103.slots.size ≤ ((1 : Int32)).toNatClampNeg) := inb_of S_q103 ⟨by decide, by decide⟩
  have hat_q103 : cl_q103.slots[((1 : Int32)).toNatClampNeg]? = some (.long v1) := Has.at H_q103 hin_q103 rfl
  refine Go.by (X0.laload hx (j := (1 : Int32)) (v := (.long v1)) (by first | exact Ar_q103.1 | (rw [e0]; exact Ar_q103.1)) (State.isArrayOf_alike hZ.alike Ar_q103.2.1) Ar_q103.2.2 hin_q103 hat_q103 (g := (mkF m 20 #[.val (.ref a), .val (.ref b), .val (.ref d), .val (.int (1 : Int32)), .val (.int (4 : Int32))] [(.int (1 : Int32)), (.ref a)])) rfl rfl (hb hby dK41_20)) ?_
  show Go _ _ _ _ _ _ _ (s₁.setTop (mkF m 21 #[.val (.ref a), .val (.ref b), .val (.ref d), .val (.int (1 : Int32)), .val (.int (4 : Int32))] [(.long v1)]))
  refine Go.by (fun _ kont => XS.aloadN X0.here hx rfl (hb hby dK41_21) rfl rfl (XS.iloadN X0.here hx rfl (hb hby dK41_22) rfl kont)) ?_
  show Go _ _ _ _ _ _ _ (s₁.setTop (mkF m 23 #[.val (.ref a), .val (.ref b), .val (.ref d), .val (.int (1 : Int32)), .val (.int (4 : Int32))] [(.int (1 : Int32)), (.ref b), (.long v1)]))
  obtain ⟨cl_q104, Ar_q104, q1_q104, S_q104, N_q104, H_q104, G_q104⟩ := id V0_b
  have hin_q104 : ¬ ((1 : Int32) < 0 ∨ cl_q104.slots.size ≤ ((1 : Int32)).toNatClampNeg) := inb_of S_q104 ⟨by decide, by decide⟩
  have hat_q104 : cl_q104.slots[((1 : Int32)).toNatClampNeg]? = some (.long (-v1)) := Has.at H_q104 hin_q104 rfl
  refine Go.by (X0.laload hx (j := (1 : Int32)) (v := (.long (-v1))) (by first | exact Ar_q104.1 | (rw [e0]; exact Ar_q104.1)) (State.isArrayOf_alike hZ.alike Ar_q104.2.1) Ar_q104.2.2 hin_q104 hat_q104 (g := (mkF m 23 #[.val (.ref a), .val (.ref b), .val (.ref d), .val (.int (1 : Int32)), .val (.int (4 : Int32))] [(.int (1 : Int32)), (.ref b), (.long v1)])) rfl rfl (hb hby dK41_23)) ?_
  show Go _ _ _ _ _ _ _ (s₁.setTop (mkF m 24 #[.val (.ref a), .val (.ref b), .val (.ref d), .val (.int (1 : Int32)), .val (.int (4 : Int32))] [(.long (-v1)), (.long v1)]))
  refine Go.by (fun _ kont => XS.ladd X0.here hx rfl (hb hby dK41_24) rfl (XS.lconst X0.here hx rfl (hb hby dK41_25) (XS.lcmp X0.here hx rfl (hb hby dK41_26) rfl kont))) ?_
  show Go _ _ _ _ _ _ _ (s₁.setTop (mkF m 27 #[.val (.ref a), .val (.ref b), .val (.ref d), .val (.int (1 : Int32)), .val (.int (4 : Int32))] [(.int (lcmpW (v1 + (-v1)) (0 : Int64)))]))
  have hd105 : (v1 + (-v1)) = (0 : Int64) := Int64.add_right_neg _
  refine Go.by (fun _ kont => XS.ifNo X0.here hx rfl (hb hby dK41_27) rfl ((if0 _ _).trans (teq ((lw_eq _ _).mpr hd105)).2) kont) ?_
  show Go _ _ _ _ _ _ _ (s₁.setTop (mkF m 30 #[.val (.ref a), .val (.ref b), .val (.ref d), .val (.int (1 : Int32)), .val (.int (4 : Int32))] []))
  refine Go.by (fun _ kont => XS.iconst X0.here hx rfl (hb hby dK41_30) (XS.goto X0.here hx rfl (pc0 := 31) (pc' := 35) rfl (hb hby dK41_31) (by decide) (by decide) kont)) ?_
  show Go _ _ _ _ _ _ _ (s₁.setTop (mkF m 35 #[.val (.ref a), .val (.ref b), .val (.ref d), .val (.int (1 : Int32)), .val (.int (4 : Int32))] [(.int (1 : Int32))]))
  refine Go.retN X0 hx (t := .boolean) hret (by simp) hlk (hb hby dK41_35) ?_ (by decide) (by decide)
  show QK41 Z a b d kc_a v0 v1 v2 v3 kc_b kc_d v4 h0 n0 (some (.int (1 : Int32))) s₁.heap _
  rw [e0]
  exact ⟨rfl, N0, rfl⟩

theorem dK42_0 : decode method_3_code 0 = .ok (.iload_n 3, 1) := by decide +kernel
theorem dK42_1 : decode method_3_code 1 = .ok (.iload 4, 2) := by decide +kernel
theorem dK42_3 : decode method_3_code 3 = .ok (.if_icmp .lt 5, 3) := by decide +kernel
theorem dK42_8 : decode method_3_code 8 = .ok (.aload_n 0, 1) := by decide +kernel
theorem dK42_9 : decode method_3_code 9 = .ok (.iload_n 3, 1) := by decide +kernel
theorem dK42_10 : decode method_3_code 10 = .ok (.laload, 1) := by decide +kernel
theorem dK42_11 : decode method_3_code 11 = .ok (.aload_n 2, 1) := by decide +kernel
theorem dK42_12 : decode method_3_code 12 = .ok (.iload_n 3, 1) := by decide +kernel
theorem dK42_13 : decode method_3_code 13 = .ok (.laload, 1) := by decide +kernel
theorem dK42_14 : decode method_3_code 14 = .ok (.lcmp, 1) := by decide +kernel
theorem dK42_15 : decode method_3_code 15 = .ok (.ifCond .ne 19, 3) := by decide +kernel
theorem dK42_18 : decode method_3_code 18 = .ok (.aload_n 0, 1) := by decide +kernel
theorem dK42_19 : decode method_3_code 19 = .ok (.iload_n 3, 1) := by decide +kernel
theorem dK42_20 : decode method_3_code 20 = .ok (.laload, 1) := by decide +kernel
theorem dK42_21 : decode method_3_code 21 = .ok (.aload_n 1, 1) := by decide +kernel
theorem dK42_22 : decode method_3_code 22 = .ok (.iload_n 3, 1) := by decide +kernel
theorem dK42_23 : decode method_3_code 23 = .ok (.laload, 1) := by decide +kernel
theorem dK42_24 : decode method_3_code 24 = .ok (.ladd, 1) := by decide +kernel
theorem dK42_25 : decode method_3_code 25 = .ok (.lconst 0, 1) := by decide +kernel
theorem dK42_26 : decode method_3_code 26 = .ok (.lcmp, 1) := by decide +kernel
theorem dK42_27 : decode method_3_code 27 = .ok (.ifCond .ne 7, 3) := by decide +kernel
theorem dK42_30 : decode method_3_code 30 = .ok (.iconst 1, 1) := by decide +kernel
theorem dK42_31 : decode method_3_code 31 = .ok (.goto 4, 3) := by decide +kernel
theorem dK42_35 : decode method_3_code 35 = .ok (.ireturn, 1) := by decide +kernel
theorem pnK42 : plainName "com/example/runs_to_nets/runstonets/core/PlaceTransitionSynthesisNegatedPinLaw" = true := by first | (simp [plainName, overriddenIn]; done) | decide +kernel
theorem efK42 (m : MethodId) (a : Addr) (b : Addr) (d : Addr) : entryFrame m #[(.ref a), (.ref b), (.ref d), (.int (2 : Int32)), (.int (4 : Int32))] 5 = mkF m 0 #[.val (.ref a), .val (.ref b), .val (.ref d), .val (.int (2 : Int32)), .val (.int (4 : Int32))] [] := by first | (simp [entryFrame, mkF, argsToLocals, Value.category]; done) | rfl
def QK42 (Z : State) (a : Addr) (b : Addr) (d : Addr) (kc_a : ClassId) (v0 : Int64) (v1 : Int64) (v2 : Int64) (v3 : Int64) (kc_b : ClassId) (kc_d : ClassId) (v4 : Int64) (h0 : Heap) (n0 : Nat) (v : Option Value) (h : Heap) (L : List Loc) : Prop := (v = some (.int (1 : Int32)) ∧ Fr n0 L ∧ h = h0)
set_option maxRecDepth 65536 in
set_option maxHeartbeats 40000000 in
theorem rmK42 (l : Launch) (Z : State) (a0 : Array Value) (hw : ∀ d ∈ tables_1, d.before a0 Z = true) (ws : List Jvm.Cond) (a : Addr) (b : Addr) (d : Addr) (kc_a : ClassId) (v0 : Int64) (v1 : Int64) (v2 : Int64) (v3 : Int64) (kc_b : ClassId) (kc_d : ClassId) (v4 : Int64) (h0 : Heap) (n0 : Nat) (Z0 : n0 ≤ h0.size) (V0_a : Arv Z h0 a kc_a .long (4 : Int32) [(.long v0), (.long v1), (.long v2), (.long v3)] (.long (0 : Int64))) (V0_b : Arv Z h0 b kc_b .long (4 : Int32) [(.long (-v0)), (.long (-v1)), (.long (-v2)), (.long (-v3))] (.long (0 : Int64))) (V0_d : Arv Z h0 d kc_d .long (5 : Int32) [(.long v0), (.long v1), (.long v2), (.long v3), (.long v4)] (.long (0 : Int64))) :
    MetFree l (⟨"com/example/runs_to_nets/runstonets/core/PlaceTransitionSynthesisNegatedPinLaw", "ok", "([J[J[JII)Z"⟩ : MethodName) (head1 (Jvm.Cond.code (⟨"com/example/runs_to_nets/runstonets/core/PlaceTransitionSynthesisNegatedPinLaw", "ok", "([J[J[JII)Z"⟩ : MethodName) method_3_code 5 (some .boolean) :: ws) ({ frames := 0, cells := 0, slots := 0, locals := 0 } : Room)) (fun aa_ U_ => aa_ = #[(.ref a), (.ref b), (.ref d), (.int (2 : Int32)), (.int (4 : Int32))] ∧ Z.Warmed39 U_.vm ∧ U_.heap = h0) (fun _ _ _ _ _ => True) (fun _ U_ o_ V_ => ∃ v_ L_, o_ = .returned v_ ∧ QK42 Z a b d kc_a v0 v1 v2 v3 kc_b kc_d v4 h0 n0 v_ V_.heap L_ ∧ FrameEnd U_ o_ V_ L_ ({ frames := 0, cells := 0, slots := 0, locals := 0 } : Room).cells ({ frames := 0, cells := 0, slots := 0, locals := 0 } : Room).slots) := by
  refine MetFree.of_bodySF (plainFor_of_name pnK42) hisR ?_
  intro p e s m args below meth c s₁ Bd hml0 hP hK
  obtain ⟨rfl, hZ, hh⟩ := hP
  have hx := Bd.exec
  have hby := Bd.bytes
  have hml : c.maxLocals = 5 := hml0
  have hown : s.vm.findClass "com/example/runs_to_nets/runstonets/core/PlaceTransitionSynthesisNegatedPinLaw" = some m.cls := findClass_of_methodNamed Bd.named
  have hnm := (name_of_methodNamed Bd.named Bd.method).1
  have hlk : meth.locks = false := BodyLoose.notSynchronized Bd
  have hret : meth.sig.returnType = (some .boolean) := Bd.returns
  have X0 : Stand p l e ({ frames := 0, cells := 0, slots := 0, locals := 0 } : Room) s m #[(.ref a), (.ref b), (.ref d), (.int (2 : Int32)), (.int (4 : Int32))] below meth c s₁ [] 0 0 := Stand.of_body Bd
  have e0 : s₁.heap = h0 := by rw [← hh, Bd.state]; rfl
  have N0 := Fr.nil n0
  show Go p e below s ({ frames := 0, cells := 0, slots := 0, locals := 0 } : Room).cells ({ frames := 0, cells := 0, slots := 0, locals := 0 } : Room).slots (QK42 Z a b d kc_a v0 v1 v2 v3 kc_b kc_d v4 h0 n0) (s₁.setTop (entryFrame m #[(.ref a), (.ref b), (.ref d), (.int (2 : Int32)), (.int (4 : Int32))] 5))
  rw [efK42]
  refine Go.by (fun _ kont => XS.iloadN X0.here hx rfl (hb hby dK42_0) rfl (XS.iload X0.here hx rfl (hb hby dK42_1) rfl kont)) ?_
  show Go _ _ _ _ _ _ _ (s₁.setTop (mkF m 3 #[.val (.ref a), .val (.ref b), .val (.ref d), .val (.int (2 : Int32)), .val (.int (4 : Int32))] [(.int (4 : Int32)), (.int (2 : Int32))]))
  refine Go.by (fun _ kont => XS.icmpYes X0.here hx rfl (pc0 := 3) (pc' := 8) rfl (hb hby dK42_3) rfl (by decide) (by decide) (by decide) kont) ?_
  show Go _ _ _ _ _ _ _ (s₁.setTop (mkF m 8 #[.val (.ref a), .val (.ref b), .val (.ref d), .val (.int (2 : Int32)), .val (.int (4 : Int32))] []))
  refine Go.by (fun _ kont => XS.aloadN X0.here hx rfl (hb hby dK42_8) rfl rfl (XS.iloadN X0.here hx rfl (hb hby dK42_9) rfl kont)) ?_
  show Go _ _ _ _ _ _ _ (s₁.setTop (mkF m 10 #[.val (.ref a), .val (.ref b), .val (.ref d), .val (.int (2 : Int32)), .val (.int (4 : Int32))] [(.int (2 : Int32)), (.ref a)]))
  obtain ⟨cl_q101, Ar_q101, q1_q101, S_q101, N_q101, H_q101, G_q101⟩ := id V0_a
  have hin_q101 : ¬ ((2 : Int32) < 0 ∨ cl_q101.slots.size ≤ ((2 : Int32)).toNatClampNeg) := inb_of S_q101 ⟨by decide, by decide⟩
  have hat_q101 : cl_q101.slots[((2 : Int32)).toNatClampNeg]? = some (.long v2) := Has.at H_q101 hin_q101 rfl
  refine Go.by (X0.laload hx (j := (2 : Int32)) (v := (.long v2)) (by first | exact Ar_q101.1 | (rw [e0]; exact Ar_q101.1)) (State.isArrayOf_alike hZ.alike Ar_q101.2.1) Ar_q101.2.2 hin_q101 hat_q101 (g := (mkF m 10 #[.val (.ref a), .val (.ref b), .val (.ref d), .val (.int (2 : Int32)), .val (.int (4 : Int32))] [(.int (2 : Int32)), (.ref a)])) rfl rfl (hb hby dK42_10)) ?_
  show Go _ _ _ _ _ _ _ (s₁.setTop (mkF m 11 #[.val (.ref a), .val (.ref b), .val (.ref d), .val (.int (2 : Int32)), .val (.int (4 : Int32))] [(.long v2)]))
  refine Go.by (fun _ kont => XS.aloadN X0.here hx rfl (hb hby dK42_11) rfl rfl (XS.iloadN X0.here hx rfl (hb hby dK42_12) rfl kont)) ?_
  show Go _ _ _ _ _ _ _ (s₁.setTop (mkF m 13 #[.val (.ref a), .val (.ref b), .val (.ref d), .val (.int (2 : Int32)), .val (.int (4 : Int32))] [(.int (2 : Int32)), (.ref d), (.long v2)]))
  obtain ⟨cl_q102, Ar_q102, q1_q102, S_q102, N_q102, H_q102, G_q102⟩ := id V0_d
  have hin_q102 : ¬ ((2 : Int32) < 0 ∨ cl_q102.slots.size ≤ ((2 : Int32)).toNatClampNeg) := inb_of S_q102 ⟨by decide, by decide⟩
  have hat_q102 : cl_q102.slots[((2 : Int32)).toNatClampNeg]? = some (.long v2) := Has.at H_q102 hin_q102 rfl
  refine Go.by (X0.laload hx (j := (2 : Int32)) (v := (.long v2)) (by first | exact Ar_q102.1 | (rw [e0]; exact Ar_q102.1)) (State.isArrayOf_alike hZ.alike Ar_q102.2.1) Ar_q102.2.2 hin_q102 hat_q102 (g := (mkF m 13 #[.val (.ref a), .val (.ref b), .val (.ref d), .val (.int (2 : Int32)), .val (.int (4 : Int32))] [(.int (2 : Int32)), (.ref d), (.long v2)])) rfl rfl (hb hby dK42_13)) ?_
  show Go _ _ _ _ _ _ _ (s₁.setTop (mkF m 14 #[.val (.ref a), .val (.ref b), .val (.ref d), .val (.int (2 : Int32)), .val (.int (4 : Int32))] [(.long v2), (.long v2)]))
  refine Go.by (fun _ kont => XS.lcmp X0.here hx rfl (hb hby dK42_14) rfl kont) ?_
  show Go _ _ _ _ _ _ _ (s₁.setTop (mkF m 15 #[.val (.ref a), .val (.ref b), .val (.ref d), .val (.int (2 : Int32)), .val (.int (4 : Int32))] [(.int (lcmpW v2 v2))]))
  refine Go.by (fun _ kont => XS.ifNo X0.here hx rfl (hb hby dK42_15) rfl ((if0 _ _).trans (teq ((lw_eq _ _).mpr rfl)).2) kont) ?_
  show Go _ _ _ _ _ _ _ (s₁.setTop (mkF m 18 #[.val (.ref a), .val (.ref b), .val (.ref d), .val (.int (2 : Int32)), .val (.int (4 : Int32))] []))
  refine Go.by (fun _ kont => XS.aloadN X0.here hx rfl (hb hby dK42_18) rfl rfl (XS.iloadN X0.here hx rfl (hb hby dK42_19) rfl kont)) ?_
  show Go _ _ _ _ _ _ _ (s₁.setTop (mkF m 20 #[.val (.ref a), .val (.ref b), .val (.ref d), .val (.int (2 : Int32)), .val (.int (4 : Int32))] [(.int (2 : Int32)), (.ref a)]))
  obtain ⟨cl_q103, Ar_q103, q1_q103, S_q103, N_q103, H_q103, G_q103⟩ := id V0_a
  have hin_q103 : ¬ ((2 : Int32) < 0 ∨ cl_q103.slots.size ≤ ((2 : Int32)).toNatClampNeg) := inb_of S_q103 ⟨by decide, by decide⟩
  have hat_q103 : cl_q103.slots[((2 : Int32)).toNatClampNeg]? = some (.long v2) := Has.at H_q103 hin_q103 rfl
  refine Go.by (X0.laload hx (j := (2 : Int32)) (v := (.long v2)) (by first | exact Ar_q103.1 | (rw [e0]; exact Ar_q103.1)) (State.isArrayOf_alike hZ.alike Ar_q103.2.1) Ar_q103.2.2 hin_q103 hat_q103 (g := (mkF m 20 #[.val (.ref a), .val (.ref b), .val (.ref d), .val (.int (2 : Int32)), .val (.int (4 : Int32))] [(.int (2 : Int32)), (.ref a)])) rfl rfl (hb hby dK42_20)) ?_
  show Go _ _ _ _ _ _ _ (s₁.setTop (mkF m 21 #[.val (.ref a), .val (.ref b), .val (.ref d), .val (.int (2 : Int32)), .val (.int (4 : Int32))] [(.long v2)]))
  refine Go.by (fun _ kont => XS.aloadN X0.here hx rfl (hb hby dK42_21) rfl rfl (XS.iloadN X0.here hx rfl (hb hby dK42_22) rfl kont)) ?_
  show Go _ _ _ _ _ _ _ (s₁.setTop (mkF m 23 #[.val (.ref a), .val (.ref b), .val (.ref d), .val (.int (2 : Int32)), .val (.int (4 : Int32))] [(.int (2 : Int32)), (.ref b), (.long v2)]))
  obtain ⟨cl_q104, Ar_q104, q1_q104, S_q104, N_q104, H_q104, G_q104⟩ := id V0_b
  have hin_q104 : ¬ ((2 : Int32) < 0 ∨ cl_q104.slots.size ≤ ((2 : Int32)).toNatClampNeg) := inb_of S_q104 ⟨by decide, by decide⟩
  have hat_q104 : cl_q104.slots[((2 : Int32)).toNatClampNeg]? = some (.long (-v2)) := Has.at H_q104 hin_q104 rfl
  refine Go.by (X0.laload hx (j := (2 : Int32)) (v := (.long (-v2))) (by first | exact Ar_q104.1 | (rw [e0]; exact Ar_q104.1)) (State.isArrayOf_alike hZ.alike Ar_q104.2.1) Ar_q104.2.2 hin_q104 hat_q104 (g := (mkF m 23 #[.val (.ref a), .val (.ref b), .val (.ref d), .val (.int (2 : Int32)), .val (.int (4 : Int32))] [(.int (2 : Int32)), (.ref b), (.long v2)])) rfl rfl (hb hby dK42_23)) ?_
  show Go _ _ _ _ _ _ _ (s₁.setTop (mkF m 24 #[.val (.ref a), .val (.ref b), .val (.ref d), .val (.int (2 : Int32)), .val (.int (4 : Int32))] [(.long (-v2)), (.long v2)]))
  refine Go.by (fun _ kont => XS.ladd X0.here hx rfl (hb hby dK42_24) rfl (XS.lconst X0.here hx rfl (hb hby dK42_25) (XS.lcmp X0.here hx rfl (hb hby dK42_26) rfl kont))) ?_
  show Go _ _ _ _ _ _ _ (s₁.setTop (mkF m 27 #[.val (.ref a), .val (.ref b), .val (.ref d), .val (.int (2 : Int32)), .val (.int (4 : Int32))] [(.int (lcmpW (v2 + (-v2)) (0 : Int64)))]))
  have hd105 : (v2 + (-v2)) = (0 : Int64) := Int64.add_right_neg _
  refine Go.by (fun _ kont => XS.ifNo X0.here hx rfl (hb hby dK42_27) rfl ((if0 _ _).trans (teq ((lw_eq _ _).mpr hd105)).2) kont) ?_
  show Go _ _ _ _ _ _ _ (s₁.setTop (mkF m 30 #[.val (.ref a), .val (.ref b), .val (.ref d), .val (.int (2 : Int32)), .val (.int (4 : Int32))] []))
  refine Go.by (fun _ kont => XS.iconst X0.here hx rfl (hb hby dK42_30) (XS.goto X0.here hx rfl (pc0 := 31) (pc' := 35) rfl (hb hby dK42_31) (by decide) (by decide) kont)) ?_
  show Go _ _ _ _ _ _ _ (s₁.setTop (mkF m 35 #[.val (.ref a), .val (.ref b), .val (.ref d), .val (.int (2 : Int32)), .val (.int (4 : Int32))] [(.int (1 : Int32))]))
  refine Go.retN X0 hx (t := .boolean) hret (by simp) hlk (hb hby dK42_35) ?_ (by decide) (by decide)
  show QK42 Z a b d kc_a v0 v1 v2 v3 kc_b kc_d v4 h0 n0 (some (.int (1 : Int32))) s₁.heap _
  rw [e0]
  exact ⟨rfl, N0, rfl⟩

theorem dK43_0 : decode method_3_code 0 = .ok (.iload_n 3, 1) := by decide +kernel
theorem dK43_1 : decode method_3_code 1 = .ok (.iload 4, 2) := by decide +kernel
theorem dK43_3 : decode method_3_code 3 = .ok (.if_icmp .lt 5, 3) := by decide +kernel
theorem dK43_8 : decode method_3_code 8 = .ok (.aload_n 0, 1) := by decide +kernel
theorem dK43_9 : decode method_3_code 9 = .ok (.iload_n 3, 1) := by decide +kernel
theorem dK43_10 : decode method_3_code 10 = .ok (.laload, 1) := by decide +kernel
theorem dK43_11 : decode method_3_code 11 = .ok (.aload_n 2, 1) := by decide +kernel
theorem dK43_12 : decode method_3_code 12 = .ok (.iload_n 3, 1) := by decide +kernel
theorem dK43_13 : decode method_3_code 13 = .ok (.laload, 1) := by decide +kernel
theorem dK43_14 : decode method_3_code 14 = .ok (.lcmp, 1) := by decide +kernel
theorem dK43_15 : decode method_3_code 15 = .ok (.ifCond .ne 19, 3) := by decide +kernel
theorem dK43_18 : decode method_3_code 18 = .ok (.aload_n 0, 1) := by decide +kernel
theorem dK43_19 : decode method_3_code 19 = .ok (.iload_n 3, 1) := by decide +kernel
theorem dK43_20 : decode method_3_code 20 = .ok (.laload, 1) := by decide +kernel
theorem dK43_21 : decode method_3_code 21 = .ok (.aload_n 1, 1) := by decide +kernel
theorem dK43_22 : decode method_3_code 22 = .ok (.iload_n 3, 1) := by decide +kernel
theorem dK43_23 : decode method_3_code 23 = .ok (.laload, 1) := by decide +kernel
theorem dK43_24 : decode method_3_code 24 = .ok (.ladd, 1) := by decide +kernel
theorem dK43_25 : decode method_3_code 25 = .ok (.lconst 0, 1) := by decide +kernel
theorem dK43_26 : decode method_3_code 26 = .ok (.lcmp, 1) := by decide +kernel
theorem dK43_27 : decode method_3_code 27 = .ok (.ifCond .ne 7, 3) := by decide +kernel
theorem dK43_30 : decode method_3_code 30 = .ok (.iconst 1, 1) := by decide +kernel
theorem dK43_31 : decode method_3_code 31 = .ok (.goto 4, 3) := by decide +kernel
theorem dK43_35 : decode method_3_code 35 = .ok (.ireturn, 1) := by decide +kernel
theorem pnK43 : plainName "com/example/runs_to_nets/runstonets/core/PlaceTransitionSynthesisNegatedPinLaw" = true := by first | (simp [plainName, overriddenIn]; done) | decide +kernel
theorem efK43 (m : MethodId) (a : Addr) (b : Addr) (d : Addr) : entryFrame m #[(.ref a), (.ref b), (.ref d), (.int (3 : Int32)), (.int (4 : Int32))] 5 = mkF m 0 #[.val (.ref a), .val (.ref b), .val (.ref d), .val (.int (3 : Int32)), .val (.int (4 : Int32))] [] := by first | (simp [entryFrame, mkF, argsToLocals, Value.category]; done) | rfl
def QK43 (Z : State) (a : Addr) (b : Addr) (d : Addr) (kc_a : ClassId) (v0 : Int64) (v1 : Int64) (v2 : Int64) (v3 : Int64) (kc_b : ClassId) (kc_d : ClassId) (v4 : Int64) (h0 : Heap) (n0 : Nat) (v : Option Value) (h : Heap) (L : List Loc) : Prop := (v = some (.int (1 : Int32)) ∧ Fr n0 L ∧ h = h0)
set_option maxRecDepth 65536 in
set_option maxHeartbeats 40000000 in
theorem rmK43 (l : Launch) (Z : State) (a0 : Array Value) (hw : ∀ d ∈ tables_1, d.before a0 Z = true) (ws : List Jvm.Cond) (a : Addr) (b : Addr) (d : Addr) (kc_a : ClassId) (v0 : Int64) (v1 : Int64) (v2 : Int64) (v3 : Int64) (kc_b : ClassId) (kc_d : ClassId) (v4 : Int64) (h0 : Heap) (n0 : Nat) (Z0 : n0 ≤ h0.size) (V0_a : Arv Z h0 a kc_a .long (4 : Int32) [(.long v0), (.long v1), (.long v2), (.long v3)] (.long (0 : Int64))) (V0_b : Arv Z h0 b kc_b .long (4 : Int32) [(.long (-v0)), (.long (-v1)), (.long (-v2)), (.long (-v3))] (.long (0 : Int64))) (V0_d : Arv Z h0 d kc_d .long (5 : Int32) [(.long v0), (.long v1), (.long v2), (.long v3), (.long v4)] (.long (0 : Int64))) :
    MetFree l (⟨"com/example/runs_to_nets/runstonets/core/PlaceTransitionSynthesisNegatedPinLaw", "ok", "([J[J[JII)Z"⟩ : MethodName) (head1 (Jvm.Cond.code (⟨"com/example/runs_to_nets/runstonets/core/PlaceTransitionSynthesisNegatedPinLaw", "ok", "([J[J[JII)Z"⟩ : MethodName) method_3_code 5 (some .boolean) :: ws) ({ frames := 0, cells := 0, slots := 0, locals := 0 } : Room)) (fun aa_ U_ => aa_ = #[(.ref a), (.ref b), (.ref d), (.int (3 : Int32)), (.int (4 : Int32))] ∧ Z.Warmed39 U_.vm ∧ U_.heap = h0) (fun _ _ _ _ _ => True) (fun _ U_ o_ V_ => ∃ v_ L_, o_ = .returned v_ ∧ QK43 Z a b d kc_a v0 v1 v2 v3 kc_b kc_d v4 h0 n0 v_ V_.heap L_ ∧ FrameEnd U_ o_ V_ L_ ({ frames := 0, cells := 0, slots := 0, locals := 0 } : Room).cells ({ frames := 0, cells := 0, slots := 0, locals := 0 } : Room).slots) := by
  refine MetFree.of_bodySF (plainFor_of_name pnK43) hisR ?_
  intro p e s m args below meth c s₁ Bd hml0 hP hK
  obtain ⟨rfl, hZ, hh⟩ := hP
  have hx := Bd.exec
  have hby := Bd.bytes
  have hml : c.maxLocals = 5 := hml0
  have hown : s.vm.findClass "com/example/runs_to_nets/runstonets/core/PlaceTransitionSynthesisNegatedPinLaw" = some m.cls := findClass_of_methodNamed Bd.named
  have hnm := (name_of_methodNamed Bd.named Bd.method).1
  have hlk : meth.locks = false := BodyLoose.notSynchronized Bd
  have hret : meth.sig.returnType = (some .boolean) := Bd.returns
  have X0 : Stand p l e ({ frames := 0, cells := 0, slots := 0, locals := 0 } : Room) s m #[(.ref a), (.ref b), (.ref d), (.int (3 : Int32)), (.int (4 : Int32))] below meth c s₁ [] 0 0 := Stand.of_body Bd
  have e0 : s₁.heap = h0 := by rw [← hh, Bd.state]; rfl
  have N0 := Fr.nil n0
  show Go p e below s ({ frames := 0, cells := 0, slots := 0, locals := 0 } : Room).cells ({ frames := 0, cells := 0, slots := 0, locals := 0 } : Room).slots (QK43 Z a b d kc_a v0 v1 v2 v3 kc_b kc_d v4 h0 n0) (s₁.setTop (entryFrame m #[(.ref a), (.ref b), (.ref d), (.int (3 : Int32)), (.int (4 : Int32))] 5))
  rw [efK43]
  refine Go.by (fun _ kont => XS.iloadN X0.here hx rfl (hb hby dK43_0) rfl (XS.iload X0.here hx rfl (hb hby dK43_1) rfl kont)) ?_
  show Go _ _ _ _ _ _ _ (s₁.setTop (mkF m 3 #[.val (.ref a), .val (.ref b), .val (.ref d), .val (.int (3 : Int32)), .val (.int (4 : Int32))] [(.int (4 : Int32)), (.int (3 : Int32))]))
  refine Go.by (fun _ kont => XS.icmpYes X0.here hx rfl (pc0 := 3) (pc' := 8) rfl (hb hby dK43_3) rfl (by decide) (by decide) (by decide) kont) ?_
  show Go _ _ _ _ _ _ _ (s₁.setTop (mkF m 8 #[.val (.ref a), .val (.ref b), .val (.ref d), .val (.int (3 : Int32)), .val (.int (4 : Int32))] []))
  refine Go.by (fun _ kont => XS.aloadN X0.here hx rfl (hb hby dK43_8) rfl rfl (XS.iloadN X0.here hx rfl (hb hby dK43_9) rfl kont)) ?_
  show Go _ _ _ _ _ _ _ (s₁.setTop (mkF m 10 #[.val (.ref a), .val (.ref b), .val (.ref d), .val (.int (3 : Int32)), .val (.int (4 : Int32))] [(.int (3 : Int32)), (.ref a)]))
  obtain ⟨cl_q101, Ar_q101, q1_q101, S_q101, N_q101, H_q101, G_q101⟩ := id V0_a
  have hin_q101 : ¬ ((3 : Int32) < 0 ∨ cl_q101.slots.size ≤ ((3 : Int32)).toNatClampNeg) := inb_of S_q101 ⟨by decide, by decide⟩
  have hat_q101 : cl_q101.slots[((3 : Int32)).toNatClampNeg]? = some (.long v3) := Has.at H_q101 hin_q101 rfl
  refine Go.by (X0.laload hx (j := (3 : Int32)) (v := (.long v3)) (by first | exact Ar_q101.1 | (rw [e0]; exact Ar_q101.1)) (State.isArrayOf_alike hZ.alike Ar_q101.2.1) Ar_q101.2.2 hin_q101 hat_q101 (g := (mkF m 10 #[.val (.ref a), .val (.ref b), .val (.ref d), .val (.int (3 : Int32)), .val (.int (4 : Int32))] [(.int (3 : Int32)), (.ref a)])) rfl rfl (hb hby dK43_10)) ?_
  show Go _ _ _ _ _ _ _ (s₁.setTop (mkF m 11 #[.val (.ref a), .val (.ref b), .val (.ref d), .val (.int (3 : Int32)), .val (.int (4 : Int32))] [(.long v3)]))
  refine Go.by (fun _ kont => XS.aloadN X0.here hx rfl (hb hby dK43_11) rfl rfl (XS.iloadN X0.here hx rfl (hb hby dK43_12) rfl kont)) ?_
  show Go _ _ _ _ _ _ _ (s₁.setTop (mkF m 13 #[.val (.ref a), .val (.ref b), .val (.ref d), .val (.int (3 : Int32)), .val (.int (4 : Int32))] [(.int (3 : Int32)), (.ref d), (.long v3)]))
  obtain ⟨cl_q102, Ar_q102, q1_q102, S_q102, N_q102, H_q102, G_q102⟩ := id V0_d
  have hin_q102 : ¬ ((3 : Int32) < 0 ∨ cl_q102.slots.size ≤ ((3 : Int32)).toNatClampNeg) := inb_of S_q102 ⟨by decide, by decide⟩
  have hat_q102 : cl_q102.slots[((3 : Int32)).toNatClampNeg]? = some (.long v3) := Has.at H_q102 hin_q102 rfl
  refine Go.by (X0.laload hx (j := (3 : Int32)) (v := (.long v3)) (by first | exact Ar_q102.1 | (rw [e0]; exact Ar_q102.1)) (State.isArrayOf_alike hZ.alike Ar_q102.2.1) Ar_q102.2.2 hin_q102 hat_q102 (g := (mkF m 13 #[.val (.ref a), .val (.ref b), .val (.ref d), .val (.int (3 : Int32)), .val (.int (4 : Int32))] [(.int (3 : Int32)), (.ref d), (.long v3)])) rfl rfl (hb hby dK43_13)) ?_
  show Go _ _ _ _ _ _ _ (s₁.setTop (mkF m 14 #[.val (.ref a), .val (.ref b), .val (.ref d), .val (.int (3 : Int32)), .val (.int (4 : Int32))] [(.long v3), (.long v3)]))
  refine Go.by (fun _ kont => XS.lcmp X0.here hx rfl (hb hby dK43_14) rfl kont) ?_
  show Go _ _ _ _ _ _ _ (s₁.setTop (mkF m 15 #[.val (.ref a), .val (.ref b), .val (.ref d), .val (.int (3 : Int32)), .val (.int (4 : Int32))] [(.int (lcmpW v3 v3))]))
  refine Go.by (fun _ kont => XS.ifNo X0.here hx rfl (hb hby dK43_15) rfl ((if0 _ _).trans (teq ((lw_eq _ _).mpr rfl)).2) kont) ?_
  show Go _ _ _ _ _ _ _ (s₁.setTop (mkF m 18 #[.val (.ref a), .val (.ref b), .val (.ref d), .val (.int (3 : Int32)), .val (.int (4 : Int32))] []))
  refine Go.by (fun _ kont => XS.aloadN X0.here hx rfl (hb hby dK43_18) rfl rfl (XS.iloadN X0.here hx rfl (hb hby dK43_19) rfl kont)) ?_
  show Go _ _ _ _ _ _ _ (s₁.setTop (mkF m 20 #[.val (.ref a), .val (.ref b), .val (.ref d), .val (.int (3 : Int32)), .val (.int (4 : Int32))] [(.int (3 : Int32)), (.ref a)]))
  obtain ⟨cl_q103, Ar_q103, q1_q103, S_q103, N_q103, H_q103, G_q103⟩ := id V0_a
  have hin_q103 : ¬ ((3 : Int32) < 0 ∨ cl_q103.slots.size ≤ ((3 : Int32)).toNatClampNeg) := inb_of S_q103 ⟨by decide, by decide⟩
  have hat_q103 : cl_q103.slots[((3 : Int32)).toNatClampNeg]? = some (.long v3) := Has.at H_q103 hin_q103 rfl
  refine Go.by (X0.laload hx (j := (3 : Int32)) (v := (.long v3)) (by first | exact Ar_q103.1 | (rw [e0]; exact Ar_q103.1)) (State.isArrayOf_alike hZ.alike Ar_q103.2.1) Ar_q103.2.2 hin_q103 hat_q103 (g := (mkF m 20 #[.val (.ref a), .val (.ref b), .val (.ref d), .val (.int (3 : Int32)), .val (.int (4 : Int32))] [(.int (3 : Int32)), (.ref a)])) rfl rfl (hb hby dK43_20)) ?_
  show Go _ _ _ _ _ _ _ (s₁.setTop (mkF m 21 #[.val (.ref a), .val (.ref b), .val (.ref d), .val (.int (3 : Int32)), .val (.int (4 : Int32))] [(.long v3)]))
  refine Go.by (fun _ kont => XS.aloadN X0.here hx rfl (hb hby dK43_21) rfl rfl (XS.iloadN X0.here hx rfl (hb hby dK43_22) rfl kont)) ?_
  show Go _ _ _ _ _ _ _ (s₁.setTop (mkF m 23 #[.val (.ref a), .val (.ref b), .val (.ref d), .val (.int (3 : Int32)), .val (.int (4 : Int32))] [(.int (3 : Int32)), (.ref b), (.long v3)]))
  obtain ⟨cl_q104, Ar_q104, q1_q104, S_q104, N_q104, H_q104, G_q104⟩ := id V0_b
  have hin_q104 : ¬ ((3 : Int32) < 0 ∨ cl_q104.slots.size ≤ ((3 : Int32)).toNatClampNeg) := inb_of S_q104 ⟨by decide, by decide⟩
  have hat_q104 : cl_q104.slots[((3 : Int32)).toNatClampNeg]? = some (.long (-v3)) := Has.at H_q104 hin_q104 rfl
  refine Go.by (X0.laload hx (j := (3 : Int32)) (v := (.long (-v3))) (by first | exact Ar_q104.1 | (rw [e0]; exact Ar_q104.1)) (State.isArrayOf_alike hZ.alike Ar_q104.2.1) Ar_q104.2.2 hin_q104 hat_q104 (g := (mkF m 23 #[.val (.ref a), .val (.ref b), .val (.ref d), .val (.int (3 : Int32)), .val (.int (4 : Int32))] [(.int (3 : Int32)), (.ref b), (.long v3)])) rfl rfl (hb hby dK43_23)) ?_
  show Go _ _ _ _ _ _ _ (s₁.setTop (mkF m 24 #[.val (.ref a), .val (.ref b), .val (.ref d), .val (.int (3 : Int32)), .val (.int (4 : Int32))] [(.long (-v3)), (.long v3)]))
  refine Go.by (fun _ kont => XS.ladd X0.here hx rfl (hb hby dK43_24) rfl (XS.lconst X0.here hx rfl (hb hby dK43_25) (XS.lcmp X0.here hx rfl (hb hby dK43_26) rfl kont))) ?_
  show Go _ _ _ _ _ _ _ (s₁.setTop (mkF m 27 #[.val (.ref a), .val (.ref b), .val (.ref d), .val (.int (3 : Int32)), .val (.int (4 : Int32))] [(.int (lcmpW (v3 + (-v3)) (0 : Int64)))]))
  have hd105 : (v3 + (-v3)) = (0 : Int64) := Int64.add_right_neg _
  refine Go.by (fun _ kont => XS.ifNo X0.here hx rfl (hb hby dK43_27) rfl ((if0 _ _).trans (teq ((lw_eq _ _).mpr hd105)).2) kont) ?_
  show Go _ _ _ _ _ _ _ (s₁.setTop (mkF m 30 #[.val (.ref a), .val (.ref b), .val (.ref d), .val (.int (3 : Int32)), .val (.int (4 : Int32))] []))
  refine Go.by (fun _ kont => XS.iconst X0.here hx rfl (hb hby dK43_30) (XS.goto X0.here hx rfl (pc0 := 31) (pc' := 35) rfl (hb hby dK43_31) (by decide) (by decide) kont)) ?_
  show Go _ _ _ _ _ _ _ (s₁.setTop (mkF m 35 #[.val (.ref a), .val (.ref b), .val (.ref d), .val (.int (3 : Int32)), .val (.int (4 : Int32))] [(.int (1 : Int32))]))
  refine Go.retN X0 hx (t := .boolean) hret (by simp) hlk (hb hby dK43_35) ?_ (by decide) (by decide)
  show QK43 Z a b d kc_a v0 v1 v2 v3 kc_b kc_d v4 h0 n0 (some (.int (1 : Int32))) s₁.heap _
  rw [e0]
  exact ⟨rfl, N0, rfl⟩

theorem dK44_0 : decode method_3_code 0 = .ok (.iload_n 3, 1) := by decide +kernel
theorem dK44_1 : decode method_3_code 1 = .ok (.iload 4, 2) := by decide +kernel
theorem dK44_3 : decode method_3_code 3 = .ok (.if_icmp .lt 5, 3) := by decide +kernel
theorem dK44_6 : decode method_3_code 6 = .ok (.iconst 1, 1) := by decide +kernel
theorem dK44_7 : decode method_3_code 7 = .ok (.ireturn, 1) := by decide +kernel
theorem pnK44 : plainName "com/example/runs_to_nets/runstonets/core/PlaceTransitionSynthesisNegatedPinLaw" = true := by first | (simp [plainName, overriddenIn]; done) | decide +kernel
theorem efK44 (m : MethodId) (a : Addr) (b : Addr) (d : Addr) : entryFrame m #[(.ref a), (.ref b), (.ref d), (.int (4 : Int32)), (.int (4 : Int32))] 5 = mkF m 0 #[.val (.ref a), .val (.ref b), .val (.ref d), .val (.int (4 : Int32)), .val (.int (4 : Int32))] [] := by first | (simp [entryFrame, mkF, argsToLocals, Value.category]; done) | rfl
def QK44 (Z : State) (a : Addr) (b : Addr) (d : Addr) (h0 : Heap) (n0 : Nat) (v : Option Value) (h : Heap) (L : List Loc) : Prop := (v = some (.int (1 : Int32)) ∧ Fr n0 L ∧ h = h0)
set_option maxRecDepth 65536 in
set_option maxHeartbeats 40000000 in
theorem rmK44 (l : Launch) (Z : State) (a0 : Array Value) (hw : ∀ d ∈ tables_1, d.before a0 Z = true) (ws : List Jvm.Cond) (a : Addr) (b : Addr) (d : Addr) (h0 : Heap) (n0 : Nat) (Z0 : n0 ≤ h0.size) :
    MetFree l (⟨"com/example/runs_to_nets/runstonets/core/PlaceTransitionSynthesisNegatedPinLaw", "ok", "([J[J[JII)Z"⟩ : MethodName) (head1 (Jvm.Cond.code (⟨"com/example/runs_to_nets/runstonets/core/PlaceTransitionSynthesisNegatedPinLaw", "ok", "([J[J[JII)Z"⟩ : MethodName) method_3_code 5 (some .boolean) :: ws) ({ frames := 0, cells := 0, slots := 0, locals := 0 } : Room)) (fun aa_ U_ => aa_ = #[(.ref a), (.ref b), (.ref d), (.int (4 : Int32)), (.int (4 : Int32))] ∧ Z.Warmed39 U_.vm ∧ U_.heap = h0) (fun _ _ _ _ _ => True) (fun _ U_ o_ V_ => ∃ v_ L_, o_ = .returned v_ ∧ QK44 Z a b d h0 n0 v_ V_.heap L_ ∧ FrameEnd U_ o_ V_ L_ ({ frames := 0, cells := 0, slots := 0, locals := 0 } : Room).cells ({ frames := 0, cells := 0, slots := 0, locals := 0 } : Room).slots) := by
  refine MetFree.of_bodySF (plainFor_of_name pnK44) hisR ?_
  intro p e s m args below meth c s₁ Bd hml0 hP hK
  obtain ⟨rfl, hZ, hh⟩ := hP
  have hx := Bd.exec
  have hby := Bd.bytes
  have hml : c.maxLocals = 5 := hml0
  have hown : s.vm.findClass "com/example/runs_to_nets/runstonets/core/PlaceTransitionSynthesisNegatedPinLaw" = some m.cls := findClass_of_methodNamed Bd.named
  have hnm := (name_of_methodNamed Bd.named Bd.method).1
  have hlk : meth.locks = false := BodyLoose.notSynchronized Bd
  have hret : meth.sig.returnType = (some .boolean) := Bd.returns
  have X0 : Stand p l e ({ frames := 0, cells := 0, slots := 0, locals := 0 } : Room) s m #[(.ref a), (.ref b), (.ref d), (.int (4 : Int32)), (.int (4 : Int32))] below meth c s₁ [] 0 0 := Stand.of_body Bd
  have e0 : s₁.heap = h0 := by rw [← hh, Bd.state]; rfl
  have N0 := Fr.nil n0
  show Go p e below s ({ frames := 0, cells := 0, slots := 0, locals := 0 } : Room).cells ({ frames := 0, cells := 0, slots := 0, locals := 0 } : Room).slots (QK44 Z a b d h0 n0) (s₁.setTop (entryFrame m #[(.ref a), (.ref b), (.ref d), (.int (4 : Int32)), (.int (4 : Int32))] 5))
  rw [efK44]
  refine Go.by (fun _ kont => XS.iloadN X0.here hx rfl (hb hby dK44_0) rfl (XS.iload X0.here hx rfl (hb hby dK44_1) rfl kont)) ?_
  show Go _ _ _ _ _ _ _ (s₁.setTop (mkF m 3 #[.val (.ref a), .val (.ref b), .val (.ref d), .val (.int (4 : Int32)), .val (.int (4 : Int32))] [(.int (4 : Int32)), (.int (4 : Int32))]))
  refine Go.by (fun _ kont => XS.icmpNo X0.here hx rfl (hb hby dK44_3) rfl (by decide) kont) ?_
  show Go _ _ _ _ _ _ _ (s₁.setTop (mkF m 6 #[.val (.ref a), .val (.ref b), .val (.ref d), .val (.int (4 : Int32)), .val (.int (4 : Int32))] []))
  refine Go.by (fun _ kont => XS.iconst X0.here hx rfl (hb hby dK44_6) kont) ?_
  show Go _ _ _ _ _ _ _ (s₁.setTop (mkF m 7 #[.val (.ref a), .val (.ref b), .val (.ref d), .val (.int (4 : Int32)), .val (.int (4 : Int32))] [(.int (1 : Int32))]))
  refine Go.retN X0 hx (t := .boolean) hret (by simp) hlk (hb hby dK44_7) ?_ (by decide) (by decide)
  show QK44 Z a b d h0 n0 (some (.int (1 : Int32))) s₁.heap _
  rw [e0]
  exact ⟨rfl, N0, rfl⟩

theorem dN5_0 : decode prog_27_method_10_code 0 = .ok (.aload_n 0, 1) := by decide +kernel
theorem dN5_1 : decode prog_27_method_10_code 1 = .ok (.arraylength, 1) := by decide +kernel
theorem dN5_2 : decode prog_27_method_10_code 2 = .ok (.newarray .long, 2) := by decide +kernel
theorem dN5_4 : decode prog_27_method_10_code 4 = .ok (.astore_n 1, 1) := by decide +kernel
theorem dN5_5 : decode prog_27_method_10_code 5 = .ok (.iconst 0, 1) := by decide +kernel
theorem dN5_6 : decode prog_27_method_10_code 6 = .ok (.istore_n 2, 1) := by decide +kernel
theorem dN5_7 : decode prog_27_method_10_code 7 = .ok (.iload_n 2, 1) := by decide +kernel
theorem dN5_8 : decode prog_27_method_10_code 8 = .ok (.aload_n 0, 1) := by decide +kernel
theorem dN5_9 : decode prog_27_method_10_code 9 = .ok (.arraylength, 1) := by decide +kernel
theorem dN5_10 : decode prog_27_method_10_code 10 = .ok (.if_icmp .ge 16, 3) := by decide +kernel
theorem dN5_13 : decode prog_27_method_10_code 13 = .ok (.aload_n 1, 1) := by decide +kernel
theorem dN5_14 : decode prog_27_method_10_code 14 = .ok (.iload_n 2, 1) := by decide +kernel
theorem dN5_15 : decode prog_27_method_10_code 15 = .ok (.aload_n 0, 1) := by decide +kernel
theorem dN5_16 : decode prog_27_method_10_code 16 = .ok (.iload_n 2, 1) := by decide +kernel
theorem dN5_17 : decode prog_27_method_10_code 17 = .ok (.laload, 1) := by decide +kernel
theorem dN5_18 : decode prog_27_method_10_code 18 = .ok (.lneg, 1) := by decide +kernel
theorem dN5_19 : decode prog_27_method_10_code 19 = .ok (.lastore, 1) := by decide +kernel
theorem dN5_20 : decode prog_27_method_10_code 20 = .ok (.iinc 2 1, 3) := by decide +kernel
theorem dN5_23 : decode prog_27_method_10_code 23 = .ok (.goto (-16), 3) := by decide +kernel
theorem dN5_26 : decode prog_27_method_10_code 26 = .ok (.aload_n 1, 1) := by decide +kernel
theorem dN5_27 : decode prog_27_method_10_code 27 = .ok (.areturn, 1) := by decide +kernel
theorem pnN5 : plainName "com/example/runs_to_nets/runstonets/core/PlaceTransitionSynthesis" = true := by first | (simp [plainName, overriddenIn]; done) | decide +kernel
theorem efN5 (m : MethodId) (a : Addr) : entryFrame m #[(.ref a)] 3 = mkF m 0 #[.val (.ref a), .unset, .unset] [] := by first | (simp [entryFrame, mkF, argsToLocals, Value.category]; done) | rfl
def QN5 (Z : State) (a : Addr) (kc_a : ClassId) (v0 : Int64) (v1 : Int64) (v2 : Int64) (v3 : Int64) (v4 : Int64) (h0 : Heap) (n0 : Nat) (v : Option Value) (h : Heap) (L : List Loc) : Prop := ∃ b102 : Addr, ∃ k102 : ClassId, (v = some (.ref b102) ∧ Fr n0 L ∧ Keep h0 h [] ∧ n0 ≤ b102 ∧ h0.size ≤ b102 ∧ Arv Z h b102 k102 .long (5 : Int32) [(.long (-v0)), (.long (-v1)), (.long (-v2)), (.long (-v3)), (.long (-v4))] (.long (0 : Int64)))
set_option maxRecDepth 65536 in
set_option maxHeartbeats 40000000 in
theorem rmN5 (l : Launch) (Z : State) (a0 : Array Value) (hw : ∀ d ∈ tables_1, d.before a0 Z = true) (ws : List Jvm.Cond) (a : Addr) (kc_a : ClassId) (v0 : Int64) (v1 : Int64) (v2 : Int64) (v3 : Int64) (v4 : Int64) (h0 : Heap) (n0 : Nat) (Z0 : n0 ≤ h0.size) (V0_a : Arv Z h0 a kc_a .long (5 : Int32) [(.long v0), (.long v1), (.long v2), (.long v3), (.long v4)] (.long (0 : Int64))) :
    MetFree l (⟨"com/example/runs_to_nets/runstonets/core/PlaceTransitionSynthesis", "negated", "([J)[J"⟩ : MethodName) (head1 (Jvm.Cond.code (⟨"com/example/runs_to_nets/runstonets/core/PlaceTransitionSynthesis", "negated", "([J)[J"⟩ : MethodName) prog_27_method_10_code 3 (some (.array .long)) :: ws) ({ frames := 0, cells := 1, slots := 5, locals := 0 } : Room)) (fun aa_ U_ => aa_ = #[(.ref a)] ∧ Z.Warmed39 U_.vm ∧ U_.heap = h0) (fun _ _ _ _ _ => True) (fun _ U_ o_ V_ => ∃ v_ L_, o_ = .returned v_ ∧ QN5 Z a kc_a v0 v1 v2 v3 v4 h0 n0 v_ V_.heap L_ ∧ FrameEnd U_ o_ V_ L_ ({ frames := 0, cells := 1, slots := 5, locals := 0 } : Room).cells ({ frames := 0, cells := 1, slots := 5, locals := 0 } : Room).slots) := by
  refine MetFree.of_bodySF (plainFor_of_name pnN5) hisR ?_
  intro p e s m args below meth c s₁ Bd hml0 hP hK
  obtain ⟨rfl, hZ, hh⟩ := hP
  have hx := Bd.exec
  have hby := Bd.bytes
  have hml : c.maxLocals = 3 := hml0
  have hown : s.vm.findClass "com/example/runs_to_nets/runstonets/core/PlaceTransitionSynthesis" = some m.cls := findClass_of_methodNamed Bd.named
  have hnm := (name_of_methodNamed Bd.named Bd.method).1
  have hlk : meth.locks = false := BodyLoose.notSynchronized Bd
  have hret : meth.sig.returnType = (some (.array .long)) := Bd.returns
  have X0 : Stand p l e ({ frames := 0, cells := 1, slots := 5, locals := 0 } : Room) s m #[(.ref a)] below meth c s₁ [] 0 0 := Stand.of_body Bd
  have e0 : s₁.heap = h0 := by rw [← hh, Bd.state]; rfl
  have N0 := Fr.nil n0
  show Go p e below s ({ frames := 0, cells := 1, slots := 5, locals := 0 } : Room).cells ({ frames := 0, cells := 1, slots := 5, locals := 0 } : Room).slots (QN5 Z a kc_a v0 v1 v2 v3 v4 h0 n0) (s₁.setTop (entryFrame m #[(.ref a)] 3))
  rw [efN5]
  refine Go.by (fun _ kont => XS.aloadN X0.here hx rfl (hb hby dN5_0) rfl rfl kont) ?_
  show Go _ _ _ _ _ _ _ (s₁.setTop (mkF m 1 #[.val (.ref a), .unset, .unset] [(.ref a)]))
  obtain ⟨cl_q101, Ar_q101, q1_q101, S_q101, N_q101, H_q101, G_q101⟩ := id V0_a
  refine Go.by (X0.arraylength hx (by first | exact Ar_q101.1 | (rw [e0]; exact Ar_q101.1)) (State.isArrayOf_alike hZ.alike Ar_q101.2.1) (g := (mkF m 1 #[.val (.ref a), .unset, .unset] [(.ref a)])) rfl rfl (hb hby dN5_1)) ?_
  rw [len_of S_q101 N_q101]
  show Go _ _ _ _ _ _ _ (s₁.setTop (mkF m 2 #[.val (.ref a), .unset, .unset] [(.int (5 : Int32))]))
  obtain ⟨T102, h102, k102, X102, e102, X_102, A102, st102⟩ := newP X0 hx hZ (hw _ (List.mem_of_getElem? (i := 1) rfl)) e0 (g := (mkF m 2 #[.val (.ref a), .unset, .unset] [(.int (5 : Int32))])) rfl (hb hby dN5_2) rfl (by decide) (cap := 5) (by decide) (by decide) (by decide) (by decide)
  obtain ⟨b102, g102⟩ : ∃ z, z = h0.size := ⟨_, rfl⟩
  rw [← g102] at A102 st102
  have ne_a_b102 : a ≠ b102 := Nat.ne_of_lt (Nat.lt_of_lt_of_le V0_a.lt (Nat.le_of_eq g102.symm))
  have ge_b102 : n0 ≤ b102 := Nat.le_trans Z0 (Nat.le_of_eq g102.symm)
  have sz_b102 : h0.size ≤ b102 := Nat.le_trans (Keep.refl h0 []).1 (Nat.le_of_eq g102.symm)
  have V103_a := V0_a.ext X_102
  have Z103 := Nat.le_trans Z0 X_102.1
  have K103 : Keep h0 h102 [] := (Keep.refl h0 []).ext X_102
  have V102 : Arv Z h102 b102 k102 .long (5 : Int32) [(.long (0 : Int64)), (.long (0 : Int64)), (.long (0 : Int64)), (.long (0 : Int64)), (.long (0 : Int64))] (.long (0 : Int64)) := (Arv.new A102 (by decide)).pad (pad_rep [] (.long (0 : Int64)) 5)
  refine Go.by st102 ?_
  show Go _ _ _ _ _ _ _ (T102.setTop (mkF m 4 #[.val (.ref a), .unset, .unset] [(.ref b102)]))
  refine Go.by (fun _ kont => XS.astoreN X102.here hx rfl (hb hby dN5_4) rfl rfl (l' := #[.val (.ref a), .val (.ref b102), .unset]) rfl (XS.iconst X102.here hx rfl (hb hby dN5_5) (XS.istoreN X102.here hx rfl (hb hby dN5_6) rfl (l' := #[.val (.ref a), .val (.ref b102), .val (.int (0 : Int32))]) rfl (XS.iloadN X102.here hx rfl (hb hby dN5_7) rfl (XS.aloadN X102.here hx rfl (hb hby dN5_8) rfl rfl kont))))) ?_
  show Go _ _ _ _ _ _ _ (T102.setTop (mkF m 9 #[.val (.ref a), .val (.ref b102), .val (.int (0 : Int32))] [(.ref a), (.int (0 : Int32))]))
  obtain ⟨cl_q104, Ar_q104, q1_q104, S_q104, N_q104, H_q104, G_q104⟩ := id V103_a
  refine Go.by (X102.arraylength hx (by first | exact Ar_q104.1 | (rw [e102]; exact Ar_q104.1)) (State.isArrayOf_alike hZ.alike Ar_q104.2.1) (g := (mkF m 9 #[.val (.ref a), .val (.ref b102), .val (.int (0 : Int32))] [(.ref a), (.int (0 : Int32))])) rfl rfl (hb hby dN5_9)) ?_
  rw [len_of S_q104 N_q104]
  show Go _ _ _ _ _ _ _ (T102.setTop (mkF m 10 #[.val (.ref a), .val (.ref b102), .val (.int (0 : Int32))] [(.int (5 : Int32)), (.int (0 : Int32))]))
  refine Go.by (fun _ kont => XS.icmpNo X102.here hx rfl (hb hby dN5_10) rfl (by decide) kont) ?_
  show Go _ _ _ _ _ _ _ (T102.setTop (mkF m 13 #[.val (.ref a), .val (.ref b102), .val (.int (0 : Int32))] []))
  refine Go.by (fun _ kont => XS.aloadN X102.here hx rfl (hb hby dN5_13) rfl rfl (XS.iloadN X102.here hx rfl (hb hby dN5_14) rfl (XS.aloadN X102.here hx rfl (hb hby dN5_15) rfl rfl (XS.iloadN X102.here hx rfl (hb hby dN5_16) rfl kont)))) ?_
  show Go _ _ _ _ _ _ _ (T102.setTop (mkF m 17 #[.val (.ref a), .val (.ref b102), .val (.int (0 : Int32))] [(.int (0 : Int32)), (.ref a), (.int (0 : Int32)), (.ref b102)]))
  obtain ⟨cl_q105, Ar_q105, q1_q105, S_q105, N_q105, H_q105, G_q105⟩ := id V103_a
  have hin_q105 : ¬ ((0 : Int32) < 0 ∨ cl_q105.slots.size ≤ ((0 : Int32)).toNatClampNeg) := inb_of S_q105 ⟨by decide, by decide⟩
  have hat_q105 : cl_q105.slots[((0 : Int32)).toNatClampNeg]? = some (.long v0) := Has.at H_q105 hin_q105 rfl
  refine Go.by (X102.laload hx (j := (0 : Int32)) (v := (.long v0)) (by first | exact Ar_q105.1 | (rw [e102]; exact Ar_q105.1)) (State.isArrayOf_alike hZ.alike Ar_q105.2.1) Ar_q105.2.2 hin_q105 hat_q105 (g := (mkF m 17 #[.val (.ref a), .val (.ref b102), .val (.int (0 : Int32))] [(.int (0 : Int32)), (.ref a), (.int (0 : Int32)), (.ref b102)])) rfl rfl (hb hby dN5_17)) ?_
  show Go _ _ _ _ _ _ _ (T102.setTop (mkF m 18 #[.val (.ref a), .val (.ref b102), .val (.int (0 : Int32))] [(.long v0), (.int (0 : Int32)), (.ref b102)]))
  refine Go.by (fun _ kont => XS.lneg X102.here hx rfl (hb hby dN5_18) rfl kont) ?_
  show Go _ _ _ _ _ _ _ (T102.setTop (mkF m 19 #[.val (.ref a), .val (.ref b102), .val (.int (0 : Int32))] [(.long (-v0)), (.int (0 : Int32)), (.ref b102)]))
  obtain ⟨cl_q106, Ar_q106, q1_q106, S_q106, N_q106, H_q106, G_q106⟩ := id V102
  have hin_q106 : ¬ ((0 : Int32) < 0 ∨ cl_q106.slots.size ≤ ((0 : Int32)).toNatClampNeg) := inb_of S_q106 ⟨by decide, by decide⟩
  obtain ⟨T107, h107, X107, e107, W107, st107⟩ := stJ X102 hx hZ e102 Ar_q106 (j := (0 : Int32)) hin_q106 (g := (mkF m 19 #[.val (.ref a), .val (.ref b102), .val (.int (0 : Int32))] [(.long (-v0)), (.int (0 : Int32)), (.ref b102)])) rfl rfl (hb hby dN5_19)
  have V107 : Arv Z h107 b102 k102 .long (5 : Int32) [(.long (-v0)), (.long (0 : Int64)), (.long (0 : Int64)), (.long (0 : Int64)), (.long (0 : Int64))] (.long (0 : Int64)) := Arv.set Ar_q106 q1_q106 S_q106 N_q106 H_q106 G_q106 rfl W107 0 rfl (Nat.le_of_ble_eq_true rfl)
  have V108_a := V103_a.other W107 ne_a_b102
  have Z108 := Nat.le_trans Z103 (Keep.of_wr W107).1
  have K108 : Keep h0 h107 [] := K103.wr W107 (Or.inr sz_b102)
  have N107 := Fr.snoc X107 N0 ge_b102
  refine Go.by st107 ?_
  show Go _ _ _ _ _ _ _ (T107.setTop (mkF m 20 #[.val (.ref a), .val (.ref b102), .val (.int (0 : Int32))] []))
  refine Go.by (fun _ kont => XS.iinc X107.here hx rfl (hb hby dN5_20) rfl (l' := #[.val (.ref a), .val (.ref b102), .val (.int (1 : Int32))]) rfl (XS.goto X107.here hx rfl (pc0 := 23) (pc' := 7) rfl (hb hby dN5_23) (by decide) (by decide) (XS.iloadN X107.here hx rfl (hb hby dN5_7) rfl (XS.aloadN X107.here hx rfl (hb hby dN5_8) rfl rfl kont)))) ?_
  show Go _ _ _ _ _ _ _ (T107.setTop (mkF m 9 #[.val (.ref a), .val (.ref b102), .val (.int (1 : Int32))] [(.ref a), (.int (1 : Int32))]))
  obtain ⟨cl_q109, Ar_q109, q1_q109, S_q109, N_q109, H_q109, G_q109⟩ := id V108_a
  refine Go.by (X107.arraylength hx (by first | exact Ar_q109.1 | (rw [e107]; exact Ar_q109.1)) (State.isArrayOf_alike hZ.alike Ar_q109.2.1) (g := (mkF m 9 #[.val (.ref a), .val (.ref b102), .val (.int (1 : Int32))] [(.ref a), (.int (1 : Int32))])) rfl rfl (hb hby dN5_9)) ?_
  rw [len_of S_q109 N_q109]
  show Go _ _ _ _ _ _ _ (T107.setTop (mkF m 10 #[.val (.ref a), .val (.ref b102), .val (.int (1 : Int32))] [(.int (5 : Int32)), (.int (1 : Int32))]))
  refine Go.by (fun _ kont => XS.icmpNo X107.here hx rfl (hb hby dN5_10) rfl (by decide) kont) ?_
  show Go _ _ _ _ _ _ _ (T107.setTop (mkF m 13 #[.val (.ref a), .val (.ref b102), .val (.int (1 : Int32))] []))
  refine Go.by (fun _ kont => XS.aloadN X107.here hx rfl (hb hby dN5_13) rfl rfl (XS.iloadN X107.here hx rfl (hb hby dN5_14) rfl (XS.aloadN X107.here hx rfl (hb hby dN5_15) rfl rfl (XS.iloadN X107.here hx rfl (hb hby dN5_16) rfl kont)))) ?_
  show Go _ _ _ _ _ _ _ (T107.setTop (mkF m 17 #[.val (.ref a), .val (.ref b102), .val (.int (1 : Int32))] [(.int (1 : Int32)), (.ref a), (.int (1 : Int32)), (.ref b102)]))
  obtain ⟨cl_q110, Ar_q110, q1_q110, S_q110, N_q110, H_q110, G_q110⟩ := id V108_a
  have hin_q110 : ¬ ((1 : Int32) < 0 ∨ cl_q110.slots.size ≤ ((1 : Int32)).toNatClampNeg) := inb_of S_q110 ⟨by decide, by decide⟩
  have hat_q110 : cl_q110.slots[((1 : Int32)).toNatClampNeg]? = some (.long v1) := Has.at H_q110 hin_q110 rfl
  refine Go.by (X107.laload hx (j := (1 : Int32)) (v := (.long v1)) (by first | exact Ar_q110.1 | (rw [e107]; exact Ar_q110.1)) (State.isArrayOf_alike hZ.alike Ar_q110.2.1) Ar_q110.2.2 hin_q110 hat_q110 (g := (mkF m 17 #[.val (.ref a), .val (.ref b102), .val (.int (1 : Int32))] [(.int (1 : Int32)), (.ref a), (.int (1 : Int32)), (.ref b102)])) rfl rfl (hb hby dN5_17)) ?_
  show Go _ _ _ _ _ _ _ (T107.setTop (mkF m 18 #[.val (.ref a), .val (.ref b102), .val (.int (1 : Int32))] [(.long v1), (.int (1 : Int32)), (.ref b102)]))
  refine Go.by (fun _ kont => XS.lneg X107.here hx rfl (hb hby dN5_18) rfl kont) ?_
  show Go _ _ _ _ _ _ _ (T107.setTop (mkF m 19 #[.val (.ref a), .val (.ref b102), .val (.int (1 : Int32))] [(.long (-v1)), (.int (1 : Int32)), (.ref b102)]))
  obtain ⟨cl_q111, Ar_q111, q1_q111, S_q111, N_q111, H_q111, G_q111⟩ := id V107
  have hin_q111 : ¬ ((1 : Int32) < 0 ∨ cl_q111.slots.size ≤ ((1 : Int32)).toNatClampNeg) := inb_of S_q111 ⟨by decide, by decide⟩
  obtain ⟨T112, h112, X112, e112, W112, st112⟩ := stJ X107 hx hZ e107 Ar_q111 (j := (1 : Int32)) hin_q111 (g := (mkF m 19 #[.val (.ref a), .val (.ref b102), .val (.int (1 : Int32))] [(.long (-v1)), (.int (1 : Int32)), (.ref b102)])) rfl rfl (hb hby dN5_19)
  have V112 : Arv Z h112 b102 k102 .long (5 : Int32) [(.long (-v0)), (.long (-v1)), (.long (0 : Int64)), (.long (0 : Int64)), (.long (0 : Int64))] (.long (0 : Int64)) := Arv.set Ar_q111 q1_q111 S_q111 N_q111 H_q111 G_q111 rfl W112 1 rfl (Nat.le_of_ble_eq_true rfl)
  have V113_a := V108_a.other W112 ne_a_b102
  have Z113 := Nat.le_trans Z108 (Keep.of_wr W112).1
  have K113 : Keep h0 h112 [] := K108.wr W112 (Or.inr sz_b102)
  have N112 := Fr.snoc X112 N107 ge_b102
  refine Go.by st112 ?_
  show Go _ _ _ _ _ _ _ (T112.setTop (mkF m 20 #[.val (.ref a), .val (.ref b102), .val (.int (1 : Int32))] []))
  refine Go.by (fun _ kont => XS.iinc X112.here hx rfl (hb hby dN5_20) rfl (l' := #[.val (.ref a), .val (.ref b102), .val (.int (2 : Int32))]) rfl (XS.goto X112.here hx rfl (pc0 := 23) (pc' := 7) rfl (hb hby dN5_23) (by decide) (by decide) (XS.iloadN X112.here hx rfl (hb hby dN5_7) rfl (XS.aloadN X112.here hx rfl (hb hby dN5_8) rfl rfl kont)))) ?_
  show Go _ _ _ _ _ _ _ (T112.setTop (mkF m 9 #[.val (.ref a), .val (.ref b102), .val (.int (2 : Int32))] [(.ref a), (.int (2 : Int32))]))
  obtain ⟨cl_q114, Ar_q114, q1_q114, S_q114, N_q114, H_q114, G_q114⟩ := id V113_a
  refine Go.by (X112.arraylength hx (by first | exact Ar_q114.1 | (rw [e112]; exact Ar_q114.1)) (State.isArrayOf_alike hZ.alike Ar_q114.2.1) (g := (mkF m 9 #[.val (.ref a), .val (.ref b102), .val (.int (2 : Int32))] [(.ref a), (.int (2 : Int32))])) rfl rfl (hb hby dN5_9)) ?_
  rw [len_of S_q114 N_q114]
  show Go _ _ _ _ _ _ _ (T112.setTop (mkF m 10 #[.val (.ref a), .val (.ref b102), .val (.int (2 : Int32))] [(.int (5 : Int32)), (.int (2 : Int32))]))
  refine Go.by (fun _ kont => XS.icmpNo X112.here hx rfl (hb hby dN5_10) rfl (by decide) kont) ?_
  show Go _ _ _ _ _ _ _ (T112.setTop (mkF m 13 #[.val (.ref a), .val (.ref b102), .val (.int (2 : Int32))] []))
  refine Go.by (fun _ kont => XS.aloadN X112.here hx rfl (hb hby dN5_13) rfl rfl (XS.iloadN X112.here hx rfl (hb hby dN5_14) rfl (XS.aloadN X112.here hx rfl (hb hby dN5_15) rfl rfl (XS.iloadN X112.here hx rfl (hb hby dN5_16) rfl kont)))) ?_
  show Go _ _ _ _ _ _ _ (T112.setTop (mkF m 17 #[.val (.ref a), .val (.ref b102), .val (.int (2 : Int32))] [(.int (2 : Int32)), (.ref a), (.int (2 : Int32)), (.ref b102)]))
  obtain ⟨cl_q115, Ar_q115, q1_q115, S_q115, N_q115, H_q115, G_q115⟩ := id V113_a
  have hin_q115 : ¬ ((2 : Int32) < 0 ∨ cl_q115.slots.size ≤ ((2 : Int32)).toNatClampNeg) := inb_of S_q115 ⟨by decide, by decide⟩
  have hat_q115 : cl_q115.slots[((2 : Int32)).toNatClampNeg]? = some (.long v2) := Has.at H_q115 hin_q115 rfl
  refine Go.by (X112.laload hx (j := (2 : Int32)) (v := (.long v2)) (by first | exact Ar_q115.1 | (rw [e112]; exact Ar_q115.1)) (State.isArrayOf_alike hZ.alike Ar_q115.2.1) Ar_q115.2.2 hin_q115 hat_q115 (g := (mkF m 17 #[.val (.ref a), .val (.ref b102), .val (.int (2 : Int32))] [(.int (2 : Int32)), (.ref a), (.int (2 : Int32)), (.ref b102)])) rfl rfl (hb hby dN5_17)) ?_
  show Go _ _ _ _ _ _ _ (T112.setTop (mkF m 18 #[.val (.ref a), .val (.ref b102), .val (.int (2 : Int32))] [(.long v2), (.int (2 : Int32)), (.ref b102)]))
  refine Go.by (fun _ kont => XS.lneg X112.here hx rfl (hb hby dN5_18) rfl kont) ?_
  show Go _ _ _ _ _ _ _ (T112.setTop (mkF m 19 #[.val (.ref a), .val (.ref b102), .val (.int (2 : Int32))] [(.long (-v2)), (.int (2 : Int32)), (.ref b102)]))
  obtain ⟨cl_q116, Ar_q116, q1_q116, S_q116, N_q116, H_q116, G_q116⟩ := id V112
  have hin_q116 : ¬ ((2 : Int32) < 0 ∨ cl_q116.slots.size ≤ ((2 : Int32)).toNatClampNeg) := inb_of S_q116 ⟨by decide, by decide⟩
  obtain ⟨T117, h117, X117, e117, W117, st117⟩ := stJ X112 hx hZ e112 Ar_q116 (j := (2 : Int32)) hin_q116 (g := (mkF m 19 #[.val (.ref a), .val (.ref b102), .val (.int (2 : Int32))] [(.long (-v2)), (.int (2 : Int32)), (.ref b102)])) rfl rfl (hb hby dN5_19)
  have V117 : Arv Z h117 b102 k102 .long (5 : Int32) [(.long (-v0)), (.long (-v1)), (.long (-v2)), (.long (0 : Int64)), (.long (0 : Int64))] (.long (0 : Int64)) := Arv.set Ar_q116 q1_q116 S_q116 N_q116 H_q116 G_q116 rfl W117 2 rfl (Nat.le_of_ble_eq_true rfl)
  have V118_a := V113_a.other W117 ne_a_b102
  have Z118 := Nat.le_trans Z113 (Keep.of_wr W117).1
  have K118 : Keep h0 h117 [] := K113.wr W117 (Or.inr sz_b102)
  have N117 := Fr.snoc X117 N112 ge_b102
  refine Go.by st117 ?_
  show Go _ _ _ _ _ _ _ (T117.setTop (mkF m 20 #[.val (.ref a), .val (.ref b102), .val (.int (2 : Int32))] []))
  refine Go.by (fun _ kont => XS.iinc X117.here hx rfl (hb hby dN5_20) rfl (l' := #[.val (.ref a), .val (.ref b102), .val (.int (3 : Int32))]) rfl (XS.goto X117.here hx rfl (pc0 := 23) (pc' := 7) rfl (hb hby dN5_23) (by decide) (by decide) (XS.iloadN X117.here hx rfl (hb hby dN5_7) rfl (XS.aloadN X117.here hx rfl (hb hby dN5_8) rfl rfl kont)))) ?_
  show Go _ _ _ _ _ _ _ (T117.setTop (mkF m 9 #[.val (.ref a), .val (.ref b102), .val (.int (3 : Int32))] [(.ref a), (.int (3 : Int32))]))
  obtain ⟨cl_q119, Ar_q119, q1_q119, S_q119, N_q119, H_q119, G_q119⟩ := id V118_a
  refine Go.by (X117.arraylength hx (by first | exact Ar_q119.1 | (rw [e117]; exact Ar_q119.1)) (State.isArrayOf_alike hZ.alike Ar_q119.2.1) (g := (mkF m 9 #[.val (.ref a), .val (.ref b102), .val (.int (3 : Int32))] [(.ref a), (.int (3 : Int32))])) rfl rfl (hb hby dN5_9)) ?_
  rw [len_of S_q119 N_q119]
  show Go _ _ _ _ _ _ _ (T117.setTop (mkF m 10 #[.val (.ref a), .val (.ref b102), .val (.int (3 : Int32))] [(.int (5 : Int32)), (.int (3 : Int32))]))
  refine Go.by (fun _ kont => XS.icmpNo X117.here hx rfl (hb hby dN5_10) rfl (by decide) kont) ?_
  show Go _ _ _ _ _ _ _ (T117.setTop (mkF m 13 #[.val (.ref a), .val (.ref b102), .val (.int (3 : Int32))] []))
  refine Go.by (fun _ kont => XS.aloadN X117.here hx rfl (hb hby dN5_13) rfl rfl (XS.iloadN X117.here hx rfl (hb hby dN5_14) rfl (XS.aloadN X117.here hx rfl (hb hby dN5_15) rfl rfl (XS.iloadN X117.here hx rfl (hb hby dN5_16) rfl kont)))) ?_
  show Go _ _ _ _ _ _ _ (T117.setTop (mkF m 17 #[.val (.ref a), .val (.ref b102), .val (.int (3 : Int32))] [(.int (3 : Int32)), (.ref a), (.int (3 : Int32)), (.ref b102)]))
  obtain ⟨cl_q120, Ar_q120, q1_q120, S_q120, N_q120, H_q120, G_q120⟩ := id V118_a
  have hin_q120 : ¬ ((3 : Int32) < 0 ∨ cl_q120.slots.size ≤ ((3 : Int32)).toNatClampNeg) := inb_of S_q120 ⟨by decide, by decide⟩
  have hat_q120 : cl_q120.slots[((3 : Int32)).toNatClampNeg]? = some (.long v3) := Has.at H_q120 hin_q120 rfl
  refine Go.by (X117.laload hx (j := (3 : Int32)) (v := (.long v3)) (by first | exact Ar_q120.1 | (rw [e117]; exact Ar_q120.1)) (State.isArrayOf_alike hZ.alike Ar_q120.2.1) Ar_q120.2.2 hin_q120 hat_q120 (g := (mkF m 17 #[.val (.ref a), .val (.ref b102), .val (.int (3 : Int32))] [(.int (3 : Int32)), (.ref a), (.int (3 : Int32)), (.ref b102)])) rfl rfl (hb hby dN5_17)) ?_
  show Go _ _ _ _ _ _ _ (T117.setTop (mkF m 18 #[.val (.ref a), .val (.ref b102), .val (.int (3 : Int32))] [(.long v3), (.int (3 : Int32)), (.ref b102)]))
  refine Go.by (fun _ kont => XS.lneg X117.here hx rfl (hb hby dN5_18) rfl kont) ?_
  show Go _ _ _ _ _ _ _ (T117.setTop (mkF m 19 #[.val (.ref a), .val (.ref b102), .val (.int (3 : Int32))] [(.long (-v3)), (.int (3 : Int32)), (.ref b102)]))
  obtain ⟨cl_q121, Ar_q121, q1_q121, S_q121, N_q121, H_q121, G_q121⟩ := id V117
  have hin_q121 : ¬ ((3 : Int32) < 0 ∨ cl_q121.slots.size ≤ ((3 : Int32)).toNatClampNeg) := inb_of S_q121 ⟨by decide, by decide⟩
  obtain ⟨T122, h122, X122, e122, W122, st122⟩ := stJ X117 hx hZ e117 Ar_q121 (j := (3 : Int32)) hin_q121 (g := (mkF m 19 #[.val (.ref a), .val (.ref b102), .val (.int (3 : Int32))] [(.long (-v3)), (.int (3 : Int32)), (.ref b102)])) rfl rfl (hb hby dN5_19)
  have V122 : Arv Z h122 b102 k102 .long (5 : Int32) [(.long (-v0)), (.long (-v1)), (.long (-v2)), (.long (-v3)), (.long (0 : Int64))] (.long (0 : Int64)) := Arv.set Ar_q121 q1_q121 S_q121 N_q121 H_q121 G_q121 rfl W122 3 rfl (Nat.le_of_ble_eq_true rfl)
  have V123_a := V118_a.other W122 ne_a_b102
  have Z123 := Nat.le_trans Z118 (Keep.of_wr W122).1
  have K123 : Keep h0 h122 [] := K118.wr W122 (Or.inr sz_b102)
  have N122 := Fr.snoc X122 N117 ge_b102
  refine Go.by st122 ?_
  show Go _ _ _ _ _ _ _ (T122.setTop (mkF m 20 #[.val (.ref a), .val (.ref b102), .val (.int (3 : Int32))] []))
  refine Go.by (fun _ kont => XS.iinc X122.here hx rfl (hb hby dN5_20) rfl (l' := #[.val (.ref a), .val (.ref b102), .val (.int (4 : Int32))]) rfl (XS.goto X122.here hx rfl (pc0 := 23) (pc' := 7) rfl (hb hby dN5_23) (by decide) (by decide) (XS.iloadN X122.here hx rfl (hb hby dN5_7) rfl (XS.aloadN X122.here hx rfl (hb hby dN5_8) rfl rfl kont)))) ?_
  show Go _ _ _ _ _ _ _ (T122.setTop (mkF m 9 #[.val (.ref a), .val (.ref b102), .val (.int (4 : Int32))] [(.ref a), (.int (4 : Int32))]))
  obtain ⟨cl_q124, Ar_q124, q1_q124, S_q124, N_q124, H_q124, G_q124⟩ := id V123_a
  refine Go.by (X122.arraylength hx (by first | exact Ar_q124.1 | (rw [e122]; exact Ar_q124.1)) (State.isArrayOf_alike hZ.alike Ar_q124.2.1) (g := (mkF m 9 #[.val (.ref a), .val (.ref b102), .val (.int (4 : Int32))] [(.ref a), (.int (4 : Int32))])) rfl rfl (hb hby dN5_9)) ?_
  rw [len_of S_q124 N_q124]
  show Go _ _ _ _ _ _ _ (T122.setTop (mkF m 10 #[.val (.ref a), .val (.ref b102), .val (.int (4 : Int32))] [(.int (5 : Int32)), (.int (4 : Int32))]))
  refine Go.by (fun _ kont => XS.icmpNo X122.here hx rfl (hb hby dN5_10) rfl (by decide) kont) ?_
  show Go _ _ _ _ _ _ _ (T122.setTop (mkF m 13 #[.val (.ref a), .val (.ref b102), .val (.int (4 : Int32))] []))
  refine Go.by (fun _ kont => XS.aloadN X122.here hx rfl (hb hby dN5_13) rfl rfl (XS.iloadN X122.here hx rfl (hb hby dN5_14) rfl (XS.aloadN X122.here hx rfl (hb hby dN5_15) rfl rfl (XS.iloadN X122.here hx rfl (hb hby dN5_16) rfl kont)))) ?_
  show Go _ _ _ _ _ _ _ (T122.setTop (mkF m 17 #[.val (.ref a), .val (.ref b102), .val (.int (4 : Int32))] [(.int (4 : Int32)), (.ref a), (.int (4 : Int32)), (.ref b102)]))
  obtain ⟨cl_q125, Ar_q125, q1_q125, S_q125, N_q125, H_q125, G_q125⟩ := id V123_a
  have hin_q125 : ¬ ((4 : Int32) < 0 ∨ cl_q125.slots.size ≤ ((4 : Int32)).toNatClampNeg) := inb_of S_q125 ⟨by decide, by decide⟩
  have hat_q125 : cl_q125.slots[((4 : Int32)).toNatClampNeg]? = some (.long v4) := Has.at H_q125 hin_q125 rfl
  refine Go.by (X122.laload hx (j := (4 : Int32)) (v := (.long v4)) (by first | exact Ar_q125.1 | (rw [e122]; exact Ar_q125.1)) (State.isArrayOf_alike hZ.alike Ar_q125.2.1) Ar_q125.2.2 hin_q125 hat_q125 (g := (mkF m 17 #[.val (.ref a), .val (.ref b102), .val (.int (4 : Int32))] [(.int (4 : Int32)), (.ref a), (.int (4 : Int32)), (.ref b102)])) rfl rfl (hb hby dN5_17)) ?_
  show Go _ _ _ _ _ _ _ (T122.setTop (mkF m 18 #[.val (.ref a), .val (.ref b102), .val (.int (4 : Int32))] [(.long v4), (.int (4 : Int32)), (.ref b102)]))
  refine Go.by (fun _ kont => XS.lneg X122.here hx rfl (hb hby dN5_18) rfl kont) ?_
  show Go _ _ _ _ _ _ _ (T122.setTop (mkF m 19 #[.val (.ref a), .val (.ref b102), .val (.int (4 : Int32))] [(.long (-v4)), (.int (4 : Int32)), (.ref b102)]))
  obtain ⟨cl_q126, Ar_q126, q1_q126, S_q126, N_q126, H_q126, G_q126⟩ := id V122
  have hin_q126 : ¬ ((4 : Int32) < 0 ∨ cl_q126.slots.size ≤ ((4 : Int32)).toNatClampNeg) := inb_of S_q126 ⟨by decide, by decide⟩
  obtain ⟨T127, h127, X127, e127, W127, st127⟩ := stJ X122 hx hZ e122 Ar_q126 (j := (4 : Int32)) hin_q126 (g := (mkF m 19 #[.val (.ref a), .val (.ref b102), .val (.int (4 : Int32))] [(.long (-v4)), (.int (4 : Int32)), (.ref b102)])) rfl rfl (hb hby dN5_19)
  have V127 : Arv Z h127 b102 k102 .long (5 : Int32) [(.long (-v0)), (.long (-v1)), (.long (-v2)), (.long (-v3)), (.long (-v4))] (.long (0 : Int64)) := Arv.set Ar_q126 q1_q126 S_q126 N_q126 H_q126 G_q126 rfl W127 4 rfl (Nat.le_of_ble_eq_true rfl)
  have V128_a := V123_a.other W127 ne_a_b102
  have Z128 := Nat.le_trans Z123 (Keep.of_wr W127).1
  have K128 : Keep h0 h127 [] := K123.wr W127 (Or.inr sz_b102)
  have N127 := Fr.snoc X127 N122 ge_b102
  refine Go.by st127 ?_
  show Go _ _ _ _ _ _ _ (T127.setTop (mkF m 20 #[.val (.ref a), .val (.ref b102), .val (.int (4 : Int32))] []))
  refine Go.by (fun _ kont => XS.iinc X127.here hx rfl (hb hby dN5_20) rfl (l' := #[.val (.ref a), .val (.ref b102), .val (.int (5 : Int32))]) rfl (XS.goto X127.here hx rfl (pc0 := 23) (pc' := 7) rfl (hb hby dN5_23) (by decide) (by decide) (XS.iloadN X127.here hx rfl (hb hby dN5_7) rfl (XS.aloadN X127.here hx rfl (hb hby dN5_8) rfl rfl kont)))) ?_
  show Go _ _ _ _ _ _ _ (T127.setTop (mkF m 9 #[.val (.ref a), .val (.ref b102), .val (.int (5 : Int32))] [(.ref a), (.int (5 : Int32))]))
  obtain ⟨cl_q129, Ar_q129, q1_q129, S_q129, N_q129, H_q129, G_q129⟩ := id V128_a
  refine Go.by (X127.arraylength hx (by first | exact Ar_q129.1 | (rw [e127]; exact Ar_q129.1)) (State.isArrayOf_alike hZ.alike Ar_q129.2.1) (g := (mkF m 9 #[.val (.ref a), .val (.ref b102), .val (.int (5 : Int32))] [(.ref a), (.int (5 : Int32))])) rfl rfl (hb hby dN5_9)) ?_
  rw [len_of S_q129 N_q129]
  show Go _ _ _ _ _ _ _ (T127.setTop (mkF m 10 #[.val (.ref a), .val (.ref b102), .val (.int (5 : Int32))] [(.int (5 : Int32)), (.int (5 : Int32))]))
  refine Go.by (fun _ kont => XS.icmpYes X127.here hx rfl (pc0 := 10) (pc' := 26) rfl (hb hby dN5_10) rfl (by decide) (by decide) (by decide) kont) ?_
  show Go _ _ _ _ _ _ _ (T127.setTop (mkF m 26 #[.val (.ref a), .val (.ref b102), .val (.int (5 : Int32))] []))
  refine Go.by (fun _ kont => XS.aloadN X127.here hx rfl (hb hby dN5_26) rfl rfl kont) ?_
  show Go _ _ _ _ _ _ _ (T127.setTop (mkF m 27 #[.val (.ref a), .val (.ref b102), .val (.int (5 : Int32))] [(.ref b102)]))
  refine Go.retR X127 hx hret rfl rfl hlk (hb hby dN5_27) ?_ (by decide) (by decide)
  show QN5 Z a kc_a v0 v1 v2 v3 v4 h0 n0 (some (.ref b102)) T127.heap _
  rw [e127]
  exact ⟨b102, k102, rfl, N127, K128, ge_b102, sz_b102, V127⟩

theorem dK50_0 : decode method_3_code 0 = .ok (.iload_n 3, 1) := by decide +kernel
theorem dK50_1 : decode method_3_code 1 = .ok (.iload 4, 2) := by decide +kernel
theorem dK50_3 : decode method_3_code 3 = .ok (.if_icmp .lt 5, 3) := by decide +kernel
theorem dK50_8 : decode method_3_code 8 = .ok (.aload_n 0, 1) := by decide +kernel
theorem dK50_9 : decode method_3_code 9 = .ok (.iload_n 3, 1) := by decide +kernel
theorem dK50_10 : decode method_3_code 10 = .ok (.laload, 1) := by decide +kernel
theorem dK50_11 : decode method_3_code 11 = .ok (.aload_n 2, 1) := by decide +kernel
theorem dK50_12 : decode method_3_code 12 = .ok (.iload_n 3, 1) := by decide +kernel
theorem dK50_13 : decode method_3_code 13 = .ok (.laload, 1) := by decide +kernel
theorem dK50_14 : decode method_3_code 14 = .ok (.lcmp, 1) := by decide +kernel
theorem dK50_15 : decode method_3_code 15 = .ok (.ifCond .ne 19, 3) := by decide +kernel
theorem dK50_18 : decode method_3_code 18 = .ok (.aload_n 0, 1) := by decide +kernel
theorem dK50_19 : decode method_3_code 19 = .ok (.iload_n 3, 1) := by decide +kernel
theorem dK50_20 : decode method_3_code 20 = .ok (.laload, 1) := by decide +kernel
theorem dK50_21 : decode method_3_code 21 = .ok (.aload_n 1, 1) := by decide +kernel
theorem dK50_22 : decode method_3_code 22 = .ok (.iload_n 3, 1) := by decide +kernel
theorem dK50_23 : decode method_3_code 23 = .ok (.laload, 1) := by decide +kernel
theorem dK50_24 : decode method_3_code 24 = .ok (.ladd, 1) := by decide +kernel
theorem dK50_25 : decode method_3_code 25 = .ok (.lconst 0, 1) := by decide +kernel
theorem dK50_26 : decode method_3_code 26 = .ok (.lcmp, 1) := by decide +kernel
theorem dK50_27 : decode method_3_code 27 = .ok (.ifCond .ne 7, 3) := by decide +kernel
theorem dK50_30 : decode method_3_code 30 = .ok (.iconst 1, 1) := by decide +kernel
theorem dK50_31 : decode method_3_code 31 = .ok (.goto 4, 3) := by decide +kernel
theorem dK50_35 : decode method_3_code 35 = .ok (.ireturn, 1) := by decide +kernel
theorem pnK50 : plainName "com/example/runs_to_nets/runstonets/core/PlaceTransitionSynthesisNegatedPinLaw" = true := by first | (simp [plainName, overriddenIn]; done) | decide +kernel
theorem efK50 (m : MethodId) (a : Addr) (b : Addr) (d : Addr) : entryFrame m #[(.ref a), (.ref b), (.ref d), (.int (0 : Int32)), (.int (5 : Int32))] 5 = mkF m 0 #[.val (.ref a), .val (.ref b), .val (.ref d), .val (.int (0 : Int32)), .val (.int (5 : Int32))] [] := by first | (simp [entryFrame, mkF, argsToLocals, Value.category]; done) | rfl
def QK50 (Z : State) (a : Addr) (b : Addr) (d : Addr) (kc_a : ClassId) (v0 : Int64) (v1 : Int64) (v2 : Int64) (v3 : Int64) (v4 : Int64) (kc_b : ClassId) (kc_d : ClassId) (h0 : Heap) (n0 : Nat) (v : Option Value) (h : Heap) (L : List Loc) : Prop := (v = some (.int (1 : Int32)) ∧ Fr n0 L ∧ h = h0)
set_option maxRecDepth 65536 in
set_option maxHeartbeats 40000000 in
theorem rmK50 (l : Launch) (Z : State) (a0 : Array Value) (hw : ∀ d ∈ tables_1, d.before a0 Z = true) (ws : List Jvm.Cond) (a : Addr) (b : Addr) (d : Addr) (kc_a : ClassId) (v0 : Int64) (v1 : Int64) (v2 : Int64) (v3 : Int64) (v4 : Int64) (kc_b : ClassId) (kc_d : ClassId) (h0 : Heap) (n0 : Nat) (Z0 : n0 ≤ h0.size) (V0_a : Arv Z h0 a kc_a .long (5 : Int32) [(.long v0), (.long v1), (.long v2), (.long v3), (.long v4)] (.long (0 : Int64))) (V0_b : Arv Z h0 b kc_b .long (5 : Int32) [(.long (-v0)), (.long (-v1)), (.long (-v2)), (.long (-v3)), (.long (-v4))] (.long (0 : Int64))) (V0_d : Arv Z h0 d kc_d .long (5 : Int32) [(.long v0), (.long v1), (.long v2), (.long v3), (.long v4)] (.long (0 : Int64))) :
    MetFree l (⟨"com/example/runs_to_nets/runstonets/core/PlaceTransitionSynthesisNegatedPinLaw", "ok", "([J[J[JII)Z"⟩ : MethodName) (head1 (Jvm.Cond.code (⟨"com/example/runs_to_nets/runstonets/core/PlaceTransitionSynthesisNegatedPinLaw", "ok", "([J[J[JII)Z"⟩ : MethodName) method_3_code 5 (some .boolean) :: ws) ({ frames := 0, cells := 0, slots := 0, locals := 0 } : Room)) (fun aa_ U_ => aa_ = #[(.ref a), (.ref b), (.ref d), (.int (0 : Int32)), (.int (5 : Int32))] ∧ Z.Warmed39 U_.vm ∧ U_.heap = h0) (fun _ _ _ _ _ => True) (fun _ U_ o_ V_ => ∃ v_ L_, o_ = .returned v_ ∧ QK50 Z a b d kc_a v0 v1 v2 v3 v4 kc_b kc_d h0 n0 v_ V_.heap L_ ∧ FrameEnd U_ o_ V_ L_ ({ frames := 0, cells := 0, slots := 0, locals := 0 } : Room).cells ({ frames := 0, cells := 0, slots := 0, locals := 0 } : Room).slots) := by
  refine MetFree.of_bodySF (plainFor_of_name pnK50) hisR ?_
  intro p e s m args below meth c s₁ Bd hml0 hP hK
  obtain ⟨rfl, hZ, hh⟩ := hP
  have hx := Bd.exec
  have hby := Bd.bytes
  have hml : c.maxLocals = 5 := hml0
  have hown : s.vm.findClass "com/example/runs_to_nets/runstonets/core/PlaceTransitionSynthesisNegatedPinLaw" = some m.cls := findClass_of_methodNamed Bd.named
  have hnm := (name_of_methodNamed Bd.named Bd.method).1
  have hlk : meth.locks = false := BodyLoose.notSynchronized Bd
  have hret : meth.sig.returnType = (some .boolean) := Bd.returns
  have X0 : Stand p l e ({ frames := 0, cells := 0, slots := 0, locals := 0 } : Room) s m #[(.ref a), (.ref b), (.ref d), (.int (0 : Int32)), (.int (5 : Int32))] below meth c s₁ [] 0 0 := Stand.of_body Bd
  have e0 : s₁.heap = h0 := by rw [← hh, Bd.state]; rfl
  have N0 := Fr.nil n0
  show Go p e below s ({ frames := 0, cells := 0, slots := 0, locals := 0 } : Room).cells ({ frames := 0, cells := 0, slots := 0, locals := 0 } : Room).slots (QK50 Z a b d kc_a v0 v1 v2 v3 v4 kc_b kc_d h0 n0) (s₁.setTop (entryFrame m #[(.ref a), (.ref b), (.ref d), (.int (0 : Int32)), (.int (5 : Int32))] 5))
  rw [efK50]
  refine Go.by (fun _ kont => XS.iloadN X0.here hx rfl (hb hby dK50_0) rfl (XS.iload X0.here hx rfl (hb hby dK50_1) rfl kont)) ?_
  show Go _ _ _ _ _ _ _ (s₁.setTop (mkF m 3 #[.val (.ref a), .val (.ref b), .val (.ref d), .val (.int (0 : Int32)), .val (.int (5 : Int32))] [(.int (5 : Int32)), (.int (0 : Int32))]))
  refine Go.by (fun _ kont => XS.icmpYes X0.here hx rfl (pc0 := 3) (pc' := 8) rfl (hb hby dK50_3) rfl (by decide) (by decide) (by decide) kont) ?_
  show Go _ _ _ _ _ _ _ (s₁.setTop (mkF m 8 #[.val (.ref a), .val (.ref b), .val (.ref d), .val (.int (0 : Int32)), .val (.int (5 : Int32))] []))
  refine Go.by (fun _ kont => XS.aloadN X0.here hx rfl (hb hby dK50_8) rfl rfl (XS.iloadN X0.here hx rfl (hb hby dK50_9) rfl kont)) ?_
  show Go _ _ _ _ _ _ _ (s₁.setTop (mkF m 10 #[.val (.ref a), .val (.ref b), .val (.ref d), .val (.int (0 : Int32)), .val (.int (5 : Int32))] [(.int (0 : Int32)), (.ref a)]))
  obtain ⟨cl_q101, Ar_q101, q1_q101, S_q101, N_q101, H_q101, G_q101⟩ := id V0_a
  have hin_q101 : ¬ ((0 : Int32) < 0 ∨ cl_q101.slots.size ≤ ((0 : Int32)).toNatClampNeg) := inb_of S_q101 ⟨by decide, by decide⟩
  have hat_q101 : cl_q101.slots[((0 : Int32)).toNatClampNeg]? = some (.long v0) := Has.at H_q101 hin_q101 rfl
  refine Go.by (X0.laload hx (j := (0 : Int32)) (v := (.long v0)) (by first | exact Ar_q101.1 | (rw [e0]; exact Ar_q101.1)) (State.isArrayOf_alike hZ.alike Ar_q101.2.1) Ar_q101.2.2 hin_q101 hat_q101 (g := (mkF m 10 #[.val (.ref a), .val (.ref b), .val (.ref d), .val (.int (0 : Int32)), .val (.int (5 : Int32))] [(.int (0 : Int32)), (.ref a)])) rfl rfl (hb hby dK50_10)) ?_
  show Go _ _ _ _ _ _ _ (s₁.setTop (mkF m 11 #[.val (.ref a), .val (.ref b), .val (.ref d), .val (.int (0 : Int32)), .val (.int (5 : Int32))] [(.long v0)]))
  refine Go.by (fun _ kont => XS.aloadN X0.here hx rfl (hb hby dK50_11) rfl rfl (XS.iloadN X0.here hx rfl (hb hby dK50_12) rfl kont)) ?_
  show Go _ _ _ _ _ _ _ (s₁.setTop (mkF m 13 #[.val (.ref a), .val (.ref b), .val (.ref d), .val (.int (0 : Int32)), .val (.int (5 : Int32))] [(.int (0 : Int32)), (.ref d), (.long v0)]))
  obtain ⟨cl_q102, Ar_q102, q1_q102, S_q102, N_q102, H_q102, G_q102⟩ := id V0_d
  have hin_q102 : ¬ ((0 : Int32) < 0 ∨ cl_q102.slots.size ≤ ((0 : Int32)).toNatClampNeg) := inb_of S_q102 ⟨by decide, by decide⟩
  have hat_q102 : cl_q102.slots[((0 : Int32)).toNatClampNeg]? = some (.long v0) := Has.at H_q102 hin_q102 rfl
  refine Go.by (X0.laload hx (j := (0 : Int32)) (v := (.long v0)) (by first | exact Ar_q102.1 | (rw [e0]; exact Ar_q102.1)) (State.isArrayOf_alike hZ.alike Ar_q102.2.1) Ar_q102.2.2 hin_q102 hat_q102 (g := (mkF m 13 #[.val (.ref a), .val (.ref b), .val (.ref d), .val (.int (0 : Int32)), .val (.int (5 : Int32))] [(.int (0 : Int32)), (.ref d), (.long v0)])) rfl rfl (hb hby dK50_13)) ?_
  show Go _ _ _ _ _ _ _ (s₁.setTop (mkF m 14 #[.val (.ref a), .val (.ref b), .val (.ref d), .val (.int (0 : Int32)), .val (.int (5 : Int32))] [(.long v0), (.long v0)]))
  refine Go.by (fun _ kont => XS.lcmp X0.here hx rfl (hb hby dK50_14) rfl kont) ?_
  show Go _ _ _ _ _ _ _ (s₁.setTop (mkF m 15 #[.val (.ref a), .val (.ref b), .val (.ref d), .val (.int (0 : Int32)), .val (.int (5 : Int32))] [(.int (lcmpW v0 v0))]))
  refine Go.by (fun _ kont => XS.ifNo X0.here hx rfl (hb hby dK50_15) rfl ((if0 _ _).trans (teq ((lw_eq _ _).mpr rfl)).2) kont) ?_
  show Go _ _ _ _ _ _ _ (s₁.setTop (mkF m 18 #[.val (.ref a), .val (.ref b), .val (.ref d), .val (.int (0 : Int32)), .val (.int (5 : Int32))] []))
  refine Go.by (fun _ kont => XS.aloadN X0.here hx rfl (hb hby dK50_18) rfl rfl (XS.iloadN X0.here hx rfl (hb hby dK50_19) rfl kont)) ?_
  show Go _ _ _ _ _ _ _ (s₁.setTop (mkF m 20 #[.val (.ref a), .val (.ref b), .val (.ref d), .val (.int (0 : Int32)), .val (.int (5 : Int32))] [(.int (0 : Int32)), (.ref a)]))
  obtain ⟨cl_q103, Ar_q103, q1_q103, S_q103, N_q103, H_q103, G_q103⟩ := id V0_a
  have hin_q103 : ¬ ((0 : Int32) < 0 ∨ cl_q103.slots.size ≤ ((0 : Int32)).toNatClampNeg) := inb_of S_q103 ⟨by decide, by decide⟩
  have hat_q103 : cl_q103.slots[((0 : Int32)).toNatClampNeg]? = some (.long v0) := Has.at H_q103 hin_q103 rfl
  refine Go.by (X0.laload hx (j := (0 : Int32)) (v := (.long v0)) (by first | exact Ar_q103.1 | (rw [e0]; exact Ar_q103.1)) (State.isArrayOf_alike hZ.alike Ar_q103.2.1) Ar_q103.2.2 hin_q103 hat_q103 (g := (mkF m 20 #[.val (.ref a), .val (.ref b), .val (.ref d), .val (.int (0 : Int32)), .val (.int (5 : Int32))] [(.int (0 : Int32)), (.ref a)])) rfl rfl (hb hby dK50_20)) ?_
  show Go _ _ _ _ _ _ _ (s₁.setTop (mkF m 21 #[.val (.ref a), .val (.ref b), .val (.ref d), .val (.int (0 : Int32)), .val (.int (5 : Int32))] [(.long v0)]))
  refine Go.by (fun _ kont => XS.aloadN X0.here hx rfl (hb hby dK50_21) rfl rfl (XS.iloadN X0.here hx rfl (hb hby dK50_22) rfl kont)) ?_
  show Go _ _ _ _ _ _ _ (s₁.setTop (mkF m 23 #[.val (.ref a), .val (.ref b), .val (.ref d), .val (.int (0 : Int32)), .val (.int (5 : Int32))] [(.int (0 : Int32)), (.ref b), (.long v0)]))
  obtain ⟨cl_q104, Ar_q104, q1_q104, S_q104, N_q104, H_q104, G_q104⟩ := id V0_b
  have hin_q104 : ¬ ((0 : Int32) < 0 ∨ cl_q104.slots.size ≤ ((0 : Int32)).toNatClampNeg) := inb_of S_q104 ⟨by decide, by decide⟩
  have hat_q104 : cl_q104.slots[((0 : Int32)).toNatClampNeg]? = some (.long (-v0)) := Has.at H_q104 hin_q104 rfl
  refine Go.by (X0.laload hx (j := (0 : Int32)) (v := (.long (-v0))) (by first | exact Ar_q104.1 | (rw [e0]; exact Ar_q104.1)) (State.isArrayOf_alike hZ.alike Ar_q104.2.1) Ar_q104.2.2 hin_q104 hat_q104 (g := (mkF m 23 #[.val (.ref a), .val (.ref b), .val (.ref d), .val (.int (0 : Int32)), .val (.int (5 : Int32))] [(.int (0 : Int32)), (.ref b), (.long v0)])) rfl rfl (hb hby dK50_23)) ?_
  show Go _ _ _ _ _ _ _ (s₁.setTop (mkF m 24 #[.val (.ref a), .val (.ref b), .val (.ref d), .val (.int (0 : Int32)), .val (.int (5 : Int32))] [(.long (-v0)), (.long v0)]))
  refine Go.by (fun _ kont => XS.ladd X0.here hx rfl (hb hby dK50_24) rfl (XS.lconst X0.here hx rfl (hb hby dK50_25) (XS.lcmp X0.here hx rfl (hb hby dK50_26) rfl kont))) ?_
  show Go _ _ _ _ _ _ _ (s₁.setTop (mkF m 27 #[.val (.ref a), .val (.ref b), .val (.ref d), .val (.int (0 : Int32)), .val (.int (5 : Int32))] [(.int (lcmpW (v0 + (-v0)) (0 : Int64)))]))
  have hd105 : (v0 + (-v0)) = (0 : Int64) := Int64.add_right_neg _
  refine Go.by (fun _ kont => XS.ifNo X0.here hx rfl (hb hby dK50_27) rfl ((if0 _ _).trans (teq ((lw_eq _ _).mpr hd105)).2) kont) ?_
  show Go _ _ _ _ _ _ _ (s₁.setTop (mkF m 30 #[.val (.ref a), .val (.ref b), .val (.ref d), .val (.int (0 : Int32)), .val (.int (5 : Int32))] []))
  refine Go.by (fun _ kont => XS.iconst X0.here hx rfl (hb hby dK50_30) (XS.goto X0.here hx rfl (pc0 := 31) (pc' := 35) rfl (hb hby dK50_31) (by decide) (by decide) kont)) ?_
  show Go _ _ _ _ _ _ _ (s₁.setTop (mkF m 35 #[.val (.ref a), .val (.ref b), .val (.ref d), .val (.int (0 : Int32)), .val (.int (5 : Int32))] [(.int (1 : Int32))]))
  refine Go.retN X0 hx (t := .boolean) hret (by simp) hlk (hb hby dK50_35) ?_ (by decide) (by decide)
  show QK50 Z a b d kc_a v0 v1 v2 v3 v4 kc_b kc_d h0 n0 (some (.int (1 : Int32))) s₁.heap _
  rw [e0]
  exact ⟨rfl, N0, rfl⟩

theorem dK51_0 : decode method_3_code 0 = .ok (.iload_n 3, 1) := by decide +kernel
theorem dK51_1 : decode method_3_code 1 = .ok (.iload 4, 2) := by decide +kernel
theorem dK51_3 : decode method_3_code 3 = .ok (.if_icmp .lt 5, 3) := by decide +kernel
theorem dK51_8 : decode method_3_code 8 = .ok (.aload_n 0, 1) := by decide +kernel
theorem dK51_9 : decode method_3_code 9 = .ok (.iload_n 3, 1) := by decide +kernel
theorem dK51_10 : decode method_3_code 10 = .ok (.laload, 1) := by decide +kernel
theorem dK51_11 : decode method_3_code 11 = .ok (.aload_n 2, 1) := by decide +kernel
theorem dK51_12 : decode method_3_code 12 = .ok (.iload_n 3, 1) := by decide +kernel
theorem dK51_13 : decode method_3_code 13 = .ok (.laload, 1) := by decide +kernel
theorem dK51_14 : decode method_3_code 14 = .ok (.lcmp, 1) := by decide +kernel
theorem dK51_15 : decode method_3_code 15 = .ok (.ifCond .ne 19, 3) := by decide +kernel
theorem dK51_18 : decode method_3_code 18 = .ok (.aload_n 0, 1) := by decide +kernel
theorem dK51_19 : decode method_3_code 19 = .ok (.iload_n 3, 1) := by decide +kernel
theorem dK51_20 : decode method_3_code 20 = .ok (.laload, 1) := by decide +kernel
theorem dK51_21 : decode method_3_code 21 = .ok (.aload_n 1, 1) := by decide +kernel
theorem dK51_22 : decode method_3_code 22 = .ok (.iload_n 3, 1) := by decide +kernel
theorem dK51_23 : decode method_3_code 23 = .ok (.laload, 1) := by decide +kernel
theorem dK51_24 : decode method_3_code 24 = .ok (.ladd, 1) := by decide +kernel
theorem dK51_25 : decode method_3_code 25 = .ok (.lconst 0, 1) := by decide +kernel
theorem dK51_26 : decode method_3_code 26 = .ok (.lcmp, 1) := by decide +kernel
theorem dK51_27 : decode method_3_code 27 = .ok (.ifCond .ne 7, 3) := by decide +kernel
theorem dK51_30 : decode method_3_code 30 = .ok (.iconst 1, 1) := by decide +kernel
theorem dK51_31 : decode method_3_code 31 = .ok (.goto 4, 3) := by decide +kernel
theorem dK51_35 : decode method_3_code 35 = .ok (.ireturn, 1) := by decide +kernel
theorem pnK51 : plainName "com/example/runs_to_nets/runstonets/core/PlaceTransitionSynthesisNegatedPinLaw" = true := by first | (simp [plainName, overriddenIn]; done) | decide +kernel
theorem efK51 (m : MethodId) (a : Addr) (b : Addr) (d : Addr) : entryFrame m #[(.ref a), (.ref b), (.ref d), (.int (1 : Int32)), (.int (5 : Int32))] 5 = mkF m 0 #[.val (.ref a), .val (.ref b), .val (.ref d), .val (.int (1 : Int32)), .val (.int (5 : Int32))] [] := by first | (simp [entryFrame, mkF, argsToLocals, Value.category]; done) | rfl
def QK51 (Z : State) (a : Addr) (b : Addr) (d : Addr) (kc_a : ClassId) (v0 : Int64) (v1 : Int64) (v2 : Int64) (v3 : Int64) (v4 : Int64) (kc_b : ClassId) (kc_d : ClassId) (h0 : Heap) (n0 : Nat) (v : Option Value) (h : Heap) (L : List Loc) : Prop := (v = some (.int (1 : Int32)) ∧ Fr n0 L ∧ h = h0)
set_option maxRecDepth 65536 in
set_option maxHeartbeats 40000000 in
theorem rmK51 (l : Launch) (Z : State) (a0 : Array Value) (hw : ∀ d ∈ tables_1, d.before a0 Z = true) (ws : List Jvm.Cond) (a : Addr) (b : Addr) (d : Addr) (kc_a : ClassId) (v0 : Int64) (v1 : Int64) (v2 : Int64) (v3 : Int64) (v4 : Int64) (kc_b : ClassId) (kc_d : ClassId) (h0 : Heap) (n0 : Nat) (Z0 : n0 ≤ h0.size) (V0_a : Arv Z h0 a kc_a .long (5 : Int32) [(.long v0), (.long v1), (.long v2), (.long v3), (.long v4)] (.long (0 : Int64))) (V0_b : Arv Z h0 b kc_b .long (5 : Int32) [(.long (-v0)), (.long (-v1)), (.long (-v2)), (.long (-v3)), (.long (-v4))] (.long (0 : Int64))) (V0_d : Arv Z h0 d kc_d .long (5 : Int32) [(.long v0), (.long v1), (.long v2), (.long v3), (.long v4)] (.long (0 : Int64))) :
    MetFree l (⟨"com/example/runs_to_nets/runstonets/core/PlaceTransitionSynthesisNegatedPinLaw", "ok", "([J[J[JII)Z"⟩ : MethodName) (head1 (Jvm.Cond.code (⟨"com/example/runs_to_nets/runstonets/core/PlaceTransitionSynthesisNegatedPinLaw", "ok", "([J[J[JII)Z"⟩ : MethodName) method_3_code 5 (some .boolean) :: ws) ({ frames := 0, cells := 0, slots := 0, locals := 0 } : Room)) (fun aa_ U_ => aa_ = #[(.ref a), (.ref b), (.ref d), (.int (1 : Int32)), (.int (5 : Int32))] ∧ Z.Warmed39 U_.vm ∧ U_.heap = h0) (fun _ _ _ _ _ => True) (fun _ U_ o_ V_ => ∃ v_ L_, o_ = .returned v_ ∧ QK51 Z a b d kc_a v0 v1 v2 v3 v4 kc_b kc_d h0 n0 v_ V_.heap L_ ∧ FrameEnd U_ o_ V_ L_ ({ frames := 0, cells := 0, slots := 0, locals := 0 } : Room).cells ({ frames := 0, cells := 0, slots := 0, locals := 0 } : Room).slots) := by
  refine MetFree.of_bodySF (plainFor_of_name pnK51) hisR ?_
  intro p e s m args below meth c s₁ Bd hml0 hP hK
  obtain ⟨rfl, hZ, hh⟩ := hP
  have hx := Bd.exec
  have hby := Bd.bytes
  have hml : c.maxLocals = 5 := hml0
  have hown : s.vm.findClass "com/example/runs_to_nets/runstonets/core/PlaceTransitionSynthesisNegatedPinLaw" = some m.cls := findClass_of_methodNamed Bd.named
  have hnm := (name_of_methodNamed Bd.named Bd.method).1
  have hlk : meth.locks = false := BodyLoose.notSynchronized Bd
  have hret : meth.sig.returnType = (some .boolean) := Bd.returns
  have X0 : Stand p l e ({ frames := 0, cells := 0, slots := 0, locals := 0 } : Room) s m #[(.ref a), (.ref b), (.ref d), (.int (1 : Int32)), (.int (5 : Int32))] below meth c s₁ [] 0 0 := Stand.of_body Bd
  have e0 : s₁.heap = h0 := by rw [← hh, Bd.state]; rfl
  have N0 := Fr.nil n0
  show Go p e below s ({ frames := 0, cells := 0, slots := 0, locals := 0 } : Room).cells ({ frames := 0, cells := 0, slots := 0, locals := 0 } : Room).slots (QK51 Z a b d kc_a v0 v1 v2 v3 v4 kc_b kc_d h0 n0) (s₁.setTop (entryFrame m #[(.ref a), (.ref b), (.ref d), (.int (1 : Int32)), (.int (5 : Int32))] 5))
  rw [efK51]
  refine Go.by (fun _ kont => XS.iloadN X0.here hx rfl (hb hby dK51_0) rfl (XS.iload X0.here hx rfl (hb hby dK51_1) rfl kont)) ?_
  show Go _ _ _ _ _ _ _ (s₁.setTop (mkF m 3 #[.val (.ref a), .val (.ref b), .val (.ref d), .val (.int (1 : Int32)), .val (.int (5 : Int32))] [(.int (5 : Int32)), (.int (1 : Int32))]))
  refine Go.by (fun _ kont => XS.icmpYes X0.here hx rfl (pc0 := 3) (pc' := 8) rfl (hb hby dK51_3) rfl (by decide) (by decide) (by decide) kont) ?_
  show Go _ _ _ _ _ _ _ (s₁.setTop (mkF m 8 #[.val (.ref a), .val (.ref b), .val (.ref d), .val (.int (1 : Int32)), .val (.int (5 : Int32))] []))
  refine Go.by (fun _ kont => XS.aloadN X0.here hx rfl (hb hby dK51_8) rfl rfl (XS.iloadN X0.here hx rfl (hb hby dK51_9) rfl kont)) ?_
  show Go _ _ _ _ _ _ _ (s₁.setTop (mkF m 10 #[.val (.ref a), .val (.ref b), .val (.ref d), .val (.int (1 : Int32)), .val (.int (5 : Int32))] [(.int (1 : Int32)), (.ref a)]))
  obtain ⟨cl_q101, Ar_q101, q1_q101, S_q101, N_q101, H_q101, G_q101⟩ := id V0_a
  have hin_q101 : ¬ ((1 : Int32) < 0 ∨ cl_q101.slots.size ≤ ((1 : Int32)).toNatClampNeg) := inb_of S_q101 ⟨by decide, by decide⟩
  have hat_q101 : cl_q101.slots[((1 : Int32)).toNatClampNeg]? = some (.long v1) := Has.at H_q101 hin_q101 rfl
  refine Go.by (X0.laload hx (j := (1 : Int32)) (v := (.long v1)) (by first | exact Ar_q101.1 | (rw [e0]; exact Ar_q101.1)) (State.isArrayOf_alike hZ.alike Ar_q101.2.1) Ar_q101.2.2 hin_q101 hat_q101 (g := (mkF m 10 #[.val (.ref a), .val (.ref b), .val (.ref d), .val (.int (1 : Int32)), .val (.int (5 : Int32))] [(.int (1 : Int32)), (.ref a)])) rfl rfl (hb hby dK51_10)) ?_
  show Go _ _ _ _ _ _ _ (s₁.setTop (mkF m 11 #[.val (.ref a), .val (.ref b), .val (.ref d), .val (.int (1 : Int32)), .val (.int (5 : Int32))] [(.long v1)]))
  refine Go.by (fun _ kont => XS.aloadN X0.here hx rfl (hb hby dK51_11) rfl rfl (XS.iloadN X0.here hx rfl (hb hby dK51_12) rfl kont)) ?_
  show Go _ _ _ _ _ _ _ (s₁.setTop (mkF m 13 #[.val (.ref a), .val (.ref b), .val (.ref d), .val (.int (1 : Int32)), .val (.int (5 : Int32))] [(.int (1 : Int32)), (.ref d), (.long v1)]))
  obtain ⟨cl_q102, Ar_q102, q1_q102, S_q102, N_q102, H_q102, G_q102⟩ := id V0_d
  have hin_q102 : ¬ ((1 : Int32) < 0 ∨ cl_q102.slots.size ≤ ((1 : Int32)).toNatClampNeg) := inb_of S_q102 ⟨by decide, by decide⟩
  have hat_q102 : cl_q102.slots[((1 : Int32)).toNatClampNeg]? = some (.long v1) := Has.at H_q102 hin_q102 rfl
  refine Go.by (X0.laload hx (j := (1 : Int32)) (v := (.long v1)) (by first | exact Ar_q102.1 | (rw [e0]; exact Ar_q102.1)) (State.isArrayOf_alike hZ.alike Ar_q102.2.1) Ar_q102.2.2 hin_q102 hat_q102 (g := (mkF m 13 #[.val (.ref a), .val (.ref b), .val (.ref d), .val (.int (1 : Int32)), .val (.int (5 : Int32))] [(.int (1 : Int32)), (.ref d), (.long v1)])) rfl rfl (hb hby dK51_13)) ?_
  show Go _ _ _ _ _ _ _ (s₁.setTop (mkF m 14 #[.val (.ref a), .val (.ref b), .val (.ref d), .val (.int (1 : Int32)), .val (.int (5 : Int32))] [(.long v1), (.long v1)]))
  refine Go.by (fun _ kont => XS.lcmp X0.here hx rfl (hb hby dK51_14) rfl kont) ?_
  show Go _ _ _ _ _ _ _ (s₁.setTop (mkF m 15 #[.val (.ref a), .val (.ref b), .val (.ref d), .val (.int (1 : Int32)), .val (.int (5 : Int32))] [(.int (lcmpW v1 v1))]))
  refine Go.by (fun _ kont => XS.ifNo X0.here hx rfl (hb hby dK51_15) rfl ((if0 _ _).trans (teq ((lw_eq _ _).mpr rfl)).2) kont) ?_
  show Go _ _ _ _ _ _ _ (s₁.setTop (mkF m 18 #[.val (.ref a), .val (.ref b), .val (.ref d), .val (.int (1 : Int32)), .val (.int (5 : Int32))] []))
  refine Go.by (fun _ kont => XS.aloadN X0.here hx rfl (hb hby dK51_18) rfl rfl (XS.iloadN X0.here hx rfl (hb hby dK51_19) rfl kont)) ?_
  show Go _ _ _ _ _ _ _ (s₁.setTop (mkF m 20 #[.val (.ref a), .val (.ref b), .val (.ref d), .val (.int (1 : Int32)), .val (.int (5 : Int32))] [(.int (1 : Int32)), (.ref a)]))
  obtain ⟨cl_q103, Ar_q103, q1_q103, S_q103, N_q103, H_q103, G_q103⟩ := id V0_a
  have hin_q103 : ¬ ((1 : Int32) < 0 ∨ cl_q103.slots.size ≤ ((1 : Int32)).toNatClampNeg) := inb_of S_q103 ⟨by decide, by decide⟩
  have hat_q103 : cl_q103.slots[((1 : Int32)).toNatClampNeg]? = some (.long v1) := Has.at H_q103 hin_q103 rfl
  refine Go.by (X0.laload hx (j := (1 : Int32)) (v := (.long v1)) (by first | exact Ar_q103.1 | (rw [e0]; exact Ar_q103.1)) (State.isArrayOf_alike hZ.alike Ar_q103.2.1) Ar_q103.2.2 hin_q103 hat_q103 (g := (mkF m 20 #[.val (.ref a), .val (.ref b), .val (.ref d), .val (.int (1 : Int32)), .val (.int (5 : Int32))] [(.int (1 : Int32)), (.ref a)])) rfl rfl (hb hby dK51_20)) ?_
  show Go _ _ _ _ _ _ _ (s₁.setTop (mkF m 21 #[.val (.ref a), .val (.ref b), .val (.ref d), .val (.int (1 : Int32)), .val (.int (5 : Int32))] [(.long v1)]))
  refine Go.by (fun _ kont => XS.aloadN X0.here hx rfl (hb hby dK51_21) rfl rfl (XS.iloadN X0.here hx rfl (hb hby dK51_22) rfl kont)) ?_
  show Go _ _ _ _ _ _ _ (s₁.setTop (mkF m 23 #[.val (.ref a), .val (.ref b), .val (.ref d), .val (.int (1 : Int32)), .val (.int (5 : Int32))] [(.int (1 : Int32)), (.ref b), (.long v1)]))
  obtain ⟨cl_q104, Ar_q104, q1_q104, S_q104, N_q104, H_q104, G_q104⟩ := id V0_b
  have hin_q104 : ¬ ((1 : Int32) < 0 ∨ cl_q104.slots.size ≤ ((1 : Int32)).toNatClampNeg) := inb_of S_q104 ⟨by decide, by decide⟩
  have hat_q104 : cl_q104.slots[((1 : Int32)).toNatClampNeg]? = some (.long (-v1)) := Has.at H_q104 hin_q104 rfl
  refine Go.by (X0.laload hx (j := (1 : Int32)) (v := (.long (-v1))) (by first | exact Ar_q104.1 | (rw [e0]; exact Ar_q104.1)) (State.isArrayOf_alike hZ.alike Ar_q104.2.1) Ar_q104.2.2 hin_q104 hat_q104 (g := (mkF m 23 #[.val (.ref a), .val (.ref b), .val (.ref d), .val (.int (1 : Int32)), .val (.int (5 : Int32))] [(.int (1 : Int32)), (.ref b), (.long v1)])) rfl rfl (hb hby dK51_23)) ?_
  show Go _ _ _ _ _ _ _ (s₁.setTop (mkF m 24 #[.val (.ref a), .val (.ref b), .val (.ref d), .val (.int (1 : Int32)), .val (.int (5 : Int32))] [(.long (-v1)), (.long v1)]))
  refine Go.by (fun _ kont => XS.ladd X0.here hx rfl (hb hby dK51_24) rfl (XS.lconst X0.here hx rfl (hb hby dK51_25) (XS.lcmp X0.here hx rfl (hb hby dK51_26) rfl kont))) ?_
  show Go _ _ _ _ _ _ _ (s₁.setTop (mkF m 27 #[.val (.ref a), .val (.ref b), .val (.ref d), .val (.int (1 : Int32)), .val (.int (5 : Int32))] [(.int (lcmpW (v1 + (-v1)) (0 : Int64)))]))
  have hd105 : (v1 + (-v1)) = (0 : Int64) := Int64.add_right_neg _
  refine Go.by (fun _ kont => XS.ifNo X0.here hx rfl (hb hby dK51_27) rfl ((if0 _ _).trans (teq ((lw_eq _ _).mpr hd105)).2) kont) ?_
  show Go _ _ _ _ _ _ _ (s₁.setTop (mkF m 30 #[.val (.ref a), .val (.ref b), .val (.ref d), .val (.int (1 : Int32)), .val (.int (5 : Int32))] []))
  refine Go.by (fun _ kont => XS.iconst X0.here hx rfl (hb hby dK51_30) (XS.goto X0.here hx rfl (pc0 := 31) (pc' := 35) rfl (hb hby dK51_31) (by decide) (by decide) kont)) ?_
  show Go _ _ _ _ _ _ _ (s₁.setTop (mkF m 35 #[.val (.ref a), .val (.ref b), .val (.ref d), .val (.int (1 : Int32)), .val (.int (5 : Int32))] [(.int (1 : Int32))]))
  refine Go.retN X0 hx (t := .boolean) hret (by simp) hlk (hb hby dK51_35) ?_ (by decide) (by decide)
  show QK51 Z a b d kc_a v0 v1 v2 v3 v4 kc_b kc_d h0 n0 (some (.int (1 : Int32))) s₁.heap _
  rw [e0]
  exact ⟨rfl, N0, rfl⟩

theorem dK52_0 : decode method_3_code 0 = .ok (.iload_n 3, 1) := by decide +kernel
theorem dK52_1 : decode method_3_code 1 = .ok (.iload 4, 2) := by decide +kernel
theorem dK52_3 : decode method_3_code 3 = .ok (.if_icmp .lt 5, 3) := by decide +kernel
theorem dK52_8 : decode method_3_code 8 = .ok (.aload_n 0, 1) := by decide +kernel
theorem dK52_9 : decode method_3_code 9 = .ok (.iload_n 3, 1) := by decide +kernel
theorem dK52_10 : decode method_3_code 10 = .ok (.laload, 1) := by decide +kernel
theorem dK52_11 : decode method_3_code 11 = .ok (.aload_n 2, 1) := by decide +kernel
theorem dK52_12 : decode method_3_code 12 = .ok (.iload_n 3, 1) := by decide +kernel
theorem dK52_13 : decode method_3_code 13 = .ok (.laload, 1) := by decide +kernel
theorem dK52_14 : decode method_3_code 14 = .ok (.lcmp, 1) := by decide +kernel
theorem dK52_15 : decode method_3_code 15 = .ok (.ifCond .ne 19, 3) := by decide +kernel
theorem dK52_18 : decode method_3_code 18 = .ok (.aload_n 0, 1) := by decide +kernel
theorem dK52_19 : decode method_3_code 19 = .ok (.iload_n 3, 1) := by decide +kernel
theorem dK52_20 : decode method_3_code 20 = .ok (.laload, 1) := by decide +kernel
theorem dK52_21 : decode method_3_code 21 = .ok (.aload_n 1, 1) := by decide +kernel
theorem dK52_22 : decode method_3_code 22 = .ok (.iload_n 3, 1) := by decide +kernel
theorem dK52_23 : decode method_3_code 23 = .ok (.laload, 1) := by decide +kernel
theorem dK52_24 : decode method_3_code 24 = .ok (.ladd, 1) := by decide +kernel
theorem dK52_25 : decode method_3_code 25 = .ok (.lconst 0, 1) := by decide +kernel
theorem dK52_26 : decode method_3_code 26 = .ok (.lcmp, 1) := by decide +kernel
theorem dK52_27 : decode method_3_code 27 = .ok (.ifCond .ne 7, 3) := by decide +kernel
theorem dK52_30 : decode method_3_code 30 = .ok (.iconst 1, 1) := by decide +kernel
theorem dK52_31 : decode method_3_code 31 = .ok (.goto 4, 3) := by decide +kernel
theorem dK52_35 : decode method_3_code 35 = .ok (.ireturn, 1) := by decide +kernel
theorem pnK52 : plainName "com/example/runs_to_nets/runstonets/core/PlaceTransitionSynthesisNegatedPinLaw" = true := by first | (simp [plainName, overriddenIn]; done) | decide +kernel
theorem efK52 (m : MethodId) (a : Addr) (b : Addr) (d : Addr) : entryFrame m #[(.ref a), (.ref b), (.ref d), (.int (2 : Int32)), (.int (5 : Int32))] 5 = mkF m 0 #[.val (.ref a), .val (.ref b), .val (.ref d), .val (.int (2 : Int32)), .val (.int (5 : Int32))] [] := by first | (simp [entryFrame, mkF, argsToLocals, Value.category]; done) | rfl
def QK52 (Z : State) (a : Addr) (b : Addr) (d : Addr) (kc_a : ClassId) (v0 : Int64) (v1 : Int64) (v2 : Int64) (v3 : Int64) (v4 : Int64) (kc_b : ClassId) (kc_d : ClassId) (h0 : Heap) (n0 : Nat) (v : Option Value) (h : Heap) (L : List Loc) : Prop := (v = some (.int (1 : Int32)) ∧ Fr n0 L ∧ h = h0)
set_option maxRecDepth 65536 in
set_option maxHeartbeats 40000000 in
theorem rmK52 (l : Launch) (Z : State) (a0 : Array Value) (hw : ∀ d ∈ tables_1, d.before a0 Z = true) (ws : List Jvm.Cond) (a : Addr) (b : Addr) (d : Addr) (kc_a : ClassId) (v0 : Int64) (v1 : Int64) (v2 : Int64) (v3 : Int64) (v4 : Int64) (kc_b : ClassId) (kc_d : ClassId) (h0 : Heap) (n0 : Nat) (Z0 : n0 ≤ h0.size) (V0_a : Arv Z h0 a kc_a .long (5 : Int32) [(.long v0), (.long v1), (.long v2), (.long v3), (.long v4)] (.long (0 : Int64))) (V0_b : Arv Z h0 b kc_b .long (5 : Int32) [(.long (-v0)), (.long (-v1)), (.long (-v2)), (.long (-v3)), (.long (-v4))] (.long (0 : Int64))) (V0_d : Arv Z h0 d kc_d .long (5 : Int32) [(.long v0), (.long v1), (.long v2), (.long v3), (.long v4)] (.long (0 : Int64))) :
    MetFree l (⟨"com/example/runs_to_nets/runstonets/core/PlaceTransitionSynthesisNegatedPinLaw", "ok", "([J[J[JII)Z"⟩ : MethodName) (head1 (Jvm.Cond.code (⟨"com/example/runs_to_nets/runstonets/core/PlaceTransitionSynthesisNegatedPinLaw", "ok", "([J[J[JII)Z"⟩ : MethodName) method_3_code 5 (some .boolean) :: ws) ({ frames := 0, cells := 0, slots := 0, locals := 0 } : Room)) (fun aa_ U_ => aa_ = #[(.ref a), (.ref b), (.ref d), (.int (2 : Int32)), (.int (5 : Int32))] ∧ Z.Warmed39 U_.vm ∧ U_.heap = h0) (fun _ _ _ _ _ => True) (fun _ U_ o_ V_ => ∃ v_ L_, o_ = .returned v_ ∧ QK52 Z a b d kc_a v0 v1 v2 v3 v4 kc_b kc_d h0 n0 v_ V_.heap L_ ∧ FrameEnd U_ o_ V_ L_ ({ frames := 0, cells := 0, slots := 0, locals := 0 } : Room).cells ({ frames := 0, cells := 0, slots := 0, locals := 0 } : Room).slots) := by
  refine MetFree.of_bodySF (plainFor_of_name pnK52) hisR ?_
  intro p e s m args below meth c s₁ Bd hml0 hP hK
  obtain ⟨rfl, hZ, hh⟩ := hP
  have hx := Bd.exec
  have hby := Bd.bytes
  have hml : c.maxLocals = 5 := hml0
  have hown : s.vm.findClass "com/example/runs_to_nets/runstonets/core/PlaceTransitionSynthesisNegatedPinLaw" = some m.cls := findClass_of_methodNamed Bd.named
  have hnm := (name_of_methodNamed Bd.named Bd.method).1
  have hlk : meth.locks = false := BodyLoose.notSynchronized Bd
  have hret : meth.sig.returnType = (some .boolean) := Bd.returns
  have X0 : Stand p l e ({ frames := 0, cells := 0, slots := 0, locals := 0 } : Room) s m #[(.ref a), (.ref b), (.ref d), (.int (2 : Int32)), (.int (5 : Int32))] below meth c s₁ [] 0 0 := Stand.of_body Bd
  have e0 : s₁.heap = h0 := by rw [← hh, Bd.state]; rfl
  have N0 := Fr.nil n0
  show Go p e below s ({ frames := 0, cells := 0, slots := 0, locals := 0 } : Room).cells ({ frames := 0, cells := 0, slots := 0, locals := 0 } : Room).slots (QK52 Z a b d kc_a v0 v1 v2 v3 v4 kc_b kc_d h0 n0) (s₁.setTop (entryFrame m #[(.ref a), (.ref b), (.ref d), (.int (2 : Int32)), (.int (5 : Int32))] 5))
  rw [efK52]
  refine Go.by (fun _ kont => XS.iloadN X0.here hx rfl (hb hby dK52_0) rfl (XS.iload X0.here hx rfl (hb hby dK52_1) rfl kont)) ?_
  show Go _ _ _ _ _ _ _ (s₁.setTop (mkF m 3 #[.val (.ref a), .val (.ref b), .val (.ref d), .val (.int (2 : Int32)), .val (.int (5 : Int32))] [(.int (5 : Int32)), (.int (2 : Int32))]))
  refine Go.by (fun _ kont => XS.icmpYes X0.here hx rfl (pc0 := 3) (pc' := 8) rfl (hb hby dK52_3) rfl (by decide) (by decide) (by decide) kont) ?_
  show Go _ _ _ _ _ _ _ (s₁.setTop (mkF m 8 #[.val (.ref a), .val (.ref b), .val (.ref d), .val (.int (2 : Int32)), .val (.int (5 : Int32))] []))
  refine Go.by (fun _ kont => XS.aloadN X0.here hx rfl (hb hby dK52_8) rfl rfl (XS.iloadN X0.here hx rfl (hb hby dK52_9) rfl kont)) ?_
  show Go _ _ _ _ _ _ _ (s₁.setTop (mkF m 10 #[.val (.ref a), .val (.ref b), .val (.ref d), .val (.int (2 : Int32)), .val (.int (5 : Int32))] [(.int (2 : Int32)), (.ref a)]))
  obtain ⟨cl_q101, Ar_q101, q1_q101, S_q101, N_q101, H_q101, G_q101⟩ := id V0_a
  have hin_q101 : ¬ ((2 : Int32) < 0 ∨ cl_q101.slots.size ≤ ((2 : Int32)).toNatClampNeg) := inb_of S_q101 ⟨by decide, by decide⟩
  have hat_q101 : cl_q101.slots[((2 : Int32)).toNatClampNeg]? = some (.long v2) := Has.at H_q101 hin_q101 rfl
  refine Go.by (X0.laload hx (j := (2 : Int32)) (v := (.long v2)) (by first | exact Ar_q101.1 | (rw [e0]; exact Ar_q101.1)) (State.isArrayOf_alike hZ.alike Ar_q101.2.1) Ar_q101.2.2 hin_q101 hat_q101 (g := (mkF m 10 #[.val (.ref a), .val (.ref b), .val (.ref d), .val (.int (2 : Int32)), .val (.int (5 : Int32))] [(.int (2 : Int32)), (.ref a)])) rfl rfl (hb hby dK52_10)) ?_
  show Go _ _ _ _ _ _ _ (s₁.setTop (mkF m 11 #[.val (.ref a), .val (.ref b), .val (.ref d), .val (.int (2 : Int32)), .val (.int (5 : Int32))] [(.long v2)]))
  refine Go.by (fun _ kont => XS.aloadN X0.here hx rfl (hb hby dK52_11) rfl rfl (XS.iloadN X0.here hx rfl (hb hby dK52_12) rfl kont)) ?_
  show Go _ _ _ _ _ _ _ (s₁.setTop (mkF m 13 #[.val (.ref a), .val (.ref b), .val (.ref d), .val (.int (2 : Int32)), .val (.int (5 : Int32))] [(.int (2 : Int32)), (.ref d), (.long v2)]))
  obtain ⟨cl_q102, Ar_q102, q1_q102, S_q102, N_q102, H_q102, G_q102⟩ := id V0_d
  have hin_q102 : ¬ ((2 : Int32) < 0 ∨ cl_q102.slots.size ≤ ((2 : Int32)).toNatClampNeg) := inb_of S_q102 ⟨by decide, by decide⟩
  have hat_q102 : cl_q102.slots[((2 : Int32)).toNatClampNeg]? = some (.long v2) := Has.at H_q102 hin_q102 rfl
  refine Go.by (X0.laload hx (j := (2 : Int32)) (v := (.long v2)) (by first | exact Ar_q102.1 | (rw [e0]; exact Ar_q102.1)) (State.isArrayOf_alike hZ.alike Ar_q102.2.1) Ar_q102.2.2 hin_q102 hat_q102 (g := (mkF m 13 #[.val (.ref a), .val (.ref b), .val (.ref d), .val (.int (2 : Int32)), .val (.int (5 : Int32))] [(.int (2 : Int32)), (.ref d), (.long v2)])) rfl rfl (hb hby dK52_13)) ?_
  show Go _ _ _ _ _ _ _ (s₁.setTop (mkF m 14 #[.val (.ref a), .val (.ref b), .val (.ref d), .val (.int (2 : Int32)), .val (.int (5 : Int32))] [(.long v2), (.long v2)]))
  refine Go.by (fun _ kont => XS.lcmp X0.here hx rfl (hb hby dK52_14) rfl kont) ?_
  show Go _ _ _ _ _ _ _ (s₁.setTop (mkF m 15 #[.val (.ref a), .val (.ref b), .val (.ref d), .val (.int (2 : Int32)), .val (.int (5 : Int32))] [(.int (lcmpW v2 v2))]))
  refine Go.by (fun _ kont => XS.ifNo X0.here hx rfl (hb hby dK52_15) rfl ((if0 _ _).trans (teq ((lw_eq _ _).mpr rfl)).2) kont) ?_
  show Go _ _ _ _ _ _ _ (s₁.setTop (mkF m 18 #[.val (.ref a), .val (.ref b), .val (.ref d), .val (.int (2 : Int32)), .val (.int (5 : Int32))] []))
  refine Go.by (fun _ kont => XS.aloadN X0.here hx rfl (hb hby dK52_18) rfl rfl (XS.iloadN X0.here hx rfl (hb hby dK52_19) rfl kont)) ?_
  show Go _ _ _ _ _ _ _ (s₁.setTop (mkF m 20 #[.val (.ref a), .val (.ref b), .val (.ref d), .val (.int (2 : Int32)), .val (.int (5 : Int32))] [(.int (2 : Int32)), (.ref a)]))
  obtain ⟨cl_q103, Ar_q103, q1_q103, S_q103, N_q103, H_q103, G_q103⟩ := id V0_a
  have hin_q103 : ¬ ((2 : Int32) < 0 ∨ cl_q103.slots.size ≤ ((2 : Int32)).toNatClampNeg) := inb_of S_q103 ⟨by decide, by decide⟩
  have hat_q103 : cl_q103.slots[((2 : Int32)).toNatClampNeg]? = some (.long v2) := Has.at H_q103 hin_q103 rfl
  refine Go.by (X0.laload hx (j := (2 : Int32)) (v := (.long v2)) (by first | exact Ar_q103.1 | (rw [e0]; exact Ar_q103.1)) (State.isArrayOf_alike hZ.alike Ar_q103.2.1) Ar_q103.2.2 hin_q103 hat_q103 (g := (mkF m 20 #[.val (.ref a), .val (.ref b), .val (.ref d), .val (.int (2 : Int32)), .val (.int (5 : Int32))] [(.int (2 : Int32)), (.ref a)])) rfl rfl (hb hby dK52_20)) ?_
  show Go _ _ _ _ _ _ _ (s₁.setTop (mkF m 21 #[.val (.ref a), .val (.ref b), .val (.ref d), .val (.int (2 : Int32)), .val (.int (5 : Int32))] [(.long v2)]))
  refine Go.by (fun _ kont => XS.aloadN X0.here hx rfl (hb hby dK52_21) rfl rfl (XS.iloadN X0.here hx rfl (hb hby dK52_22) rfl kont)) ?_
  show Go _ _ _ _ _ _ _ (s₁.setTop (mkF m 23 #[.val (.ref a), .val (.ref b), .val (.ref d), .val (.int (2 : Int32)), .val (.int (5 : Int32))] [(.int (2 : Int32)), (.ref b), (.long v2)]))
  obtain ⟨cl_q104, Ar_q104, q1_q104, S_q104, N_q104, H_q104, G_q104⟩ := id V0_b
  have hin_q104 : ¬ ((2 : Int32) < 0 ∨ cl_q104.slots.size ≤ ((2 : Int32)).toNatClampNeg) := inb_of S_q104 ⟨by decide, by decide⟩
  have hat_q104 : cl_q104.slots[((2 : Int32)).toNatClampNeg]? = some (.long (-v2)) := Has.at H_q104 hin_q104 rfl
  refine Go.by (X0.laload hx (j := (2 : Int32)) (v := (.long (-v2))) (by first | exact Ar_q104.1 | (rw [e0]; exact Ar_q104.1)) (State.isArrayOf_alike hZ.alike Ar_q104.2.1) Ar_q104.2.2 hin_q104 hat_q104 (g := (mkF m 23 #[.val (.ref a), .val (.ref b), .val (.ref d), .val (.int (2 : Int32)), .val (.int (5 : Int32))] [(.int (2 : Int32)), (.ref b), (.long v2)])) rfl rfl (hb hby dK52_23)) ?_
  show Go _ _ _ _ _ _ _ (s₁.setTop (mkF m 24 #[.val (.ref a), .val (.ref b), .val (.ref d), .val (.int (2 : Int32)), .val (.int (5 : Int32))] [(.long (-v2)), (.long v2)]))
  refine Go.by (fun _ kont => XS.ladd X0.here hx rfl (hb hby dK52_24) rfl (XS.lconst X0.here hx rfl (hb hby dK52_25) (XS.lcmp X0.here hx rfl (hb hby dK52_26) rfl kont))) ?_
  show Go _ _ _ _ _ _ _ (s₁.setTop (mkF m 27 #[.val (.ref a), .val (.ref b), .val (.ref d), .val (.int (2 : Int32)), .val (.int (5 : Int32))] [(.int (lcmpW (v2 + (-v2)) (0 : Int64)))]))
  have hd105 : (v2 + (-v2)) = (0 : Int64) := Int64.add_right_neg _
  refine Go.by (fun _ kont => XS.ifNo X0.here hx rfl (hb hby dK52_27) rfl ((if0 _ _).trans (teq ((lw_eq _ _).mpr hd105)).2) kont) ?_
  show Go _ _ _ _ _ _ _ (s₁.setTop (mkF m 30 #[.val (.ref a), .val (.ref b), .val (.ref d), .val (.int (2 : Int32)), .val (.int (5 : Int32))] []))
  refine Go.by (fun _ kont => XS.iconst X0.here hx rfl (hb hby dK52_30) (XS.goto X0.here hx rfl (pc0 := 31) (pc' := 35) rfl (hb hby dK52_31) (by decide) (by decide) kont)) ?_
  show Go _ _ _ _ _ _ _ (s₁.setTop (mkF m 35 #[.val (.ref a), .val (.ref b), .val (.ref d), .val (.int (2 : Int32)), .val (.int (5 : Int32))] [(.int (1 : Int32))]))
  refine Go.retN X0 hx (t := .boolean) hret (by simp) hlk (hb hby dK52_35) ?_ (by decide) (by decide)
  show QK52 Z a b d kc_a v0 v1 v2 v3 v4 kc_b kc_d h0 n0 (some (.int (1 : Int32))) s₁.heap _
  rw [e0]
  exact ⟨rfl, N0, rfl⟩

theorem dK53_0 : decode method_3_code 0 = .ok (.iload_n 3, 1) := by decide +kernel
theorem dK53_1 : decode method_3_code 1 = .ok (.iload 4, 2) := by decide +kernel
theorem dK53_3 : decode method_3_code 3 = .ok (.if_icmp .lt 5, 3) := by decide +kernel
theorem dK53_8 : decode method_3_code 8 = .ok (.aload_n 0, 1) := by decide +kernel
theorem dK53_9 : decode method_3_code 9 = .ok (.iload_n 3, 1) := by decide +kernel
theorem dK53_10 : decode method_3_code 10 = .ok (.laload, 1) := by decide +kernel
theorem dK53_11 : decode method_3_code 11 = .ok (.aload_n 2, 1) := by decide +kernel
theorem dK53_12 : decode method_3_code 12 = .ok (.iload_n 3, 1) := by decide +kernel
theorem dK53_13 : decode method_3_code 13 = .ok (.laload, 1) := by decide +kernel
theorem dK53_14 : decode method_3_code 14 = .ok (.lcmp, 1) := by decide +kernel
theorem dK53_15 : decode method_3_code 15 = .ok (.ifCond .ne 19, 3) := by decide +kernel
theorem dK53_18 : decode method_3_code 18 = .ok (.aload_n 0, 1) := by decide +kernel
theorem dK53_19 : decode method_3_code 19 = .ok (.iload_n 3, 1) := by decide +kernel
theorem dK53_20 : decode method_3_code 20 = .ok (.laload, 1) := by decide +kernel
theorem dK53_21 : decode method_3_code 21 = .ok (.aload_n 1, 1) := by decide +kernel
theorem dK53_22 : decode method_3_code 22 = .ok (.iload_n 3, 1) := by decide +kernel
theorem dK53_23 : decode method_3_code 23 = .ok (.laload, 1) := by decide +kernel
theorem dK53_24 : decode method_3_code 24 = .ok (.ladd, 1) := by decide +kernel
theorem dK53_25 : decode method_3_code 25 = .ok (.lconst 0, 1) := by decide +kernel
theorem dK53_26 : decode method_3_code 26 = .ok (.lcmp, 1) := by decide +kernel
theorem dK53_27 : decode method_3_code 27 = .ok (.ifCond .ne 7, 3) := by decide +kernel
theorem dK53_30 : decode method_3_code 30 = .ok (.iconst 1, 1) := by decide +kernel
theorem dK53_31 : decode method_3_code 31 = .ok (.goto 4, 3) := by decide +kernel
theorem dK53_35 : decode method_3_code 35 = .ok (.ireturn, 1) := by decide +kernel
theorem pnK53 : plainName "com/example/runs_to_nets/runstonets/core/PlaceTransitionSynthesisNegatedPinLaw" = true := by first | (simp [plainName, overriddenIn]; done) | decide +kernel
theorem efK53 (m : MethodId) (a : Addr) (b : Addr) (d : Addr) : entryFrame m #[(.ref a), (.ref b), (.ref d), (.int (3 : Int32)), (.int (5 : Int32))] 5 = mkF m 0 #[.val (.ref a), .val (.ref b), .val (.ref d), .val (.int (3 : Int32)), .val (.int (5 : Int32))] [] := by first | (simp [entryFrame, mkF, argsToLocals, Value.category]; done) | rfl
def QK53 (Z : State) (a : Addr) (b : Addr) (d : Addr) (kc_a : ClassId) (v0 : Int64) (v1 : Int64) (v2 : Int64) (v3 : Int64) (v4 : Int64) (kc_b : ClassId) (kc_d : ClassId) (h0 : Heap) (n0 : Nat) (v : Option Value) (h : Heap) (L : List Loc) : Prop := (v = some (.int (1 : Int32)) ∧ Fr n0 L ∧ h = h0)
set_option maxRecDepth 65536 in
set_option maxHeartbeats 40000000 in
theorem rmK53 (l : Launch) (Z : State) (a0 : Array Value) (hw : ∀ d ∈ tables_1, d.before a0 Z = true) (ws : List Jvm.Cond) (a : Addr) (b : Addr) (d : Addr) (kc_a : ClassId) (v0 : Int64) (v1 : Int64) (v2 : Int64) (v3 : Int64) (v4 : Int64) (kc_b : ClassId) (kc_d : ClassId) (h0 : Heap) (n0 : Nat) (Z0 : n0 ≤ h0.size) (V0_a : Arv Z h0 a kc_a .long (5 : Int32) [(.long v0), (.long v1), (.long v2), (.long v3), (.long v4)] (.long (0 : Int64))) (V0_b : Arv Z h0 b kc_b .long (5 : Int32) [(.long (-v0)), (.long (-v1)), (.long (-v2)), (.long (-v3)), (.long (-v4))] (.long (0 : Int64))) (V0_d : Arv Z h0 d kc_d .long (5 : Int32) [(.long v0), (.long v1), (.long v2), (.long v3), (.long v4)] (.long (0 : Int64))) :
    MetFree l (⟨"com/example/runs_to_nets/runstonets/core/PlaceTransitionSynthesisNegatedPinLaw", "ok", "([J[J[JII)Z"⟩ : MethodName) (head1 (Jvm.Cond.code (⟨"com/example/runs_to_nets/runstonets/core/PlaceTransitionSynthesisNegatedPinLaw", "ok", "([J[J[JII)Z"⟩ : MethodName) method_3_code 5 (some .boolean) :: ws) ({ frames := 0, cells := 0, slots := 0, locals := 0 } : Room)) (fun aa_ U_ => aa_ = #[(.ref a), (.ref b), (.ref d), (.int (3 : Int32)), (.int (5 : Int32))] ∧ Z.Warmed39 U_.vm ∧ U_.heap = h0) (fun _ _ _ _ _ => True) (fun _ U_ o_ V_ => ∃ v_ L_, o_ = .returned v_ ∧ QK53 Z a b d kc_a v0 v1 v2 v3 v4 kc_b kc_d h0 n0 v_ V_.heap L_ ∧ FrameEnd U_ o_ V_ L_ ({ frames := 0, cells := 0, slots := 0, locals := 0 } : Room).cells ({ frames := 0, cells := 0, slots := 0, locals := 0 } : Room).slots) := by
  refine MetFree.of_bodySF (plainFor_of_name pnK53) hisR ?_
  intro p e s m args below meth c s₁ Bd hml0 hP hK
  obtain ⟨rfl, hZ, hh⟩ := hP
  have hx := Bd.exec
  have hby := Bd.bytes
  have hml : c.maxLocals = 5 := hml0
  have hown : s.vm.findClass "com/example/runs_to_nets/runstonets/core/PlaceTransitionSynthesisNegatedPinLaw" = some m.cls := findClass_of_methodNamed Bd.named
  have hnm := (name_of_methodNamed Bd.named Bd.method).1
  have hlk : meth.locks = false := BodyLoose.notSynchronized Bd
  have hret : meth.sig.returnType = (some .boolean) := Bd.returns
  have X0 : Stand p l e ({ frames := 0, cells := 0, slots := 0, locals := 0 } : Room) s m #[(.ref a), (.ref b), (.ref d), (.int (3 : Int32)), (.int (5 : Int32))] below meth c s₁ [] 0 0 := Stand.of_body Bd
  have e0 : s₁.heap = h0 := by rw [← hh, Bd.state]; rfl
  have N0 := Fr.nil n0
  show Go p e below s ({ frames := 0, cells := 0, slots := 0, locals := 0 } : Room).cells ({ frames := 0, cells := 0, slots := 0, locals := 0 } : Room).slots (QK53 Z a b d kc_a v0 v1 v2 v3 v4 kc_b kc_d h0 n0) (s₁.setTop (entryFrame m #[(.ref a), (.ref b), (.ref d), (.int (3 : Int32)), (.int (5 : Int32))] 5))
  rw [efK53]
  refine Go.by (fun _ kont => XS.iloadN X0.here hx rfl (hb hby dK53_0) rfl (XS.iload X0.here hx rfl (hb hby dK53_1) rfl kont)) ?_
  show Go _ _ _ _ _ _ _ (s₁.setTop (mkF m 3 #[.val (.ref a), .val (.ref b), .val (.ref d), .val (.int (3 : Int32)), .val (.int (5 : Int32))] [(.int (5 : Int32)), (.int (3 : Int32))]))
  refine Go.by (fun _ kont => XS.icmpYes X0.here hx rfl (pc0 := 3) (pc' := 8) rfl (hb hby dK53_3) rfl (by decide) (by decide) (by decide) kont) ?_
  show Go _ _ _ _ _ _ _ (s₁.setTop (mkF m 8 #[.val (.ref a), .val (.ref b), .val (.ref d), .val (.int (3 : Int32)), .val (.int (5 : Int32))] []))
  refine Go.by (fun _ kont => XS.aloadN X0.here hx rfl (hb hby dK53_8) rfl rfl (XS.iloadN X0.here hx rfl (hb hby dK53_9) rfl kont)) ?_
  show Go _ _ _ _ _ _ _ (s₁.setTop (mkF m 10 #[.val (.ref a), .val (.ref b), .val (.ref d), .val (.int (3 : Int32)), .val (.int (5 : Int32))] [(.int (3 : Int32)), (.ref a)]))
  obtain ⟨cl_q101, Ar_q101, q1_q101, S_q101, N_q101, H_q101, G_q101⟩ := id V0_a
  have hin_q101 : ¬ ((3 : Int32) < 0 ∨ cl_q101.slots.size ≤ ((3 : Int32)).toNatClampNeg) := inb_of S_q101 ⟨by decide, by decide⟩
  have hat_q101 : cl_q101.slots[((3 : Int32)).toNatClampNeg]? = some (.long v3) := Has.at H_q101 hin_q101 rfl
  refine Go.by (X0.laload hx (j := (3 : Int32)) (v := (.long v3)) (by first | exact Ar_q101.1 | (rw [e0]; exact Ar_q101.1)) (State.isArrayOf_alike hZ.alike Ar_q101.2.1) Ar_q101.2.2 hin_q101 hat_q101 (g := (mkF m 10 #[.val (.ref a), .val (.ref b), .val (.ref d), .val (.int (3 : Int32)), .val (.int (5 : Int32))] [(.int (3 : Int32)), (.ref a)])) rfl rfl (hb hby dK53_10)) ?_
  show Go _ _ _ _ _ _ _ (s₁.setTop (mkF m 11 #[.val (.ref a), .val (.ref b), .val (.ref d), .val (.int (3 : Int32)), .val (.int (5 : Int32))] [(.long v3)]))
  refine Go.by (fun _ kont => XS.aloadN X0.here hx rfl (hb hby dK53_11) rfl rfl (XS.iloadN X0.here hx rfl (hb hby dK53_12) rfl kont)) ?_
  show Go _ _ _ _ _ _ _ (s₁.setTop (mkF m 13 #[.val (.ref a), .val (.ref b), .val (.ref d), .val (.int (3 : Int32)), .val (.int (5 : Int32))] [(.int (3 : Int32)), (.ref d), (.long v3)]))
  obtain ⟨cl_q102, Ar_q102, q1_q102, S_q102, N_q102, H_q102, G_q102⟩ := id V0_d
  have hin_q102 : ¬ ((3 : Int32) < 0 ∨ cl_q102.slots.size ≤ ((3 : Int32)).toNatClampNeg) := inb_of S_q102 ⟨by decide, by decide⟩
  have hat_q102 : cl_q102.slots[((3 : Int32)).toNatClampNeg]? = some (.long v3) := Has.at H_q102 hin_q102 rfl
  refine Go.by (X0.laload hx (j := (3 : Int32)) (v := (.long v3)) (by first | exact Ar_q102.1 | (rw [e0]; exact Ar_q102.1)) (State.isArrayOf_alike hZ.alike Ar_q102.2.1) Ar_q102.2.2 hin_q102 hat_q102 (g := (mkF m 13 #[.val (.ref a), .val (.ref b), .val (.ref d), .val (.int (3 : Int32)), .val (.int (5 : Int32))] [(.int (3 : Int32)), (.ref d), (.long v3)])) rfl rfl (hb hby dK53_13)) ?_
  show Go _ _ _ _ _ _ _ (s₁.setTop (mkF m 14 #[.val (.ref a), .val (.ref b), .val (.ref d), .val (.int (3 : Int32)), .val (.int (5 : Int32))] [(.long v3), (.long v3)]))
  refine Go.by (fun _ kont => XS.lcmp X0.here hx rfl (hb hby dK53_14) rfl kont) ?_
  show Go _ _ _ _ _ _ _ (s₁.setTop (mkF m 15 #[.val (.ref a), .val (.ref b), .val (.ref d), .val (.int (3 : Int32)), .val (.int (5 : Int32))] [(.int (lcmpW v3 v3))]))
  refine Go.by (fun _ kont => XS.ifNo X0.here hx rfl (hb hby dK53_15) rfl ((if0 _ _).trans (teq ((lw_eq _ _).mpr rfl)).2) kont) ?_
  show Go _ _ _ _ _ _ _ (s₁.setTop (mkF m 18 #[.val (.ref a), .val (.ref b), .val (.ref d), .val (.int (3 : Int32)), .val (.int (5 : Int32))] []))
  refine Go.by (fun _ kont => XS.aloadN X0.here hx rfl (hb hby dK53_18) rfl rfl (XS.iloadN X0.here hx rfl (hb hby dK53_19) rfl kont)) ?_
  show Go _ _ _ _ _ _ _ (s₁.setTop (mkF m 20 #[.val (.ref a), .val (.ref b), .val (.ref d), .val (.int (3 : Int32)), .val (.int (5 : Int32))] [(.int (3 : Int32)), (.ref a)]))
  obtain ⟨cl_q103, Ar_q103, q1_q103, S_q103, N_q103, H_q103, G_q103⟩ := id V0_a
  have hin_q103 : ¬ ((3 : Int32) < 0 ∨ cl_q103.slots.size ≤ ((3 : Int32)).toNatClampNeg) := inb_of S_q103 ⟨by decide, by decide⟩
  have hat_q103 : cl_q103.slots[((3 : Int32)).toNatClampNeg]? = some (.long v3) := Has.at H_q103 hin_q103 rfl
  refine Go.by (X0.laload hx (j := (3 : Int32)) (v := (.long v3)) (by first | exact Ar_q103.1 | (rw [e0]; exact Ar_q103.1)) (State.isArrayOf_alike hZ.alike Ar_q103.2.1) Ar_q103.2.2 hin_q103 hat_q103 (g := (mkF m 20 #[.val (.ref a), .val (.ref b), .val (.ref d), .val (.int (3 : Int32)), .val (.int (5 : Int32))] [(.int (3 : Int32)), (.ref a)])) rfl rfl (hb hby dK53_20)) ?_
  show Go _ _ _ _ _ _ _ (s₁.setTop (mkF m 21 #[.val (.ref a), .val (.ref b), .val (.ref d), .val (.int (3 : Int32)), .val (.int (5 : Int32))] [(.long v3)]))
  refine Go.by (fun _ kont => XS.aloadN X0.here hx rfl (hb hby dK53_21) rfl rfl (XS.iloadN X0.here hx rfl (hb hby dK53_22) rfl kont)) ?_
  show Go _ _ _ _ _ _ _ (s₁.setTop (mkF m 23 #[.val (.ref a), .val (.ref b), .val (.ref d), .val (.int (3 : Int32)), .val (.int (5 : Int32))] [(.int (3 : Int32)), (.ref b), (.long v3)]))
  obtain ⟨cl_q104, Ar_q104, q1_q104, S_q104, N_q104, H_q104, G_q104⟩ := id V0_b
  have hin_q104 : ¬ ((3 : Int32) < 0 ∨ cl_q104.slots.size ≤ ((3 : Int32)).toNatClampNeg) := inb_of S_q104 ⟨by decide, by decide⟩
  have hat_q104 : cl_q104.slots[((3 : Int32)).toNatClampNeg]? = some (.long (-v3)) := Has.at H_q104 hin_q104 rfl
  refine Go.by (X0.laload hx (j := (3 : Int32)) (v := (.long (-v3))) (by first | exact Ar_q104.1 | (rw [e0]; exact Ar_q104.1)) (State.isArrayOf_alike hZ.alike Ar_q104.2.1) Ar_q104.2.2 hin_q104 hat_q104 (g := (mkF m 23 #[.val (.ref a), .val (.ref b), .val (.ref d), .val (.int (3 : Int32)), .val (.int (5 : Int32))] [(.int (3 : Int32)), (.ref b), (.long v3)])) rfl rfl (hb hby dK53_23)) ?_
  show Go _ _ _ _ _ _ _ (s₁.setTop (mkF m 24 #[.val (.ref a), .val (.ref b), .val (.ref d), .val (.int (3 : Int32)), .val (.int (5 : Int32))] [(.long (-v3)), (.long v3)]))
  refine Go.by (fun _ kont => XS.ladd X0.here hx rfl (hb hby dK53_24) rfl (XS.lconst X0.here hx rfl (hb hby dK53_25) (XS.lcmp X0.here hx rfl (hb hby dK53_26) rfl kont))) ?_
  show Go _ _ _ _ _ _ _ (s₁.setTop (mkF m 27 #[.val (.ref a), .val (.ref b), .val (.ref d), .val (.int (3 : Int32)), .val (.int (5 : Int32))] [(.int (lcmpW (v3 + (-v3)) (0 : Int64)))]))
  have hd105 : (v3 + (-v3)) = (0 : Int64) := Int64.add_right_neg _
  refine Go.by (fun _ kont => XS.ifNo X0.here hx rfl (hb hby dK53_27) rfl ((if0 _ _).trans (teq ((lw_eq _ _).mpr hd105)).2) kont) ?_
  show Go _ _ _ _ _ _ _ (s₁.setTop (mkF m 30 #[.val (.ref a), .val (.ref b), .val (.ref d), .val (.int (3 : Int32)), .val (.int (5 : Int32))] []))
  refine Go.by (fun _ kont => XS.iconst X0.here hx rfl (hb hby dK53_30) (XS.goto X0.here hx rfl (pc0 := 31) (pc' := 35) rfl (hb hby dK53_31) (by decide) (by decide) kont)) ?_
  show Go _ _ _ _ _ _ _ (s₁.setTop (mkF m 35 #[.val (.ref a), .val (.ref b), .val (.ref d), .val (.int (3 : Int32)), .val (.int (5 : Int32))] [(.int (1 : Int32))]))
  refine Go.retN X0 hx (t := .boolean) hret (by simp) hlk (hb hby dK53_35) ?_ (by decide) (by decide)
  show QK53 Z a b d kc_a v0 v1 v2 v3 v4 kc_b kc_d h0 n0 (some (.int (1 : Int32))) s₁.heap _
  rw [e0]
  exact ⟨rfl, N0, rfl⟩

theorem dK54_0 : decode method_3_code 0 = .ok (.iload_n 3, 1) := by decide +kernel
theorem dK54_1 : decode method_3_code 1 = .ok (.iload 4, 2) := by decide +kernel
theorem dK54_3 : decode method_3_code 3 = .ok (.if_icmp .lt 5, 3) := by decide +kernel
theorem dK54_8 : decode method_3_code 8 = .ok (.aload_n 0, 1) := by decide +kernel
theorem dK54_9 : decode method_3_code 9 = .ok (.iload_n 3, 1) := by decide +kernel
theorem dK54_10 : decode method_3_code 10 = .ok (.laload, 1) := by decide +kernel
theorem dK54_11 : decode method_3_code 11 = .ok (.aload_n 2, 1) := by decide +kernel
theorem dK54_12 : decode method_3_code 12 = .ok (.iload_n 3, 1) := by decide +kernel
theorem dK54_13 : decode method_3_code 13 = .ok (.laload, 1) := by decide +kernel
theorem dK54_14 : decode method_3_code 14 = .ok (.lcmp, 1) := by decide +kernel
theorem dK54_15 : decode method_3_code 15 = .ok (.ifCond .ne 19, 3) := by decide +kernel
theorem dK54_18 : decode method_3_code 18 = .ok (.aload_n 0, 1) := by decide +kernel
theorem dK54_19 : decode method_3_code 19 = .ok (.iload_n 3, 1) := by decide +kernel
theorem dK54_20 : decode method_3_code 20 = .ok (.laload, 1) := by decide +kernel
theorem dK54_21 : decode method_3_code 21 = .ok (.aload_n 1, 1) := by decide +kernel
theorem dK54_22 : decode method_3_code 22 = .ok (.iload_n 3, 1) := by decide +kernel
theorem dK54_23 : decode method_3_code 23 = .ok (.laload, 1) := by decide +kernel
theorem dK54_24 : decode method_3_code 24 = .ok (.ladd, 1) := by decide +kernel
theorem dK54_25 : decode method_3_code 25 = .ok (.lconst 0, 1) := by decide +kernel
theorem dK54_26 : decode method_3_code 26 = .ok (.lcmp, 1) := by decide +kernel
theorem dK54_27 : decode method_3_code 27 = .ok (.ifCond .ne 7, 3) := by decide +kernel
theorem dK54_30 : decode method_3_code 30 = .ok (.iconst 1, 1) := by decide +kernel
theorem dK54_31 : decode method_3_code 31 = .ok (.goto 4, 3) := by decide +kernel
theorem dK54_35 : decode method_3_code 35 = .ok (.ireturn, 1) := by decide +kernel
theorem pnK54 : plainName "com/example/runs_to_nets/runstonets/core/PlaceTransitionSynthesisNegatedPinLaw" = true := by first | (simp [plainName, overriddenIn]; done) | decide +kernel
theorem efK54 (m : MethodId) (a : Addr) (b : Addr) (d : Addr) : entryFrame m #[(.ref a), (.ref b), (.ref d), (.int (4 : Int32)), (.int (5 : Int32))] 5 = mkF m 0 #[.val (.ref a), .val (.ref b), .val (.ref d), .val (.int (4 : Int32)), .val (.int (5 : Int32))] [] := by first | (simp [entryFrame, mkF, argsToLocals, Value.category]; done) | rfl
def QK54 (Z : State) (a : Addr) (b : Addr) (d : Addr) (kc_a : ClassId) (v0 : Int64) (v1 : Int64) (v2 : Int64) (v3 : Int64) (v4 : Int64) (kc_b : ClassId) (kc_d : ClassId) (h0 : Heap) (n0 : Nat) (v : Option Value) (h : Heap) (L : List Loc) : Prop := (v = some (.int (1 : Int32)) ∧ Fr n0 L ∧ h = h0)
set_option maxRecDepth 65536 in
set_option maxHeartbeats 40000000 in
theorem rmK54 (l : Launch) (Z : State) (a0 : Array Value) (hw : ∀ d ∈ tables_1, d.before a0 Z = true) (ws : List Jvm.Cond) (a : Addr) (b : Addr) (d : Addr) (kc_a : ClassId) (v0 : Int64) (v1 : Int64) (v2 : Int64) (v3 : Int64) (v4 : Int64) (kc_b : ClassId) (kc_d : ClassId) (h0 : Heap) (n0 : Nat) (Z0 : n0 ≤ h0.size) (V0_a : Arv Z h0 a kc_a .long (5 : Int32) [(.long v0), (.long v1), (.long v2), (.long v3), (.long v4)] (.long (0 : Int64))) (V0_b : Arv Z h0 b kc_b .long (5 : Int32) [(.long (-v0)), (.long (-v1)), (.long (-v2)), (.long (-v3)), (.long (-v4))] (.long (0 : Int64))) (V0_d : Arv Z h0 d kc_d .long (5 : Int32) [(.long v0), (.long v1), (.long v2), (.long v3), (.long v4)] (.long (0 : Int64))) :
    MetFree l (⟨"com/example/runs_to_nets/runstonets/core/PlaceTransitionSynthesisNegatedPinLaw", "ok", "([J[J[JII)Z"⟩ : MethodName) (head1 (Jvm.Cond.code (⟨"com/example/runs_to_nets/runstonets/core/PlaceTransitionSynthesisNegatedPinLaw", "ok", "([J[J[JII)Z"⟩ : MethodName) method_3_code 5 (some .boolean) :: ws) ({ frames := 0, cells := 0, slots := 0, locals := 0 } : Room)) (fun aa_ U_ => aa_ = #[(.ref a), (.ref b), (.ref d), (.int (4 : Int32)), (.int (5 : Int32))] ∧ Z.Warmed39 U_.vm ∧ U_.heap = h0) (fun _ _ _ _ _ => True) (fun _ U_ o_ V_ => ∃ v_ L_, o_ = .returned v_ ∧ QK54 Z a b d kc_a v0 v1 v2 v3 v4 kc_b kc_d h0 n0 v_ V_.heap L_ ∧ FrameEnd U_ o_ V_ L_ ({ frames := 0, cells := 0, slots := 0, locals := 0 } : Room).cells ({ frames := 0, cells := 0, slots := 0, locals := 0 } : Room).slots) := by
  refine MetFree.of_bodySF (plainFor_of_name pnK54) hisR ?_
  intro p e s m args below meth c s₁ Bd hml0 hP hK
  obtain ⟨rfl, hZ, hh⟩ := hP
  have hx := Bd.exec
  have hby := Bd.bytes
  have hml : c.maxLocals = 5 := hml0
  have hown : s.vm.findClass "com/example/runs_to_nets/runstonets/core/PlaceTransitionSynthesisNegatedPinLaw" = some m.cls := findClass_of_methodNamed Bd.named
  have hnm := (name_of_methodNamed Bd.named Bd.method).1
  have hlk : meth.locks = false := BodyLoose.notSynchronized Bd
  have hret : meth.sig.returnType = (some .boolean) := Bd.returns
  have X0 : Stand p l e ({ frames := 0, cells := 0, slots := 0, locals := 0 } : Room) s m #[(.ref a), (.ref b), (.ref d), (.int (4 : Int32)), (.int (5 : Int32))] below meth c s₁ [] 0 0 := Stand.of_body Bd
  have e0 : s₁.heap = h0 := by rw [← hh, Bd.state]; rfl
  have N0 := Fr.nil n0
  show Go p e below s ({ frames := 0, cells := 0, slots := 0, locals := 0 } : Room).cells ({ frames := 0, cells := 0, slots := 0, locals := 0 } : Room).slots (QK54 Z a b d kc_a v0 v1 v2 v3 v4 kc_b kc_d h0 n0) (s₁.setTop (entryFrame m #[(.ref a), (.ref b), (.ref d), (.int (4 : Int32)), (.int (5 : Int32))] 5))
  rw [efK54]
  refine Go.by (fun _ kont => XS.iloadN X0.here hx rfl (hb hby dK54_0) rfl (XS.iload X0.here hx rfl (hb hby dK54_1) rfl kont)) ?_
  show Go _ _ _ _ _ _ _ (s₁.setTop (mkF m 3 #[.val (.ref a), .val (.ref b), .val (.ref d), .val (.int (4 : Int32)), .val (.int (5 : Int32))] [(.int (5 : Int32)), (.int (4 : Int32))]))
  refine Go.by (fun _ kont => XS.icmpYes X0.here hx rfl (pc0 := 3) (pc' := 8) rfl (hb hby dK54_3) rfl (by decide) (by decide) (by decide) kont) ?_
  show Go _ _ _ _ _ _ _ (s₁.setTop (mkF m 8 #[.val (.ref a), .val (.ref b), .val (.ref d), .val (.int (4 : Int32)), .val (.int (5 : Int32))] []))
  refine Go.by (fun _ kont => XS.aloadN X0.here hx rfl (hb hby dK54_8) rfl rfl (XS.iloadN X0.here hx rfl (hb hby dK54_9) rfl kont)) ?_
  show Go _ _ _ _ _ _ _ (s₁.setTop (mkF m 10 #[.val (.ref a), .val (.ref b), .val (.ref d), .val (.int (4 : Int32)), .val (.int (5 : Int32))] [(.int (4 : Int32)), (.ref a)]))
  obtain ⟨cl_q101, Ar_q101, q1_q101, S_q101, N_q101, H_q101, G_q101⟩ := id V0_a
  have hin_q101 : ¬ ((4 : Int32) < 0 ∨ cl_q101.slots.size ≤ ((4 : Int32)).toNatClampNeg) := inb_of S_q101 ⟨by decide, by decide⟩
  have hat_q101 : cl_q101.slots[((4 : Int32)).toNatClampNeg]? = some (.long v4) := Has.at H_q101 hin_q101 rfl
  refine Go.by (X0.laload hx (j := (4 : Int32)) (v := (.long v4)) (by first | exact Ar_q101.1 | (rw [e0]; exact Ar_q101.1)) (State.isArrayOf_alike hZ.alike Ar_q101.2.1) Ar_q101.2.2 hin_q101 hat_q101 (g := (mkF m 10 #[.val (.ref a), .val (.ref b), .val (.ref d), .val (.int (4 : Int32)), .val (.int (5 : Int32))] [(.int (4 : Int32)), (.ref a)])) rfl rfl (hb hby dK54_10)) ?_
  show Go _ _ _ _ _ _ _ (s₁.setTop (mkF m 11 #[.val (.ref a), .val (.ref b), .val (.ref d), .val (.int (4 : Int32)), .val (.int (5 : Int32))] [(.long v4)]))
  refine Go.by (fun _ kont => XS.aloadN X0.here hx rfl (hb hby dK54_11) rfl rfl (XS.iloadN X0.here hx rfl (hb hby dK54_12) rfl kont)) ?_
  show Go _ _ _ _ _ _ _ (s₁.setTop (mkF m 13 #[.val (.ref a), .val (.ref b), .val (.ref d), .val (.int (4 : Int32)), .val (.int (5 : Int32))] [(.int (4 : Int32)), (.ref d), (.long v4)]))
  obtain ⟨cl_q102, Ar_q102, q1_q102, S_q102, N_q102, H_q102, G_q102⟩ := id V0_d
  have hin_q102 : ¬ ((4 : Int32) < 0 ∨ cl_q102.slots.size ≤ ((4 : Int32)).toNatClampNeg) := inb_of S_q102 ⟨by decide, by decide⟩
  have hat_q102 : cl_q102.slots[((4 : Int32)).toNatClampNeg]? = some (.long v4) := Has.at H_q102 hin_q102 rfl
  refine Go.by (X0.laload hx (j := (4 : Int32)) (v := (.long v4)) (by first | exact Ar_q102.1 | (rw [e0]; exact Ar_q102.1)) (State.isArrayOf_alike hZ.alike Ar_q102.2.1) Ar_q102.2.2 hin_q102 hat_q102 (g := (mkF m 13 #[.val (.ref a), .val (.ref b), .val (.ref d), .val (.int (4 : Int32)), .val (.int (5 : Int32))] [(.int (4 : Int32)), (.ref d), (.long v4)])) rfl rfl (hb hby dK54_13)) ?_
  show Go _ _ _ _ _ _ _ (s₁.setTop (mkF m 14 #[.val (.ref a), .val (.ref b), .val (.ref d), .val (.int (4 : Int32)), .val (.int (5 : Int32))] [(.long v4), (.long v4)]))
  refine Go.by (fun _ kont => XS.lcmp X0.here hx rfl (hb hby dK54_14) rfl kont) ?_
  show Go _ _ _ _ _ _ _ (s₁.setTop (mkF m 15 #[.val (.ref a), .val (.ref b), .val (.ref d), .val (.int (4 : Int32)), .val (.int (5 : Int32))] [(.int (lcmpW v4 v4))]))
  refine Go.by (fun _ kont => XS.ifNo X0.here hx rfl (hb hby dK54_15) rfl ((if0 _ _).trans (teq ((lw_eq _ _).mpr rfl)).2) kont) ?_
  show Go _ _ _ _ _ _ _ (s₁.setTop (mkF m 18 #[.val (.ref a), .val (.ref b), .val (.ref d), .val (.int (4 : Int32)), .val (.int (5 : Int32))] []))
  refine Go.by (fun _ kont => XS.aloadN X0.here hx rfl (hb hby dK54_18) rfl rfl (XS.iloadN X0.here hx rfl (hb hby dK54_19) rfl kont)) ?_
  show Go _ _ _ _ _ _ _ (s₁.setTop (mkF m 20 #[.val (.ref a), .val (.ref b), .val (.ref d), .val (.int (4 : Int32)), .val (.int (5 : Int32))] [(.int (4 : Int32)), (.ref a)]))
  obtain ⟨cl_q103, Ar_q103, q1_q103, S_q103, N_q103, H_q103, G_q103⟩ := id V0_a
  have hin_q103 : ¬ ((4 : Int32) < 0 ∨ cl_q103.slots.size ≤ ((4 : Int32)).toNatClampNeg) := inb_of S_q103 ⟨by decide, by decide⟩
  have hat_q103 : cl_q103.slots[((4 : Int32)).toNatClampNeg]? = some (.long v4) := Has.at H_q103 hin_q103 rfl
  refine Go.by (X0.laload hx (j := (4 : Int32)) (v := (.long v4)) (by first | exact Ar_q103.1 | (rw [e0]; exact Ar_q103.1)) (State.isArrayOf_alike hZ.alike Ar_q103.2.1) Ar_q103.2.2 hin_q103 hat_q103 (g := (mkF m 20 #[.val (.ref a), .val (.ref b), .val (.ref d), .val (.int (4 : Int32)), .val (.int (5 : Int32))] [(.int (4 : Int32)), (.ref a)])) rfl rfl (hb hby dK54_20)) ?_
  show Go _ _ _ _ _ _ _ (s₁.setTop (mkF m 21 #[.val (.ref a), .val (.ref b), .val (.ref d), .val (.int (4 : Int32)), .val (.int (5 : Int32))] [(.long v4)]))
  refine Go.by (fun _ kont => XS.aloadN X0.here hx rfl (hb hby dK54_21) rfl rfl (XS.iloadN X0.here hx rfl (hb hby dK54_22) rfl kont)) ?_
  show Go _ _ _ _ _ _ _ (s₁.setTop (mkF m 23 #[.val (.ref a), .val (.ref b), .val (.ref d), .val (.int (4 : Int32)), .val (.int (5 : Int32))] [(.int (4 : Int32)), (.ref b), (.long v4)]))
  obtain ⟨cl_q104, Ar_q104, q1_q104, S_q104, N_q104, H_q104, G_q104⟩ := id V0_b
  have hin_q104 : ¬ ((4 : Int32) < 0 ∨ cl_q104.slots.size ≤ ((4 : Int32)).toNatClampNeg) := inb_of S_q104 ⟨by decide, by decide⟩
  have hat_q104 : cl_q104.slots[((4 : Int32)).toNatClampNeg]? = some (.long (-v4)) := Has.at H_q104 hin_q104 rfl
  refine Go.by (X0.laload hx (j := (4 : Int32)) (v := (.long (-v4))) (by first | exact Ar_q104.1 | (rw [e0]; exact Ar_q104.1)) (State.isArrayOf_alike hZ.alike Ar_q104.2.1) Ar_q104.2.2 hin_q104 hat_q104 (g := (mkF m 23 #[.val (.ref a), .val (.ref b), .val (.ref d), .val (.int (4 : Int32)), .val (.int (5 : Int32))] [(.int (4 : Int32)), (.ref b), (.long v4)])) rfl rfl (hb hby dK54_23)) ?_
  show Go _ _ _ _ _ _ _ (s₁.setTop (mkF m 24 #[.val (.ref a), .val (.ref b), .val (.ref d), .val (.int (4 : Int32)), .val (.int (5 : Int32))] [(.long (-v4)), (.long v4)]))
  refine Go.by (fun _ kont => XS.ladd X0.here hx rfl (hb hby dK54_24) rfl (XS.lconst X0.here hx rfl (hb hby dK54_25) (XS.lcmp X0.here hx rfl (hb hby dK54_26) rfl kont))) ?_
  show Go _ _ _ _ _ _ _ (s₁.setTop (mkF m 27 #[.val (.ref a), .val (.ref b), .val (.ref d), .val (.int (4 : Int32)), .val (.int (5 : Int32))] [(.int (lcmpW (v4 + (-v4)) (0 : Int64)))]))
  have hd105 : (v4 + (-v4)) = (0 : Int64) := Int64.add_right_neg _
  refine Go.by (fun _ kont => XS.ifNo X0.here hx rfl (hb hby dK54_27) rfl ((if0 _ _).trans (teq ((lw_eq _ _).mpr hd105)).2) kont) ?_
  show Go _ _ _ _ _ _ _ (s₁.setTop (mkF m 30 #[.val (.ref a), .val (.ref b), .val (.ref d), .val (.int (4 : Int32)), .val (.int (5 : Int32))] []))
  refine Go.by (fun _ kont => XS.iconst X0.here hx rfl (hb hby dK54_30) (XS.goto X0.here hx rfl (pc0 := 31) (pc' := 35) rfl (hb hby dK54_31) (by decide) (by decide) kont)) ?_
  show Go _ _ _ _ _ _ _ (s₁.setTop (mkF m 35 #[.val (.ref a), .val (.ref b), .val (.ref d), .val (.int (4 : Int32)), .val (.int (5 : Int32))] [(.int (1 : Int32))]))
  refine Go.retN X0 hx (t := .boolean) hret (by simp) hlk (hb hby dK54_35) ?_ (by decide) (by decide)
  show QK54 Z a b d kc_a v0 v1 v2 v3 v4 kc_b kc_d h0 n0 (some (.int (1 : Int32))) s₁.heap _
  rw [e0]
  exact ⟨rfl, N0, rfl⟩

theorem pd0_0 : parseMethodDescriptor "([J)[J" = some ⟨[(.array .long)], some (.array .long)⟩ := by decide +kernel
theorem pd0_1 : parseMethodDescriptor "([J[J[JII)Z" = some ⟨[(.array .long), (.array .long), (.array .long), .int, .int], some .boolean⟩ := by decide +kernel
theorem pn0 : plainName "com/example/runs_to_nets/runstonets/core/PlaceTransitionSynthesisNegatedPinLaw" = true := by first | (simp [plainName, overriddenIn]; done) | decide +kernel
theorem ef0 (m : MethodId) (s0 : Int32) (a1 : Int64) (a2 : Int64) (a3 : Int64) (a4 : Int64) (a5 : Int64) : entryFrame m #[(.int s0), (.long a1), (.long a2), (.long a3), (.long a4), (.long a5)] maxLocals = mkF m 0 #[.val (.int s0), .val (.long a1), .second, .val (.long a2), .second, .val (.long a3), .second, .val (.long a4), .second, .val (.long a5), .second, .unset, .unset, .unset, .unset] [] := by first | (simp [entryFrame, mkF, argsToLocals, Value.category, maxLocals]; done) | rfl
def Q0 (Z : State) (h0 : Heap) (n0 : Nat) (v : Option Value) (h : Heap) (L : List Loc) : Prop := v = some (.int 1) ∧ Fr n0 L
set_option maxRecDepth 65536 in
set_option maxHeartbeats 40000000 in
theorem rm0 (l : Launch) (Z : State) (a0 : Array Value) (hw : ∀ d ∈ tables_1, d.before a0 Z = true) (ws : List Jvm.Cond) (s0 : Int32) (a1 : Int64) (a2 : Int64) (a3 : Int64) (a4 : Int64) (a5 : Int64) (h0 : Heap) (n0 : Nat) (Z0 : n0 ≤ h0.size) :
    MetFree l x (head1 (Jvm.Cond.code x code maxLocals ret :: ws) room_1) (fun aa_ U_ => aa_ = #[(.int s0), (.long a1), (.long a2), (.long a3), (.long a4), (.long a5)] ∧ Z.Warmed39 U_.vm ∧ U_.heap = h0) (fun _ _ _ _ _ => True) (fun _ U_ o_ V_ => ∃ v_ L_, o_ = .returned v_ ∧ Q0 Z h0 n0 v_ V_.heap L_ ∧ FrameEnd U_ o_ V_ L_ 16 128) := by
  refine MetFree.of_bodySF (plainFor_of_name pn0) hisR ?_
  intro p e s m args below meth c s₁ Bd hml0 hP hK
  obtain ⟨rfl, hZ, hh⟩ := hP
  have hx := Bd.exec
  have hby := Bd.bytes
  have hml : c.maxLocals = 15 := hml0
  have hown : s.vm.findClass "com/example/runs_to_nets/runstonets/core/PlaceTransitionSynthesisNegatedPinLaw" = some m.cls := findClass_of_methodNamed Bd.named
  have hnm := (name_of_methodNamed Bd.named Bd.method).1
  have hlk : meth.locks = false := BodyLoose.notSynchronized Bd
  have hret : meth.sig.returnType = (some .boolean) := Bd.returns
  have X0 : Stand p l e room_1 s m #[(.int s0), (.long a1), (.long a2), (.long a3), (.long a4), (.long a5)] below meth c s₁ [] 0 0 := Stand.of_body Bd
  have e0 : s₁.heap = h0 := by rw [← hh, Bd.state]; rfl
  have N0 := Fr.nil n0
  show Go p e below s 16 128 (Q0 Z h0 n0) (s₁.setTop (entryFrame m #[(.int s0), (.long a1), (.long a2), (.long a3), (.long a4), (.long a5)] maxLocals))
  rw [ef0]
  refine Go.by (fun _ kont => XS.iloadN X0.here hx rfl (hb hby at_0) rfl (X0.ldcInt hx hown (mvT hZ (hw _ (List.mem_of_getElem? (i := 0) rfl))) (g := (mkF m 1 #[.val (.int s0), .val (.long a1), .second, .val (.long a2), .second, .val (.long a3), .second, .val (.long a4), .second, .val (.long a5), .second, .unset, .unset, .unset, .unset] [(.int s0)])) rfl (hb hby at_1) _ (XS.iand X0.here hx rfl (hb hby at_3) rfl (XS.bipush X0.here hx rfl (hb hby at_4) (iremM X0 hx rfl (hb hby at_6) rfl (by decide) (XS.istore X0.here hx rfl (hb hby at_7) rfl (l' := #[.val (.int s0), .val (.long a1), .second, .val (.long a2), .second, .val (.long a3), .second, .val (.long a4), .second, .val (.long a5), .second, .val (.int ((s0 &&& (2147483647 : Int32)) % (6 : Int32))), .unset, .unset, .unset]) rfl kont)))))) ?_
  show Go _ _ _ _ _ _ _ (s₁.setTop (mkF m 9 #[.val (.int s0), .val (.long a1), .second, .val (.long a2), .second, .val (.long a3), .second, .val (.long a4), .second, .val (.long a5), .second, .val (.int ((s0 &&& (2147483647 : Int32)) % (6 : Int32))), .unset, .unset, .unset] []))
  have C_nn := own_m6 s0
  generalize hg_nn : ((s0 &&& (2147483647 : Int32)) % (6 : Int32)) = nn at C_nn ⊢
  rcases C_nn with rfl | rfl | rfl | rfl | rfl | rfl
  · show Go _ _ _ _ _ _ _ (s₁.setTop (mkF m 9 #[.val (.int s0), .val (.long a1), .second, .val (.long a2), .second, .val (.long a3), .second, .val (.long a4), .second, .val (.long a5), .second, .val (.int (0 : Int32)), .unset, .unset, .unset] []))
    refine Go.by (fun _ kont => XS.iconst X0.here hx rfl (hb hby at_9) kont) ?_
    show Go _ _ _ _ _ _ _ (s₁.setTop (mkF m 10 #[.val (.int s0), .val (.long a1), .second, .val (.long a2), .second, .val (.long a3), .second, .val (.long a4), .second, .val (.long a5), .second, .val (.int (0 : Int32)), .unset, .unset, .unset] [(.int (5 : Int32))]))
    obtain ⟨T101, h101, k101, X101, e101, X_101, A101, st101⟩ := newP X0 hx hZ (hw _ (List.mem_of_getElem? (i := 1) rfl)) e0 (g := (mkF m 10 #[.val (.int s0), .val (.long a1), .second, .val (.long a2), .second, .val (.long a3), .second, .val (.long a4), .second, .val (.long a5), .second, .val (.int (0 : Int32)), .unset, .unset, .unset] [(.int (5 : Int32))])) rfl (hb hby at_10) rfl (by decide) (cap := 5) (by decide) (by decide) (by decide) (by decide)
    obtain ⟨b101, g101⟩ : ∃ z, z = h0.size := ⟨_, rfl⟩
    rw [← g101] at A101 st101
    have ge_b101 : n0 ≤ b101 := Nat.le_trans Z0 (Nat.le_of_eq g101.symm)
    have sz_b101 : h0.size ≤ b101 := Nat.le_trans (Keep.refl h0 []).1 (Nat.le_of_eq g101.symm)
    have Z102 := Nat.le_trans Z0 X_101.1
    have K102 : Keep h0 h101 [] := (Keep.refl h0 []).ext X_101
    have V101 : Arv Z h101 b101 k101 .long (5 : Int32) [(.long (0 : Int64)), (.long (0 : Int64)), (.long (0 : Int64)), (.long (0 : Int64)), (.long (0 : Int64))] (.long (0 : Int64)) := (Arv.new A101 (by decide)).pad (pad_rep [] (.long (0 : Int64)) 5)
    refine Go.by st101 ?_
    show Go _ _ _ _ _ _ _ (T101.setTop (mkF m 12 #[.val (.int s0), .val (.long a1), .second, .val (.long a2), .second, .val (.long a3), .second, .val (.long a4), .second, .val (.long a5), .second, .val (.int (0 : Int32)), .unset, .unset, .unset] [(.ref b101)]))
    refine Go.by (fun _ kont => XS.dup X101.here hx rfl (hb hby at_12) rfl rfl (XS.iconst X101.here hx rfl (hb hby at_13) (XS.lloadN X101.here hx rfl (hb hby at_14) rfl kont))) ?_
    show Go _ _ _ _ _ _ _ (T101.setTop (mkF m 15 #[.val (.int s0), .val (.long a1), .second, .val (.long a2), .second, .val (.long a3), .second, .val (.long a4), .second, .val (.long a5), .second, .val (.int (0 : Int32)), .unset, .unset, .unset] [(.long a1), (.int (0 : Int32)), (.ref b101), (.ref b101)]))
    obtain ⟨cl_q103, Ar_q103, q1_q103, S_q103, N_q103, H_q103, G_q103⟩ := id V101
    have hin_q103 : ¬ ((0 : Int32) < 0 ∨ cl_q103.slots.size ≤ ((0 : Int32)).toNatClampNeg) := inb_of S_q103 ⟨by decide, by decide⟩
    obtain ⟨T104, h104, X104, e104, W104, st104⟩ := stJ X101 hx hZ e101 Ar_q103 (j := (0 : Int32)) hin_q103 (g := (mkF m 15 #[.val (.int s0), .val (.long a1), .second, .val (.long a2), .second, .val (.long a3), .second, .val (.long a4), .second, .val (.long a5), .second, .val (.int (0 : Int32)), .unset, .unset, .unset] [(.long a1), (.int (0 : Int32)), (.ref b101), (.ref b101)])) rfl rfl (hb hby at_15)
    have V104 : Arv Z h104 b101 k101 .long (5 : Int32) [(.long a1), (.long (0 : Int64)), (.long (0 : Int64)), (.long (0 : Int64)), (.long (0 : Int64))] (.long (0 : Int64)) := Arv.set Ar_q103 q1_q103 S_q103 N_q103 H_q103 G_q103 rfl W104 0 rfl (Nat.le_of_ble_eq_true rfl)
    have Z105 := Nat.le_trans Z102 (Keep.of_wr W104).1
    have K105 : Keep h0 h104 [] := K102.wr W104 (Or.inr sz_b101)
    have N104 := Fr.snoc X104 N0 ge_b101
    refine Go.by st104 ?_
    show Go _ _ _ _ _ _ _ (T104.setTop (mkF m 16 #[.val (.int s0), .val (.long a1), .second, .val (.long a2), .second, .val (.long a3), .second, .val (.long a4), .second, .val (.long a5), .second, .val (.int (0 : Int32)), .unset, .unset, .unset] [(.ref b101)]))
    refine Go.by (fun _ kont => XS.dup X104.here hx rfl (hb hby at_16) rfl rfl (XS.iconst X104.here hx rfl (hb hby at_17) (XS.lloadN X104.here hx rfl (hb hby at_18) rfl kont))) ?_
    show Go _ _ _ _ _ _ _ (T104.setTop (mkF m 19 #[.val (.int s0), .val (.long a1), .second, .val (.long a2), .second, .val (.long a3), .second, .val (.long a4), .second, .val (.long a5), .second, .val (.int (0 : Int32)), .unset, .unset, .unset] [(.long a2), (.int (1 : Int32)), (.ref b101), (.ref b101)]))
    obtain ⟨cl_q106, Ar_q106, q1_q106, S_q106, N_q106, H_q106, G_q106⟩ := id V104
    have hin_q106 : ¬ ((1 : Int32) < 0 ∨ cl_q106.slots.size ≤ ((1 : Int32)).toNatClampNeg) := inb_of S_q106 ⟨by decide, by decide⟩
    obtain ⟨T107, h107, X107, e107, W107, st107⟩ := stJ X104 hx hZ e104 Ar_q106 (j := (1 : Int32)) hin_q106 (g := (mkF m 19 #[.val (.int s0), .val (.long a1), .second, .val (.long a2), .second, .val (.long a3), .second, .val (.long a4), .second, .val (.long a5), .second, .val (.int (0 : Int32)), .unset, .unset, .unset] [(.long a2), (.int (1 : Int32)), (.ref b101), (.ref b101)])) rfl rfl (hb hby at_19)
    have V107 : Arv Z h107 b101 k101 .long (5 : Int32) [(.long a1), (.long a2), (.long (0 : Int64)), (.long (0 : Int64)), (.long (0 : Int64))] (.long (0 : Int64)) := Arv.set Ar_q106 q1_q106 S_q106 N_q106 H_q106 G_q106 rfl W107 1 rfl (Nat.le_of_ble_eq_true rfl)
    have Z108 := Nat.le_trans Z105 (Keep.of_wr W107).1
    have K108 : Keep h0 h107 [] := K105.wr W107 (Or.inr sz_b101)
    have N107 := Fr.snoc X107 N104 ge_b101
    refine Go.by st107 ?_
    show Go _ _ _ _ _ _ _ (T107.setTop (mkF m 20 #[.val (.int s0), .val (.long a1), .second, .val (.long a2), .second, .val (.long a3), .second, .val (.long a4), .second, .val (.long a5), .second, .val (.int (0 : Int32)), .unset, .unset, .unset] [(.ref b101)]))
    refine Go.by (fun _ kont => XS.dup X107.here hx rfl (hb hby at_20) rfl rfl (XS.iconst X107.here hx rfl (hb hby at_21) (XS.lload X107.here hx rfl (hb hby at_22) rfl kont))) ?_
    show Go _ _ _ _ _ _ _ (T107.setTop (mkF m 24 #[.val (.int s0), .val (.long a1), .second, .val (.long a2), .second, .val (.long a3), .second, .val (.long a4), .second, .val (.long a5), .second, .val (.int (0 : Int32)), .unset, .unset, .unset] [(.long a3), (.int (2 : Int32)), (.ref b101), (.ref b101)]))
    obtain ⟨cl_q109, Ar_q109, q1_q109, S_q109, N_q109, H_q109, G_q109⟩ := id V107
    have hin_q109 : ¬ ((2 : Int32) < 0 ∨ cl_q109.slots.size ≤ ((2 : Int32)).toNatClampNeg) := inb_of S_q109 ⟨by decide, by decide⟩
    obtain ⟨T110, h110, X110, e110, W110, st110⟩ := stJ X107 hx hZ e107 Ar_q109 (j := (2 : Int32)) hin_q109 (g := (mkF m 24 #[.val (.int s0), .val (.long a1), .second, .val (.long a2), .second, .val (.long a3), .second, .val (.long a4), .second, .val (.long a5), .second, .val (.int (0 : Int32)), .unset, .unset, .unset] [(.long a3), (.int (2 : Int32)), (.ref b101), (.ref b101)])) rfl rfl (hb hby at_24)
    have V110 : Arv Z h110 b101 k101 .long (5 : Int32) [(.long a1), (.long a2), (.long a3), (.long (0 : Int64)), (.long (0 : Int64))] (.long (0 : Int64)) := Arv.set Ar_q109 q1_q109 S_q109 N_q109 H_q109 G_q109 rfl W110 2 rfl (Nat.le_of_ble_eq_true rfl)
    have Z111 := Nat.le_trans Z108 (Keep.of_wr W110).1
    have K111 : Keep h0 h110 [] := K108.wr W110 (Or.inr sz_b101)
    have N110 := Fr.snoc X110 N107 ge_b101
    refine Go.by st110 ?_
    show Go _ _ _ _ _ _ _ (T110.setTop (mkF m 25 #[.val (.int s0), .val (.long a1), .second, .val (.long a2), .second, .val (.long a3), .second, .val (.long a4), .second, .val (.long a5), .second, .val (.int (0 : Int32)), .unset, .unset, .unset] [(.ref b101)]))
    refine Go.by (fun _ kont => XS.dup X110.here hx rfl (hb hby at_25) rfl rfl (XS.iconst X110.here hx rfl (hb hby at_26) (XS.lload X110.here hx rfl (hb hby at_27) rfl kont))) ?_
    show Go _ _ _ _ _ _ _ (T110.setTop (mkF m 29 #[.val (.int s0), .val (.long a1), .second, .val (.long a2), .second, .val (.long a3), .second, .val (.long a4), .second, .val (.long a5), .second, .val (.int (0 : Int32)), .unset, .unset, .unset] [(.long a4), (.int (3 : Int32)), (.ref b101), (.ref b101)]))
    obtain ⟨cl_q112, Ar_q112, q1_q112, S_q112, N_q112, H_q112, G_q112⟩ := id V110
    have hin_q112 : ¬ ((3 : Int32) < 0 ∨ cl_q112.slots.size ≤ ((3 : Int32)).toNatClampNeg) := inb_of S_q112 ⟨by decide, by decide⟩
    obtain ⟨T113, h113, X113, e113, W113, st113⟩ := stJ X110 hx hZ e110 Ar_q112 (j := (3 : Int32)) hin_q112 (g := (mkF m 29 #[.val (.int s0), .val (.long a1), .second, .val (.long a2), .second, .val (.long a3), .second, .val (.long a4), .second, .val (.long a5), .second, .val (.int (0 : Int32)), .unset, .unset, .unset] [(.long a4), (.int (3 : Int32)), (.ref b101), (.ref b101)])) rfl rfl (hb hby at_29)
    have V113 : Arv Z h113 b101 k101 .long (5 : Int32) [(.long a1), (.long a2), (.long a3), (.long a4), (.long (0 : Int64))] (.long (0 : Int64)) := Arv.set Ar_q112 q1_q112 S_q112 N_q112 H_q112 G_q112 rfl W113 3 rfl (Nat.le_of_ble_eq_true rfl)
    have Z114 := Nat.le_trans Z111 (Keep.of_wr W113).1
    have K114 : Keep h0 h113 [] := K111.wr W113 (Or.inr sz_b101)
    have N113 := Fr.snoc X113 N110 ge_b101
    refine Go.by st113 ?_
    show Go _ _ _ _ _ _ _ (T113.setTop (mkF m 30 #[.val (.int s0), .val (.long a1), .second, .val (.long a2), .second, .val (.long a3), .second, .val (.long a4), .second, .val (.long a5), .second, .val (.int (0 : Int32)), .unset, .unset, .unset] [(.ref b101)]))
    refine Go.by (fun _ kont => XS.dup X113.here hx rfl (hb hby at_30) rfl rfl (XS.iconst X113.here hx rfl (hb hby at_31) (XS.lload X113.here hx rfl (hb hby at_32) rfl kont))) ?_
    show Go _ _ _ _ _ _ _ (T113.setTop (mkF m 34 #[.val (.int s0), .val (.long a1), .second, .val (.long a2), .second, .val (.long a3), .second, .val (.long a4), .second, .val (.long a5), .second, .val (.int (0 : Int32)), .unset, .unset, .unset] [(.long a5), (.int (4 : Int32)), (.ref b101), (.ref b101)]))
    obtain ⟨cl_q115, Ar_q115, q1_q115, S_q115, N_q115, H_q115, G_q115⟩ := id V113
    have hin_q115 : ¬ ((4 : Int32) < 0 ∨ cl_q115.slots.size ≤ ((4 : Int32)).toNatClampNeg) := inb_of S_q115 ⟨by decide, by decide⟩
    obtain ⟨T116, h116, X116, e116, W116, st116⟩ := stJ X113 hx hZ e113 Ar_q115 (j := (4 : Int32)) hin_q115 (g := (mkF m 34 #[.val (.int s0), .val (.long a1), .second, .val (.long a2), .second, .val (.long a3), .second, .val (.long a4), .second, .val (.long a5), .second, .val (.int (0 : Int32)), .unset, .unset, .unset] [(.long a5), (.int (4 : Int32)), (.ref b101), (.ref b101)])) rfl rfl (hb hby at_34)
    have V116 : Arv Z h116 b101 k101 .long (5 : Int32) [(.long a1), (.long a2), (.long a3), (.long a4), (.long a5)] (.long (0 : Int64)) := Arv.set Ar_q115 q1_q115 S_q115 N_q115 H_q115 G_q115 rfl W116 4 rfl (Nat.le_of_ble_eq_true rfl)
    have Z117 := Nat.le_trans Z114 (Keep.of_wr W116).1
    have K117 : Keep h0 h116 [] := K114.wr W116 (Or.inr sz_b101)
    have N116 := Fr.snoc X116 N113 ge_b101
    refine Go.by st116 ?_
    show Go _ _ _ _ _ _ _ (T116.setTop (mkF m 35 #[.val (.int s0), .val (.long a1), .second, .val (.long a2), .second, .val (.long a3), .second, .val (.long a4), .second, .val (.long a5), .second, .val (.int (0 : Int32)), .unset, .unset, .unset] [(.ref b101)]))
    refine Go.by (fun _ kont => XS.astore X116.here hx rfl (hb hby at_35) rfl rfl (l' := #[.val (.int s0), .val (.long a1), .second, .val (.long a2), .second, .val (.long a3), .second, .val (.long a4), .second, .val (.long a5), .second, .val (.int (0 : Int32)), .val (.ref b101), .unset, .unset]) rfl (XS.iload X116.here hx rfl (hb hby at_37) rfl kont)) ?_
    show Go _ _ _ _ _ _ _ (T116.setTop (mkF m 39 #[.val (.int s0), .val (.long a1), .second, .val (.long a2), .second, .val (.long a3), .second, .val (.long a4), .second, .val (.long a5), .second, .val (.int (0 : Int32)), .val (.ref b101), .unset, .unset] [(.int (0 : Int32))]))
    obtain ⟨T118, h118, k118, X118, e118, X_118, A118, st118⟩ := newP X116 hx hZ (hw _ (List.mem_of_getElem? (i := 1) rfl)) e116 (g := (mkF m 39 #[.val (.int s0), .val (.long a1), .second, .val (.long a2), .second, .val (.long a3), .second, .val (.long a4), .second, .val (.long a5), .second, .val (.int (0 : Int32)), .val (.ref b101), .unset, .unset] [(.int (0 : Int32))])) rfl (hb hby at_39) rfl (by decide) (cap := 0) (by decide) (by decide) (by decide) (by decide)
    obtain ⟨b118, g118⟩ : ∃ z, z = h116.size := ⟨_, rfl⟩
    rw [← g118] at A118 st118
    have ne_b101_b118 : b101 ≠ b118 := Nat.ne_of_lt (Nat.lt_of_lt_of_le V116.lt (Nat.le_of_eq g118.symm))
    have ge_b118 : n0 ≤ b118 := Nat.le_trans Z117 (Nat.le_of_eq g118.symm)
    have sz_b118 : h0.size ≤ b118 := Nat.le_trans K117.1 (Nat.le_of_eq g118.symm)
    have V119_b101 := V116.ext X_118
    have Z119 := Nat.le_trans Z117 X_118.1
    have K119 : Keep h0 h118 [] := K117.ext X_118
    have V118 : Arv Z h118 b118 k118 .long (0 : Int32) [] (.long (0 : Int64)) := (Arv.new A118 (by decide)).pad (pad_rep [] (.long (0 : Int64)) 0)
    refine Go.by st118 ?_
    show Go _ _ _ _ _ _ _ (T118.setTop (mkF m 41 #[.val (.int s0), .val (.long a1), .second, .val (.long a2), .second, .val (.long a3), .second, .val (.long a4), .second, .val (.long a5), .second, .val (.int (0 : Int32)), .val (.ref b101), .unset, .unset] [(.ref b118)]))
    refine Go.by (fun _ kont => XS.astore X118.here hx rfl (hb hby at_41) rfl rfl (l' := #[.val (.int s0), .val (.long a1), .second, .val (.long a2), .second, .val (.long a3), .second, .val (.long a4), .second, .val (.long a5), .second, .val (.int (0 : Int32)), .val (.ref b101), .val (.ref b118), .unset]) rfl (XS.iload X118.here hx rfl (hb hby at_43) rfl kont)) ?_
    show Go _ _ _ _ _ _ _ (T118.setTop (mkF m 45 #[.val (.int s0), .val (.long a1), .second, .val (.long a2), .second, .val (.long a3), .second, .val (.long a4), .second, .val (.long a5), .second, .val (.int (0 : Int32)), .val (.ref b101), .val (.ref b118), .unset] [(.int (0 : Int32))]))
    refine Go.by (fun _ kont => XS.ifYes X118.here hx rfl (pc0 := 45) (pc' := 53) rfl (hb hby at_45) rfl (by decide) (by decide) (by decide) kont) ?_
    show Go _ _ _ _ _ _ _ (T118.setTop (mkF m 53 #[.val (.int s0), .val (.long a1), .second, .val (.long a2), .second, .val (.long a3), .second, .val (.long a4), .second, .val (.long a5), .second, .val (.int (0 : Int32)), .val (.ref b101), .val (.ref b118), .unset] []))
    refine Go.by (fun _ kont => XS.iload X118.here hx rfl (hb hby at_53) rfl (XS.iconst X118.here hx rfl (hb hby at_55) kont)) ?_
    show Go _ _ _ _ _ _ _ (T118.setTop (mkF m 56 #[.val (.int s0), .val (.long a1), .second, .val (.long a2), .second, .val (.long a3), .second, .val (.long a4), .second, .val (.long a5), .second, .val (.int (0 : Int32)), .val (.ref b101), .val (.ref b118), .unset] [(.int (1 : Int32)), (.int (0 : Int32))]))
    refine Go.by (fun _ kont => XS.icmpYes X118.here hx rfl (pc0 := 56) (pc' := 64) rfl (hb hby at_56) rfl (by decide) (by decide) (by decide) kont) ?_
    show Go _ _ _ _ _ _ _ (T118.setTop (mkF m 64 #[.val (.int s0), .val (.long a1), .second, .val (.long a2), .second, .val (.long a3), .second, .val (.long a4), .second, .val (.long a5), .second, .val (.int (0 : Int32)), .val (.ref b101), .val (.ref b118), .unset] []))
    refine Go.by (fun _ kont => XS.iload X118.here hx rfl (hb hby at_64) rfl (XS.iconst X118.here hx rfl (hb hby at_66) kont)) ?_
    show Go _ _ _ _ _ _ _ (T118.setTop (mkF m 67 #[.val (.int s0), .val (.long a1), .second, .val (.long a2), .second, .val (.long a3), .second, .val (.long a4), .second, .val (.long a5), .second, .val (.int (0 : Int32)), .val (.ref b101), .val (.ref b118), .unset] [(.int (2 : Int32)), (.int (0 : Int32))]))
    refine Go.by (fun _ kont => XS.icmpYes X118.here hx rfl (pc0 := 67) (pc' := 76) rfl (hb hby at_67) rfl (by decide) (by decide) (by decide) kont) ?_
    show Go _ _ _ _ _ _ _ (T118.setTop (mkF m 76 #[.val (.int s0), .val (.long a1), .second, .val (.long a2), .second, .val (.long a3), .second, .val (.long a4), .second, .val (.long a5), .second, .val (.int (0 : Int32)), .val (.ref b101), .val (.ref b118), .unset] []))
    refine Go.by (fun _ kont => XS.iload X118.here hx rfl (hb hby at_76) rfl (XS.iconst X118.here hx rfl (hb hby at_78) kont)) ?_
    show Go _ _ _ _ _ _ _ (T118.setTop (mkF m 79 #[.val (.int s0), .val (.long a1), .second, .val (.long a2), .second, .val (.long a3), .second, .val (.long a4), .second, .val (.long a5), .second, .val (.int (0 : Int32)), .val (.ref b101), .val (.ref b118), .unset] [(.int (3 : Int32)), (.int (0 : Int32))]))
    refine Go.by (fun _ kont => XS.icmpYes X118.here hx rfl (pc0 := 79) (pc' := 88) rfl (hb hby at_79) rfl (by decide) (by decide) (by decide) kont) ?_
    show Go _ _ _ _ _ _ _ (T118.setTop (mkF m 88 #[.val (.int s0), .val (.long a1), .second, .val (.long a2), .second, .val (.long a3), .second, .val (.long a4), .second, .val (.long a5), .second, .val (.int (0 : Int32)), .val (.ref b101), .val (.ref b118), .unset] []))
    refine Go.by (fun _ kont => XS.iload X118.here hx rfl (hb hby at_88) rfl (XS.iconst X118.here hx rfl (hb hby at_90) kont)) ?_
    show Go _ _ _ _ _ _ _ (T118.setTop (mkF m 91 #[.val (.int s0), .val (.long a1), .second, .val (.long a2), .second, .val (.long a3), .second, .val (.long a4), .second, .val (.long a5), .second, .val (.int (0 : Int32)), .val (.ref b101), .val (.ref b118), .unset] [(.int (4 : Int32)), (.int (0 : Int32))]))
    refine Go.by (fun _ kont => XS.icmpYes X118.here hx rfl (pc0 := 91) (pc' := 100) rfl (hb hby at_91) rfl (by decide) (by decide) (by decide) kont) ?_
    show Go _ _ _ _ _ _ _ (T118.setTop (mkF m 100 #[.val (.int s0), .val (.long a1), .second, .val (.long a2), .second, .val (.long a3), .second, .val (.long a4), .second, .val (.long a5), .second, .val (.int (0 : Int32)), .val (.ref b101), .val (.ref b118), .unset] []))
    refine Go.by (fun _ kont => XS.aload X118.here hx rfl (hb hby at_100) rfl rfl kont) ?_
    show Go _ _ _ _ _ _ _ (T118.setTop (mkF m 102 #[.val (.int s0), .val (.long a1), .second, .val (.long a2), .second, .val (.long a3), .second, .val (.long a4), .second, .val (.long a5), .second, .val (.int (0 : Int32)), .val (.ref b101), .val (.ref b118), .unset] [(.ref b118)]))
    obtain ⟨_, _, ⟨T120, L120, k120, n120⟩, -, X120, ⟨Lc120, hQ120, l120, y120, z120⟩, st120⟩ := Jvm.LawKit.callS X118 hx (y := (⟨"com/example/runs_to_nets/runstonets/core/PlaceTransitionSynthesis", "negated", "([J)[J"⟩ : MethodName)) hown (mvT hZ (hw _ (List.mem_of_getElem? (i := 2) rfl))) (mvT hZ (hw _ (List.mem_of_getElem? (i := 3) rfl))) (mvT hZ (hw _ (List.mem_of_getElem? (i := 4) rfl))) (mvT hZ (hw _ (List.mem_of_getElem? (i := 5) rfl))) (by decide) (backOf (W := 0) (rmN0 l Z a0 hw [] b118 k118 h118 n0 Z119 V118) hZ (hw _ (List.mem_of_getElem? (i := 5) rfl)) (hw _ (List.mem_of_getElem? (i := 4) rfl)) (by decide) (by decide)) (g := (mkF m 102 #[.val (.int s0), .val (.long a1), .second, .val (.long a2), .second, .val (.long a3), .second, .val (.long a4), .second, .val (.long a5), .second, .val (.int (0 : Int32)), .val (.ref b101), .val (.ref b118), .unset] [(.ref b118)])) rfl (by rw [hml]; rfl) (argsL := [(.ref b118)]) (rest := []) (lenOf pd0_0 rfl) rfl (by show 2 * 0 + _ ≤ _; exact Nat.le_of_eq rfl) (hb hby at_102) (fun _ _ => ⟨rfl, e118, (by decide : 2 + 1 ≤ _), (by decide : 5 + 0 ≤ _)⟩)
    dsimp only [Pt.U, Pt.locs, Pt.cells, Pt.slots] at X120 l120 y120 z120 st120 hQ120
    subst l120 y120 z120
    obtain ⟨b102_120, k102_120, rfl, N120q, K120, ge_b102_120, szc_b102_120, g120_0⟩ := hQ120
    have ne_b101_b102_120 : b101 ≠ b102_120 := Nat.ne_of_lt (Nat.lt_of_lt_of_le V119_b101.lt szc_b102_120)
    have ne_b118_b102_120 : b118 ≠ b102_120 := Nat.ne_of_lt (Nat.lt_of_lt_of_le V118.lt szc_b102_120)
    have sz_b102_120 : h0.size ≤ b102_120 := Nat.le_trans K119.1 szc_b102_120
    have V121_b101 := V119_b101.keep K120 nin0
    have V121_b118 := V118.keep K120 nin0
    have Z121 := Nat.le_trans Z119 K120.1
    have K121 : Keep h0 T120.heap [] := Keep.trans K119 K120 all0
    have N120 := Fr.app N116 N120q
    refine Go.by st120 ?_
    show Go _ _ _ _ _ _ _ (T120.setTop (mkF m 105 #[.val (.int s0), .val (.long a1), .second, .val (.long a2), .second, .val (.long a3), .second, .val (.long a4), .second, .val (.long a5), .second, .val (.int (0 : Int32)), .val (.ref b101), .val (.ref b118), .unset] [(.ref b102_120)]))
    refine Go.by (fun _ kont => XS.astore X120.here hx rfl (hb hby at_105) rfl rfl (l' := #[.val (.int s0), .val (.long a1), .second, .val (.long a2), .second, .val (.long a3), .second, .val (.long a4), .second, .val (.long a5), .second, .val (.int (0 : Int32)), .val (.ref b101), .val (.ref b118), .val (.ref b102_120)]) rfl (XS.aload X120.here hx rfl (hb hby at_107) rfl rfl (XS.ifnullNo X120.here hx rfl (hb hby at_109) rfl (XS.aload X120.here hx rfl (hb hby at_112) rfl rfl kont)))) ?_
    show Go _ _ _ _ _ _ _ (T120.setTop (mkF m 114 #[.val (.int s0), .val (.long a1), .second, .val (.long a2), .second, .val (.long a3), .second, .val (.long a4), .second, .val (.long a5), .second, .val (.int (0 : Int32)), .val (.ref b101), .val (.ref b118), .val (.ref b102_120)] [(.ref b102_120)]))
    obtain ⟨cl_q122, Ar_q122, q1_q122, S_q122, N_q122, H_q122, G_q122⟩ := id g120_0
    refine Go.by (X120.arraylength hx (by first | exact Ar_q122.1 | (rw [rfl]; exact Ar_q122.1)) (State.isArrayOf_alike hZ.alike Ar_q122.2.1) (g := (mkF m 114 #[.val (.int s0), .val (.long a1), .second, .val (.long a2), .second, .val (.long a3), .second, .val (.long a4), .second, .val (.long a5), .second, .val (.int (0 : Int32)), .val (.ref b101), .val (.ref b118), .val (.ref b102_120)] [(.ref b102_120)])) rfl rfl (hb hby at_114)) ?_
    rw [len_of S_q122 N_q122]
    show Go _ _ _ _ _ _ _ (T120.setTop (mkF m 115 #[.val (.int s0), .val (.long a1), .second, .val (.long a2), .second, .val (.long a3), .second, .val (.long a4), .second, .val (.long a5), .second, .val (.int (0 : Int32)), .val (.ref b101), .val (.ref b118), .val (.ref b102_120)] [(.int (0 : Int32))]))
    refine Go.by (fun _ kont => XS.iload X120.here hx rfl (hb hby at_115) rfl kont) ?_
    show Go _ _ _ _ _ _ _ (T120.setTop (mkF m 117 #[.val (.int s0), .val (.long a1), .second, .val (.long a2), .second, .val (.long a3), .second, .val (.long a4), .second, .val (.long a5), .second, .val (.int (0 : Int32)), .val (.ref b101), .val (.ref b118), .val (.ref b102_120)] [(.int (0 : Int32)), (.int (0 : Int32))]))
    refine Go.by (fun _ kont => XS.icmpYes X120.here hx rfl (pc0 := 117) (pc' := 122) rfl (hb hby at_117) rfl (by decide) (by decide) (by decide) kont) ?_
    show Go _ _ _ _ _ _ _ (T120.setTop (mkF m 122 #[.val (.int s0), .val (.long a1), .second, .val (.long a2), .second, .val (.long a3), .second, .val (.long a4), .second, .val (.long a5), .second, .val (.int (0 : Int32)), .val (.ref b101), .val (.ref b118), .val (.ref b102_120)] []))
    refine Go.by (fun _ kont => XS.iload X120.here hx rfl (hb hby at_122) rfl kont) ?_
    show Go _ _ _ _ _ _ _ (T120.setTop (mkF m 124 #[.val (.int s0), .val (.long a1), .second, .val (.long a2), .second, .val (.long a3), .second, .val (.long a4), .second, .val (.long a5), .second, .val (.int (0 : Int32)), .val (.ref b101), .val (.ref b118), .val (.ref b102_120)] [(.int (0 : Int32))]))
    refine Go.by (fun _ kont => XS.ifYes X120.here hx rfl (pc0 := 124) (pc' := 136) rfl (hb hby at_124) rfl (by decide) (by decide) (by decide) kont) ?_
    show Go _ _ _ _ _ _ _ (T120.setTop (mkF m 136 #[.val (.int s0), .val (.long a1), .second, .val (.long a2), .second, .val (.long a3), .second, .val (.long a4), .second, .val (.long a5), .second, .val (.int (0 : Int32)), .val (.ref b101), .val (.ref b118), .val (.ref b102_120)] []))
    refine Go.by (fun _ kont => XS.aload X120.here hx rfl (hb hby at_136) rfl rfl (XS.aload X120.here hx rfl (hb hby at_138) rfl rfl (XS.aload X120.here hx rfl (hb hby at_140) rfl rfl (XS.iconst X120.here hx rfl (hb hby at_142) (XS.iload X120.here hx rfl (hb hby at_143) rfl kont))))) ?_
    show Go _ _ _ _ _ _ _ (T120.setTop (mkF m 145 #[.val (.int s0), .val (.long a1), .second, .val (.long a2), .second, .val (.long a3), .second, .val (.long a4), .second, .val (.long a5), .second, .val (.int (0 : Int32)), .val (.ref b101), .val (.ref b118), .val (.ref b102_120)] [(.int (0 : Int32)), (.int (0 : Int32)), (.ref b101), (.ref b102_120), (.ref b118)]))
    obtain ⟨_, _, ⟨T123, L123, k123, n123⟩, -, X123, ⟨Lc123, hQ123, l123, y123, z123⟩, st123⟩ := Jvm.LawKit.callS X120 hx (y := (⟨"com/example/runs_to_nets/runstonets/core/PlaceTransitionSynthesisNegatedPinLaw", "ok", "([J[J[JII)Z"⟩ : MethodName)) hown (mvT hZ (hw _ (List.mem_of_getElem? (i := 6) rfl))) (mvT hZ (hw _ (List.mem_of_getElem? (i := 7) rfl))) (mvT hZ (hw _ (List.mem_of_getElem? (i := 8) rfl))) (mvT hZ (hw _ (List.mem_of_getElem? (i := 9) rfl))) (by decide) (backOf (W := 0) (rmK00 l Z a0 hw [] b118 b102_120 b101 T120.heap n0 Z121 ) hZ (hw _ (List.mem_of_getElem? (i := 9) rfl)) (hw _ (List.mem_of_getElem? (i := 8) rfl)) (by decide) (by decide)) (g := (mkF m 145 #[.val (.int s0), .val (.long a1), .second, .val (.long a2), .second, .val (.long a3), .second, .val (.long a4), .second, .val (.long a5), .second, .val (.int (0 : Int32)), .val (.ref b101), .val (.ref b118), .val (.ref b102_120)] [(.int (0 : Int32)), (.int (0 : Int32)), (.ref b101), (.ref b102_120), (.ref b118)])) rfl (by rw [hml]; rfl) (argsL := [(.ref b118), (.ref b102_120), (.ref b101), (.int (0 : Int32)), (.int (0 : Int32))]) (rest := []) (lenOf pd0_1 rfl) rfl (by show 2 * 0 + _ ≤ _; exact Nat.le_of_eq rfl) (hb hby at_145) (fun _ _ => ⟨rfl, rfl, (by decide : 3 + 0 ≤ _), (by decide : 5 + 0 ≤ _)⟩)
    dsimp only [Pt.U, Pt.locs, Pt.cells, Pt.slots] at X123 l123 y123 z123 st123 hQ123
    subst l123 y123 z123
    obtain ⟨rfl, N123q, eh123⟩ := hQ123
    have N123 := Fr.app N120 N123q
    refine Go.by st123 ?_
    show Go _ _ _ _ _ _ _ (T123.setTop (mkF m 148 #[.val (.int s0), .val (.long a1), .second, .val (.long a2), .second, .val (.long a3), .second, .val (.long a4), .second, .val (.long a5), .second, .val (.int (0 : Int32)), .val (.ref b101), .val (.ref b118), .val (.ref b102_120)] [(.int (1 : Int32))]))
    refine Go.by (fun _ kont => XS.ifNo X123.here hx rfl (hb hby at_148) rfl (by decide) kont) ?_
    show Go _ _ _ _ _ _ _ (T123.setTop (mkF m 151 #[.val (.int s0), .val (.long a1), .second, .val (.long a2), .second, .val (.long a3), .second, .val (.long a4), .second, .val (.long a5), .second, .val (.int (0 : Int32)), .val (.ref b101), .val (.ref b118), .val (.ref b102_120)] []))
    refine Go.by (fun _ kont => XS.aload X123.here hx rfl (hb hby at_151) rfl rfl (XS.aload X123.here hx rfl (hb hby at_153) rfl rfl (XS.aload X123.here hx rfl (hb hby at_155) rfl rfl (XS.iconst X123.here hx rfl (hb hby at_157) (XS.iload X123.here hx rfl (hb hby at_158) rfl kont))))) ?_
    show Go _ _ _ _ _ _ _ (T123.setTop (mkF m 160 #[.val (.int s0), .val (.long a1), .second, .val (.long a2), .second, .val (.long a3), .second, .val (.long a4), .second, .val (.long a5), .second, .val (.int (0 : Int32)), .val (.ref b101), .val (.ref b118), .val (.ref b102_120)] [(.int (0 : Int32)), (.int (1 : Int32)), (.ref b101), (.ref b102_120), (.ref b118)]))
    obtain ⟨_, _, ⟨T124, L124, k124, n124⟩, -, X124, ⟨Lc124, hQ124, l124, y124, z124⟩, st124⟩ := Jvm.LawKit.callS X123 hx (y := (⟨"com/example/runs_to_nets/runstonets/core/PlaceTransitionSynthesisNegatedPinLaw", "ok", "([J[J[JII)Z"⟩ : MethodName)) hown (mvT hZ (hw _ (List.mem_of_getElem? (i := 6) rfl))) (mvT hZ (hw _ (List.mem_of_getElem? (i := 7) rfl))) (mvT hZ (hw _ (List.mem_of_getElem? (i := 8) rfl))) (mvT hZ (hw _ (List.mem_of_getElem? (i := 9) rfl))) (by decide) (backOf (W := 0) (rmK01 l Z a0 hw [] b118 b102_120 b101 T120.heap n0 Z121 ) hZ (hw _ (List.mem_of_getElem? (i := 9) rfl)) (hw _ (List.mem_of_getElem? (i := 8) rfl)) (by decide) (by decide)) (g := (mkF m 160 #[.val (.int s0), .val (.long a1), .second, .val (.long a2), .second, .val (.long a3), .second, .val (.long a4), .second, .val (.long a5), .second, .val (.int (0 : Int32)), .val (.ref b101), .val (.ref b118), .val (.ref b102_120)] [(.int (0 : Int32)), (.int (1 : Int32)), (.ref b101), (.ref b102_120), (.ref b118)])) rfl (by rw [hml]; rfl) (argsL := [(.ref b118), (.ref b102_120), (.ref b101), (.int (1 : Int32)), (.int (0 : Int32))]) (rest := []) (lenOf pd0_1 rfl) rfl (by show 2 * 0 + _ ≤ _; exact Nat.le_of_eq rfl) (hb hby at_160) (fun _ _ => ⟨rfl, eh123, (by decide : 3 + 0 ≤ _), (by decide : 5 + 0 ≤ _)⟩)
    dsimp only [Pt.U, Pt.locs, Pt.cells, Pt.slots] at X124 l124 y124 z124 st124 hQ124
    subst l124 y124 z124
    obtain ⟨rfl, N124q, eh124⟩ := hQ124
    have N124 := Fr.app N123 N124q
    refine Go.by st124 ?_
    show Go _ _ _ _ _ _ _ (T124.setTop (mkF m 163 #[.val (.int s0), .val (.long a1), .second, .val (.long a2), .second, .val (.long a3), .second, .val (.long a4), .second, .val (.long a5), .second, .val (.int (0 : Int32)), .val (.ref b101), .val (.ref b118), .val (.ref b102_120)] [(.int (1 : Int32))]))
    refine Go.by (fun _ kont => XS.ifNo X124.here hx rfl (hb hby at_163) rfl (by decide) kont) ?_
    show Go _ _ _ _ _ _ _ (T124.setTop (mkF m 166 #[.val (.int s0), .val (.long a1), .second, .val (.long a2), .second, .val (.long a3), .second, .val (.long a4), .second, .val (.long a5), .second, .val (.int (0 : Int32)), .val (.ref b101), .val (.ref b118), .val (.ref b102_120)] []))
    refine Go.by (fun _ kont => XS.aload X124.here hx rfl (hb hby at_166) rfl rfl (XS.aload X124.here hx rfl (hb hby at_168) rfl rfl (XS.aload X124.here hx rfl (hb hby at_170) rfl rfl (XS.iconst X124.here hx rfl (hb hby at_172) (XS.iload X124.here hx rfl (hb hby at_173) rfl kont))))) ?_
    show Go _ _ _ _ _ _ _ (T124.setTop (mkF m 175 #[.val (.int s0), .val (.long a1), .second, .val (.long a2), .second, .val (.long a3), .second, .val (.long a4), .second, .val (.long a5), .second, .val (.int (0 : Int32)), .val (.ref b101), .val (.ref b118), .val (.ref b102_120)] [(.int (0 : Int32)), (.int (2 : Int32)), (.ref b101), (.ref b102_120), (.ref b118)]))
    obtain ⟨_, _, ⟨T125, L125, k125, n125⟩, -, X125, ⟨Lc125, hQ125, l125, y125, z125⟩, st125⟩ := Jvm.LawKit.callS X124 hx (y := (⟨"com/example/runs_to_nets/runstonets/core/PlaceTransitionSynthesisNegatedPinLaw", "ok", "([J[J[JII)Z"⟩ : MethodName)) hown (mvT hZ (hw _ (List.mem_of_getElem? (i := 6) rfl))) (mvT hZ (hw _ (List.mem_of_getElem? (i := 7) rfl))) (mvT hZ (hw _ (List.mem_of_getElem? (i := 8) rfl))) (mvT hZ (hw _ (List.mem_of_getElem? (i := 9) rfl))) (by decide) (backOf (W := 0) (rmK02 l Z a0 hw [] b118 b102_120 b101 T120.heap n0 Z121 ) hZ (hw _ (List.mem_of_getElem? (i := 9) rfl)) (hw _ (List.mem_of_getElem? (i := 8) rfl)) (by decide) (by decide)) (g := (mkF m 175 #[.val (.int s0), .val (.long a1), .second, .val (.long a2), .second, .val (.long a3), .second, .val (.long a4), .second, .val (.long a5), .second, .val (.int (0 : Int32)), .val (.ref b101), .val (.ref b118), .val (.ref b102_120)] [(.int (0 : Int32)), (.int (2 : Int32)), (.ref b101), (.ref b102_120), (.ref b118)])) rfl (by rw [hml]; rfl) (argsL := [(.ref b118), (.ref b102_120), (.ref b101), (.int (2 : Int32)), (.int (0 : Int32))]) (rest := []) (lenOf pd0_1 rfl) rfl (by show 2 * 0 + _ ≤ _; exact Nat.le_of_eq rfl) (hb hby at_175) (fun _ _ => ⟨rfl, eh124, (by decide : 3 + 0 ≤ _), (by decide : 5 + 0 ≤ _)⟩)
    dsimp only [Pt.U, Pt.locs, Pt.cells, Pt.slots] at X125 l125 y125 z125 st125 hQ125
    subst l125 y125 z125
    obtain ⟨rfl, N125q, eh125⟩ := hQ125
    have N125 := Fr.app N124 N125q
    refine Go.by st125 ?_
    show Go _ _ _ _ _ _ _ (T125.setTop (mkF m 178 #[.val (.int s0), .val (.long a1), .second, .val (.long a2), .second, .val (.long a3), .second, .val (.long a4), .second, .val (.long a5), .second, .val (.int (0 : Int32)), .val (.ref b101), .val (.ref b118), .val (.ref b102_120)] [(.int (1 : Int32))]))
    refine Go.by (fun _ kont => XS.ifNo X125.here hx rfl (hb hby at_178) rfl (by decide) kont) ?_
    show Go _ _ _ _ _ _ _ (T125.setTop (mkF m 181 #[.val (.int s0), .val (.long a1), .second, .val (.long a2), .second, .val (.long a3), .second, .val (.long a4), .second, .val (.long a5), .second, .val (.int (0 : Int32)), .val (.ref b101), .val (.ref b118), .val (.ref b102_120)] []))
    refine Go.by (fun _ kont => XS.aload X125.here hx rfl (hb hby at_181) rfl rfl (XS.aload X125.here hx rfl (hb hby at_183) rfl rfl (XS.aload X125.here hx rfl (hb hby at_185) rfl rfl (XS.iconst X125.here hx rfl (hb hby at_187) (XS.iload X125.here hx rfl (hb hby at_188) rfl kont))))) ?_
    show Go _ _ _ _ _ _ _ (T125.setTop (mkF m 190 #[.val (.int s0), .val (.long a1), .second, .val (.long a2), .second, .val (.long a3), .second, .val (.long a4), .second, .val (.long a5), .second, .val (.int (0 : Int32)), .val (.ref b101), .val (.ref b118), .val (.ref b102_120)] [(.int (0 : Int32)), (.int (3 : Int32)), (.ref b101), (.ref b102_120), (.ref b118)]))
    obtain ⟨_, _, ⟨T126, L126, k126, n126⟩, -, X126, ⟨Lc126, hQ126, l126, y126, z126⟩, st126⟩ := Jvm.LawKit.callS X125 hx (y := (⟨"com/example/runs_to_nets/runstonets/core/PlaceTransitionSynthesisNegatedPinLaw", "ok", "([J[J[JII)Z"⟩ : MethodName)) hown (mvT hZ (hw _ (List.mem_of_getElem? (i := 6) rfl))) (mvT hZ (hw _ (List.mem_of_getElem? (i := 7) rfl))) (mvT hZ (hw _ (List.mem_of_getElem? (i := 8) rfl))) (mvT hZ (hw _ (List.mem_of_getElem? (i := 9) rfl))) (by decide) (backOf (W := 0) (rmK03 l Z a0 hw [] b118 b102_120 b101 T120.heap n0 Z121 ) hZ (hw _ (List.mem_of_getElem? (i := 9) rfl)) (hw _ (List.mem_of_getElem? (i := 8) rfl)) (by decide) (by decide)) (g := (mkF m 190 #[.val (.int s0), .val (.long a1), .second, .val (.long a2), .second, .val (.long a3), .second, .val (.long a4), .second, .val (.long a5), .second, .val (.int (0 : Int32)), .val (.ref b101), .val (.ref b118), .val (.ref b102_120)] [(.int (0 : Int32)), (.int (3 : Int32)), (.ref b101), (.ref b102_120), (.ref b118)])) rfl (by rw [hml]; rfl) (argsL := [(.ref b118), (.ref b102_120), (.ref b101), (.int (3 : Int32)), (.int (0 : Int32))]) (rest := []) (lenOf pd0_1 rfl) rfl (by show 2 * 0 + _ ≤ _; exact Nat.le_of_eq rfl) (hb hby at_190) (fun _ _ => ⟨rfl, eh125, (by decide : 3 + 0 ≤ _), (by decide : 5 + 0 ≤ _)⟩)
    dsimp only [Pt.U, Pt.locs, Pt.cells, Pt.slots] at X126 l126 y126 z126 st126 hQ126
    subst l126 y126 z126
    obtain ⟨rfl, N126q, eh126⟩ := hQ126
    have N126 := Fr.app N125 N126q
    refine Go.by st126 ?_
    show Go _ _ _ _ _ _ _ (T126.setTop (mkF m 193 #[.val (.int s0), .val (.long a1), .second, .val (.long a2), .second, .val (.long a3), .second, .val (.long a4), .second, .val (.long a5), .second, .val (.int (0 : Int32)), .val (.ref b101), .val (.ref b118), .val (.ref b102_120)] [(.int (1 : Int32))]))
    refine Go.by (fun _ kont => XS.ifNo X126.here hx rfl (hb hby at_193) rfl (by decide) kont) ?_
    show Go _ _ _ _ _ _ _ (T126.setTop (mkF m 196 #[.val (.int s0), .val (.long a1), .second, .val (.long a2), .second, .val (.long a3), .second, .val (.long a4), .second, .val (.long a5), .second, .val (.int (0 : Int32)), .val (.ref b101), .val (.ref b118), .val (.ref b102_120)] []))
    refine Go.by (fun _ kont => XS.aload X126.here hx rfl (hb hby at_196) rfl rfl (XS.aload X126.here hx rfl (hb hby at_198) rfl rfl (XS.aload X126.here hx rfl (hb hby at_200) rfl rfl (XS.iconst X126.here hx rfl (hb hby at_202) (XS.iload X126.here hx rfl (hb hby at_203) rfl kont))))) ?_
    show Go _ _ _ _ _ _ _ (T126.setTop (mkF m 205 #[.val (.int s0), .val (.long a1), .second, .val (.long a2), .second, .val (.long a3), .second, .val (.long a4), .second, .val (.long a5), .second, .val (.int (0 : Int32)), .val (.ref b101), .val (.ref b118), .val (.ref b102_120)] [(.int (0 : Int32)), (.int (4 : Int32)), (.ref b101), (.ref b102_120), (.ref b118)]))
    obtain ⟨_, _, ⟨T127, L127, k127, n127⟩, -, X127, ⟨Lc127, hQ127, l127, y127, z127⟩, st127⟩ := Jvm.LawKit.callS X126 hx (y := (⟨"com/example/runs_to_nets/runstonets/core/PlaceTransitionSynthesisNegatedPinLaw", "ok", "([J[J[JII)Z"⟩ : MethodName)) hown (mvT hZ (hw _ (List.mem_of_getElem? (i := 6) rfl))) (mvT hZ (hw _ (List.mem_of_getElem? (i := 7) rfl))) (mvT hZ (hw _ (List.mem_of_getElem? (i := 8) rfl))) (mvT hZ (hw _ (List.mem_of_getElem? (i := 9) rfl))) (by decide) (backOf (W := 0) (rmK04 l Z a0 hw [] b118 b102_120 b101 T120.heap n0 Z121 ) hZ (hw _ (List.mem_of_getElem? (i := 9) rfl)) (hw _ (List.mem_of_getElem? (i := 8) rfl)) (by decide) (by decide)) (g := (mkF m 205 #[.val (.int s0), .val (.long a1), .second, .val (.long a2), .second, .val (.long a3), .second, .val (.long a4), .second, .val (.long a5), .second, .val (.int (0 : Int32)), .val (.ref b101), .val (.ref b118), .val (.ref b102_120)] [(.int (0 : Int32)), (.int (4 : Int32)), (.ref b101), (.ref b102_120), (.ref b118)])) rfl (by rw [hml]; rfl) (argsL := [(.ref b118), (.ref b102_120), (.ref b101), (.int (4 : Int32)), (.int (0 : Int32))]) (rest := []) (lenOf pd0_1 rfl) rfl (by show 2 * 0 + _ ≤ _; exact Nat.le_of_eq rfl) (hb hby at_205) (fun _ _ => ⟨rfl, eh126, (by decide : 3 + 0 ≤ _), (by decide : 5 + 0 ≤ _)⟩)
    dsimp only [Pt.U, Pt.locs, Pt.cells, Pt.slots] at X127 l127 y127 z127 st127 hQ127
    subst l127 y127 z127
    obtain ⟨rfl, N127q, eh127⟩ := hQ127
    have N127 := Fr.app N126 N127q
    refine Go.by st127 ?_
    show Go _ _ _ _ _ _ _ (T127.setTop (mkF m 208 #[.val (.int s0), .val (.long a1), .second, .val (.long a2), .second, .val (.long a3), .second, .val (.long a4), .second, .val (.long a5), .second, .val (.int (0 : Int32)), .val (.ref b101), .val (.ref b118), .val (.ref b102_120)] [(.int (1 : Int32))]))
    refine Go.by (fun _ kont => XS.ifNo X127.here hx rfl (hb hby at_208) rfl (by decide) kont) ?_
    show Go _ _ _ _ _ _ _ (T127.setTop (mkF m 211 #[.val (.int s0), .val (.long a1), .second, .val (.long a2), .second, .val (.long a3), .second, .val (.long a4), .second, .val (.long a5), .second, .val (.int (0 : Int32)), .val (.ref b101), .val (.ref b118), .val (.ref b102_120)] []))
    refine Go.by (fun _ kont => XS.iconst X127.here hx rfl (hb hby at_211) (XS.goto X127.here hx rfl (pc0 := 212) (pc' := 216) rfl (hb hby at_212) (by decide) (by decide) kont)) ?_
    show Go _ _ _ _ _ _ _ (T127.setTop (mkF m 216 #[.val (.int s0), .val (.long a1), .second, .val (.long a2), .second, .val (.long a3), .second, .val (.long a4), .second, .val (.long a5), .second, .val (.int (0 : Int32)), .val (.ref b101), .val (.ref b118), .val (.ref b102_120)] [(.int (1 : Int32))]))
    refine Go.retN X127 hx (t := .boolean) hret (by simp) hlk (hb hby at_216) ?_ (by decide) (by decide)
    show Q0 Z h0 n0 (some (.int (1 : Int32))) T127.heap _
    rw [eh127]
    exact ⟨rfl, N127⟩
  · show Go _ _ _ _ _ _ _ (s₁.setTop (mkF m 9 #[.val (.int s0), .val (.long a1), .second, .val (.long a2), .second, .val (.long a3), .second, .val (.long a4), .second, .val (.long a5), .second, .val (.int (1 : Int32)), .unset, .unset, .unset] []))
    refine Go.by (fun _ kont => XS.iconst X0.here hx rfl (hb hby at_9) kont) ?_
    show Go _ _ _ _ _ _ _ (s₁.setTop (mkF m 10 #[.val (.int s0), .val (.long a1), .second, .val (.long a2), .second, .val (.long a3), .second, .val (.long a4), .second, .val (.long a5), .second, .val (.int (1 : Int32)), .unset, .unset, .unset] [(.int (5 : Int32))]))
    obtain ⟨T128, h128, k128, X128, e128, X_128, A128, st128⟩ := newP X0 hx hZ (hw _ (List.mem_of_getElem? (i := 1) rfl)) e0 (g := (mkF m 10 #[.val (.int s0), .val (.long a1), .second, .val (.long a2), .second, .val (.long a3), .second, .val (.long a4), .second, .val (.long a5), .second, .val (.int (1 : Int32)), .unset, .unset, .unset] [(.int (5 : Int32))])) rfl (hb hby at_10) rfl (by decide) (cap := 5) (by decide) (by decide) (by decide) (by decide)
    obtain ⟨b128, g128⟩ : ∃ z, z = h0.size := ⟨_, rfl⟩
    rw [← g128] at A128 st128
    have ge_b128 : n0 ≤ b128 := Nat.le_trans Z0 (Nat.le_of_eq g128.symm)
    have sz_b128 : h0.size ≤ b128 := Nat.le_trans (Keep.refl h0 []).1 (Nat.le_of_eq g128.symm)
    have Z129 := Nat.le_trans Z0 X_128.1
    have K129 : Keep h0 h128 [] := (Keep.refl h0 []).ext X_128
    have V128 : Arv Z h128 b128 k128 .long (5 : Int32) [(.long (0 : Int64)), (.long (0 : Int64)), (.long (0 : Int64)), (.long (0 : Int64)), (.long (0 : Int64))] (.long (0 : Int64)) := (Arv.new A128 (by decide)).pad (pad_rep [] (.long (0 : Int64)) 5)
    refine Go.by st128 ?_
    show Go _ _ _ _ _ _ _ (T128.setTop (mkF m 12 #[.val (.int s0), .val (.long a1), .second, .val (.long a2), .second, .val (.long a3), .second, .val (.long a4), .second, .val (.long a5), .second, .val (.int (1 : Int32)), .unset, .unset, .unset] [(.ref b128)]))
    refine Go.by (fun _ kont => XS.dup X128.here hx rfl (hb hby at_12) rfl rfl (XS.iconst X128.here hx rfl (hb hby at_13) (XS.lloadN X128.here hx rfl (hb hby at_14) rfl kont))) ?_
    show Go _ _ _ _ _ _ _ (T128.setTop (mkF m 15 #[.val (.int s0), .val (.long a1), .second, .val (.long a2), .second, .val (.long a3), .second, .val (.long a4), .second, .val (.long a5), .second, .val (.int (1 : Int32)), .unset, .unset, .unset] [(.long a1), (.int (0 : Int32)), (.ref b128), (.ref b128)]))
    obtain ⟨cl_q130, Ar_q130, q1_q130, S_q130, N_q130, H_q130, G_q130⟩ := id V128
    have hin_q130 : ¬ ((0 : Int32) < 0 ∨ cl_q130.slots.size ≤ ((0 : Int32)).toNatClampNeg) := inb_of S_q130 ⟨by decide, by decide⟩
    obtain ⟨T131, h131, X131, e131, W131, st131⟩ := stJ X128 hx hZ e128 Ar_q130 (j := (0 : Int32)) hin_q130 (g := (mkF m 15 #[.val (.int s0), .val (.long a1), .second, .val (.long a2), .second, .val (.long a3), .second, .val (.long a4), .second, .val (.long a5), .second, .val (.int (1 : Int32)), .unset, .unset, .unset] [(.long a1), (.int (0 : Int32)), (.ref b128), (.ref b128)])) rfl rfl (hb hby at_15)
    have V131 : Arv Z h131 b128 k128 .long (5 : Int32) [(.long a1), (.long (0 : Int64)), (.long (0 : Int64)), (.long (0 : Int64)), (.long (0 : Int64))] (.long (0 : Int64)) := Arv.set Ar_q130 q1_q130 S_q130 N_q130 H_q130 G_q130 rfl W131 0 rfl (Nat.le_of_ble_eq_true rfl)
    have Z132 := Nat.le_trans Z129 (Keep.of_wr W131).1
    have K132 : Keep h0 h131 [] := K129.wr W131 (Or.inr sz_b128)
    have N131 := Fr.snoc X131 N0 ge_b128
    refine Go.by st131 ?_
    show Go _ _ _ _ _ _ _ (T131.setTop (mkF m 16 #[.val (.int s0), .val (.long a1), .second, .val (.long a2), .second, .val (.long a3), .second, .val (.long a4), .second, .val (.long a5), .second, .val (.int (1 : Int32)), .unset, .unset, .unset] [(.ref b128)]))
    refine Go.by (fun _ kont => XS.dup X131.here hx rfl (hb hby at_16) rfl rfl (XS.iconst X131.here hx rfl (hb hby at_17) (XS.lloadN X131.here hx rfl (hb hby at_18) rfl kont))) ?_
    show Go _ _ _ _ _ _ _ (T131.setTop (mkF m 19 #[.val (.int s0), .val (.long a1), .second, .val (.long a2), .second, .val (.long a3), .second, .val (.long a4), .second, .val (.long a5), .second, .val (.int (1 : Int32)), .unset, .unset, .unset] [(.long a2), (.int (1 : Int32)), (.ref b128), (.ref b128)]))
    obtain ⟨cl_q133, Ar_q133, q1_q133, S_q133, N_q133, H_q133, G_q133⟩ := id V131
    have hin_q133 : ¬ ((1 : Int32) < 0 ∨ cl_q133.slots.size ≤ ((1 : Int32)).toNatClampNeg) := inb_of S_q133 ⟨by decide, by decide⟩
    obtain ⟨T134, h134, X134, e134, W134, st134⟩ := stJ X131 hx hZ e131 Ar_q133 (j := (1 : Int32)) hin_q133 (g := (mkF m 19 #[.val (.int s0), .val (.long a1), .second, .val (.long a2), .second, .val (.long a3), .second, .val (.long a4), .second, .val (.long a5), .second, .val (.int (1 : Int32)), .unset, .unset, .unset] [(.long a2), (.int (1 : Int32)), (.ref b128), (.ref b128)])) rfl rfl (hb hby at_19)
    have V134 : Arv Z h134 b128 k128 .long (5 : Int32) [(.long a1), (.long a2), (.long (0 : Int64)), (.long (0 : Int64)), (.long (0 : Int64))] (.long (0 : Int64)) := Arv.set Ar_q133 q1_q133 S_q133 N_q133 H_q133 G_q133 rfl W134 1 rfl (Nat.le_of_ble_eq_true rfl)
    have Z135 := Nat.le_trans Z132 (Keep.of_wr W134).1
    have K135 : Keep h0 h134 [] := K132.wr W134 (Or.inr sz_b128)
    have N134 := Fr.snoc X134 N131 ge_b128
    refine Go.by st134 ?_
    show Go _ _ _ _ _ _ _ (T134.setTop (mkF m 20 #[.val (.int s0), .val (.long a1), .second, .val (.long a2), .second, .val (.long a3), .second, .val (.long a4), .second, .val (.long a5), .second, .val (.int (1 : Int32)), .unset, .unset, .unset] [(.ref b128)]))
    refine Go.by (fun _ kont => XS.dup X134.here hx rfl (hb hby at_20) rfl rfl (XS.iconst X134.here hx rfl (hb hby at_21) (XS.lload X134.here hx rfl (hb hby at_22) rfl kont))) ?_
    show Go _ _ _ _ _ _ _ (T134.setTop (mkF m 24 #[.val (.int s0), .val (.long a1), .second, .val (.long a2), .second, .val (.long a3), .second, .val (.long a4), .second, .val (.long a5), .second, .val (.int (1 : Int32)), .unset, .unset, .unset] [(.long a3), (.int (2 : Int32)), (.ref b128), (.ref b128)]))
    obtain ⟨cl_q136, Ar_q136, q1_q136, S_q136, N_q136, H_q136, G_q136⟩ := id V134
    have hin_q136 : ¬ ((2 : Int32) < 0 ∨ cl_q136.slots.size ≤ ((2 : Int32)).toNatClampNeg) := inb_of S_q136 ⟨by decide, by decide⟩
    obtain ⟨T137, h137, X137, e137, W137, st137⟩ := stJ X134 hx hZ e134 Ar_q136 (j := (2 : Int32)) hin_q136 (g := (mkF m 24 #[.val (.int s0), .val (.long a1), .second, .val (.long a2), .second, .val (.long a3), .second, .val (.long a4), .second, .val (.long a5), .second, .val (.int (1 : Int32)), .unset, .unset, .unset] [(.long a3), (.int (2 : Int32)), (.ref b128), (.ref b128)])) rfl rfl (hb hby at_24)
    have V137 : Arv Z h137 b128 k128 .long (5 : Int32) [(.long a1), (.long a2), (.long a3), (.long (0 : Int64)), (.long (0 : Int64))] (.long (0 : Int64)) := Arv.set Ar_q136 q1_q136 S_q136 N_q136 H_q136 G_q136 rfl W137 2 rfl (Nat.le_of_ble_eq_true rfl)
    have Z138 := Nat.le_trans Z135 (Keep.of_wr W137).1
    have K138 : Keep h0 h137 [] := K135.wr W137 (Or.inr sz_b128)
    have N137 := Fr.snoc X137 N134 ge_b128
    refine Go.by st137 ?_
    show Go _ _ _ _ _ _ _ (T137.setTop (mkF m 25 #[.val (.int s0), .val (.long a1), .second, .val (.long a2), .second, .val (.long a3), .second, .val (.long a4), .second, .val (.long a5), .second, .val (.int (1 : Int32)), .unset, .unset, .unset] [(.ref b128)]))
    refine Go.by (fun _ kont => XS.dup X137.here hx rfl (hb hby at_25) rfl rfl (XS.iconst X137.here hx rfl (hb hby at_26) (XS.lload X137.here hx rfl (hb hby at_27) rfl kont))) ?_
    show Go _ _ _ _ _ _ _ (T137.setTop (mkF m 29 #[.val (.int s0), .val (.long a1), .second, .val (.long a2), .second, .val (.long a3), .second, .val (.long a4), .second, .val (.long a5), .second, .val (.int (1 : Int32)), .unset, .unset, .unset] [(.long a4), (.int (3 : Int32)), (.ref b128), (.ref b128)]))
    obtain ⟨cl_q139, Ar_q139, q1_q139, S_q139, N_q139, H_q139, G_q139⟩ := id V137
    have hin_q139 : ¬ ((3 : Int32) < 0 ∨ cl_q139.slots.size ≤ ((3 : Int32)).toNatClampNeg) := inb_of S_q139 ⟨by decide, by decide⟩
    obtain ⟨T140, h140, X140, e140, W140, st140⟩ := stJ X137 hx hZ e137 Ar_q139 (j := (3 : Int32)) hin_q139 (g := (mkF m 29 #[.val (.int s0), .val (.long a1), .second, .val (.long a2), .second, .val (.long a3), .second, .val (.long a4), .second, .val (.long a5), .second, .val (.int (1 : Int32)), .unset, .unset, .unset] [(.long a4), (.int (3 : Int32)), (.ref b128), (.ref b128)])) rfl rfl (hb hby at_29)
    have V140 : Arv Z h140 b128 k128 .long (5 : Int32) [(.long a1), (.long a2), (.long a3), (.long a4), (.long (0 : Int64))] (.long (0 : Int64)) := Arv.set Ar_q139 q1_q139 S_q139 N_q139 H_q139 G_q139 rfl W140 3 rfl (Nat.le_of_ble_eq_true rfl)
    have Z141 := Nat.le_trans Z138 (Keep.of_wr W140).1
    have K141 : Keep h0 h140 [] := K138.wr W140 (Or.inr sz_b128)
    have N140 := Fr.snoc X140 N137 ge_b128
    refine Go.by st140 ?_
    show Go _ _ _ _ _ _ _ (T140.setTop (mkF m 30 #[.val (.int s0), .val (.long a1), .second, .val (.long a2), .second, .val (.long a3), .second, .val (.long a4), .second, .val (.long a5), .second, .val (.int (1 : Int32)), .unset, .unset, .unset] [(.ref b128)]))
    refine Go.by (fun _ kont => XS.dup X140.here hx rfl (hb hby at_30) rfl rfl (XS.iconst X140.here hx rfl (hb hby at_31) (XS.lload X140.here hx rfl (hb hby at_32) rfl kont))) ?_
    show Go _ _ _ _ _ _ _ (T140.setTop (mkF m 34 #[.val (.int s0), .val (.long a1), .second, .val (.long a2), .second, .val (.long a3), .second, .val (.long a4), .second, .val (.long a5), .second, .val (.int (1 : Int32)), .unset, .unset, .unset] [(.long a5), (.int (4 : Int32)), (.ref b128), (.ref b128)]))
    obtain ⟨cl_q142, Ar_q142, q1_q142, S_q142, N_q142, H_q142, G_q142⟩ := id V140
    have hin_q142 : ¬ ((4 : Int32) < 0 ∨ cl_q142.slots.size ≤ ((4 : Int32)).toNatClampNeg) := inb_of S_q142 ⟨by decide, by decide⟩
    obtain ⟨T143, h143, X143, e143, W143, st143⟩ := stJ X140 hx hZ e140 Ar_q142 (j := (4 : Int32)) hin_q142 (g := (mkF m 34 #[.val (.int s0), .val (.long a1), .second, .val (.long a2), .second, .val (.long a3), .second, .val (.long a4), .second, .val (.long a5), .second, .val (.int (1 : Int32)), .unset, .unset, .unset] [(.long a5), (.int (4 : Int32)), (.ref b128), (.ref b128)])) rfl rfl (hb hby at_34)
    have V143 : Arv Z h143 b128 k128 .long (5 : Int32) [(.long a1), (.long a2), (.long a3), (.long a4), (.long a5)] (.long (0 : Int64)) := Arv.set Ar_q142 q1_q142 S_q142 N_q142 H_q142 G_q142 rfl W143 4 rfl (Nat.le_of_ble_eq_true rfl)
    have Z144 := Nat.le_trans Z141 (Keep.of_wr W143).1
    have K144 : Keep h0 h143 [] := K141.wr W143 (Or.inr sz_b128)
    have N143 := Fr.snoc X143 N140 ge_b128
    refine Go.by st143 ?_
    show Go _ _ _ _ _ _ _ (T143.setTop (mkF m 35 #[.val (.int s0), .val (.long a1), .second, .val (.long a2), .second, .val (.long a3), .second, .val (.long a4), .second, .val (.long a5), .second, .val (.int (1 : Int32)), .unset, .unset, .unset] [(.ref b128)]))
    refine Go.by (fun _ kont => XS.astore X143.here hx rfl (hb hby at_35) rfl rfl (l' := #[.val (.int s0), .val (.long a1), .second, .val (.long a2), .second, .val (.long a3), .second, .val (.long a4), .second, .val (.long a5), .second, .val (.int (1 : Int32)), .val (.ref b128), .unset, .unset]) rfl (XS.iload X143.here hx rfl (hb hby at_37) rfl kont)) ?_
    show Go _ _ _ _ _ _ _ (T143.setTop (mkF m 39 #[.val (.int s0), .val (.long a1), .second, .val (.long a2), .second, .val (.long a3), .second, .val (.long a4), .second, .val (.long a5), .second, .val (.int (1 : Int32)), .val (.ref b128), .unset, .unset] [(.int (1 : Int32))]))
    obtain ⟨T145, h145, k145, X145, e145, X_145, A145, st145⟩ := newP X143 hx hZ (hw _ (List.mem_of_getElem? (i := 1) rfl)) e143 (g := (mkF m 39 #[.val (.int s0), .val (.long a1), .second, .val (.long a2), .second, .val (.long a3), .second, .val (.long a4), .second, .val (.long a5), .second, .val (.int (1 : Int32)), .val (.ref b128), .unset, .unset] [(.int (1 : Int32))])) rfl (hb hby at_39) rfl (by decide) (cap := 1) (by decide) (by decide) (by decide) (by decide)
    obtain ⟨b145, g145⟩ : ∃ z, z = h143.size := ⟨_, rfl⟩
    rw [← g145] at A145 st145
    have ne_b128_b145 : b128 ≠ b145 := Nat.ne_of_lt (Nat.lt_of_lt_of_le V143.lt (Nat.le_of_eq g145.symm))
    have ge_b145 : n0 ≤ b145 := Nat.le_trans Z144 (Nat.le_of_eq g145.symm)
    have sz_b145 : h0.size ≤ b145 := Nat.le_trans K144.1 (Nat.le_of_eq g145.symm)
    have V146_b128 := V143.ext X_145
    have Z146 := Nat.le_trans Z144 X_145.1
    have K146 : Keep h0 h145 [] := K144.ext X_145
    have V145 : Arv Z h145 b145 k145 .long (1 : Int32) [(.long (0 : Int64))] (.long (0 : Int64)) := (Arv.new A145 (by decide)).pad (pad_rep [] (.long (0 : Int64)) 1)
    refine Go.by st145 ?_
    show Go _ _ _ _ _ _ _ (T145.setTop (mkF m 41 #[.val (.int s0), .val (.long a1), .second, .val (.long a2), .second, .val (.long a3), .second, .val (.long a4), .second, .val (.long a5), .second, .val (.int (1 : Int32)), .val (.ref b128), .unset, .unset] [(.ref b145)]))
    refine Go.by (fun _ kont => XS.astore X145.here hx rfl (hb hby at_41) rfl rfl (l' := #[.val (.int s0), .val (.long a1), .second, .val (.long a2), .second, .val (.long a3), .second, .val (.long a4), .second, .val (.long a5), .second, .val (.int (1 : Int32)), .val (.ref b128), .val (.ref b145), .unset]) rfl (XS.iload X145.here hx rfl (hb hby at_43) rfl kont)) ?_
    show Go _ _ _ _ _ _ _ (T145.setTop (mkF m 45 #[.val (.int s0), .val (.long a1), .second, .val (.long a2), .second, .val (.long a3), .second, .val (.long a4), .second, .val (.long a5), .second, .val (.int (1 : Int32)), .val (.ref b128), .val (.ref b145), .unset] [(.int (1 : Int32))]))
    refine Go.by (fun _ kont => XS.ifNo X145.here hx rfl (hb hby at_45) rfl (by decide) kont) ?_
    show Go _ _ _ _ _ _ _ (T145.setTop (mkF m 48 #[.val (.int s0), .val (.long a1), .second, .val (.long a2), .second, .val (.long a3), .second, .val (.long a4), .second, .val (.long a5), .second, .val (.int (1 : Int32)), .val (.ref b128), .val (.ref b145), .unset] []))
    refine Go.by (fun _ kont => XS.aload X145.here hx rfl (hb hby at_48) rfl rfl (XS.iconst X145.here hx rfl (hb hby at_50) (XS.lloadN X145.here hx rfl (hb hby at_51) rfl kont))) ?_
    show Go _ _ _ _ _ _ _ (T145.setTop (mkF m 52 #[.val (.int s0), .val (.long a1), .second, .val (.long a2), .second, .val (.long a3), .second, .val (.long a4), .second, .val (.long a5), .second, .val (.int (1 : Int32)), .val (.ref b128), .val (.ref b145), .unset] [(.long a1), (.int (0 : Int32)), (.ref b145)]))
    obtain ⟨cl_q147, Ar_q147, q1_q147, S_q147, N_q147, H_q147, G_q147⟩ := id V145
    have hin_q147 : ¬ ((0 : Int32) < 0 ∨ cl_q147.slots.size ≤ ((0 : Int32)).toNatClampNeg) := inb_of S_q147 ⟨by decide, by decide⟩
    obtain ⟨T148, h148, X148, e148, W148, st148⟩ := stJ X145 hx hZ e145 Ar_q147 (j := (0 : Int32)) hin_q147 (g := (mkF m 52 #[.val (.int s0), .val (.long a1), .second, .val (.long a2), .second, .val (.long a3), .second, .val (.long a4), .second, .val (.long a5), .second, .val (.int (1 : Int32)), .val (.ref b128), .val (.ref b145), .unset] [(.long a1), (.int (0 : Int32)), (.ref b145)])) rfl rfl (hb hby at_52)
    have V148 : Arv Z h148 b145 k145 .long (1 : Int32) [(.long a1)] (.long (0 : Int64)) := Arv.set Ar_q147 q1_q147 S_q147 N_q147 H_q147 G_q147 rfl W148 0 rfl (Nat.le_of_ble_eq_true rfl)
    have V149_b128 := V146_b128.other W148 ne_b128_b145
    have Z149 := Nat.le_trans Z146 (Keep.of_wr W148).1
    have K149 : Keep h0 h148 [] := K146.wr W148 (Or.inr sz_b145)
    have N148 := Fr.snoc X148 N143 ge_b145
    refine Go.by st148 ?_
    show Go _ _ _ _ _ _ _ (T148.setTop (mkF m 53 #[.val (.int s0), .val (.long a1), .second, .val (.long a2), .second, .val (.long a3), .second, .val (.long a4), .second, .val (.long a5), .second, .val (.int (1 : Int32)), .val (.ref b128), .val (.ref b145), .unset] []))
    refine Go.by (fun _ kont => XS.iload X148.here hx rfl (hb hby at_53) rfl (XS.iconst X148.here hx rfl (hb hby at_55) kont)) ?_
    show Go _ _ _ _ _ _ _ (T148.setTop (mkF m 56 #[.val (.int s0), .val (.long a1), .second, .val (.long a2), .second, .val (.long a3), .second, .val (.long a4), .second, .val (.long a5), .second, .val (.int (1 : Int32)), .val (.ref b128), .val (.ref b145), .unset] [(.int (1 : Int32)), (.int (1 : Int32))]))
    refine Go.by (fun _ kont => XS.icmpYes X148.here hx rfl (pc0 := 56) (pc' := 64) rfl (hb hby at_56) rfl (by decide) (by decide) (by decide) kont) ?_
    show Go _ _ _ _ _ _ _ (T148.setTop (mkF m 64 #[.val (.int s0), .val (.long a1), .second, .val (.long a2), .second, .val (.long a3), .second, .val (.long a4), .second, .val (.long a5), .second, .val (.int (1 : Int32)), .val (.ref b128), .val (.ref b145), .unset] []))
    refine Go.by (fun _ kont => XS.iload X148.here hx rfl (hb hby at_64) rfl (XS.iconst X148.here hx rfl (hb hby at_66) kont)) ?_
    show Go _ _ _ _ _ _ _ (T148.setTop (mkF m 67 #[.val (.int s0), .val (.long a1), .second, .val (.long a2), .second, .val (.long a3), .second, .val (.long a4), .second, .val (.long a5), .second, .val (.int (1 : Int32)), .val (.ref b128), .val (.ref b145), .unset] [(.int (2 : Int32)), (.int (1 : Int32))]))
    refine Go.by (fun _ kont => XS.icmpYes X148.here hx rfl (pc0 := 67) (pc' := 76) rfl (hb hby at_67) rfl (by decide) (by decide) (by decide) kont) ?_
    show Go _ _ _ _ _ _ _ (T148.setTop (mkF m 76 #[.val (.int s0), .val (.long a1), .second, .val (.long a2), .second, .val (.long a3), .second, .val (.long a4), .second, .val (.long a5), .second, .val (.int (1 : Int32)), .val (.ref b128), .val (.ref b145), .unset] []))
    refine Go.by (fun _ kont => XS.iload X148.here hx rfl (hb hby at_76) rfl (XS.iconst X148.here hx rfl (hb hby at_78) kont)) ?_
    show Go _ _ _ _ _ _ _ (T148.setTop (mkF m 79 #[.val (.int s0), .val (.long a1), .second, .val (.long a2), .second, .val (.long a3), .second, .val (.long a4), .second, .val (.long a5), .second, .val (.int (1 : Int32)), .val (.ref b128), .val (.ref b145), .unset] [(.int (3 : Int32)), (.int (1 : Int32))]))
    refine Go.by (fun _ kont => XS.icmpYes X148.here hx rfl (pc0 := 79) (pc' := 88) rfl (hb hby at_79) rfl (by decide) (by decide) (by decide) kont) ?_
    show Go _ _ _ _ _ _ _ (T148.setTop (mkF m 88 #[.val (.int s0), .val (.long a1), .second, .val (.long a2), .second, .val (.long a3), .second, .val (.long a4), .second, .val (.long a5), .second, .val (.int (1 : Int32)), .val (.ref b128), .val (.ref b145), .unset] []))
    refine Go.by (fun _ kont => XS.iload X148.here hx rfl (hb hby at_88) rfl (XS.iconst X148.here hx rfl (hb hby at_90) kont)) ?_
    show Go _ _ _ _ _ _ _ (T148.setTop (mkF m 91 #[.val (.int s0), .val (.long a1), .second, .val (.long a2), .second, .val (.long a3), .second, .val (.long a4), .second, .val (.long a5), .second, .val (.int (1 : Int32)), .val (.ref b128), .val (.ref b145), .unset] [(.int (4 : Int32)), (.int (1 : Int32))]))
    refine Go.by (fun _ kont => XS.icmpYes X148.here hx rfl (pc0 := 91) (pc' := 100) rfl (hb hby at_91) rfl (by decide) (by decide) (by decide) kont) ?_
    show Go _ _ _ _ _ _ _ (T148.setTop (mkF m 100 #[.val (.int s0), .val (.long a1), .second, .val (.long a2), .second, .val (.long a3), .second, .val (.long a4), .second, .val (.long a5), .second, .val (.int (1 : Int32)), .val (.ref b128), .val (.ref b145), .unset] []))
    refine Go.by (fun _ kont => XS.aload X148.here hx rfl (hb hby at_100) rfl rfl kont) ?_
    show Go _ _ _ _ _ _ _ (T148.setTop (mkF m 102 #[.val (.int s0), .val (.long a1), .second, .val (.long a2), .second, .val (.long a3), .second, .val (.long a4), .second, .val (.long a5), .second, .val (.int (1 : Int32)), .val (.ref b128), .val (.ref b145), .unset] [(.ref b145)]))
    obtain ⟨_, _, ⟨T150, L150, k150, n150⟩, -, X150, ⟨Lc150, hQ150, l150, y150, z150⟩, st150⟩ := Jvm.LawKit.callS X148 hx (y := (⟨"com/example/runs_to_nets/runstonets/core/PlaceTransitionSynthesis", "negated", "([J)[J"⟩ : MethodName)) hown (mvT hZ (hw _ (List.mem_of_getElem? (i := 2) rfl))) (mvT hZ (hw _ (List.mem_of_getElem? (i := 3) rfl))) (mvT hZ (hw _ (List.mem_of_getElem? (i := 4) rfl))) (mvT hZ (hw _ (List.mem_of_getElem? (i := 5) rfl))) (by decide) (backOf (W := 0) (rmN1 l Z a0 hw [] b145 k145 a1 h148 n0 Z149 V148) hZ (hw _ (List.mem_of_getElem? (i := 5) rfl)) (hw _ (List.mem_of_getElem? (i := 4) rfl)) (by decide) (by decide)) (g := (mkF m 102 #[.val (.int s0), .val (.long a1), .second, .val (.long a2), .second, .val (.long a3), .second, .val (.long a4), .second, .val (.long a5), .second, .val (.int (1 : Int32)), .val (.ref b128), .val (.ref b145), .unset] [(.ref b145)])) rfl (by rw [hml]; rfl) (argsL := [(.ref b145)]) (rest := []) (lenOf pd0_0 rfl) rfl (by show 2 * 0 + _ ≤ _; exact Nat.le_of_eq rfl) (hb hby at_102) (fun _ _ => ⟨rfl, e148, (by decide : 2 + 1 ≤ _), (by decide : 6 + 1 ≤ _)⟩)
    dsimp only [Pt.U, Pt.locs, Pt.cells, Pt.slots] at X150 l150 y150 z150 st150 hQ150
    subst l150 y150 z150
    obtain ⟨b102_150, k102_150, rfl, N150q, K150, ge_b102_150, szc_b102_150, g150_0⟩ := hQ150
    have ne_b128_b102_150 : b128 ≠ b102_150 := Nat.ne_of_lt (Nat.lt_of_lt_of_le V149_b128.lt szc_b102_150)
    have ne_b145_b102_150 : b145 ≠ b102_150 := Nat.ne_of_lt (Nat.lt_of_lt_of_le V148.lt szc_b102_150)
    have sz_b102_150 : h0.size ≤ b102_150 := Nat.le_trans K149.1 szc_b102_150
    have V151_b128 := V149_b128.keep K150 nin0
    have V151_b145 := V148.keep K150 nin0
    have Z151 := Nat.le_trans Z149 K150.1
    have K151 : Keep h0 T150.heap [] := Keep.trans K149 K150 all0
    have N150 := Fr.app N148 N150q
    refine Go.by st150 ?_
    show Go _ _ _ _ _ _ _ (T150.setTop (mkF m 105 #[.val (.int s0), .val (.long a1), .second, .val (.long a2), .second, .val (.long a3), .second, .val (.long a4), .second, .val (.long a5), .second, .val (.int (1 : Int32)), .val (.ref b128), .val (.ref b145), .unset] [(.ref b102_150)]))
    refine Go.by (fun _ kont => XS.astore X150.here hx rfl (hb hby at_105) rfl rfl (l' := #[.val (.int s0), .val (.long a1), .second, .val (.long a2), .second, .val (.long a3), .second, .val (.long a4), .second, .val (.long a5), .second, .val (.int (1 : Int32)), .val (.ref b128), .val (.ref b145), .val (.ref b102_150)]) rfl (XS.aload X150.here hx rfl (hb hby at_107) rfl rfl (XS.ifnullNo X150.here hx rfl (hb hby at_109) rfl (XS.aload X150.here hx rfl (hb hby at_112) rfl rfl kont)))) ?_
    show Go _ _ _ _ _ _ _ (T150.setTop (mkF m 114 #[.val (.int s0), .val (.long a1), .second, .val (.long a2), .second, .val (.long a3), .second, .val (.long a4), .second, .val (.long a5), .second, .val (.int (1 : Int32)), .val (.ref b128), .val (.ref b145), .val (.ref b102_150)] [(.ref b102_150)]))
    obtain ⟨cl_q152, Ar_q152, q1_q152, S_q152, N_q152, H_q152, G_q152⟩ := id g150_0
    refine Go.by (X150.arraylength hx (by first | exact Ar_q152.1 | (rw [rfl]; exact Ar_q152.1)) (State.isArrayOf_alike hZ.alike Ar_q152.2.1) (g := (mkF m 114 #[.val (.int s0), .val (.long a1), .second, .val (.long a2), .second, .val (.long a3), .second, .val (.long a4), .second, .val (.long a5), .second, .val (.int (1 : Int32)), .val (.ref b128), .val (.ref b145), .val (.ref b102_150)] [(.ref b102_150)])) rfl rfl (hb hby at_114)) ?_
    rw [len_of S_q152 N_q152]
    show Go _ _ _ _ _ _ _ (T150.setTop (mkF m 115 #[.val (.int s0), .val (.long a1), .second, .val (.long a2), .second, .val (.long a3), .second, .val (.long a4), .second, .val (.long a5), .second, .val (.int (1 : Int32)), .val (.ref b128), .val (.ref b145), .val (.ref b102_150)] [(.int (1 : Int32))]))
    refine Go.by (fun _ kont => XS.iload X150.here hx rfl (hb hby at_115) rfl kont) ?_
    show Go _ _ _ _ _ _ _ (T150.setTop (mkF m 117 #[.val (.int s0), .val (.long a1), .second, .val (.long a2), .second, .val (.long a3), .second, .val (.long a4), .second, .val (.long a5), .second, .val (.int (1 : Int32)), .val (.ref b128), .val (.ref b145), .val (.ref b102_150)] [(.int (1 : Int32)), (.int (1 : Int32))]))
    refine Go.by (fun _ kont => XS.icmpYes X150.here hx rfl (pc0 := 117) (pc' := 122) rfl (hb hby at_117) rfl (by decide) (by decide) (by decide) kont) ?_
    show Go _ _ _ _ _ _ _ (T150.setTop (mkF m 122 #[.val (.int s0), .val (.long a1), .second, .val (.long a2), .second, .val (.long a3), .second, .val (.long a4), .second, .val (.long a5), .second, .val (.int (1 : Int32)), .val (.ref b128), .val (.ref b145), .val (.ref b102_150)] []))
    refine Go.by (fun _ kont => XS.iload X150.here hx rfl (hb hby at_122) rfl kont) ?_
    show Go _ _ _ _ _ _ _ (T150.setTop (mkF m 124 #[.val (.int s0), .val (.long a1), .second, .val (.long a2), .second, .val (.long a3), .second, .val (.long a4), .second, .val (.long a5), .second, .val (.int (1 : Int32)), .val (.ref b128), .val (.ref b145), .val (.ref b102_150)] [(.int (1 : Int32))]))
    refine Go.by (fun _ kont => XS.ifNo X150.here hx rfl (hb hby at_124) rfl (by decide) kont) ?_
    show Go _ _ _ _ _ _ _ (T150.setTop (mkF m 127 #[.val (.int s0), .val (.long a1), .second, .val (.long a2), .second, .val (.long a3), .second, .val (.long a4), .second, .val (.long a5), .second, .val (.int (1 : Int32)), .val (.ref b128), .val (.ref b145), .val (.ref b102_150)] []))
    refine Go.by (fun _ kont => XS.aload X150.here hx rfl (hb hby at_127) rfl rfl (XS.aload X150.here hx rfl (hb hby at_129) rfl rfl kont)) ?_
    show Go _ _ _ _ _ _ _ (T150.setTop (mkF m 131 #[.val (.int s0), .val (.long a1), .second, .val (.long a2), .second, .val (.long a3), .second, .val (.long a4), .second, .val (.long a5), .second, .val (.int (1 : Int32)), .val (.ref b128), .val (.ref b145), .val (.ref b102_150)] [(.ref b145), (.ref b102_150)]))
    refine Go.by (fun _ kont => Jvm.RoadKit.acmp (g := (mkF m 131 #[.val (.int s0), .val (.long a1), .second, .val (.long a2), .second, .val (.long a3), .second, .val (.long a4), .second, .val (.long a5), .second, .val (.int (1 : Int32)), .val (.ref b128), .val (.ref b145), .val (.ref b102_150)] [(.ref b145), (.ref b102_150)])) X150 hx rfl rfl rfl (pc0 := 131) (pc' := 136) (same := false) rfl (hb hby at_131) rfl (decide_eq_false fun q => (Ne.symm ne_b145_b102_150) (Value.ref.inj q)) (by decide) (by decide) kont) ?_
    show Go _ _ _ _ _ _ _ (T150.setTop (mkF m 136 #[.val (.int s0), .val (.long a1), .second, .val (.long a2), .second, .val (.long a3), .second, .val (.long a4), .second, .val (.long a5), .second, .val (.int (1 : Int32)), .val (.ref b128), .val (.ref b145), .val (.ref b102_150)] []))
    refine Go.by (fun _ kont => XS.aload X150.here hx rfl (hb hby at_136) rfl rfl (XS.aload X150.here hx rfl (hb hby at_138) rfl rfl (XS.aload X150.here hx rfl (hb hby at_140) rfl rfl (XS.iconst X150.here hx rfl (hb hby at_142) (XS.iload X150.here hx rfl (hb hby at_143) rfl kont))))) ?_
    show Go _ _ _ _ _ _ _ (T150.setTop (mkF m 145 #[.val (.int s0), .val (.long a1), .second, .val (.long a2), .second, .val (.long a3), .second, .val (.long a4), .second, .val (.long a5), .second, .val (.int (1 : Int32)), .val (.ref b128), .val (.ref b145), .val (.ref b102_150)] [(.int (1 : Int32)), (.int (0 : Int32)), (.ref b128), (.ref b102_150), (.ref b145)]))
    obtain ⟨_, _, ⟨T153, L153, k153, n153⟩, -, X153, ⟨Lc153, hQ153, l153, y153, z153⟩, st153⟩ := Jvm.LawKit.callS X150 hx (y := (⟨"com/example/runs_to_nets/runstonets/core/PlaceTransitionSynthesisNegatedPinLaw", "ok", "([J[J[JII)Z"⟩ : MethodName)) hown (mvT hZ (hw _ (List.mem_of_getElem? (i := 6) rfl))) (mvT hZ (hw _ (List.mem_of_getElem? (i := 7) rfl))) (mvT hZ (hw _ (List.mem_of_getElem? (i := 8) rfl))) (mvT hZ (hw _ (List.mem_of_getElem? (i := 9) rfl))) (by decide) (backOf (W := 0) (rmK10 l Z a0 hw [] b145 b102_150 b128 k145 a1 k102_150 k128 a2 a3 a4 a5 T150.heap n0 Z151 V151_b145 g150_0 V151_b128) hZ (hw _ (List.mem_of_getElem? (i := 9) rfl)) (hw _ (List.mem_of_getElem? (i := 8) rfl)) (by decide) (by decide)) (g := (mkF m 145 #[.val (.int s0), .val (.long a1), .second, .val (.long a2), .second, .val (.long a3), .second, .val (.long a4), .second, .val (.long a5), .second, .val (.int (1 : Int32)), .val (.ref b128), .val (.ref b145), .val (.ref b102_150)] [(.int (1 : Int32)), (.int (0 : Int32)), (.ref b128), (.ref b102_150), (.ref b145)])) rfl (by rw [hml]; rfl) (argsL := [(.ref b145), (.ref b102_150), (.ref b128), (.int (0 : Int32)), (.int (1 : Int32))]) (rest := []) (lenOf pd0_1 rfl) rfl (by show 2 * 0 + _ ≤ _; exact Nat.le_of_eq rfl) (hb hby at_145) (fun _ _ => ⟨rfl, rfl, (by decide : 3 + 0 ≤ _), (by decide : 7 + 0 ≤ _)⟩)
    dsimp only [Pt.U, Pt.locs, Pt.cells, Pt.slots] at X153 l153 y153 z153 st153 hQ153
    subst l153 y153 z153
    obtain ⟨rfl, N153q, eh153⟩ := hQ153
    have N153 := Fr.app N150 N153q
    refine Go.by st153 ?_
    show Go _ _ _ _ _ _ _ (T153.setTop (mkF m 148 #[.val (.int s0), .val (.long a1), .second, .val (.long a2), .second, .val (.long a3), .second, .val (.long a4), .second, .val (.long a5), .second, .val (.int (1 : Int32)), .val (.ref b128), .val (.ref b145), .val (.ref b102_150)] [(.int (1 : Int32))]))
    refine Go.by (fun _ kont => XS.ifNo X153.here hx rfl (hb hby at_148) rfl (by decide) kont) ?_
    show Go _ _ _ _ _ _ _ (T153.setTop (mkF m 151 #[.val (.int s0), .val (.long a1), .second, .val (.long a2), .second, .val (.long a3), .second, .val (.long a4), .second, .val (.long a5), .second, .val (.int (1 : Int32)), .val (.ref b128), .val (.ref b145), .val (.ref b102_150)] []))
    refine Go.by (fun _ kont => XS.aload X153.here hx rfl (hb hby at_151) rfl rfl (XS.aload X153.here hx rfl (hb hby at_153) rfl rfl (XS.aload X153.here hx rfl (hb hby at_155) rfl rfl (XS.iconst X153.here hx rfl (hb hby at_157) (XS.iload X153.here hx rfl (hb hby at_158) rfl kont))))) ?_
    show Go _ _ _ _ _ _ _ (T153.setTop (mkF m 160 #[.val (.int s0), .val (.long a1), .second, .val (.long a2), .second, .val (.long a3), .second, .val (.long a4), .second, .val (.long a5), .second, .val (.int (1 : Int32)), .val (.ref b128), .val (.ref b145), .val (.ref b102_150)] [(.int (1 : Int32)), (.int (1 : Int32)), (.ref b128), (.ref b102_150), (.ref b145)]))
    obtain ⟨_, _, ⟨T154, L154, k154, n154⟩, -, X154, ⟨Lc154, hQ154, l154, y154, z154⟩, st154⟩ := Jvm.LawKit.callS X153 hx (y := (⟨"com/example/runs_to_nets/runstonets/core/PlaceTransitionSynthesisNegatedPinLaw", "ok", "([J[J[JII)Z"⟩ : MethodName)) hown (mvT hZ (hw _ (List.mem_of_getElem? (i := 6) rfl))) (mvT hZ (hw _ (List.mem_of_getElem? (i := 7) rfl))) (mvT hZ (hw _ (List.mem_of_getElem? (i := 8) rfl))) (mvT hZ (hw _ (List.mem_of_getElem? (i := 9) rfl))) (by decide) (backOf (W := 0) (rmK11 l Z a0 hw [] b145 b102_150 b128 T150.heap n0 Z151 ) hZ (hw _ (List.mem_of_getElem? (i := 9) rfl)) (hw _ (List.mem_of_getElem? (i := 8) rfl)) (by decide) (by decide)) (g := (mkF m 160 #[.val (.int s0), .val (.long a1), .second, .val (.long a2), .second, .val (.long a3), .second, .val (.long a4), .second, .val (.long a5), .second, .val (.int (1 : Int32)), .val (.ref b128), .val (.ref b145), .val (.ref b102_150)] [(.int (1 : Int32)), (.int (1 : Int32)), (.ref b128), (.ref b102_150), (.ref b145)])) rfl (by rw [hml]; rfl) (argsL := [(.ref b145), (.ref b102_150), (.ref b128), (.int (1 : Int32)), (.int (1 : Int32))]) (rest := []) (lenOf pd0_1 rfl) rfl (by show 2 * 0 + _ ≤ _; exact Nat.le_of_eq rfl) (hb hby at_160) (fun _ _ => ⟨rfl, eh153, (by decide : 3 + 0 ≤ _), (by decide : 7 + 0 ≤ _)⟩)
    dsimp only [Pt.U, Pt.locs, Pt.cells, Pt.slots] at X154 l154 y154 z154 st154 hQ154
    subst l154 y154 z154
    obtain ⟨rfl, N154q, eh154⟩ := hQ154
    have N154 := Fr.app N153 N154q
    refine Go.by st154 ?_
    show Go _ _ _ _ _ _ _ (T154.setTop (mkF m 163 #[.val (.int s0), .val (.long a1), .second, .val (.long a2), .second, .val (.long a3), .second, .val (.long a4), .second, .val (.long a5), .second, .val (.int (1 : Int32)), .val (.ref b128), .val (.ref b145), .val (.ref b102_150)] [(.int (1 : Int32))]))
    refine Go.by (fun _ kont => XS.ifNo X154.here hx rfl (hb hby at_163) rfl (by decide) kont) ?_
    show Go _ _ _ _ _ _ _ (T154.setTop (mkF m 166 #[.val (.int s0), .val (.long a1), .second, .val (.long a2), .second, .val (.long a3), .second, .val (.long a4), .second, .val (.long a5), .second, .val (.int (1 : Int32)), .val (.ref b128), .val (.ref b145), .val (.ref b102_150)] []))
    refine Go.by (fun _ kont => XS.aload X154.here hx rfl (hb hby at_166) rfl rfl (XS.aload X154.here hx rfl (hb hby at_168) rfl rfl (XS.aload X154.here hx rfl (hb hby at_170) rfl rfl (XS.iconst X154.here hx rfl (hb hby at_172) (XS.iload X154.here hx rfl (hb hby at_173) rfl kont))))) ?_
    show Go _ _ _ _ _ _ _ (T154.setTop (mkF m 175 #[.val (.int s0), .val (.long a1), .second, .val (.long a2), .second, .val (.long a3), .second, .val (.long a4), .second, .val (.long a5), .second, .val (.int (1 : Int32)), .val (.ref b128), .val (.ref b145), .val (.ref b102_150)] [(.int (1 : Int32)), (.int (2 : Int32)), (.ref b128), (.ref b102_150), (.ref b145)]))
    obtain ⟨_, _, ⟨T155, L155, k155, n155⟩, -, X155, ⟨Lc155, hQ155, l155, y155, z155⟩, st155⟩ := Jvm.LawKit.callS X154 hx (y := (⟨"com/example/runs_to_nets/runstonets/core/PlaceTransitionSynthesisNegatedPinLaw", "ok", "([J[J[JII)Z"⟩ : MethodName)) hown (mvT hZ (hw _ (List.mem_of_getElem? (i := 6) rfl))) (mvT hZ (hw _ (List.mem_of_getElem? (i := 7) rfl))) (mvT hZ (hw _ (List.mem_of_getElem? (i := 8) rfl))) (mvT hZ (hw _ (List.mem_of_getElem? (i := 9) rfl))) (by decide) (backOf (W := 0) (rmK12 l Z a0 hw [] b145 b102_150 b128 T150.heap n0 Z151 ) hZ (hw _ (List.mem_of_getElem? (i := 9) rfl)) (hw _ (List.mem_of_getElem? (i := 8) rfl)) (by decide) (by decide)) (g := (mkF m 175 #[.val (.int s0), .val (.long a1), .second, .val (.long a2), .second, .val (.long a3), .second, .val (.long a4), .second, .val (.long a5), .second, .val (.int (1 : Int32)), .val (.ref b128), .val (.ref b145), .val (.ref b102_150)] [(.int (1 : Int32)), (.int (2 : Int32)), (.ref b128), (.ref b102_150), (.ref b145)])) rfl (by rw [hml]; rfl) (argsL := [(.ref b145), (.ref b102_150), (.ref b128), (.int (2 : Int32)), (.int (1 : Int32))]) (rest := []) (lenOf pd0_1 rfl) rfl (by show 2 * 0 + _ ≤ _; exact Nat.le_of_eq rfl) (hb hby at_175) (fun _ _ => ⟨rfl, eh154, (by decide : 3 + 0 ≤ _), (by decide : 7 + 0 ≤ _)⟩)
    dsimp only [Pt.U, Pt.locs, Pt.cells, Pt.slots] at X155 l155 y155 z155 st155 hQ155
    subst l155 y155 z155
    obtain ⟨rfl, N155q, eh155⟩ := hQ155
    have N155 := Fr.app N154 N155q
    refine Go.by st155 ?_
    show Go _ _ _ _ _ _ _ (T155.setTop (mkF m 178 #[.val (.int s0), .val (.long a1), .second, .val (.long a2), .second, .val (.long a3), .second, .val (.long a4), .second, .val (.long a5), .second, .val (.int (1 : Int32)), .val (.ref b128), .val (.ref b145), .val (.ref b102_150)] [(.int (1 : Int32))]))
    refine Go.by (fun _ kont => XS.ifNo X155.here hx rfl (hb hby at_178) rfl (by decide) kont) ?_
    show Go _ _ _ _ _ _ _ (T155.setTop (mkF m 181 #[.val (.int s0), .val (.long a1), .second, .val (.long a2), .second, .val (.long a3), .second, .val (.long a4), .second, .val (.long a5), .second, .val (.int (1 : Int32)), .val (.ref b128), .val (.ref b145), .val (.ref b102_150)] []))
    refine Go.by (fun _ kont => XS.aload X155.here hx rfl (hb hby at_181) rfl rfl (XS.aload X155.here hx rfl (hb hby at_183) rfl rfl (XS.aload X155.here hx rfl (hb hby at_185) rfl rfl (XS.iconst X155.here hx rfl (hb hby at_187) (XS.iload X155.here hx rfl (hb hby at_188) rfl kont))))) ?_
    show Go _ _ _ _ _ _ _ (T155.setTop (mkF m 190 #[.val (.int s0), .val (.long a1), .second, .val (.long a2), .second, .val (.long a3), .second, .val (.long a4), .second, .val (.long a5), .second, .val (.int (1 : Int32)), .val (.ref b128), .val (.ref b145), .val (.ref b102_150)] [(.int (1 : Int32)), (.int (3 : Int32)), (.ref b128), (.ref b102_150), (.ref b145)]))
    obtain ⟨_, _, ⟨T156, L156, k156, n156⟩, -, X156, ⟨Lc156, hQ156, l156, y156, z156⟩, st156⟩ := Jvm.LawKit.callS X155 hx (y := (⟨"com/example/runs_to_nets/runstonets/core/PlaceTransitionSynthesisNegatedPinLaw", "ok", "([J[J[JII)Z"⟩ : MethodName)) hown (mvT hZ (hw _ (List.mem_of_getElem? (i := 6) rfl))) (mvT hZ (hw _ (List.mem_of_getElem? (i := 7) rfl))) (mvT hZ (hw _ (List.mem_of_getElem? (i := 8) rfl))) (mvT hZ (hw _ (List.mem_of_getElem? (i := 9) rfl))) (by decide) (backOf (W := 0) (rmK13 l Z a0 hw [] b145 b102_150 b128 T150.heap n0 Z151 ) hZ (hw _ (List.mem_of_getElem? (i := 9) rfl)) (hw _ (List.mem_of_getElem? (i := 8) rfl)) (by decide) (by decide)) (g := (mkF m 190 #[.val (.int s0), .val (.long a1), .second, .val (.long a2), .second, .val (.long a3), .second, .val (.long a4), .second, .val (.long a5), .second, .val (.int (1 : Int32)), .val (.ref b128), .val (.ref b145), .val (.ref b102_150)] [(.int (1 : Int32)), (.int (3 : Int32)), (.ref b128), (.ref b102_150), (.ref b145)])) rfl (by rw [hml]; rfl) (argsL := [(.ref b145), (.ref b102_150), (.ref b128), (.int (3 : Int32)), (.int (1 : Int32))]) (rest := []) (lenOf pd0_1 rfl) rfl (by show 2 * 0 + _ ≤ _; exact Nat.le_of_eq rfl) (hb hby at_190) (fun _ _ => ⟨rfl, eh155, (by decide : 3 + 0 ≤ _), (by decide : 7 + 0 ≤ _)⟩)
    dsimp only [Pt.U, Pt.locs, Pt.cells, Pt.slots] at X156 l156 y156 z156 st156 hQ156
    subst l156 y156 z156
    obtain ⟨rfl, N156q, eh156⟩ := hQ156
    have N156 := Fr.app N155 N156q
    refine Go.by st156 ?_
    show Go _ _ _ _ _ _ _ (T156.setTop (mkF m 193 #[.val (.int s0), .val (.long a1), .second, .val (.long a2), .second, .val (.long a3), .second, .val (.long a4), .second, .val (.long a5), .second, .val (.int (1 : Int32)), .val (.ref b128), .val (.ref b145), .val (.ref b102_150)] [(.int (1 : Int32))]))
    refine Go.by (fun _ kont => XS.ifNo X156.here hx rfl (hb hby at_193) rfl (by decide) kont) ?_
    show Go _ _ _ _ _ _ _ (T156.setTop (mkF m 196 #[.val (.int s0), .val (.long a1), .second, .val (.long a2), .second, .val (.long a3), .second, .val (.long a4), .second, .val (.long a5), .second, .val (.int (1 : Int32)), .val (.ref b128), .val (.ref b145), .val (.ref b102_150)] []))
    refine Go.by (fun _ kont => XS.aload X156.here hx rfl (hb hby at_196) rfl rfl (XS.aload X156.here hx rfl (hb hby at_198) rfl rfl (XS.aload X156.here hx rfl (hb hby at_200) rfl rfl (XS.iconst X156.here hx rfl (hb hby at_202) (XS.iload X156.here hx rfl (hb hby at_203) rfl kont))))) ?_
    show Go _ _ _ _ _ _ _ (T156.setTop (mkF m 205 #[.val (.int s0), .val (.long a1), .second, .val (.long a2), .second, .val (.long a3), .second, .val (.long a4), .second, .val (.long a5), .second, .val (.int (1 : Int32)), .val (.ref b128), .val (.ref b145), .val (.ref b102_150)] [(.int (1 : Int32)), (.int (4 : Int32)), (.ref b128), (.ref b102_150), (.ref b145)]))
    obtain ⟨_, _, ⟨T157, L157, k157, n157⟩, -, X157, ⟨Lc157, hQ157, l157, y157, z157⟩, st157⟩ := Jvm.LawKit.callS X156 hx (y := (⟨"com/example/runs_to_nets/runstonets/core/PlaceTransitionSynthesisNegatedPinLaw", "ok", "([J[J[JII)Z"⟩ : MethodName)) hown (mvT hZ (hw _ (List.mem_of_getElem? (i := 6) rfl))) (mvT hZ (hw _ (List.mem_of_getElem? (i := 7) rfl))) (mvT hZ (hw _ (List.mem_of_getElem? (i := 8) rfl))) (mvT hZ (hw _ (List.mem_of_getElem? (i := 9) rfl))) (by decide) (backOf (W := 0) (rmK14 l Z a0 hw [] b145 b102_150 b128 T150.heap n0 Z151 ) hZ (hw _ (List.mem_of_getElem? (i := 9) rfl)) (hw _ (List.mem_of_getElem? (i := 8) rfl)) (by decide) (by decide)) (g := (mkF m 205 #[.val (.int s0), .val (.long a1), .second, .val (.long a2), .second, .val (.long a3), .second, .val (.long a4), .second, .val (.long a5), .second, .val (.int (1 : Int32)), .val (.ref b128), .val (.ref b145), .val (.ref b102_150)] [(.int (1 : Int32)), (.int (4 : Int32)), (.ref b128), (.ref b102_150), (.ref b145)])) rfl (by rw [hml]; rfl) (argsL := [(.ref b145), (.ref b102_150), (.ref b128), (.int (4 : Int32)), (.int (1 : Int32))]) (rest := []) (lenOf pd0_1 rfl) rfl (by show 2 * 0 + _ ≤ _; exact Nat.le_of_eq rfl) (hb hby at_205) (fun _ _ => ⟨rfl, eh156, (by decide : 3 + 0 ≤ _), (by decide : 7 + 0 ≤ _)⟩)
    dsimp only [Pt.U, Pt.locs, Pt.cells, Pt.slots] at X157 l157 y157 z157 st157 hQ157
    subst l157 y157 z157
    obtain ⟨rfl, N157q, eh157⟩ := hQ157
    have N157 := Fr.app N156 N157q
    refine Go.by st157 ?_
    show Go _ _ _ _ _ _ _ (T157.setTop (mkF m 208 #[.val (.int s0), .val (.long a1), .second, .val (.long a2), .second, .val (.long a3), .second, .val (.long a4), .second, .val (.long a5), .second, .val (.int (1 : Int32)), .val (.ref b128), .val (.ref b145), .val (.ref b102_150)] [(.int (1 : Int32))]))
    refine Go.by (fun _ kont => XS.ifNo X157.here hx rfl (hb hby at_208) rfl (by decide) kont) ?_
    show Go _ _ _ _ _ _ _ (T157.setTop (mkF m 211 #[.val (.int s0), .val (.long a1), .second, .val (.long a2), .second, .val (.long a3), .second, .val (.long a4), .second, .val (.long a5), .second, .val (.int (1 : Int32)), .val (.ref b128), .val (.ref b145), .val (.ref b102_150)] []))
    refine Go.by (fun _ kont => XS.iconst X157.here hx rfl (hb hby at_211) (XS.goto X157.here hx rfl (pc0 := 212) (pc' := 216) rfl (hb hby at_212) (by decide) (by decide) kont)) ?_
    show Go _ _ _ _ _ _ _ (T157.setTop (mkF m 216 #[.val (.int s0), .val (.long a1), .second, .val (.long a2), .second, .val (.long a3), .second, .val (.long a4), .second, .val (.long a5), .second, .val (.int (1 : Int32)), .val (.ref b128), .val (.ref b145), .val (.ref b102_150)] [(.int (1 : Int32))]))
    refine Go.retN X157 hx (t := .boolean) hret (by simp) hlk (hb hby at_216) ?_ (by decide) (by decide)
    show Q0 Z h0 n0 (some (.int (1 : Int32))) T157.heap _
    rw [eh157]
    exact ⟨rfl, N157⟩
  · show Go _ _ _ _ _ _ _ (s₁.setTop (mkF m 9 #[.val (.int s0), .val (.long a1), .second, .val (.long a2), .second, .val (.long a3), .second, .val (.long a4), .second, .val (.long a5), .second, .val (.int (2 : Int32)), .unset, .unset, .unset] []))
    refine Go.by (fun _ kont => XS.iconst X0.here hx rfl (hb hby at_9) kont) ?_
    show Go _ _ _ _ _ _ _ (s₁.setTop (mkF m 10 #[.val (.int s0), .val (.long a1), .second, .val (.long a2), .second, .val (.long a3), .second, .val (.long a4), .second, .val (.long a5), .second, .val (.int (2 : Int32)), .unset, .unset, .unset] [(.int (5 : Int32))]))
    obtain ⟨T158, h158, k158, X158, e158, X_158, A158, st158⟩ := newP X0 hx hZ (hw _ (List.mem_of_getElem? (i := 1) rfl)) e0 (g := (mkF m 10 #[.val (.int s0), .val (.long a1), .second, .val (.long a2), .second, .val (.long a3), .second, .val (.long a4), .second, .val (.long a5), .second, .val (.int (2 : Int32)), .unset, .unset, .unset] [(.int (5 : Int32))])) rfl (hb hby at_10) rfl (by decide) (cap := 5) (by decide) (by decide) (by decide) (by decide)
    obtain ⟨b158, g158⟩ : ∃ z, z = h0.size := ⟨_, rfl⟩
    rw [← g158] at A158 st158
    have ge_b158 : n0 ≤ b158 := Nat.le_trans Z0 (Nat.le_of_eq g158.symm)
    have sz_b158 : h0.size ≤ b158 := Nat.le_trans (Keep.refl h0 []).1 (Nat.le_of_eq g158.symm)
    have Z159 := Nat.le_trans Z0 X_158.1
    have K159 : Keep h0 h158 [] := (Keep.refl h0 []).ext X_158
    have V158 : Arv Z h158 b158 k158 .long (5 : Int32) [(.long (0 : Int64)), (.long (0 : Int64)), (.long (0 : Int64)), (.long (0 : Int64)), (.long (0 : Int64))] (.long (0 : Int64)) := (Arv.new A158 (by decide)).pad (pad_rep [] (.long (0 : Int64)) 5)
    refine Go.by st158 ?_
    show Go _ _ _ _ _ _ _ (T158.setTop (mkF m 12 #[.val (.int s0), .val (.long a1), .second, .val (.long a2), .second, .val (.long a3), .second, .val (.long a4), .second, .val (.long a5), .second, .val (.int (2 : Int32)), .unset, .unset, .unset] [(.ref b158)]))
    refine Go.by (fun _ kont => XS.dup X158.here hx rfl (hb hby at_12) rfl rfl (XS.iconst X158.here hx rfl (hb hby at_13) (XS.lloadN X158.here hx rfl (hb hby at_14) rfl kont))) ?_
    show Go _ _ _ _ _ _ _ (T158.setTop (mkF m 15 #[.val (.int s0), .val (.long a1), .second, .val (.long a2), .second, .val (.long a3), .second, .val (.long a4), .second, .val (.long a5), .second, .val (.int (2 : Int32)), .unset, .unset, .unset] [(.long a1), (.int (0 : Int32)), (.ref b158), (.ref b158)]))
    obtain ⟨cl_q160, Ar_q160, q1_q160, S_q160, N_q160, H_q160, G_q160⟩ := id V158
    have hin_q160 : ¬ ((0 : Int32) < 0 ∨ cl_q160.slots.size ≤ ((0 : Int32)).toNatClampNeg) := inb_of S_q160 ⟨by decide, by decide⟩
    obtain ⟨T161, h161, X161, e161, W161, st161⟩ := stJ X158 hx hZ e158 Ar_q160 (j := (0 : Int32)) hin_q160 (g := (mkF m 15 #[.val (.int s0), .val (.long a1), .second, .val (.long a2), .second, .val (.long a3), .second, .val (.long a4), .second, .val (.long a5), .second, .val (.int (2 : Int32)), .unset, .unset, .unset] [(.long a1), (.int (0 : Int32)), (.ref b158), (.ref b158)])) rfl rfl (hb hby at_15)
    have V161 : Arv Z h161 b158 k158 .long (5 : Int32) [(.long a1), (.long (0 : Int64)), (.long (0 : Int64)), (.long (0 : Int64)), (.long (0 : Int64))] (.long (0 : Int64)) := Arv.set Ar_q160 q1_q160 S_q160 N_q160 H_q160 G_q160 rfl W161 0 rfl (Nat.le_of_ble_eq_true rfl)
    have Z162 := Nat.le_trans Z159 (Keep.of_wr W161).1
    have K162 : Keep h0 h161 [] := K159.wr W161 (Or.inr sz_b158)
    have N161 := Fr.snoc X161 N0 ge_b158
    refine Go.by st161 ?_
    show Go _ _ _ _ _ _ _ (T161.setTop (mkF m 16 #[.val (.int s0), .val (.long a1), .second, .val (.long a2), .second, .val (.long a3), .second, .val (.long a4), .second, .val (.long a5), .second, .val (.int (2 : Int32)), .unset, .unset, .unset] [(.ref b158)]))
    refine Go.by (fun _ kont => XS.dup X161.here hx rfl (hb hby at_16) rfl rfl (XS.iconst X161.here hx rfl (hb hby at_17) (XS.lloadN X161.here hx rfl (hb hby at_18) rfl kont))) ?_
    show Go _ _ _ _ _ _ _ (T161.setTop (mkF m 19 #[.val (.int s0), .val (.long a1), .second, .val (.long a2), .second, .val (.long a3), .second, .val (.long a4), .second, .val (.long a5), .second, .val (.int (2 : Int32)), .unset, .unset, .unset] [(.long a2), (.int (1 : Int32)), (.ref b158), (.ref b158)]))
    obtain ⟨cl_q163, Ar_q163, q1_q163, S_q163, N_q163, H_q163, G_q163⟩ := id V161
    have hin_q163 : ¬ ((1 : Int32) < 0 ∨ cl_q163.slots.size ≤ ((1 : Int32)).toNatClampNeg) := inb_of S_q163 ⟨by decide, by decide⟩
    obtain ⟨T164, h164, X164, e164, W164, st164⟩ := stJ X161 hx hZ e161 Ar_q163 (j := (1 : Int32)) hin_q163 (g := (mkF m 19 #[.val (.int s0), .val (.long a1), .second, .val (.long a2), .second, .val (.long a3), .second, .val (.long a4), .second, .val (.long a5), .second, .val (.int (2 : Int32)), .unset, .unset, .unset] [(.long a2), (.int (1 : Int32)), (.ref b158), (.ref b158)])) rfl rfl (hb hby at_19)
    have V164 : Arv Z h164 b158 k158 .long (5 : Int32) [(.long a1), (.long a2), (.long (0 : Int64)), (.long (0 : Int64)), (.long (0 : Int64))] (.long (0 : Int64)) := Arv.set Ar_q163 q1_q163 S_q163 N_q163 H_q163 G_q163 rfl W164 1 rfl (Nat.le_of_ble_eq_true rfl)
    have Z165 := Nat.le_trans Z162 (Keep.of_wr W164).1
    have K165 : Keep h0 h164 [] := K162.wr W164 (Or.inr sz_b158)
    have N164 := Fr.snoc X164 N161 ge_b158
    refine Go.by st164 ?_
    show Go _ _ _ _ _ _ _ (T164.setTop (mkF m 20 #[.val (.int s0), .val (.long a1), .second, .val (.long a2), .second, .val (.long a3), .second, .val (.long a4), .second, .val (.long a5), .second, .val (.int (2 : Int32)), .unset, .unset, .unset] [(.ref b158)]))
    refine Go.by (fun _ kont => XS.dup X164.here hx rfl (hb hby at_20) rfl rfl (XS.iconst X164.here hx rfl (hb hby at_21) (XS.lload X164.here hx rfl (hb hby at_22) rfl kont))) ?_
    show Go _ _ _ _ _ _ _ (T164.setTop (mkF m 24 #[.val (.int s0), .val (.long a1), .second, .val (.long a2), .second, .val (.long a3), .second, .val (.long a4), .second, .val (.long a5), .second, .val (.int (2 : Int32)), .unset, .unset, .unset] [(.long a3), (.int (2 : Int32)), (.ref b158), (.ref b158)]))
    obtain ⟨cl_q166, Ar_q166, q1_q166, S_q166, N_q166, H_q166, G_q166⟩ := id V164
    have hin_q166 : ¬ ((2 : Int32) < 0 ∨ cl_q166.slots.size ≤ ((2 : Int32)).toNatClampNeg) := inb_of S_q166 ⟨by decide, by decide⟩
    obtain ⟨T167, h167, X167, e167, W167, st167⟩ := stJ X164 hx hZ e164 Ar_q166 (j := (2 : Int32)) hin_q166 (g := (mkF m 24 #[.val (.int s0), .val (.long a1), .second, .val (.long a2), .second, .val (.long a3), .second, .val (.long a4), .second, .val (.long a5), .second, .val (.int (2 : Int32)), .unset, .unset, .unset] [(.long a3), (.int (2 : Int32)), (.ref b158), (.ref b158)])) rfl rfl (hb hby at_24)
    have V167 : Arv Z h167 b158 k158 .long (5 : Int32) [(.long a1), (.long a2), (.long a3), (.long (0 : Int64)), (.long (0 : Int64))] (.long (0 : Int64)) := Arv.set Ar_q166 q1_q166 S_q166 N_q166 H_q166 G_q166 rfl W167 2 rfl (Nat.le_of_ble_eq_true rfl)
    have Z168 := Nat.le_trans Z165 (Keep.of_wr W167).1
    have K168 : Keep h0 h167 [] := K165.wr W167 (Or.inr sz_b158)
    have N167 := Fr.snoc X167 N164 ge_b158
    refine Go.by st167 ?_
    show Go _ _ _ _ _ _ _ (T167.setTop (mkF m 25 #[.val (.int s0), .val (.long a1), .second, .val (.long a2), .second, .val (.long a3), .second, .val (.long a4), .second, .val (.long a5), .second, .val (.int (2 : Int32)), .unset, .unset, .unset] [(.ref b158)]))
    refine Go.by (fun _ kont => XS.dup X167.here hx rfl (hb hby at_25) rfl rfl (XS.iconst X167.here hx rfl (hb hby at_26) (XS.lload X167.here hx rfl (hb hby at_27) rfl kont))) ?_
    show Go _ _ _ _ _ _ _ (T167.setTop (mkF m 29 #[.val (.int s0), .val (.long a1), .second, .val (.long a2), .second, .val (.long a3), .second, .val (.long a4), .second, .val (.long a5), .second, .val (.int (2 : Int32)), .unset, .unset, .unset] [(.long a4), (.int (3 : Int32)), (.ref b158), (.ref b158)]))
    obtain ⟨cl_q169, Ar_q169, q1_q169, S_q169, N_q169, H_q169, G_q169⟩ := id V167
    have hin_q169 : ¬ ((3 : Int32) < 0 ∨ cl_q169.slots.size ≤ ((3 : Int32)).toNatClampNeg) := inb_of S_q169 ⟨by decide, by decide⟩
    obtain ⟨T170, h170, X170, e170, W170, st170⟩ := stJ X167 hx hZ e167 Ar_q169 (j := (3 : Int32)) hin_q169 (g := (mkF m 29 #[.val (.int s0), .val (.long a1), .second, .val (.long a2), .second, .val (.long a3), .second, .val (.long a4), .second, .val (.long a5), .second, .val (.int (2 : Int32)), .unset, .unset, .unset] [(.long a4), (.int (3 : Int32)), (.ref b158), (.ref b158)])) rfl rfl (hb hby at_29)
    have V170 : Arv Z h170 b158 k158 .long (5 : Int32) [(.long a1), (.long a2), (.long a3), (.long a4), (.long (0 : Int64))] (.long (0 : Int64)) := Arv.set Ar_q169 q1_q169 S_q169 N_q169 H_q169 G_q169 rfl W170 3 rfl (Nat.le_of_ble_eq_true rfl)
    have Z171 := Nat.le_trans Z168 (Keep.of_wr W170).1
    have K171 : Keep h0 h170 [] := K168.wr W170 (Or.inr sz_b158)
    have N170 := Fr.snoc X170 N167 ge_b158
    refine Go.by st170 ?_
    show Go _ _ _ _ _ _ _ (T170.setTop (mkF m 30 #[.val (.int s0), .val (.long a1), .second, .val (.long a2), .second, .val (.long a3), .second, .val (.long a4), .second, .val (.long a5), .second, .val (.int (2 : Int32)), .unset, .unset, .unset] [(.ref b158)]))
    refine Go.by (fun _ kont => XS.dup X170.here hx rfl (hb hby at_30) rfl rfl (XS.iconst X170.here hx rfl (hb hby at_31) (XS.lload X170.here hx rfl (hb hby at_32) rfl kont))) ?_
    show Go _ _ _ _ _ _ _ (T170.setTop (mkF m 34 #[.val (.int s0), .val (.long a1), .second, .val (.long a2), .second, .val (.long a3), .second, .val (.long a4), .second, .val (.long a5), .second, .val (.int (2 : Int32)), .unset, .unset, .unset] [(.long a5), (.int (4 : Int32)), (.ref b158), (.ref b158)]))
    obtain ⟨cl_q172, Ar_q172, q1_q172, S_q172, N_q172, H_q172, G_q172⟩ := id V170
    have hin_q172 : ¬ ((4 : Int32) < 0 ∨ cl_q172.slots.size ≤ ((4 : Int32)).toNatClampNeg) := inb_of S_q172 ⟨by decide, by decide⟩
    obtain ⟨T173, h173, X173, e173, W173, st173⟩ := stJ X170 hx hZ e170 Ar_q172 (j := (4 : Int32)) hin_q172 (g := (mkF m 34 #[.val (.int s0), .val (.long a1), .second, .val (.long a2), .second, .val (.long a3), .second, .val (.long a4), .second, .val (.long a5), .second, .val (.int (2 : Int32)), .unset, .unset, .unset] [(.long a5), (.int (4 : Int32)), (.ref b158), (.ref b158)])) rfl rfl (hb hby at_34)
    have V173 : Arv Z h173 b158 k158 .long (5 : Int32) [(.long a1), (.long a2), (.long a3), (.long a4), (.long a5)] (.long (0 : Int64)) := Arv.set Ar_q172 q1_q172 S_q172 N_q172 H_q172 G_q172 rfl W173 4 rfl (Nat.le_of_ble_eq_true rfl)
    have Z174 := Nat.le_trans Z171 (Keep.of_wr W173).1
    have K174 : Keep h0 h173 [] := K171.wr W173 (Or.inr sz_b158)
    have N173 := Fr.snoc X173 N170 ge_b158
    refine Go.by st173 ?_
    show Go _ _ _ _ _ _ _ (T173.setTop (mkF m 35 #[.val (.int s0), .val (.long a1), .second, .val (.long a2), .second, .val (.long a3), .second, .val (.long a4), .second, .val (.long a5), .second, .val (.int (2 : Int32)), .unset, .unset, .unset] [(.ref b158)]))
    refine Go.by (fun _ kont => XS.astore X173.here hx rfl (hb hby at_35) rfl rfl (l' := #[.val (.int s0), .val (.long a1), .second, .val (.long a2), .second, .val (.long a3), .second, .val (.long a4), .second, .val (.long a5), .second, .val (.int (2 : Int32)), .val (.ref b158), .unset, .unset]) rfl (XS.iload X173.here hx rfl (hb hby at_37) rfl kont)) ?_
    show Go _ _ _ _ _ _ _ (T173.setTop (mkF m 39 #[.val (.int s0), .val (.long a1), .second, .val (.long a2), .second, .val (.long a3), .second, .val (.long a4), .second, .val (.long a5), .second, .val (.int (2 : Int32)), .val (.ref b158), .unset, .unset] [(.int (2 : Int32))]))
    obtain ⟨T175, h175, k175, X175, e175, X_175, A175, st175⟩ := newP X173 hx hZ (hw _ (List.mem_of_getElem? (i := 1) rfl)) e173 (g := (mkF m 39 #[.val (.int s0), .val (.long a1), .second, .val (.long a2), .second, .val (.long a3), .second, .val (.long a4), .second, .val (.long a5), .second, .val (.int (2 : Int32)), .val (.ref b158), .unset, .unset] [(.int (2 : Int32))])) rfl (hb hby at_39) rfl (by decide) (cap := 2) (by decide) (by decide) (by decide) (by decide)
    obtain ⟨b175, g175⟩ : ∃ z, z = h173.size := ⟨_, rfl⟩
    rw [← g175] at A175 st175
    have ne_b158_b175 : b158 ≠ b175 := Nat.ne_of_lt (Nat.lt_of_lt_of_le V173.lt (Nat.le_of_eq g175.symm))
    have ge_b175 : n0 ≤ b175 := Nat.le_trans Z174 (Nat.le_of_eq g175.symm)
    have sz_b175 : h0.size ≤ b175 := Nat.le_trans K174.1 (Nat.le_of_eq g175.symm)
    have V176_b158 := V173.ext X_175
    have Z176 := Nat.le_trans Z174 X_175.1
    have K176 : Keep h0 h175 [] := K174.ext X_175
    have V175 : Arv Z h175 b175 k175 .long (2 : Int32) [(.long (0 : Int64)), (.long (0 : Int64))] (.long (0 : Int64)) := (Arv.new A175 (by decide)).pad (pad_rep [] (.long (0 : Int64)) 2)
    refine Go.by st175 ?_
    show Go _ _ _ _ _ _ _ (T175.setTop (mkF m 41 #[.val (.int s0), .val (.long a1), .second, .val (.long a2), .second, .val (.long a3), .second, .val (.long a4), .second, .val (.long a5), .second, .val (.int (2 : Int32)), .val (.ref b158), .unset, .unset] [(.ref b175)]))
    refine Go.by (fun _ kont => XS.astore X175.here hx rfl (hb hby at_41) rfl rfl (l' := #[.val (.int s0), .val (.long a1), .second, .val (.long a2), .second, .val (.long a3), .second, .val (.long a4), .second, .val (.long a5), .second, .val (.int (2 : Int32)), .val (.ref b158), .val (.ref b175), .unset]) rfl (XS.iload X175.here hx rfl (hb hby at_43) rfl kont)) ?_
    show Go _ _ _ _ _ _ _ (T175.setTop (mkF m 45 #[.val (.int s0), .val (.long a1), .second, .val (.long a2), .second, .val (.long a3), .second, .val (.long a4), .second, .val (.long a5), .second, .val (.int (2 : Int32)), .val (.ref b158), .val (.ref b175), .unset] [(.int (2 : Int32))]))
    refine Go.by (fun _ kont => XS.ifNo X175.here hx rfl (hb hby at_45) rfl (by decide) kont) ?_
    show Go _ _ _ _ _ _ _ (T175.setTop (mkF m 48 #[.val (.int s0), .val (.long a1), .second, .val (.long a2), .second, .val (.long a3), .second, .val (.long a4), .second, .val (.long a5), .second, .val (.int (2 : Int32)), .val (.ref b158), .val (.ref b175), .unset] []))
    refine Go.by (fun _ kont => XS.aload X175.here hx rfl (hb hby at_48) rfl rfl (XS.iconst X175.here hx rfl (hb hby at_50) (XS.lloadN X175.here hx rfl (hb hby at_51) rfl kont))) ?_
    show Go _ _ _ _ _ _ _ (T175.setTop (mkF m 52 #[.val (.int s0), .val (.long a1), .second, .val (.long a2), .second, .val (.long a3), .second, .val (.long a4), .second, .val (.long a5), .second, .val (.int (2 : Int32)), .val (.ref b158), .val (.ref b175), .unset] [(.long a1), (.int (0 : Int32)), (.ref b175)]))
    obtain ⟨cl_q177, Ar_q177, q1_q177, S_q177, N_q177, H_q177, G_q177⟩ := id V175
    have hin_q177 : ¬ ((0 : Int32) < 0 ∨ cl_q177.slots.size ≤ ((0 : Int32)).toNatClampNeg) := inb_of S_q177 ⟨by decide, by decide⟩
    obtain ⟨T178, h178, X178, e178, W178, st178⟩ := stJ X175 hx hZ e175 Ar_q177 (j := (0 : Int32)) hin_q177 (g := (mkF m 52 #[.val (.int s0), .val (.long a1), .second, .val (.long a2), .second, .val (.long a3), .second, .val (.long a4), .second, .val (.long a5), .second, .val (.int (2 : Int32)), .val (.ref b158), .val (.ref b175), .unset] [(.long a1), (.int (0 : Int32)), (.ref b175)])) rfl rfl (hb hby at_52)
    have V178 : Arv Z h178 b175 k175 .long (2 : Int32) [(.long a1), (.long (0 : Int64))] (.long (0 : Int64)) := Arv.set Ar_q177 q1_q177 S_q177 N_q177 H_q177 G_q177 rfl W178 0 rfl (Nat.le_of_ble_eq_true rfl)
    have V179_b158 := V176_b158.other W178 ne_b158_b175
    have Z179 := Nat.le_trans Z176 (Keep.of_wr W178).1
    have K179 : Keep h0 h178 [] := K176.wr W178 (Or.inr sz_b175)
    have N178 := Fr.snoc X178 N173 ge_b175
    refine Go.by st178 ?_
    show Go _ _ _ _ _ _ _ (T178.setTop (mkF m 53 #[.val (.int s0), .val (.long a1), .second, .val (.long a2), .second, .val (.long a3), .second, .val (.long a4), .second, .val (.long a5), .second, .val (.int (2 : Int32)), .val (.ref b158), .val (.ref b175), .unset] []))
    refine Go.by (fun _ kont => XS.iload X178.here hx rfl (hb hby at_53) rfl (XS.iconst X178.here hx rfl (hb hby at_55) kont)) ?_
    show Go _ _ _ _ _ _ _ (T178.setTop (mkF m 56 #[.val (.int s0), .val (.long a1), .second, .val (.long a2), .second, .val (.long a3), .second, .val (.long a4), .second, .val (.long a5), .second, .val (.int (2 : Int32)), .val (.ref b158), .val (.ref b175), .unset] [(.int (1 : Int32)), (.int (2 : Int32))]))
    refine Go.by (fun _ kont => XS.icmpNo X178.here hx rfl (hb hby at_56) rfl (by decide) kont) ?_
    show Go _ _ _ _ _ _ _ (T178.setTop (mkF m 59 #[.val (.int s0), .val (.long a1), .second, .val (.long a2), .second, .val (.long a3), .second, .val (.long a4), .second, .val (.long a5), .second, .val (.int (2 : Int32)), .val (.ref b158), .val (.ref b175), .unset] []))
    refine Go.by (fun _ kont => XS.aload X178.here hx rfl (hb hby at_59) rfl rfl (XS.iconst X178.here hx rfl (hb hby at_61) (XS.lloadN X178.here hx rfl (hb hby at_62) rfl kont))) ?_
    show Go _ _ _ _ _ _ _ (T178.setTop (mkF m 63 #[.val (.int s0), .val (.long a1), .second, .val (.long a2), .second, .val (.long a3), .second, .val (.long a4), .second, .val (.long a5), .second, .val (.int (2 : Int32)), .val (.ref b158), .val (.ref b175), .unset] [(.long a2), (.int (1 : Int32)), (.ref b175)]))
    obtain ⟨cl_q180, Ar_q180, q1_q180, S_q180, N_q180, H_q180, G_q180⟩ := id V178
    have hin_q180 : ¬ ((1 : Int32) < 0 ∨ cl_q180.slots.size ≤ ((1 : Int32)).toNatClampNeg) := inb_of S_q180 ⟨by decide, by decide⟩
    obtain ⟨T181, h181, X181, e181, W181, st181⟩ := stJ X178 hx hZ e178 Ar_q180 (j := (1 : Int32)) hin_q180 (g := (mkF m 63 #[.val (.int s0), .val (.long a1), .second, .val (.long a2), .second, .val (.long a3), .second, .val (.long a4), .second, .val (.long a5), .second, .val (.int (2 : Int32)), .val (.ref b158), .val (.ref b175), .unset] [(.long a2), (.int (1 : Int32)), (.ref b175)])) rfl rfl (hb hby at_63)
    have V181 : Arv Z h181 b175 k175 .long (2 : Int32) [(.long a1), (.long a2)] (.long (0 : Int64)) := Arv.set Ar_q180 q1_q180 S_q180 N_q180 H_q180 G_q180 rfl W181 1 rfl (Nat.le_of_ble_eq_true rfl)
    have V182_b158 := V179_b158.other W181 ne_b158_b175
    have Z182 := Nat.le_trans Z179 (Keep.of_wr W181).1
    have K182 : Keep h0 h181 [] := K179.wr W181 (Or.inr sz_b175)
    have N181 := Fr.snoc X181 N178 ge_b175
    refine Go.by st181 ?_
    show Go _ _ _ _ _ _ _ (T181.setTop (mkF m 64 #[.val (.int s0), .val (.long a1), .second, .val (.long a2), .second, .val (.long a3), .second, .val (.long a4), .second, .val (.long a5), .second, .val (.int (2 : Int32)), .val (.ref b158), .val (.ref b175), .unset] []))
    refine Go.by (fun _ kont => XS.iload X181.here hx rfl (hb hby at_64) rfl (XS.iconst X181.here hx rfl (hb hby at_66) kont)) ?_
    show Go _ _ _ _ _ _ _ (T181.setTop (mkF m 67 #[.val (.int s0), .val (.long a1), .second, .val (.long a2), .second, .val (.long a3), .second, .val (.long a4), .second, .val (.long a5), .second, .val (.int (2 : Int32)), .val (.ref b158), .val (.ref b175), .unset] [(.int (2 : Int32)), (.int (2 : Int32))]))
    refine Go.by (fun _ kont => XS.icmpYes X181.here hx rfl (pc0 := 67) (pc' := 76) rfl (hb hby at_67) rfl (by decide) (by decide) (by decide) kont) ?_
    show Go _ _ _ _ _ _ _ (T181.setTop (mkF m 76 #[.val (.int s0), .val (.long a1), .second, .val (.long a2), .second, .val (.long a3), .second, .val (.long a4), .second, .val (.long a5), .second, .val (.int (2 : Int32)), .val (.ref b158), .val (.ref b175), .unset] []))
    refine Go.by (fun _ kont => XS.iload X181.here hx rfl (hb hby at_76) rfl (XS.iconst X181.here hx rfl (hb hby at_78) kont)) ?_
    show Go _ _ _ _ _ _ _ (T181.setTop (mkF m 79 #[.val (.int s0), .val (.long a1), .second, .val (.long a2), .second, .val (.long a3), .second, .val (.long a4), .second, .val (.long a5), .second, .val (.int (2 : Int32)), .val (.ref b158), .val (.ref b175), .unset] [(.int (3 : Int32)), (.int (2 : Int32))]))
    refine Go.by (fun _ kont => XS.icmpYes X181.here hx rfl (pc0 := 79) (pc' := 88) rfl (hb hby at_79) rfl (by decide) (by decide) (by decide) kont) ?_
    show Go _ _ _ _ _ _ _ (T181.setTop (mkF m 88 #[.val (.int s0), .val (.long a1), .second, .val (.long a2), .second, .val (.long a3), .second, .val (.long a4), .second, .val (.long a5), .second, .val (.int (2 : Int32)), .val (.ref b158), .val (.ref b175), .unset] []))
    refine Go.by (fun _ kont => XS.iload X181.here hx rfl (hb hby at_88) rfl (XS.iconst X181.here hx rfl (hb hby at_90) kont)) ?_
    show Go _ _ _ _ _ _ _ (T181.setTop (mkF m 91 #[.val (.int s0), .val (.long a1), .second, .val (.long a2), .second, .val (.long a3), .second, .val (.long a4), .second, .val (.long a5), .second, .val (.int (2 : Int32)), .val (.ref b158), .val (.ref b175), .unset] [(.int (4 : Int32)), (.int (2 : Int32))]))
    refine Go.by (fun _ kont => XS.icmpYes X181.here hx rfl (pc0 := 91) (pc' := 100) rfl (hb hby at_91) rfl (by decide) (by decide) (by decide) kont) ?_
    show Go _ _ _ _ _ _ _ (T181.setTop (mkF m 100 #[.val (.int s0), .val (.long a1), .second, .val (.long a2), .second, .val (.long a3), .second, .val (.long a4), .second, .val (.long a5), .second, .val (.int (2 : Int32)), .val (.ref b158), .val (.ref b175), .unset] []))
    refine Go.by (fun _ kont => XS.aload X181.here hx rfl (hb hby at_100) rfl rfl kont) ?_
    show Go _ _ _ _ _ _ _ (T181.setTop (mkF m 102 #[.val (.int s0), .val (.long a1), .second, .val (.long a2), .second, .val (.long a3), .second, .val (.long a4), .second, .val (.long a5), .second, .val (.int (2 : Int32)), .val (.ref b158), .val (.ref b175), .unset] [(.ref b175)]))
    obtain ⟨_, _, ⟨T183, L183, k183, n183⟩, -, X183, ⟨Lc183, hQ183, l183, y183, z183⟩, st183⟩ := Jvm.LawKit.callS X181 hx (y := (⟨"com/example/runs_to_nets/runstonets/core/PlaceTransitionSynthesis", "negated", "([J)[J"⟩ : MethodName)) hown (mvT hZ (hw _ (List.mem_of_getElem? (i := 2) rfl))) (mvT hZ (hw _ (List.mem_of_getElem? (i := 3) rfl))) (mvT hZ (hw _ (List.mem_of_getElem? (i := 4) rfl))) (mvT hZ (hw _ (List.mem_of_getElem? (i := 5) rfl))) (by decide) (backOf (W := 0) (rmN2 l Z a0 hw [] b175 k175 a1 a2 h181 n0 Z182 V181) hZ (hw _ (List.mem_of_getElem? (i := 5) rfl)) (hw _ (List.mem_of_getElem? (i := 4) rfl)) (by decide) (by decide)) (g := (mkF m 102 #[.val (.int s0), .val (.long a1), .second, .val (.long a2), .second, .val (.long a3), .second, .val (.long a4), .second, .val (.long a5), .second, .val (.int (2 : Int32)), .val (.ref b158), .val (.ref b175), .unset] [(.ref b175)])) rfl (by rw [hml]; rfl) (argsL := [(.ref b175)]) (rest := []) (lenOf pd0_0 rfl) rfl (by show 2 * 0 + _ ≤ _; exact Nat.le_of_eq rfl) (hb hby at_102) (fun _ _ => ⟨rfl, e181, (by decide : 2 + 1 ≤ _), (by decide : 7 + 2 ≤ _)⟩)
    dsimp only [Pt.U, Pt.locs, Pt.cells, Pt.slots] at X183 l183 y183 z183 st183 hQ183
    subst l183 y183 z183
    obtain ⟨b102_183, k102_183, rfl, N183q, K183, ge_b102_183, szc_b102_183, g183_0⟩ := hQ183
    have ne_b158_b102_183 : b158 ≠ b102_183 := Nat.ne_of_lt (Nat.lt_of_lt_of_le V182_b158.lt szc_b102_183)
    have ne_b175_b102_183 : b175 ≠ b102_183 := Nat.ne_of_lt (Nat.lt_of_lt_of_le V181.lt szc_b102_183)
    have sz_b102_183 : h0.size ≤ b102_183 := Nat.le_trans K182.1 szc_b102_183
    have V184_b158 := V182_b158.keep K183 nin0
    have V184_b175 := V181.keep K183 nin0
    have Z184 := Nat.le_trans Z182 K183.1
    have K184 : Keep h0 T183.heap [] := Keep.trans K182 K183 all0
    have N183 := Fr.app N181 N183q
    refine Go.by st183 ?_
    show Go _ _ _ _ _ _ _ (T183.setTop (mkF m 105 #[.val (.int s0), .val (.long a1), .second, .val (.long a2), .second, .val (.long a3), .second, .val (.long a4), .second, .val (.long a5), .second, .val (.int (2 : Int32)), .val (.ref b158), .val (.ref b175), .unset] [(.ref b102_183)]))
    refine Go.by (fun _ kont => XS.astore X183.here hx rfl (hb hby at_105) rfl rfl (l' := #[.val (.int s0), .val (.long a1), .second, .val (.long a2), .second, .val (.long a3), .second, .val (.long a4), .second, .val (.long a5), .second, .val (.int (2 : Int32)), .val (.ref b158), .val (.ref b175), .val (.ref b102_183)]) rfl (XS.aload X183.here hx rfl (hb hby at_107) rfl rfl (XS.ifnullNo X183.here hx rfl (hb hby at_109) rfl (XS.aload X183.here hx rfl (hb hby at_112) rfl rfl kont)))) ?_
    show Go _ _ _ _ _ _ _ (T183.setTop (mkF m 114 #[.val (.int s0), .val (.long a1), .second, .val (.long a2), .second, .val (.long a3), .second, .val (.long a4), .second, .val (.long a5), .second, .val (.int (2 : Int32)), .val (.ref b158), .val (.ref b175), .val (.ref b102_183)] [(.ref b102_183)]))
    obtain ⟨cl_q185, Ar_q185, q1_q185, S_q185, N_q185, H_q185, G_q185⟩ := id g183_0
    refine Go.by (X183.arraylength hx (by first | exact Ar_q185.1 | (rw [rfl]; exact Ar_q185.1)) (State.isArrayOf_alike hZ.alike Ar_q185.2.1) (g := (mkF m 114 #[.val (.int s0), .val (.long a1), .second, .val (.long a2), .second, .val (.long a3), .second, .val (.long a4), .second, .val (.long a5), .second, .val (.int (2 : Int32)), .val (.ref b158), .val (.ref b175), .val (.ref b102_183)] [(.ref b102_183)])) rfl rfl (hb hby at_114)) ?_
    rw [len_of S_q185 N_q185]
    show Go _ _ _ _ _ _ _ (T183.setTop (mkF m 115 #[.val (.int s0), .val (.long a1), .second, .val (.long a2), .second, .val (.long a3), .second, .val (.long a4), .second, .val (.long a5), .second, .val (.int (2 : Int32)), .val (.ref b158), .val (.ref b175), .val (.ref b102_183)] [(.int (2 : Int32))]))
    refine Go.by (fun _ kont => XS.iload X183.here hx rfl (hb hby at_115) rfl kont) ?_
    show Go _ _ _ _ _ _ _ (T183.setTop (mkF m 117 #[.val (.int s0), .val (.long a1), .second, .val (.long a2), .second, .val (.long a3), .second, .val (.long a4), .second, .val (.long a5), .second, .val (.int (2 : Int32)), .val (.ref b158), .val (.ref b175), .val (.ref b102_183)] [(.int (2 : Int32)), (.int (2 : Int32))]))
    refine Go.by (fun _ kont => XS.icmpYes X183.here hx rfl (pc0 := 117) (pc' := 122) rfl (hb hby at_117) rfl (by decide) (by decide) (by decide) kont) ?_
    show Go _ _ _ _ _ _ _ (T183.setTop (mkF m 122 #[.val (.int s0), .val (.long a1), .second, .val (.long a2), .second, .val (.long a3), .second, .val (.long a4), .second, .val (.long a5), .second, .val (.int (2 : Int32)), .val (.ref b158), .val (.ref b175), .val (.ref b102_183)] []))
    refine Go.by (fun _ kont => XS.iload X183.here hx rfl (hb hby at_122) rfl kont) ?_
    show Go _ _ _ _ _ _ _ (T183.setTop (mkF m 124 #[.val (.int s0), .val (.long a1), .second, .val (.long a2), .second, .val (.long a3), .second, .val (.long a4), .second, .val (.long a5), .second, .val (.int (2 : Int32)), .val (.ref b158), .val (.ref b175), .val (.ref b102_183)] [(.int (2 : Int32))]))
    refine Go.by (fun _ kont => XS.ifNo X183.here hx rfl (hb hby at_124) rfl (by decide) kont) ?_
    show Go _ _ _ _ _ _ _ (T183.setTop (mkF m 127 #[.val (.int s0), .val (.long a1), .second, .val (.long a2), .second, .val (.long a3), .second, .val (.long a4), .second, .val (.long a5), .second, .val (.int (2 : Int32)), .val (.ref b158), .val (.ref b175), .val (.ref b102_183)] []))
    refine Go.by (fun _ kont => XS.aload X183.here hx rfl (hb hby at_127) rfl rfl (XS.aload X183.here hx rfl (hb hby at_129) rfl rfl kont)) ?_
    show Go _ _ _ _ _ _ _ (T183.setTop (mkF m 131 #[.val (.int s0), .val (.long a1), .second, .val (.long a2), .second, .val (.long a3), .second, .val (.long a4), .second, .val (.long a5), .second, .val (.int (2 : Int32)), .val (.ref b158), .val (.ref b175), .val (.ref b102_183)] [(.ref b175), (.ref b102_183)]))
    refine Go.by (fun _ kont => Jvm.RoadKit.acmp (g := (mkF m 131 #[.val (.int s0), .val (.long a1), .second, .val (.long a2), .second, .val (.long a3), .second, .val (.long a4), .second, .val (.long a5), .second, .val (.int (2 : Int32)), .val (.ref b158), .val (.ref b175), .val (.ref b102_183)] [(.ref b175), (.ref b102_183)])) X183 hx rfl rfl rfl (pc0 := 131) (pc' := 136) (same := false) rfl (hb hby at_131) rfl (decide_eq_false fun q => (Ne.symm ne_b175_b102_183) (Value.ref.inj q)) (by decide) (by decide) kont) ?_
    show Go _ _ _ _ _ _ _ (T183.setTop (mkF m 136 #[.val (.int s0), .val (.long a1), .second, .val (.long a2), .second, .val (.long a3), .second, .val (.long a4), .second, .val (.long a5), .second, .val (.int (2 : Int32)), .val (.ref b158), .val (.ref b175), .val (.ref b102_183)] []))
    refine Go.by (fun _ kont => XS.aload X183.here hx rfl (hb hby at_136) rfl rfl (XS.aload X183.here hx rfl (hb hby at_138) rfl rfl (XS.aload X183.here hx rfl (hb hby at_140) rfl rfl (XS.iconst X183.here hx rfl (hb hby at_142) (XS.iload X183.here hx rfl (hb hby at_143) rfl kont))))) ?_
    show Go _ _ _ _ _ _ _ (T183.setTop (mkF m 145 #[.val (.int s0), .val (.long a1), .second, .val (.long a2), .second, .val (.long a3), .second, .val (.long a4), .second, .val (.long a5), .second, .val (.int (2 : Int32)), .val (.ref b158), .val (.ref b175), .val (.ref b102_183)] [(.int (2 : Int32)), (.int (0 : Int32)), (.ref b158), (.ref b102_183), (.ref b175)]))
    obtain ⟨_, _, ⟨T186, L186, k186, n186⟩, -, X186, ⟨Lc186, hQ186, l186, y186, z186⟩, st186⟩ := Jvm.LawKit.callS X183 hx (y := (⟨"com/example/runs_to_nets/runstonets/core/PlaceTransitionSynthesisNegatedPinLaw", "ok", "([J[J[JII)Z"⟩ : MethodName)) hown (mvT hZ (hw _ (List.mem_of_getElem? (i := 6) rfl))) (mvT hZ (hw _ (List.mem_of_getElem? (i := 7) rfl))) (mvT hZ (hw _ (List.mem_of_getElem? (i := 8) rfl))) (mvT hZ (hw _ (List.mem_of_getElem? (i := 9) rfl))) (by decide) (backOf (W := 0) (rmK20 l Z a0 hw [] b175 b102_183 b158 k175 a1 a2 k102_183 k158 a3 a4 a5 T183.heap n0 Z184 V184_b175 g183_0 V184_b158) hZ (hw _ (List.mem_of_getElem? (i := 9) rfl)) (hw _ (List.mem_of_getElem? (i := 8) rfl)) (by decide) (by decide)) (g := (mkF m 145 #[.val (.int s0), .val (.long a1), .second, .val (.long a2), .second, .val (.long a3), .second, .val (.long a4), .second, .val (.long a5), .second, .val (.int (2 : Int32)), .val (.ref b158), .val (.ref b175), .val (.ref b102_183)] [(.int (2 : Int32)), (.int (0 : Int32)), (.ref b158), (.ref b102_183), (.ref b175)])) rfl (by rw [hml]; rfl) (argsL := [(.ref b175), (.ref b102_183), (.ref b158), (.int (0 : Int32)), (.int (2 : Int32))]) (rest := []) (lenOf pd0_1 rfl) rfl (by show 2 * 0 + _ ≤ _; exact Nat.le_of_eq rfl) (hb hby at_145) (fun _ _ => ⟨rfl, rfl, (by decide : 3 + 0 ≤ _), (by decide : 9 + 0 ≤ _)⟩)
    dsimp only [Pt.U, Pt.locs, Pt.cells, Pt.slots] at X186 l186 y186 z186 st186 hQ186
    subst l186 y186 z186
    obtain ⟨rfl, N186q, eh186⟩ := hQ186
    have N186 := Fr.app N183 N186q
    refine Go.by st186 ?_
    show Go _ _ _ _ _ _ _ (T186.setTop (mkF m 148 #[.val (.int s0), .val (.long a1), .second, .val (.long a2), .second, .val (.long a3), .second, .val (.long a4), .second, .val (.long a5), .second, .val (.int (2 : Int32)), .val (.ref b158), .val (.ref b175), .val (.ref b102_183)] [(.int (1 : Int32))]))
    refine Go.by (fun _ kont => XS.ifNo X186.here hx rfl (hb hby at_148) rfl (by decide) kont) ?_
    show Go _ _ _ _ _ _ _ (T186.setTop (mkF m 151 #[.val (.int s0), .val (.long a1), .second, .val (.long a2), .second, .val (.long a3), .second, .val (.long a4), .second, .val (.long a5), .second, .val (.int (2 : Int32)), .val (.ref b158), .val (.ref b175), .val (.ref b102_183)] []))
    refine Go.by (fun _ kont => XS.aload X186.here hx rfl (hb hby at_151) rfl rfl (XS.aload X186.here hx rfl (hb hby at_153) rfl rfl (XS.aload X186.here hx rfl (hb hby at_155) rfl rfl (XS.iconst X186.here hx rfl (hb hby at_157) (XS.iload X186.here hx rfl (hb hby at_158) rfl kont))))) ?_
    show Go _ _ _ _ _ _ _ (T186.setTop (mkF m 160 #[.val (.int s0), .val (.long a1), .second, .val (.long a2), .second, .val (.long a3), .second, .val (.long a4), .second, .val (.long a5), .second, .val (.int (2 : Int32)), .val (.ref b158), .val (.ref b175), .val (.ref b102_183)] [(.int (2 : Int32)), (.int (1 : Int32)), (.ref b158), (.ref b102_183), (.ref b175)]))
    obtain ⟨_, _, ⟨T187, L187, k187, n187⟩, -, X187, ⟨Lc187, hQ187, l187, y187, z187⟩, st187⟩ := Jvm.LawKit.callS X186 hx (y := (⟨"com/example/runs_to_nets/runstonets/core/PlaceTransitionSynthesisNegatedPinLaw", "ok", "([J[J[JII)Z"⟩ : MethodName)) hown (mvT hZ (hw _ (List.mem_of_getElem? (i := 6) rfl))) (mvT hZ (hw _ (List.mem_of_getElem? (i := 7) rfl))) (mvT hZ (hw _ (List.mem_of_getElem? (i := 8) rfl))) (mvT hZ (hw _ (List.mem_of_getElem? (i := 9) rfl))) (by decide) (backOf (W := 0) (rmK21 l Z a0 hw [] b175 b102_183 b158 k175 a1 a2 k102_183 k158 a3 a4 a5 T183.heap n0 Z184 V184_b175 g183_0 V184_b158) hZ (hw _ (List.mem_of_getElem? (i := 9) rfl)) (hw _ (List.mem_of_getElem? (i := 8) rfl)) (by decide) (by decide)) (g := (mkF m 160 #[.val (.int s0), .val (.long a1), .second, .val (.long a2), .second, .val (.long a3), .second, .val (.long a4), .second, .val (.long a5), .second, .val (.int (2 : Int32)), .val (.ref b158), .val (.ref b175), .val (.ref b102_183)] [(.int (2 : Int32)), (.int (1 : Int32)), (.ref b158), (.ref b102_183), (.ref b175)])) rfl (by rw [hml]; rfl) (argsL := [(.ref b175), (.ref b102_183), (.ref b158), (.int (1 : Int32)), (.int (2 : Int32))]) (rest := []) (lenOf pd0_1 rfl) rfl (by show 2 * 0 + _ ≤ _; exact Nat.le_of_eq rfl) (hb hby at_160) (fun _ _ => ⟨rfl, eh186, (by decide : 3 + 0 ≤ _), (by decide : 9 + 0 ≤ _)⟩)
    dsimp only [Pt.U, Pt.locs, Pt.cells, Pt.slots] at X187 l187 y187 z187 st187 hQ187
    subst l187 y187 z187
    obtain ⟨rfl, N187q, eh187⟩ := hQ187
    have N187 := Fr.app N186 N187q
    refine Go.by st187 ?_
    show Go _ _ _ _ _ _ _ (T187.setTop (mkF m 163 #[.val (.int s0), .val (.long a1), .second, .val (.long a2), .second, .val (.long a3), .second, .val (.long a4), .second, .val (.long a5), .second, .val (.int (2 : Int32)), .val (.ref b158), .val (.ref b175), .val (.ref b102_183)] [(.int (1 : Int32))]))
    refine Go.by (fun _ kont => XS.ifNo X187.here hx rfl (hb hby at_163) rfl (by decide) kont) ?_
    show Go _ _ _ _ _ _ _ (T187.setTop (mkF m 166 #[.val (.int s0), .val (.long a1), .second, .val (.long a2), .second, .val (.long a3), .second, .val (.long a4), .second, .val (.long a5), .second, .val (.int (2 : Int32)), .val (.ref b158), .val (.ref b175), .val (.ref b102_183)] []))
    refine Go.by (fun _ kont => XS.aload X187.here hx rfl (hb hby at_166) rfl rfl (XS.aload X187.here hx rfl (hb hby at_168) rfl rfl (XS.aload X187.here hx rfl (hb hby at_170) rfl rfl (XS.iconst X187.here hx rfl (hb hby at_172) (XS.iload X187.here hx rfl (hb hby at_173) rfl kont))))) ?_
    show Go _ _ _ _ _ _ _ (T187.setTop (mkF m 175 #[.val (.int s0), .val (.long a1), .second, .val (.long a2), .second, .val (.long a3), .second, .val (.long a4), .second, .val (.long a5), .second, .val (.int (2 : Int32)), .val (.ref b158), .val (.ref b175), .val (.ref b102_183)] [(.int (2 : Int32)), (.int (2 : Int32)), (.ref b158), (.ref b102_183), (.ref b175)]))
    obtain ⟨_, _, ⟨T188, L188, k188, n188⟩, -, X188, ⟨Lc188, hQ188, l188, y188, z188⟩, st188⟩ := Jvm.LawKit.callS X187 hx (y := (⟨"com/example/runs_to_nets/runstonets/core/PlaceTransitionSynthesisNegatedPinLaw", "ok", "([J[J[JII)Z"⟩ : MethodName)) hown (mvT hZ (hw _ (List.mem_of_getElem? (i := 6) rfl))) (mvT hZ (hw _ (List.mem_of_getElem? (i := 7) rfl))) (mvT hZ (hw _ (List.mem_of_getElem? (i := 8) rfl))) (mvT hZ (hw _ (List.mem_of_getElem? (i := 9) rfl))) (by decide) (backOf (W := 0) (rmK22 l Z a0 hw [] b175 b102_183 b158 T183.heap n0 Z184 ) hZ (hw _ (List.mem_of_getElem? (i := 9) rfl)) (hw _ (List.mem_of_getElem? (i := 8) rfl)) (by decide) (by decide)) (g := (mkF m 175 #[.val (.int s0), .val (.long a1), .second, .val (.long a2), .second, .val (.long a3), .second, .val (.long a4), .second, .val (.long a5), .second, .val (.int (2 : Int32)), .val (.ref b158), .val (.ref b175), .val (.ref b102_183)] [(.int (2 : Int32)), (.int (2 : Int32)), (.ref b158), (.ref b102_183), (.ref b175)])) rfl (by rw [hml]; rfl) (argsL := [(.ref b175), (.ref b102_183), (.ref b158), (.int (2 : Int32)), (.int (2 : Int32))]) (rest := []) (lenOf pd0_1 rfl) rfl (by show 2 * 0 + _ ≤ _; exact Nat.le_of_eq rfl) (hb hby at_175) (fun _ _ => ⟨rfl, eh187, (by decide : 3 + 0 ≤ _), (by decide : 9 + 0 ≤ _)⟩)
    dsimp only [Pt.U, Pt.locs, Pt.cells, Pt.slots] at X188 l188 y188 z188 st188 hQ188
    subst l188 y188 z188
    obtain ⟨rfl, N188q, eh188⟩ := hQ188
    have N188 := Fr.app N187 N188q
    refine Go.by st188 ?_
    show Go _ _ _ _ _ _ _ (T188.setTop (mkF m 178 #[.val (.int s0), .val (.long a1), .second, .val (.long a2), .second, .val (.long a3), .second, .val (.long a4), .second, .val (.long a5), .second, .val (.int (2 : Int32)), .val (.ref b158), .val (.ref b175), .val (.ref b102_183)] [(.int (1 : Int32))]))
    refine Go.by (fun _ kont => XS.ifNo X188.here hx rfl (hb hby at_178) rfl (by decide) kont) ?_
    show Go _ _ _ _ _ _ _ (T188.setTop (mkF m 181 #[.val (.int s0), .val (.long a1), .second, .val (.long a2), .second, .val (.long a3), .second, .val (.long a4), .second, .val (.long a5), .second, .val (.int (2 : Int32)), .val (.ref b158), .val (.ref b175), .val (.ref b102_183)] []))
    refine Go.by (fun _ kont => XS.aload X188.here hx rfl (hb hby at_181) rfl rfl (XS.aload X188.here hx rfl (hb hby at_183) rfl rfl (XS.aload X188.here hx rfl (hb hby at_185) rfl rfl (XS.iconst X188.here hx rfl (hb hby at_187) (XS.iload X188.here hx rfl (hb hby at_188) rfl kont))))) ?_
    show Go _ _ _ _ _ _ _ (T188.setTop (mkF m 190 #[.val (.int s0), .val (.long a1), .second, .val (.long a2), .second, .val (.long a3), .second, .val (.long a4), .second, .val (.long a5), .second, .val (.int (2 : Int32)), .val (.ref b158), .val (.ref b175), .val (.ref b102_183)] [(.int (2 : Int32)), (.int (3 : Int32)), (.ref b158), (.ref b102_183), (.ref b175)]))
    obtain ⟨_, _, ⟨T189, L189, k189, n189⟩, -, X189, ⟨Lc189, hQ189, l189, y189, z189⟩, st189⟩ := Jvm.LawKit.callS X188 hx (y := (⟨"com/example/runs_to_nets/runstonets/core/PlaceTransitionSynthesisNegatedPinLaw", "ok", "([J[J[JII)Z"⟩ : MethodName)) hown (mvT hZ (hw _ (List.mem_of_getElem? (i := 6) rfl))) (mvT hZ (hw _ (List.mem_of_getElem? (i := 7) rfl))) (mvT hZ (hw _ (List.mem_of_getElem? (i := 8) rfl))) (mvT hZ (hw _ (List.mem_of_getElem? (i := 9) rfl))) (by decide) (backOf (W := 0) (rmK23 l Z a0 hw [] b175 b102_183 b158 T183.heap n0 Z184 ) hZ (hw _ (List.mem_of_getElem? (i := 9) rfl)) (hw _ (List.mem_of_getElem? (i := 8) rfl)) (by decide) (by decide)) (g := (mkF m 190 #[.val (.int s0), .val (.long a1), .second, .val (.long a2), .second, .val (.long a3), .second, .val (.long a4), .second, .val (.long a5), .second, .val (.int (2 : Int32)), .val (.ref b158), .val (.ref b175), .val (.ref b102_183)] [(.int (2 : Int32)), (.int (3 : Int32)), (.ref b158), (.ref b102_183), (.ref b175)])) rfl (by rw [hml]; rfl) (argsL := [(.ref b175), (.ref b102_183), (.ref b158), (.int (3 : Int32)), (.int (2 : Int32))]) (rest := []) (lenOf pd0_1 rfl) rfl (by show 2 * 0 + _ ≤ _; exact Nat.le_of_eq rfl) (hb hby at_190) (fun _ _ => ⟨rfl, eh188, (by decide : 3 + 0 ≤ _), (by decide : 9 + 0 ≤ _)⟩)
    dsimp only [Pt.U, Pt.locs, Pt.cells, Pt.slots] at X189 l189 y189 z189 st189 hQ189
    subst l189 y189 z189
    obtain ⟨rfl, N189q, eh189⟩ := hQ189
    have N189 := Fr.app N188 N189q
    refine Go.by st189 ?_
    show Go _ _ _ _ _ _ _ (T189.setTop (mkF m 193 #[.val (.int s0), .val (.long a1), .second, .val (.long a2), .second, .val (.long a3), .second, .val (.long a4), .second, .val (.long a5), .second, .val (.int (2 : Int32)), .val (.ref b158), .val (.ref b175), .val (.ref b102_183)] [(.int (1 : Int32))]))
    refine Go.by (fun _ kont => XS.ifNo X189.here hx rfl (hb hby at_193) rfl (by decide) kont) ?_
    show Go _ _ _ _ _ _ _ (T189.setTop (mkF m 196 #[.val (.int s0), .val (.long a1), .second, .val (.long a2), .second, .val (.long a3), .second, .val (.long a4), .second, .val (.long a5), .second, .val (.int (2 : Int32)), .val (.ref b158), .val (.ref b175), .val (.ref b102_183)] []))
    refine Go.by (fun _ kont => XS.aload X189.here hx rfl (hb hby at_196) rfl rfl (XS.aload X189.here hx rfl (hb hby at_198) rfl rfl (XS.aload X189.here hx rfl (hb hby at_200) rfl rfl (XS.iconst X189.here hx rfl (hb hby at_202) (XS.iload X189.here hx rfl (hb hby at_203) rfl kont))))) ?_
    show Go _ _ _ _ _ _ _ (T189.setTop (mkF m 205 #[.val (.int s0), .val (.long a1), .second, .val (.long a2), .second, .val (.long a3), .second, .val (.long a4), .second, .val (.long a5), .second, .val (.int (2 : Int32)), .val (.ref b158), .val (.ref b175), .val (.ref b102_183)] [(.int (2 : Int32)), (.int (4 : Int32)), (.ref b158), (.ref b102_183), (.ref b175)]))
    obtain ⟨_, _, ⟨T190, L190, k190, n190⟩, -, X190, ⟨Lc190, hQ190, l190, y190, z190⟩, st190⟩ := Jvm.LawKit.callS X189 hx (y := (⟨"com/example/runs_to_nets/runstonets/core/PlaceTransitionSynthesisNegatedPinLaw", "ok", "([J[J[JII)Z"⟩ : MethodName)) hown (mvT hZ (hw _ (List.mem_of_getElem? (i := 6) rfl))) (mvT hZ (hw _ (List.mem_of_getElem? (i := 7) rfl))) (mvT hZ (hw _ (List.mem_of_getElem? (i := 8) rfl))) (mvT hZ (hw _ (List.mem_of_getElem? (i := 9) rfl))) (by decide) (backOf (W := 0) (rmK24 l Z a0 hw [] b175 b102_183 b158 T183.heap n0 Z184 ) hZ (hw _ (List.mem_of_getElem? (i := 9) rfl)) (hw _ (List.mem_of_getElem? (i := 8) rfl)) (by decide) (by decide)) (g := (mkF m 205 #[.val (.int s0), .val (.long a1), .second, .val (.long a2), .second, .val (.long a3), .second, .val (.long a4), .second, .val (.long a5), .second, .val (.int (2 : Int32)), .val (.ref b158), .val (.ref b175), .val (.ref b102_183)] [(.int (2 : Int32)), (.int (4 : Int32)), (.ref b158), (.ref b102_183), (.ref b175)])) rfl (by rw [hml]; rfl) (argsL := [(.ref b175), (.ref b102_183), (.ref b158), (.int (4 : Int32)), (.int (2 : Int32))]) (rest := []) (lenOf pd0_1 rfl) rfl (by show 2 * 0 + _ ≤ _; exact Nat.le_of_eq rfl) (hb hby at_205) (fun _ _ => ⟨rfl, eh189, (by decide : 3 + 0 ≤ _), (by decide : 9 + 0 ≤ _)⟩)
    dsimp only [Pt.U, Pt.locs, Pt.cells, Pt.slots] at X190 l190 y190 z190 st190 hQ190
    subst l190 y190 z190
    obtain ⟨rfl, N190q, eh190⟩ := hQ190
    have N190 := Fr.app N189 N190q
    refine Go.by st190 ?_
    show Go _ _ _ _ _ _ _ (T190.setTop (mkF m 208 #[.val (.int s0), .val (.long a1), .second, .val (.long a2), .second, .val (.long a3), .second, .val (.long a4), .second, .val (.long a5), .second, .val (.int (2 : Int32)), .val (.ref b158), .val (.ref b175), .val (.ref b102_183)] [(.int (1 : Int32))]))
    refine Go.by (fun _ kont => XS.ifNo X190.here hx rfl (hb hby at_208) rfl (by decide) kont) ?_
    show Go _ _ _ _ _ _ _ (T190.setTop (mkF m 211 #[.val (.int s0), .val (.long a1), .second, .val (.long a2), .second, .val (.long a3), .second, .val (.long a4), .second, .val (.long a5), .second, .val (.int (2 : Int32)), .val (.ref b158), .val (.ref b175), .val (.ref b102_183)] []))
    refine Go.by (fun _ kont => XS.iconst X190.here hx rfl (hb hby at_211) (XS.goto X190.here hx rfl (pc0 := 212) (pc' := 216) rfl (hb hby at_212) (by decide) (by decide) kont)) ?_
    show Go _ _ _ _ _ _ _ (T190.setTop (mkF m 216 #[.val (.int s0), .val (.long a1), .second, .val (.long a2), .second, .val (.long a3), .second, .val (.long a4), .second, .val (.long a5), .second, .val (.int (2 : Int32)), .val (.ref b158), .val (.ref b175), .val (.ref b102_183)] [(.int (1 : Int32))]))
    refine Go.retN X190 hx (t := .boolean) hret (by simp) hlk (hb hby at_216) ?_ (by decide) (by decide)
    show Q0 Z h0 n0 (some (.int (1 : Int32))) T190.heap _
    rw [eh190]
    exact ⟨rfl, N190⟩
  · show Go _ _ _ _ _ _ _ (s₁.setTop (mkF m 9 #[.val (.int s0), .val (.long a1), .second, .val (.long a2), .second, .val (.long a3), .second, .val (.long a4), .second, .val (.long a5), .second, .val (.int (3 : Int32)), .unset, .unset, .unset] []))
    refine Go.by (fun _ kont => XS.iconst X0.here hx rfl (hb hby at_9) kont) ?_
    show Go _ _ _ _ _ _ _ (s₁.setTop (mkF m 10 #[.val (.int s0), .val (.long a1), .second, .val (.long a2), .second, .val (.long a3), .second, .val (.long a4), .second, .val (.long a5), .second, .val (.int (3 : Int32)), .unset, .unset, .unset] [(.int (5 : Int32))]))
    obtain ⟨T191, h191, k191, X191, e191, X_191, A191, st191⟩ := newP X0 hx hZ (hw _ (List.mem_of_getElem? (i := 1) rfl)) e0 (g := (mkF m 10 #[.val (.int s0), .val (.long a1), .second, .val (.long a2), .second, .val (.long a3), .second, .val (.long a4), .second, .val (.long a5), .second, .val (.int (3 : Int32)), .unset, .unset, .unset] [(.int (5 : Int32))])) rfl (hb hby at_10) rfl (by decide) (cap := 5) (by decide) (by decide) (by decide) (by decide)
    obtain ⟨b191, g191⟩ : ∃ z, z = h0.size := ⟨_, rfl⟩
    rw [← g191] at A191 st191
    have ge_b191 : n0 ≤ b191 := Nat.le_trans Z0 (Nat.le_of_eq g191.symm)
    have sz_b191 : h0.size ≤ b191 := Nat.le_trans (Keep.refl h0 []).1 (Nat.le_of_eq g191.symm)
    have Z192 := Nat.le_trans Z0 X_191.1
    have K192 : Keep h0 h191 [] := (Keep.refl h0 []).ext X_191
    have V191 : Arv Z h191 b191 k191 .long (5 : Int32) [(.long (0 : Int64)), (.long (0 : Int64)), (.long (0 : Int64)), (.long (0 : Int64)), (.long (0 : Int64))] (.long (0 : Int64)) := (Arv.new A191 (by decide)).pad (pad_rep [] (.long (0 : Int64)) 5)
    refine Go.by st191 ?_
    show Go _ _ _ _ _ _ _ (T191.setTop (mkF m 12 #[.val (.int s0), .val (.long a1), .second, .val (.long a2), .second, .val (.long a3), .second, .val (.long a4), .second, .val (.long a5), .second, .val (.int (3 : Int32)), .unset, .unset, .unset] [(.ref b191)]))
    refine Go.by (fun _ kont => XS.dup X191.here hx rfl (hb hby at_12) rfl rfl (XS.iconst X191.here hx rfl (hb hby at_13) (XS.lloadN X191.here hx rfl (hb hby at_14) rfl kont))) ?_
    show Go _ _ _ _ _ _ _ (T191.setTop (mkF m 15 #[.val (.int s0), .val (.long a1), .second, .val (.long a2), .second, .val (.long a3), .second, .val (.long a4), .second, .val (.long a5), .second, .val (.int (3 : Int32)), .unset, .unset, .unset] [(.long a1), (.int (0 : Int32)), (.ref b191), (.ref b191)]))
    obtain ⟨cl_q193, Ar_q193, q1_q193, S_q193, N_q193, H_q193, G_q193⟩ := id V191
    have hin_q193 : ¬ ((0 : Int32) < 0 ∨ cl_q193.slots.size ≤ ((0 : Int32)).toNatClampNeg) := inb_of S_q193 ⟨by decide, by decide⟩
    obtain ⟨T194, h194, X194, e194, W194, st194⟩ := stJ X191 hx hZ e191 Ar_q193 (j := (0 : Int32)) hin_q193 (g := (mkF m 15 #[.val (.int s0), .val (.long a1), .second, .val (.long a2), .second, .val (.long a3), .second, .val (.long a4), .second, .val (.long a5), .second, .val (.int (3 : Int32)), .unset, .unset, .unset] [(.long a1), (.int (0 : Int32)), (.ref b191), (.ref b191)])) rfl rfl (hb hby at_15)
    have V194 : Arv Z h194 b191 k191 .long (5 : Int32) [(.long a1), (.long (0 : Int64)), (.long (0 : Int64)), (.long (0 : Int64)), (.long (0 : Int64))] (.long (0 : Int64)) := Arv.set Ar_q193 q1_q193 S_q193 N_q193 H_q193 G_q193 rfl W194 0 rfl (Nat.le_of_ble_eq_true rfl)
    have Z195 := Nat.le_trans Z192 (Keep.of_wr W194).1
    have K195 : Keep h0 h194 [] := K192.wr W194 (Or.inr sz_b191)
    have N194 := Fr.snoc X194 N0 ge_b191
    refine Go.by st194 ?_
    show Go _ _ _ _ _ _ _ (T194.setTop (mkF m 16 #[.val (.int s0), .val (.long a1), .second, .val (.long a2), .second, .val (.long a3), .second, .val (.long a4), .second, .val (.long a5), .second, .val (.int (3 : Int32)), .unset, .unset, .unset] [(.ref b191)]))
    refine Go.by (fun _ kont => XS.dup X194.here hx rfl (hb hby at_16) rfl rfl (XS.iconst X194.here hx rfl (hb hby at_17) (XS.lloadN X194.here hx rfl (hb hby at_18) rfl kont))) ?_
    show Go _ _ _ _ _ _ _ (T194.setTop (mkF m 19 #[.val (.int s0), .val (.long a1), .second, .val (.long a2), .second, .val (.long a3), .second, .val (.long a4), .second, .val (.long a5), .second, .val (.int (3 : Int32)), .unset, .unset, .unset] [(.long a2), (.int (1 : Int32)), (.ref b191), (.ref b191)]))
    obtain ⟨cl_q196, Ar_q196, q1_q196, S_q196, N_q196, H_q196, G_q196⟩ := id V194
    have hin_q196 : ¬ ((1 : Int32) < 0 ∨ cl_q196.slots.size ≤ ((1 : Int32)).toNatClampNeg) := inb_of S_q196 ⟨by decide, by decide⟩
    obtain ⟨T197, h197, X197, e197, W197, st197⟩ := stJ X194 hx hZ e194 Ar_q196 (j := (1 : Int32)) hin_q196 (g := (mkF m 19 #[.val (.int s0), .val (.long a1), .second, .val (.long a2), .second, .val (.long a3), .second, .val (.long a4), .second, .val (.long a5), .second, .val (.int (3 : Int32)), .unset, .unset, .unset] [(.long a2), (.int (1 : Int32)), (.ref b191), (.ref b191)])) rfl rfl (hb hby at_19)
    have V197 : Arv Z h197 b191 k191 .long (5 : Int32) [(.long a1), (.long a2), (.long (0 : Int64)), (.long (0 : Int64)), (.long (0 : Int64))] (.long (0 : Int64)) := Arv.set Ar_q196 q1_q196 S_q196 N_q196 H_q196 G_q196 rfl W197 1 rfl (Nat.le_of_ble_eq_true rfl)
    have Z198 := Nat.le_trans Z195 (Keep.of_wr W197).1
    have K198 : Keep h0 h197 [] := K195.wr W197 (Or.inr sz_b191)
    have N197 := Fr.snoc X197 N194 ge_b191
    refine Go.by st197 ?_
    show Go _ _ _ _ _ _ _ (T197.setTop (mkF m 20 #[.val (.int s0), .val (.long a1), .second, .val (.long a2), .second, .val (.long a3), .second, .val (.long a4), .second, .val (.long a5), .second, .val (.int (3 : Int32)), .unset, .unset, .unset] [(.ref b191)]))
    refine Go.by (fun _ kont => XS.dup X197.here hx rfl (hb hby at_20) rfl rfl (XS.iconst X197.here hx rfl (hb hby at_21) (XS.lload X197.here hx rfl (hb hby at_22) rfl kont))) ?_
    show Go _ _ _ _ _ _ _ (T197.setTop (mkF m 24 #[.val (.int s0), .val (.long a1), .second, .val (.long a2), .second, .val (.long a3), .second, .val (.long a4), .second, .val (.long a5), .second, .val (.int (3 : Int32)), .unset, .unset, .unset] [(.long a3), (.int (2 : Int32)), (.ref b191), (.ref b191)]))
    obtain ⟨cl_q199, Ar_q199, q1_q199, S_q199, N_q199, H_q199, G_q199⟩ := id V197
    have hin_q199 : ¬ ((2 : Int32) < 0 ∨ cl_q199.slots.size ≤ ((2 : Int32)).toNatClampNeg) := inb_of S_q199 ⟨by decide, by decide⟩
    obtain ⟨T200, h200, X200, e200, W200, st200⟩ := stJ X197 hx hZ e197 Ar_q199 (j := (2 : Int32)) hin_q199 (g := (mkF m 24 #[.val (.int s0), .val (.long a1), .second, .val (.long a2), .second, .val (.long a3), .second, .val (.long a4), .second, .val (.long a5), .second, .val (.int (3 : Int32)), .unset, .unset, .unset] [(.long a3), (.int (2 : Int32)), (.ref b191), (.ref b191)])) rfl rfl (hb hby at_24)
    have V200 : Arv Z h200 b191 k191 .long (5 : Int32) [(.long a1), (.long a2), (.long a3), (.long (0 : Int64)), (.long (0 : Int64))] (.long (0 : Int64)) := Arv.set Ar_q199 q1_q199 S_q199 N_q199 H_q199 G_q199 rfl W200 2 rfl (Nat.le_of_ble_eq_true rfl)
    have Z201 := Nat.le_trans Z198 (Keep.of_wr W200).1
    have K201 : Keep h0 h200 [] := K198.wr W200 (Or.inr sz_b191)
    have N200 := Fr.snoc X200 N197 ge_b191
    refine Go.by st200 ?_
    show Go _ _ _ _ _ _ _ (T200.setTop (mkF m 25 #[.val (.int s0), .val (.long a1), .second, .val (.long a2), .second, .val (.long a3), .second, .val (.long a4), .second, .val (.long a5), .second, .val (.int (3 : Int32)), .unset, .unset, .unset] [(.ref b191)]))
    refine Go.by (fun _ kont => XS.dup X200.here hx rfl (hb hby at_25) rfl rfl (XS.iconst X200.here hx rfl (hb hby at_26) (XS.lload X200.here hx rfl (hb hby at_27) rfl kont))) ?_
    show Go _ _ _ _ _ _ _ (T200.setTop (mkF m 29 #[.val (.int s0), .val (.long a1), .second, .val (.long a2), .second, .val (.long a3), .second, .val (.long a4), .second, .val (.long a5), .second, .val (.int (3 : Int32)), .unset, .unset, .unset] [(.long a4), (.int (3 : Int32)), (.ref b191), (.ref b191)]))
    obtain ⟨cl_q202, Ar_q202, q1_q202, S_q202, N_q202, H_q202, G_q202⟩ := id V200
    have hin_q202 : ¬ ((3 : Int32) < 0 ∨ cl_q202.slots.size ≤ ((3 : Int32)).toNatClampNeg) := inb_of S_q202 ⟨by decide, by decide⟩
    obtain ⟨T203, h203, X203, e203, W203, st203⟩ := stJ X200 hx hZ e200 Ar_q202 (j := (3 : Int32)) hin_q202 (g := (mkF m 29 #[.val (.int s0), .val (.long a1), .second, .val (.long a2), .second, .val (.long a3), .second, .val (.long a4), .second, .val (.long a5), .second, .val (.int (3 : Int32)), .unset, .unset, .unset] [(.long a4), (.int (3 : Int32)), (.ref b191), (.ref b191)])) rfl rfl (hb hby at_29)
    have V203 : Arv Z h203 b191 k191 .long (5 : Int32) [(.long a1), (.long a2), (.long a3), (.long a4), (.long (0 : Int64))] (.long (0 : Int64)) := Arv.set Ar_q202 q1_q202 S_q202 N_q202 H_q202 G_q202 rfl W203 3 rfl (Nat.le_of_ble_eq_true rfl)
    have Z204 := Nat.le_trans Z201 (Keep.of_wr W203).1
    have K204 : Keep h0 h203 [] := K201.wr W203 (Or.inr sz_b191)
    have N203 := Fr.snoc X203 N200 ge_b191
    refine Go.by st203 ?_
    show Go _ _ _ _ _ _ _ (T203.setTop (mkF m 30 #[.val (.int s0), .val (.long a1), .second, .val (.long a2), .second, .val (.long a3), .second, .val (.long a4), .second, .val (.long a5), .second, .val (.int (3 : Int32)), .unset, .unset, .unset] [(.ref b191)]))
    refine Go.by (fun _ kont => XS.dup X203.here hx rfl (hb hby at_30) rfl rfl (XS.iconst X203.here hx rfl (hb hby at_31) (XS.lload X203.here hx rfl (hb hby at_32) rfl kont))) ?_
    show Go _ _ _ _ _ _ _ (T203.setTop (mkF m 34 #[.val (.int s0), .val (.long a1), .second, .val (.long a2), .second, .val (.long a3), .second, .val (.long a4), .second, .val (.long a5), .second, .val (.int (3 : Int32)), .unset, .unset, .unset] [(.long a5), (.int (4 : Int32)), (.ref b191), (.ref b191)]))
    obtain ⟨cl_q205, Ar_q205, q1_q205, S_q205, N_q205, H_q205, G_q205⟩ := id V203
    have hin_q205 : ¬ ((4 : Int32) < 0 ∨ cl_q205.slots.size ≤ ((4 : Int32)).toNatClampNeg) := inb_of S_q205 ⟨by decide, by decide⟩
    obtain ⟨T206, h206, X206, e206, W206, st206⟩ := stJ X203 hx hZ e203 Ar_q205 (j := (4 : Int32)) hin_q205 (g := (mkF m 34 #[.val (.int s0), .val (.long a1), .second, .val (.long a2), .second, .val (.long a3), .second, .val (.long a4), .second, .val (.long a5), .second, .val (.int (3 : Int32)), .unset, .unset, .unset] [(.long a5), (.int (4 : Int32)), (.ref b191), (.ref b191)])) rfl rfl (hb hby at_34)
    have V206 : Arv Z h206 b191 k191 .long (5 : Int32) [(.long a1), (.long a2), (.long a3), (.long a4), (.long a5)] (.long (0 : Int64)) := Arv.set Ar_q205 q1_q205 S_q205 N_q205 H_q205 G_q205 rfl W206 4 rfl (Nat.le_of_ble_eq_true rfl)
    have Z207 := Nat.le_trans Z204 (Keep.of_wr W206).1
    have K207 : Keep h0 h206 [] := K204.wr W206 (Or.inr sz_b191)
    have N206 := Fr.snoc X206 N203 ge_b191
    refine Go.by st206 ?_
    show Go _ _ _ _ _ _ _ (T206.setTop (mkF m 35 #[.val (.int s0), .val (.long a1), .second, .val (.long a2), .second, .val (.long a3), .second, .val (.long a4), .second, .val (.long a5), .second, .val (.int (3 : Int32)), .unset, .unset, .unset] [(.ref b191)]))
    refine Go.by (fun _ kont => XS.astore X206.here hx rfl (hb hby at_35) rfl rfl (l' := #[.val (.int s0), .val (.long a1), .second, .val (.long a2), .second, .val (.long a3), .second, .val (.long a4), .second, .val (.long a5), .second, .val (.int (3 : Int32)), .val (.ref b191), .unset, .unset]) rfl (XS.iload X206.here hx rfl (hb hby at_37) rfl kont)) ?_
    show Go _ _ _ _ _ _ _ (T206.setTop (mkF m 39 #[.val (.int s0), .val (.long a1), .second, .val (.long a2), .second, .val (.long a3), .second, .val (.long a4), .second, .val (.long a5), .second, .val (.int (3 : Int32)), .val (.ref b191), .unset, .unset] [(.int (3 : Int32))]))
    obtain ⟨T208, h208, k208, X208, e208, X_208, A208, st208⟩ := newP X206 hx hZ (hw _ (List.mem_of_getElem? (i := 1) rfl)) e206 (g := (mkF m 39 #[.val (.int s0), .val (.long a1), .second, .val (.long a2), .second, .val (.long a3), .second, .val (.long a4), .second, .val (.long a5), .second, .val (.int (3 : Int32)), .val (.ref b191), .unset, .unset] [(.int (3 : Int32))])) rfl (hb hby at_39) rfl (by decide) (cap := 3) (by decide) (by decide) (by decide) (by decide)
    obtain ⟨b208, g208⟩ : ∃ z, z = h206.size := ⟨_, rfl⟩
    rw [← g208] at A208 st208
    have ne_b191_b208 : b191 ≠ b208 := Nat.ne_of_lt (Nat.lt_of_lt_of_le V206.lt (Nat.le_of_eq g208.symm))
    have ge_b208 : n0 ≤ b208 := Nat.le_trans Z207 (Nat.le_of_eq g208.symm)
    have sz_b208 : h0.size ≤ b208 := Nat.le_trans K207.1 (Nat.le_of_eq g208.symm)
    have V209_b191 := V206.ext X_208
    have Z209 := Nat.le_trans Z207 X_208.1
    have K209 : Keep h0 h208 [] := K207.ext X_208
    have V208 : Arv Z h208 b208 k208 .long (3 : Int32) [(.long (0 : Int64)), (.long (0 : Int64)), (.long (0 : Int64))] (.long (0 : Int64)) := (Arv.new A208 (by decide)).pad (pad_rep [] (.long (0 : Int64)) 3)
    refine Go.by st208 ?_
    show Go _ _ _ _ _ _ _ (T208.setTop (mkF m 41 #[.val (.int s0), .val (.long a1), .second, .val (.long a2), .second, .val (.long a3), .second, .val (.long a4), .second, .val (.long a5), .second, .val (.int (3 : Int32)), .val (.ref b191), .unset, .unset] [(.ref b208)]))
    refine Go.by (fun _ kont => XS.astore X208.here hx rfl (hb hby at_41) rfl rfl (l' := #[.val (.int s0), .val (.long a1), .second, .val (.long a2), .second, .val (.long a3), .second, .val (.long a4), .second, .val (.long a5), .second, .val (.int (3 : Int32)), .val (.ref b191), .val (.ref b208), .unset]) rfl (XS.iload X208.here hx rfl (hb hby at_43) rfl kont)) ?_
    show Go _ _ _ _ _ _ _ (T208.setTop (mkF m 45 #[.val (.int s0), .val (.long a1), .second, .val (.long a2), .second, .val (.long a3), .second, .val (.long a4), .second, .val (.long a5), .second, .val (.int (3 : Int32)), .val (.ref b191), .val (.ref b208), .unset] [(.int (3 : Int32))]))
    refine Go.by (fun _ kont => XS.ifNo X208.here hx rfl (hb hby at_45) rfl (by decide) kont) ?_
    show Go _ _ _ _ _ _ _ (T208.setTop (mkF m 48 #[.val (.int s0), .val (.long a1), .second, .val (.long a2), .second, .val (.long a3), .second, .val (.long a4), .second, .val (.long a5), .second, .val (.int (3 : Int32)), .val (.ref b191), .val (.ref b208), .unset] []))
    refine Go.by (fun _ kont => XS.aload X208.here hx rfl (hb hby at_48) rfl rfl (XS.iconst X208.here hx rfl (hb hby at_50) (XS.lloadN X208.here hx rfl (hb hby at_51) rfl kont))) ?_
    show Go _ _ _ _ _ _ _ (T208.setTop (mkF m 52 #[.val (.int s0), .val (.long a1), .second, .val (.long a2), .second, .val (.long a3), .second, .val (.long a4), .second, .val (.long a5), .second, .val (.int (3 : Int32)), .val (.ref b191), .val (.ref b208), .unset] [(.long a1), (.int (0 : Int32)), (.ref b208)]))
    obtain ⟨cl_q210, Ar_q210, q1_q210, S_q210, N_q210, H_q210, G_q210⟩ := id V208
    have hin_q210 : ¬ ((0 : Int32) < 0 ∨ cl_q210.slots.size ≤ ((0 : Int32)).toNatClampNeg) := inb_of S_q210 ⟨by decide, by decide⟩
    obtain ⟨T211, h211, X211, e211, W211, st211⟩ := stJ X208 hx hZ e208 Ar_q210 (j := (0 : Int32)) hin_q210 (g := (mkF m 52 #[.val (.int s0), .val (.long a1), .second, .val (.long a2), .second, .val (.long a3), .second, .val (.long a4), .second, .val (.long a5), .second, .val (.int (3 : Int32)), .val (.ref b191), .val (.ref b208), .unset] [(.long a1), (.int (0 : Int32)), (.ref b208)])) rfl rfl (hb hby at_52)
    have V211 : Arv Z h211 b208 k208 .long (3 : Int32) [(.long a1), (.long (0 : Int64)), (.long (0 : Int64))] (.long (0 : Int64)) := Arv.set Ar_q210 q1_q210 S_q210 N_q210 H_q210 G_q210 rfl W211 0 rfl (Nat.le_of_ble_eq_true rfl)
    have V212_b191 := V209_b191.other W211 ne_b191_b208
    have Z212 := Nat.le_trans Z209 (Keep.of_wr W211).1
    have K212 : Keep h0 h211 [] := K209.wr W211 (Or.inr sz_b208)
    have N211 := Fr.snoc X211 N206 ge_b208
    refine Go.by st211 ?_
    show Go _ _ _ _ _ _ _ (T211.setTop (mkF m 53 #[.val (.int s0), .val (.long a1), .second, .val (.long a2), .second, .val (.long a3), .second, .val (.long a4), .second, .val (.long a5), .second, .val (.int (3 : Int32)), .val (.ref b191), .val (.ref b208), .unset] []))
    refine Go.by (fun _ kont => XS.iload X211.here hx rfl (hb hby at_53) rfl (XS.iconst X211.here hx rfl (hb hby at_55) kont)) ?_
    show Go _ _ _ _ _ _ _ (T211.setTop (mkF m 56 #[.val (.int s0), .val (.long a1), .second, .val (.long a2), .second, .val (.long a3), .second, .val (.long a4), .second, .val (.long a5), .second, .val (.int (3 : Int32)), .val (.ref b191), .val (.ref b208), .unset] [(.int (1 : Int32)), (.int (3 : Int32))]))
    refine Go.by (fun _ kont => XS.icmpNo X211.here hx rfl (hb hby at_56) rfl (by decide) kont) ?_
    show Go _ _ _ _ _ _ _ (T211.setTop (mkF m 59 #[.val (.int s0), .val (.long a1), .second, .val (.long a2), .second, .val (.long a3), .second, .val (.long a4), .second, .val (.long a5), .second, .val (.int (3 : Int32)), .val (.ref b191), .val (.ref b208), .unset] []))
    refine Go.by (fun _ kont => XS.aload X211.here hx rfl (hb hby at_59) rfl rfl (XS.iconst X211.here hx rfl (hb hby at_61) (XS.lloadN X211.here hx rfl (hb hby at_62) rfl kont))) ?_
    show Go _ _ _ _ _ _ _ (T211.setTop (mkF m 63 #[.val (.int s0), .val (.long a1), .second, .val (.long a2), .second, .val (.long a3), .second, .val (.long a4), .second, .val (.long a5), .second, .val (.int (3 : Int32)), .val (.ref b191), .val (.ref b208), .unset] [(.long a2), (.int (1 : Int32)), (.ref b208)]))
    obtain ⟨cl_q213, Ar_q213, q1_q213, S_q213, N_q213, H_q213, G_q213⟩ := id V211
    have hin_q213 : ¬ ((1 : Int32) < 0 ∨ cl_q213.slots.size ≤ ((1 : Int32)).toNatClampNeg) := inb_of S_q213 ⟨by decide, by decide⟩
    obtain ⟨T214, h214, X214, e214, W214, st214⟩ := stJ X211 hx hZ e211 Ar_q213 (j := (1 : Int32)) hin_q213 (g := (mkF m 63 #[.val (.int s0), .val (.long a1), .second, .val (.long a2), .second, .val (.long a3), .second, .val (.long a4), .second, .val (.long a5), .second, .val (.int (3 : Int32)), .val (.ref b191), .val (.ref b208), .unset] [(.long a2), (.int (1 : Int32)), (.ref b208)])) rfl rfl (hb hby at_63)
    have V214 : Arv Z h214 b208 k208 .long (3 : Int32) [(.long a1), (.long a2), (.long (0 : Int64))] (.long (0 : Int64)) := Arv.set Ar_q213 q1_q213 S_q213 N_q213 H_q213 G_q213 rfl W214 1 rfl (Nat.le_of_ble_eq_true rfl)
    have V215_b191 := V212_b191.other W214 ne_b191_b208
    have Z215 := Nat.le_trans Z212 (Keep.of_wr W214).1
    have K215 : Keep h0 h214 [] := K212.wr W214 (Or.inr sz_b208)
    have N214 := Fr.snoc X214 N211 ge_b208
    refine Go.by st214 ?_
    show Go _ _ _ _ _ _ _ (T214.setTop (mkF m 64 #[.val (.int s0), .val (.long a1), .second, .val (.long a2), .second, .val (.long a3), .second, .val (.long a4), .second, .val (.long a5), .second, .val (.int (3 : Int32)), .val (.ref b191), .val (.ref b208), .unset] []))
    refine Go.by (fun _ kont => XS.iload X214.here hx rfl (hb hby at_64) rfl (XS.iconst X214.here hx rfl (hb hby at_66) kont)) ?_
    show Go _ _ _ _ _ _ _ (T214.setTop (mkF m 67 #[.val (.int s0), .val (.long a1), .second, .val (.long a2), .second, .val (.long a3), .second, .val (.long a4), .second, .val (.long a5), .second, .val (.int (3 : Int32)), .val (.ref b191), .val (.ref b208), .unset] [(.int (2 : Int32)), (.int (3 : Int32))]))
    refine Go.by (fun _ kont => XS.icmpNo X214.here hx rfl (hb hby at_67) rfl (by decide) kont) ?_
    show Go _ _ _ _ _ _ _ (T214.setTop (mkF m 70 #[.val (.int s0), .val (.long a1), .second, .val (.long a2), .second, .val (.long a3), .second, .val (.long a4), .second, .val (.long a5), .second, .val (.int (3 : Int32)), .val (.ref b191), .val (.ref b208), .unset] []))
    refine Go.by (fun _ kont => XS.aload X214.here hx rfl (hb hby at_70) rfl rfl (XS.iconst X214.here hx rfl (hb hby at_72) (XS.lload X214.here hx rfl (hb hby at_73) rfl kont))) ?_
    show Go _ _ _ _ _ _ _ (T214.setTop (mkF m 75 #[.val (.int s0), .val (.long a1), .second, .val (.long a2), .second, .val (.long a3), .second, .val (.long a4), .second, .val (.long a5), .second, .val (.int (3 : Int32)), .val (.ref b191), .val (.ref b208), .unset] [(.long a3), (.int (2 : Int32)), (.ref b208)]))
    obtain ⟨cl_q216, Ar_q216, q1_q216, S_q216, N_q216, H_q216, G_q216⟩ := id V214
    have hin_q216 : ¬ ((2 : Int32) < 0 ∨ cl_q216.slots.size ≤ ((2 : Int32)).toNatClampNeg) := inb_of S_q216 ⟨by decide, by decide⟩
    obtain ⟨T217, h217, X217, e217, W217, st217⟩ := stJ X214 hx hZ e214 Ar_q216 (j := (2 : Int32)) hin_q216 (g := (mkF m 75 #[.val (.int s0), .val (.long a1), .second, .val (.long a2), .second, .val (.long a3), .second, .val (.long a4), .second, .val (.long a5), .second, .val (.int (3 : Int32)), .val (.ref b191), .val (.ref b208), .unset] [(.long a3), (.int (2 : Int32)), (.ref b208)])) rfl rfl (hb hby at_75)
    have V217 : Arv Z h217 b208 k208 .long (3 : Int32) [(.long a1), (.long a2), (.long a3)] (.long (0 : Int64)) := Arv.set Ar_q216 q1_q216 S_q216 N_q216 H_q216 G_q216 rfl W217 2 rfl (Nat.le_of_ble_eq_true rfl)
    have V218_b191 := V215_b191.other W217 ne_b191_b208
    have Z218 := Nat.le_trans Z215 (Keep.of_wr W217).1
    have K218 : Keep h0 h217 [] := K215.wr W217 (Or.inr sz_b208)
    have N217 := Fr.snoc X217 N214 ge_b208
    refine Go.by st217 ?_
    show Go _ _ _ _ _ _ _ (T217.setTop (mkF m 76 #[.val (.int s0), .val (.long a1), .second, .val (.long a2), .second, .val (.long a3), .second, .val (.long a4), .second, .val (.long a5), .second, .val (.int (3 : Int32)), .val (.ref b191), .val (.ref b208), .unset] []))
    refine Go.by (fun _ kont => XS.iload X217.here hx rfl (hb hby at_76) rfl (XS.iconst X217.here hx rfl (hb hby at_78) kont)) ?_
    show Go _ _ _ _ _ _ _ (T217.setTop (mkF m 79 #[.val (.int s0), .val (.long a1), .second, .val (.long a2), .second, .val (.long a3), .second, .val (.long a4), .second, .val (.long a5), .second, .val (.int (3 : Int32)), .val (.ref b191), .val (.ref b208), .unset] [(.int (3 : Int32)), (.int (3 : Int32))]))
    refine Go.by (fun _ kont => XS.icmpYes X217.here hx rfl (pc0 := 79) (pc' := 88) rfl (hb hby at_79) rfl (by decide) (by decide) (by decide) kont) ?_
    show Go _ _ _ _ _ _ _ (T217.setTop (mkF m 88 #[.val (.int s0), .val (.long a1), .second, .val (.long a2), .second, .val (.long a3), .second, .val (.long a4), .second, .val (.long a5), .second, .val (.int (3 : Int32)), .val (.ref b191), .val (.ref b208), .unset] []))
    refine Go.by (fun _ kont => XS.iload X217.here hx rfl (hb hby at_88) rfl (XS.iconst X217.here hx rfl (hb hby at_90) kont)) ?_
    show Go _ _ _ _ _ _ _ (T217.setTop (mkF m 91 #[.val (.int s0), .val (.long a1), .second, .val (.long a2), .second, .val (.long a3), .second, .val (.long a4), .second, .val (.long a5), .second, .val (.int (3 : Int32)), .val (.ref b191), .val (.ref b208), .unset] [(.int (4 : Int32)), (.int (3 : Int32))]))
    refine Go.by (fun _ kont => XS.icmpYes X217.here hx rfl (pc0 := 91) (pc' := 100) rfl (hb hby at_91) rfl (by decide) (by decide) (by decide) kont) ?_
    show Go _ _ _ _ _ _ _ (T217.setTop (mkF m 100 #[.val (.int s0), .val (.long a1), .second, .val (.long a2), .second, .val (.long a3), .second, .val (.long a4), .second, .val (.long a5), .second, .val (.int (3 : Int32)), .val (.ref b191), .val (.ref b208), .unset] []))
    refine Go.by (fun _ kont => XS.aload X217.here hx rfl (hb hby at_100) rfl rfl kont) ?_
    show Go _ _ _ _ _ _ _ (T217.setTop (mkF m 102 #[.val (.int s0), .val (.long a1), .second, .val (.long a2), .second, .val (.long a3), .second, .val (.long a4), .second, .val (.long a5), .second, .val (.int (3 : Int32)), .val (.ref b191), .val (.ref b208), .unset] [(.ref b208)]))
    obtain ⟨_, _, ⟨T219, L219, k219, n219⟩, -, X219, ⟨Lc219, hQ219, l219, y219, z219⟩, st219⟩ := Jvm.LawKit.callS X217 hx (y := (⟨"com/example/runs_to_nets/runstonets/core/PlaceTransitionSynthesis", "negated", "([J)[J"⟩ : MethodName)) hown (mvT hZ (hw _ (List.mem_of_getElem? (i := 2) rfl))) (mvT hZ (hw _ (List.mem_of_getElem? (i := 3) rfl))) (mvT hZ (hw _ (List.mem_of_getElem? (i := 4) rfl))) (mvT hZ (hw _ (List.mem_of_getElem? (i := 5) rfl))) (by decide) (backOf (W := 0) (rmN3 l Z a0 hw [] b208 k208 a1 a2 a3 h217 n0 Z218 V217) hZ (hw _ (List.mem_of_getElem? (i := 5) rfl)) (hw _ (List.mem_of_getElem? (i := 4) rfl)) (by decide) (by decide)) (g := (mkF m 102 #[.val (.int s0), .val (.long a1), .second, .val (.long a2), .second, .val (.long a3), .second, .val (.long a4), .second, .val (.long a5), .second, .val (.int (3 : Int32)), .val (.ref b191), .val (.ref b208), .unset] [(.ref b208)])) rfl (by rw [hml]; rfl) (argsL := [(.ref b208)]) (rest := []) (lenOf pd0_0 rfl) rfl (by show 2 * 0 + _ ≤ _; exact Nat.le_of_eq rfl) (hb hby at_102) (fun _ _ => ⟨rfl, e217, (by decide : 2 + 1 ≤ _), (by decide : 8 + 3 ≤ _)⟩)
    dsimp only [Pt.U, Pt.locs, Pt.cells, Pt.slots] at X219 l219 y219 z219 st219 hQ219
    subst l219 y219 z219
    obtain ⟨b102_219, k102_219, rfl, N219q, K219, ge_b102_219, szc_b102_219, g219_0⟩ := hQ219
    have ne_b191_b102_219 : b191 ≠ b102_219 := Nat.ne_of_lt (Nat.lt_of_lt_of_le V218_b191.lt szc_b102_219)
    have ne_b208_b102_219 : b208 ≠ b102_219 := Nat.ne_of_lt (Nat.lt_of_lt_of_le V217.lt szc_b102_219)
    have sz_b102_219 : h0.size ≤ b102_219 := Nat.le_trans K218.1 szc_b102_219
    have V220_b191 := V218_b191.keep K219 nin0
    have V220_b208 := V217.keep K219 nin0
    have Z220 := Nat.le_trans Z218 K219.1
    have K220 : Keep h0 T219.heap [] := Keep.trans K218 K219 all0
    have N219 := Fr.app N217 N219q
    refine Go.by st219 ?_
    show Go _ _ _ _ _ _ _ (T219.setTop (mkF m 105 #[.val (.int s0), .val (.long a1), .second, .val (.long a2), .second, .val (.long a3), .second, .val (.long a4), .second, .val (.long a5), .second, .val (.int (3 : Int32)), .val (.ref b191), .val (.ref b208), .unset] [(.ref b102_219)]))
    refine Go.by (fun _ kont => XS.astore X219.here hx rfl (hb hby at_105) rfl rfl (l' := #[.val (.int s0), .val (.long a1), .second, .val (.long a2), .second, .val (.long a3), .second, .val (.long a4), .second, .val (.long a5), .second, .val (.int (3 : Int32)), .val (.ref b191), .val (.ref b208), .val (.ref b102_219)]) rfl (XS.aload X219.here hx rfl (hb hby at_107) rfl rfl (XS.ifnullNo X219.here hx rfl (hb hby at_109) rfl (XS.aload X219.here hx rfl (hb hby at_112) rfl rfl kont)))) ?_
    show Go _ _ _ _ _ _ _ (T219.setTop (mkF m 114 #[.val (.int s0), .val (.long a1), .second, .val (.long a2), .second, .val (.long a3), .second, .val (.long a4), .second, .val (.long a5), .second, .val (.int (3 : Int32)), .val (.ref b191), .val (.ref b208), .val (.ref b102_219)] [(.ref b102_219)]))
    obtain ⟨cl_q221, Ar_q221, q1_q221, S_q221, N_q221, H_q221, G_q221⟩ := id g219_0
    refine Go.by (X219.arraylength hx (by first | exact Ar_q221.1 | (rw [rfl]; exact Ar_q221.1)) (State.isArrayOf_alike hZ.alike Ar_q221.2.1) (g := (mkF m 114 #[.val (.int s0), .val (.long a1), .second, .val (.long a2), .second, .val (.long a3), .second, .val (.long a4), .second, .val (.long a5), .second, .val (.int (3 : Int32)), .val (.ref b191), .val (.ref b208), .val (.ref b102_219)] [(.ref b102_219)])) rfl rfl (hb hby at_114)) ?_
    rw [len_of S_q221 N_q221]
    show Go _ _ _ _ _ _ _ (T219.setTop (mkF m 115 #[.val (.int s0), .val (.long a1), .second, .val (.long a2), .second, .val (.long a3), .second, .val (.long a4), .second, .val (.long a5), .second, .val (.int (3 : Int32)), .val (.ref b191), .val (.ref b208), .val (.ref b102_219)] [(.int (3 : Int32))]))
    refine Go.by (fun _ kont => XS.iload X219.here hx rfl (hb hby at_115) rfl kont) ?_
    show Go _ _ _ _ _ _ _ (T219.setTop (mkF m 117 #[.val (.int s0), .val (.long a1), .second, .val (.long a2), .second, .val (.long a3), .second, .val (.long a4), .second, .val (.long a5), .second, .val (.int (3 : Int32)), .val (.ref b191), .val (.ref b208), .val (.ref b102_219)] [(.int (3 : Int32)), (.int (3 : Int32))]))
    refine Go.by (fun _ kont => XS.icmpYes X219.here hx rfl (pc0 := 117) (pc' := 122) rfl (hb hby at_117) rfl (by decide) (by decide) (by decide) kont) ?_
    show Go _ _ _ _ _ _ _ (T219.setTop (mkF m 122 #[.val (.int s0), .val (.long a1), .second, .val (.long a2), .second, .val (.long a3), .second, .val (.long a4), .second, .val (.long a5), .second, .val (.int (3 : Int32)), .val (.ref b191), .val (.ref b208), .val (.ref b102_219)] []))
    refine Go.by (fun _ kont => XS.iload X219.here hx rfl (hb hby at_122) rfl kont) ?_
    show Go _ _ _ _ _ _ _ (T219.setTop (mkF m 124 #[.val (.int s0), .val (.long a1), .second, .val (.long a2), .second, .val (.long a3), .second, .val (.long a4), .second, .val (.long a5), .second, .val (.int (3 : Int32)), .val (.ref b191), .val (.ref b208), .val (.ref b102_219)] [(.int (3 : Int32))]))
    refine Go.by (fun _ kont => XS.ifNo X219.here hx rfl (hb hby at_124) rfl (by decide) kont) ?_
    show Go _ _ _ _ _ _ _ (T219.setTop (mkF m 127 #[.val (.int s0), .val (.long a1), .second, .val (.long a2), .second, .val (.long a3), .second, .val (.long a4), .second, .val (.long a5), .second, .val (.int (3 : Int32)), .val (.ref b191), .val (.ref b208), .val (.ref b102_219)] []))
    refine Go.by (fun _ kont => XS.aload X219.here hx rfl (hb hby at_127) rfl rfl (XS.aload X219.here hx rfl (hb hby at_129) rfl rfl kont)) ?_
    show Go _ _ _ _ _ _ _ (T219.setTop (mkF m 131 #[.val (.int s0), .val (.long a1), .second, .val (.long a2), .second, .val (.long a3), .second, .val (.long a4), .second, .val (.long a5), .second, .val (.int (3 : Int32)), .val (.ref b191), .val (.ref b208), .val (.ref b102_219)] [(.ref b208), (.ref b102_219)]))
    refine Go.by (fun _ kont => Jvm.RoadKit.acmp (g := (mkF m 131 #[.val (.int s0), .val (.long a1), .second, .val (.long a2), .second, .val (.long a3), .second, .val (.long a4), .second, .val (.long a5), .second, .val (.int (3 : Int32)), .val (.ref b191), .val (.ref b208), .val (.ref b102_219)] [(.ref b208), (.ref b102_219)])) X219 hx rfl rfl rfl (pc0 := 131) (pc' := 136) (same := false) rfl (hb hby at_131) rfl (decide_eq_false fun q => (Ne.symm ne_b208_b102_219) (Value.ref.inj q)) (by decide) (by decide) kont) ?_
    show Go _ _ _ _ _ _ _ (T219.setTop (mkF m 136 #[.val (.int s0), .val (.long a1), .second, .val (.long a2), .second, .val (.long a3), .second, .val (.long a4), .second, .val (.long a5), .second, .val (.int (3 : Int32)), .val (.ref b191), .val (.ref b208), .val (.ref b102_219)] []))
    refine Go.by (fun _ kont => XS.aload X219.here hx rfl (hb hby at_136) rfl rfl (XS.aload X219.here hx rfl (hb hby at_138) rfl rfl (XS.aload X219.here hx rfl (hb hby at_140) rfl rfl (XS.iconst X219.here hx rfl (hb hby at_142) (XS.iload X219.here hx rfl (hb hby at_143) rfl kont))))) ?_
    show Go _ _ _ _ _ _ _ (T219.setTop (mkF m 145 #[.val (.int s0), .val (.long a1), .second, .val (.long a2), .second, .val (.long a3), .second, .val (.long a4), .second, .val (.long a5), .second, .val (.int (3 : Int32)), .val (.ref b191), .val (.ref b208), .val (.ref b102_219)] [(.int (3 : Int32)), (.int (0 : Int32)), (.ref b191), (.ref b102_219), (.ref b208)]))
    obtain ⟨_, _, ⟨T222, L222, k222, n222⟩, -, X222, ⟨Lc222, hQ222, l222, y222, z222⟩, st222⟩ := Jvm.LawKit.callS X219 hx (y := (⟨"com/example/runs_to_nets/runstonets/core/PlaceTransitionSynthesisNegatedPinLaw", "ok", "([J[J[JII)Z"⟩ : MethodName)) hown (mvT hZ (hw _ (List.mem_of_getElem? (i := 6) rfl))) (mvT hZ (hw _ (List.mem_of_getElem? (i := 7) rfl))) (mvT hZ (hw _ (List.mem_of_getElem? (i := 8) rfl))) (mvT hZ (hw _ (List.mem_of_getElem? (i := 9) rfl))) (by decide) (backOf (W := 0) (rmK30 l Z a0 hw [] b208 b102_219 b191 k208 a1 a2 a3 k102_219 k191 a4 a5 T219.heap n0 Z220 V220_b208 g219_0 V220_b191) hZ (hw _ (List.mem_of_getElem? (i := 9) rfl)) (hw _ (List.mem_of_getElem? (i := 8) rfl)) (by decide) (by decide)) (g := (mkF m 145 #[.val (.int s0), .val (.long a1), .second, .val (.long a2), .second, .val (.long a3), .second, .val (.long a4), .second, .val (.long a5), .second, .val (.int (3 : Int32)), .val (.ref b191), .val (.ref b208), .val (.ref b102_219)] [(.int (3 : Int32)), (.int (0 : Int32)), (.ref b191), (.ref b102_219), (.ref b208)])) rfl (by rw [hml]; rfl) (argsL := [(.ref b208), (.ref b102_219), (.ref b191), (.int (0 : Int32)), (.int (3 : Int32))]) (rest := []) (lenOf pd0_1 rfl) rfl (by show 2 * 0 + _ ≤ _; exact Nat.le_of_eq rfl) (hb hby at_145) (fun _ _ => ⟨rfl, rfl, (by decide : 3 + 0 ≤ _), (by decide : 11 + 0 ≤ _)⟩)
    dsimp only [Pt.U, Pt.locs, Pt.cells, Pt.slots] at X222 l222 y222 z222 st222 hQ222
    subst l222 y222 z222
    obtain ⟨rfl, N222q, eh222⟩ := hQ222
    have N222 := Fr.app N219 N222q
    refine Go.by st222 ?_
    show Go _ _ _ _ _ _ _ (T222.setTop (mkF m 148 #[.val (.int s0), .val (.long a1), .second, .val (.long a2), .second, .val (.long a3), .second, .val (.long a4), .second, .val (.long a5), .second, .val (.int (3 : Int32)), .val (.ref b191), .val (.ref b208), .val (.ref b102_219)] [(.int (1 : Int32))]))
    refine Go.by (fun _ kont => XS.ifNo X222.here hx rfl (hb hby at_148) rfl (by decide) kont) ?_
    show Go _ _ _ _ _ _ _ (T222.setTop (mkF m 151 #[.val (.int s0), .val (.long a1), .second, .val (.long a2), .second, .val (.long a3), .second, .val (.long a4), .second, .val (.long a5), .second, .val (.int (3 : Int32)), .val (.ref b191), .val (.ref b208), .val (.ref b102_219)] []))
    refine Go.by (fun _ kont => XS.aload X222.here hx rfl (hb hby at_151) rfl rfl (XS.aload X222.here hx rfl (hb hby at_153) rfl rfl (XS.aload X222.here hx rfl (hb hby at_155) rfl rfl (XS.iconst X222.here hx rfl (hb hby at_157) (XS.iload X222.here hx rfl (hb hby at_158) rfl kont))))) ?_
    show Go _ _ _ _ _ _ _ (T222.setTop (mkF m 160 #[.val (.int s0), .val (.long a1), .second, .val (.long a2), .second, .val (.long a3), .second, .val (.long a4), .second, .val (.long a5), .second, .val (.int (3 : Int32)), .val (.ref b191), .val (.ref b208), .val (.ref b102_219)] [(.int (3 : Int32)), (.int (1 : Int32)), (.ref b191), (.ref b102_219), (.ref b208)]))
    obtain ⟨_, _, ⟨T223, L223, k223, n223⟩, -, X223, ⟨Lc223, hQ223, l223, y223, z223⟩, st223⟩ := Jvm.LawKit.callS X222 hx (y := (⟨"com/example/runs_to_nets/runstonets/core/PlaceTransitionSynthesisNegatedPinLaw", "ok", "([J[J[JII)Z"⟩ : MethodName)) hown (mvT hZ (hw _ (List.mem_of_getElem? (i := 6) rfl))) (mvT hZ (hw _ (List.mem_of_getElem? (i := 7) rfl))) (mvT hZ (hw _ (List.mem_of_getElem? (i := 8) rfl))) (mvT hZ (hw _ (List.mem_of_getElem? (i := 9) rfl))) (by decide) (backOf (W := 0) (rmK31 l Z a0 hw [] b208 b102_219 b191 k208 a1 a2 a3 k102_219 k191 a4 a5 T219.heap n0 Z220 V220_b208 g219_0 V220_b191) hZ (hw _ (List.mem_of_getElem? (i := 9) rfl)) (hw _ (List.mem_of_getElem? (i := 8) rfl)) (by decide) (by decide)) (g := (mkF m 160 #[.val (.int s0), .val (.long a1), .second, .val (.long a2), .second, .val (.long a3), .second, .val (.long a4), .second, .val (.long a5), .second, .val (.int (3 : Int32)), .val (.ref b191), .val (.ref b208), .val (.ref b102_219)] [(.int (3 : Int32)), (.int (1 : Int32)), (.ref b191), (.ref b102_219), (.ref b208)])) rfl (by rw [hml]; rfl) (argsL := [(.ref b208), (.ref b102_219), (.ref b191), (.int (1 : Int32)), (.int (3 : Int32))]) (rest := []) (lenOf pd0_1 rfl) rfl (by show 2 * 0 + _ ≤ _; exact Nat.le_of_eq rfl) (hb hby at_160) (fun _ _ => ⟨rfl, eh222, (by decide : 3 + 0 ≤ _), (by decide : 11 + 0 ≤ _)⟩)
    dsimp only [Pt.U, Pt.locs, Pt.cells, Pt.slots] at X223 l223 y223 z223 st223 hQ223
    subst l223 y223 z223
    obtain ⟨rfl, N223q, eh223⟩ := hQ223
    have N223 := Fr.app N222 N223q
    refine Go.by st223 ?_
    show Go _ _ _ _ _ _ _ (T223.setTop (mkF m 163 #[.val (.int s0), .val (.long a1), .second, .val (.long a2), .second, .val (.long a3), .second, .val (.long a4), .second, .val (.long a5), .second, .val (.int (3 : Int32)), .val (.ref b191), .val (.ref b208), .val (.ref b102_219)] [(.int (1 : Int32))]))
    refine Go.by (fun _ kont => XS.ifNo X223.here hx rfl (hb hby at_163) rfl (by decide) kont) ?_
    show Go _ _ _ _ _ _ _ (T223.setTop (mkF m 166 #[.val (.int s0), .val (.long a1), .second, .val (.long a2), .second, .val (.long a3), .second, .val (.long a4), .second, .val (.long a5), .second, .val (.int (3 : Int32)), .val (.ref b191), .val (.ref b208), .val (.ref b102_219)] []))
    refine Go.by (fun _ kont => XS.aload X223.here hx rfl (hb hby at_166) rfl rfl (XS.aload X223.here hx rfl (hb hby at_168) rfl rfl (XS.aload X223.here hx rfl (hb hby at_170) rfl rfl (XS.iconst X223.here hx rfl (hb hby at_172) (XS.iload X223.here hx rfl (hb hby at_173) rfl kont))))) ?_
    show Go _ _ _ _ _ _ _ (T223.setTop (mkF m 175 #[.val (.int s0), .val (.long a1), .second, .val (.long a2), .second, .val (.long a3), .second, .val (.long a4), .second, .val (.long a5), .second, .val (.int (3 : Int32)), .val (.ref b191), .val (.ref b208), .val (.ref b102_219)] [(.int (3 : Int32)), (.int (2 : Int32)), (.ref b191), (.ref b102_219), (.ref b208)]))
    obtain ⟨_, _, ⟨T224, L224, k224, n224⟩, -, X224, ⟨Lc224, hQ224, l224, y224, z224⟩, st224⟩ := Jvm.LawKit.callS X223 hx (y := (⟨"com/example/runs_to_nets/runstonets/core/PlaceTransitionSynthesisNegatedPinLaw", "ok", "([J[J[JII)Z"⟩ : MethodName)) hown (mvT hZ (hw _ (List.mem_of_getElem? (i := 6) rfl))) (mvT hZ (hw _ (List.mem_of_getElem? (i := 7) rfl))) (mvT hZ (hw _ (List.mem_of_getElem? (i := 8) rfl))) (mvT hZ (hw _ (List.mem_of_getElem? (i := 9) rfl))) (by decide) (backOf (W := 0) (rmK32 l Z a0 hw [] b208 b102_219 b191 k208 a1 a2 a3 k102_219 k191 a4 a5 T219.heap n0 Z220 V220_b208 g219_0 V220_b191) hZ (hw _ (List.mem_of_getElem? (i := 9) rfl)) (hw _ (List.mem_of_getElem? (i := 8) rfl)) (by decide) (by decide)) (g := (mkF m 175 #[.val (.int s0), .val (.long a1), .second, .val (.long a2), .second, .val (.long a3), .second, .val (.long a4), .second, .val (.long a5), .second, .val (.int (3 : Int32)), .val (.ref b191), .val (.ref b208), .val (.ref b102_219)] [(.int (3 : Int32)), (.int (2 : Int32)), (.ref b191), (.ref b102_219), (.ref b208)])) rfl (by rw [hml]; rfl) (argsL := [(.ref b208), (.ref b102_219), (.ref b191), (.int (2 : Int32)), (.int (3 : Int32))]) (rest := []) (lenOf pd0_1 rfl) rfl (by show 2 * 0 + _ ≤ _; exact Nat.le_of_eq rfl) (hb hby at_175) (fun _ _ => ⟨rfl, eh223, (by decide : 3 + 0 ≤ _), (by decide : 11 + 0 ≤ _)⟩)
    dsimp only [Pt.U, Pt.locs, Pt.cells, Pt.slots] at X224 l224 y224 z224 st224 hQ224
    subst l224 y224 z224
    obtain ⟨rfl, N224q, eh224⟩ := hQ224
    have N224 := Fr.app N223 N224q
    refine Go.by st224 ?_
    show Go _ _ _ _ _ _ _ (T224.setTop (mkF m 178 #[.val (.int s0), .val (.long a1), .second, .val (.long a2), .second, .val (.long a3), .second, .val (.long a4), .second, .val (.long a5), .second, .val (.int (3 : Int32)), .val (.ref b191), .val (.ref b208), .val (.ref b102_219)] [(.int (1 : Int32))]))
    refine Go.by (fun _ kont => XS.ifNo X224.here hx rfl (hb hby at_178) rfl (by decide) kont) ?_
    show Go _ _ _ _ _ _ _ (T224.setTop (mkF m 181 #[.val (.int s0), .val (.long a1), .second, .val (.long a2), .second, .val (.long a3), .second, .val (.long a4), .second, .val (.long a5), .second, .val (.int (3 : Int32)), .val (.ref b191), .val (.ref b208), .val (.ref b102_219)] []))
    refine Go.by (fun _ kont => XS.aload X224.here hx rfl (hb hby at_181) rfl rfl (XS.aload X224.here hx rfl (hb hby at_183) rfl rfl (XS.aload X224.here hx rfl (hb hby at_185) rfl rfl (XS.iconst X224.here hx rfl (hb hby at_187) (XS.iload X224.here hx rfl (hb hby at_188) rfl kont))))) ?_
    show Go _ _ _ _ _ _ _ (T224.setTop (mkF m 190 #[.val (.int s0), .val (.long a1), .second, .val (.long a2), .second, .val (.long a3), .second, .val (.long a4), .second, .val (.long a5), .second, .val (.int (3 : Int32)), .val (.ref b191), .val (.ref b208), .val (.ref b102_219)] [(.int (3 : Int32)), (.int (3 : Int32)), (.ref b191), (.ref b102_219), (.ref b208)]))
    obtain ⟨_, _, ⟨T225, L225, k225, n225⟩, -, X225, ⟨Lc225, hQ225, l225, y225, z225⟩, st225⟩ := Jvm.LawKit.callS X224 hx (y := (⟨"com/example/runs_to_nets/runstonets/core/PlaceTransitionSynthesisNegatedPinLaw", "ok", "([J[J[JII)Z"⟩ : MethodName)) hown (mvT hZ (hw _ (List.mem_of_getElem? (i := 6) rfl))) (mvT hZ (hw _ (List.mem_of_getElem? (i := 7) rfl))) (mvT hZ (hw _ (List.mem_of_getElem? (i := 8) rfl))) (mvT hZ (hw _ (List.mem_of_getElem? (i := 9) rfl))) (by decide) (backOf (W := 0) (rmK33 l Z a0 hw [] b208 b102_219 b191 T219.heap n0 Z220 ) hZ (hw _ (List.mem_of_getElem? (i := 9) rfl)) (hw _ (List.mem_of_getElem? (i := 8) rfl)) (by decide) (by decide)) (g := (mkF m 190 #[.val (.int s0), .val (.long a1), .second, .val (.long a2), .second, .val (.long a3), .second, .val (.long a4), .second, .val (.long a5), .second, .val (.int (3 : Int32)), .val (.ref b191), .val (.ref b208), .val (.ref b102_219)] [(.int (3 : Int32)), (.int (3 : Int32)), (.ref b191), (.ref b102_219), (.ref b208)])) rfl (by rw [hml]; rfl) (argsL := [(.ref b208), (.ref b102_219), (.ref b191), (.int (3 : Int32)), (.int (3 : Int32))]) (rest := []) (lenOf pd0_1 rfl) rfl (by show 2 * 0 + _ ≤ _; exact Nat.le_of_eq rfl) (hb hby at_190) (fun _ _ => ⟨rfl, eh224, (by decide : 3 + 0 ≤ _), (by decide : 11 + 0 ≤ _)⟩)
    dsimp only [Pt.U, Pt.locs, Pt.cells, Pt.slots] at X225 l225 y225 z225 st225 hQ225
    subst l225 y225 z225
    obtain ⟨rfl, N225q, eh225⟩ := hQ225
    have N225 := Fr.app N224 N225q
    refine Go.by st225 ?_
    show Go _ _ _ _ _ _ _ (T225.setTop (mkF m 193 #[.val (.int s0), .val (.long a1), .second, .val (.long a2), .second, .val (.long a3), .second, .val (.long a4), .second, .val (.long a5), .second, .val (.int (3 : Int32)), .val (.ref b191), .val (.ref b208), .val (.ref b102_219)] [(.int (1 : Int32))]))
    refine Go.by (fun _ kont => XS.ifNo X225.here hx rfl (hb hby at_193) rfl (by decide) kont) ?_
    show Go _ _ _ _ _ _ _ (T225.setTop (mkF m 196 #[.val (.int s0), .val (.long a1), .second, .val (.long a2), .second, .val (.long a3), .second, .val (.long a4), .second, .val (.long a5), .second, .val (.int (3 : Int32)), .val (.ref b191), .val (.ref b208), .val (.ref b102_219)] []))
    refine Go.by (fun _ kont => XS.aload X225.here hx rfl (hb hby at_196) rfl rfl (XS.aload X225.here hx rfl (hb hby at_198) rfl rfl (XS.aload X225.here hx rfl (hb hby at_200) rfl rfl (XS.iconst X225.here hx rfl (hb hby at_202) (XS.iload X225.here hx rfl (hb hby at_203) rfl kont))))) ?_
    show Go _ _ _ _ _ _ _ (T225.setTop (mkF m 205 #[.val (.int s0), .val (.long a1), .second, .val (.long a2), .second, .val (.long a3), .second, .val (.long a4), .second, .val (.long a5), .second, .val (.int (3 : Int32)), .val (.ref b191), .val (.ref b208), .val (.ref b102_219)] [(.int (3 : Int32)), (.int (4 : Int32)), (.ref b191), (.ref b102_219), (.ref b208)]))
    obtain ⟨_, _, ⟨T226, L226, k226, n226⟩, -, X226, ⟨Lc226, hQ226, l226, y226, z226⟩, st226⟩ := Jvm.LawKit.callS X225 hx (y := (⟨"com/example/runs_to_nets/runstonets/core/PlaceTransitionSynthesisNegatedPinLaw", "ok", "([J[J[JII)Z"⟩ : MethodName)) hown (mvT hZ (hw _ (List.mem_of_getElem? (i := 6) rfl))) (mvT hZ (hw _ (List.mem_of_getElem? (i := 7) rfl))) (mvT hZ (hw _ (List.mem_of_getElem? (i := 8) rfl))) (mvT hZ (hw _ (List.mem_of_getElem? (i := 9) rfl))) (by decide) (backOf (W := 0) (rmK34 l Z a0 hw [] b208 b102_219 b191 T219.heap n0 Z220 ) hZ (hw _ (List.mem_of_getElem? (i := 9) rfl)) (hw _ (List.mem_of_getElem? (i := 8) rfl)) (by decide) (by decide)) (g := (mkF m 205 #[.val (.int s0), .val (.long a1), .second, .val (.long a2), .second, .val (.long a3), .second, .val (.long a4), .second, .val (.long a5), .second, .val (.int (3 : Int32)), .val (.ref b191), .val (.ref b208), .val (.ref b102_219)] [(.int (3 : Int32)), (.int (4 : Int32)), (.ref b191), (.ref b102_219), (.ref b208)])) rfl (by rw [hml]; rfl) (argsL := [(.ref b208), (.ref b102_219), (.ref b191), (.int (4 : Int32)), (.int (3 : Int32))]) (rest := []) (lenOf pd0_1 rfl) rfl (by show 2 * 0 + _ ≤ _; exact Nat.le_of_eq rfl) (hb hby at_205) (fun _ _ => ⟨rfl, eh225, (by decide : 3 + 0 ≤ _), (by decide : 11 + 0 ≤ _)⟩)
    dsimp only [Pt.U, Pt.locs, Pt.cells, Pt.slots] at X226 l226 y226 z226 st226 hQ226
    subst l226 y226 z226
    obtain ⟨rfl, N226q, eh226⟩ := hQ226
    have N226 := Fr.app N225 N226q
    refine Go.by st226 ?_
    show Go _ _ _ _ _ _ _ (T226.setTop (mkF m 208 #[.val (.int s0), .val (.long a1), .second, .val (.long a2), .second, .val (.long a3), .second, .val (.long a4), .second, .val (.long a5), .second, .val (.int (3 : Int32)), .val (.ref b191), .val (.ref b208), .val (.ref b102_219)] [(.int (1 : Int32))]))
    refine Go.by (fun _ kont => XS.ifNo X226.here hx rfl (hb hby at_208) rfl (by decide) kont) ?_
    show Go _ _ _ _ _ _ _ (T226.setTop (mkF m 211 #[.val (.int s0), .val (.long a1), .second, .val (.long a2), .second, .val (.long a3), .second, .val (.long a4), .second, .val (.long a5), .second, .val (.int (3 : Int32)), .val (.ref b191), .val (.ref b208), .val (.ref b102_219)] []))
    refine Go.by (fun _ kont => XS.iconst X226.here hx rfl (hb hby at_211) (XS.goto X226.here hx rfl (pc0 := 212) (pc' := 216) rfl (hb hby at_212) (by decide) (by decide) kont)) ?_
    show Go _ _ _ _ _ _ _ (T226.setTop (mkF m 216 #[.val (.int s0), .val (.long a1), .second, .val (.long a2), .second, .val (.long a3), .second, .val (.long a4), .second, .val (.long a5), .second, .val (.int (3 : Int32)), .val (.ref b191), .val (.ref b208), .val (.ref b102_219)] [(.int (1 : Int32))]))
    refine Go.retN X226 hx (t := .boolean) hret (by simp) hlk (hb hby at_216) ?_ (by decide) (by decide)
    show Q0 Z h0 n0 (some (.int (1 : Int32))) T226.heap _
    rw [eh226]
    exact ⟨rfl, N226⟩
  · show Go _ _ _ _ _ _ _ (s₁.setTop (mkF m 9 #[.val (.int s0), .val (.long a1), .second, .val (.long a2), .second, .val (.long a3), .second, .val (.long a4), .second, .val (.long a5), .second, .val (.int (4 : Int32)), .unset, .unset, .unset] []))
    refine Go.by (fun _ kont => XS.iconst X0.here hx rfl (hb hby at_9) kont) ?_
    show Go _ _ _ _ _ _ _ (s₁.setTop (mkF m 10 #[.val (.int s0), .val (.long a1), .second, .val (.long a2), .second, .val (.long a3), .second, .val (.long a4), .second, .val (.long a5), .second, .val (.int (4 : Int32)), .unset, .unset, .unset] [(.int (5 : Int32))]))
    obtain ⟨T227, h227, k227, X227, e227, X_227, A227, st227⟩ := newP X0 hx hZ (hw _ (List.mem_of_getElem? (i := 1) rfl)) e0 (g := (mkF m 10 #[.val (.int s0), .val (.long a1), .second, .val (.long a2), .second, .val (.long a3), .second, .val (.long a4), .second, .val (.long a5), .second, .val (.int (4 : Int32)), .unset, .unset, .unset] [(.int (5 : Int32))])) rfl (hb hby at_10) rfl (by decide) (cap := 5) (by decide) (by decide) (by decide) (by decide)
    obtain ⟨b227, g227⟩ : ∃ z, z = h0.size := ⟨_, rfl⟩
    rw [← g227] at A227 st227
    have ge_b227 : n0 ≤ b227 := Nat.le_trans Z0 (Nat.le_of_eq g227.symm)
    have sz_b227 : h0.size ≤ b227 := Nat.le_trans (Keep.refl h0 []).1 (Nat.le_of_eq g227.symm)
    have Z228 := Nat.le_trans Z0 X_227.1
    have K228 : Keep h0 h227 [] := (Keep.refl h0 []).ext X_227
    have V227 : Arv Z h227 b227 k227 .long (5 : Int32) [(.long (0 : Int64)), (.long (0 : Int64)), (.long (0 : Int64)), (.long (0 : Int64)), (.long (0 : Int64))] (.long (0 : Int64)) := (Arv.new A227 (by decide)).pad (pad_rep [] (.long (0 : Int64)) 5)
    refine Go.by st227 ?_
    show Go _ _ _ _ _ _ _ (T227.setTop (mkF m 12 #[.val (.int s0), .val (.long a1), .second, .val (.long a2), .second, .val (.long a3), .second, .val (.long a4), .second, .val (.long a5), .second, .val (.int (4 : Int32)), .unset, .unset, .unset] [(.ref b227)]))
    refine Go.by (fun _ kont => XS.dup X227.here hx rfl (hb hby at_12) rfl rfl (XS.iconst X227.here hx rfl (hb hby at_13) (XS.lloadN X227.here hx rfl (hb hby at_14) rfl kont))) ?_
    show Go _ _ _ _ _ _ _ (T227.setTop (mkF m 15 #[.val (.int s0), .val (.long a1), .second, .val (.long a2), .second, .val (.long a3), .second, .val (.long a4), .second, .val (.long a5), .second, .val (.int (4 : Int32)), .unset, .unset, .unset] [(.long a1), (.int (0 : Int32)), (.ref b227), (.ref b227)]))
    obtain ⟨cl_q229, Ar_q229, q1_q229, S_q229, N_q229, H_q229, G_q229⟩ := id V227
    have hin_q229 : ¬ ((0 : Int32) < 0 ∨ cl_q229.slots.size ≤ ((0 : Int32)).toNatClampNeg) := inb_of S_q229 ⟨by decide, by decide⟩
    obtain ⟨T230, h230, X230, e230, W230, st230⟩ := stJ X227 hx hZ e227 Ar_q229 (j := (0 : Int32)) hin_q229 (g := (mkF m 15 #[.val (.int s0), .val (.long a1), .second, .val (.long a2), .second, .val (.long a3), .second, .val (.long a4), .second, .val (.long a5), .second, .val (.int (4 : Int32)), .unset, .unset, .unset] [(.long a1), (.int (0 : Int32)), (.ref b227), (.ref b227)])) rfl rfl (hb hby at_15)
    have V230 : Arv Z h230 b227 k227 .long (5 : Int32) [(.long a1), (.long (0 : Int64)), (.long (0 : Int64)), (.long (0 : Int64)), (.long (0 : Int64))] (.long (0 : Int64)) := Arv.set Ar_q229 q1_q229 S_q229 N_q229 H_q229 G_q229 rfl W230 0 rfl (Nat.le_of_ble_eq_true rfl)
    have Z231 := Nat.le_trans Z228 (Keep.of_wr W230).1
    have K231 : Keep h0 h230 [] := K228.wr W230 (Or.inr sz_b227)
    have N230 := Fr.snoc X230 N0 ge_b227
    refine Go.by st230 ?_
    show Go _ _ _ _ _ _ _ (T230.setTop (mkF m 16 #[.val (.int s0), .val (.long a1), .second, .val (.long a2), .second, .val (.long a3), .second, .val (.long a4), .second, .val (.long a5), .second, .val (.int (4 : Int32)), .unset, .unset, .unset] [(.ref b227)]))
    refine Go.by (fun _ kont => XS.dup X230.here hx rfl (hb hby at_16) rfl rfl (XS.iconst X230.here hx rfl (hb hby at_17) (XS.lloadN X230.here hx rfl (hb hby at_18) rfl kont))) ?_
    show Go _ _ _ _ _ _ _ (T230.setTop (mkF m 19 #[.val (.int s0), .val (.long a1), .second, .val (.long a2), .second, .val (.long a3), .second, .val (.long a4), .second, .val (.long a5), .second, .val (.int (4 : Int32)), .unset, .unset, .unset] [(.long a2), (.int (1 : Int32)), (.ref b227), (.ref b227)]))
    obtain ⟨cl_q232, Ar_q232, q1_q232, S_q232, N_q232, H_q232, G_q232⟩ := id V230
    have hin_q232 : ¬ ((1 : Int32) < 0 ∨ cl_q232.slots.size ≤ ((1 : Int32)).toNatClampNeg) := inb_of S_q232 ⟨by decide, by decide⟩
    obtain ⟨T233, h233, X233, e233, W233, st233⟩ := stJ X230 hx hZ e230 Ar_q232 (j := (1 : Int32)) hin_q232 (g := (mkF m 19 #[.val (.int s0), .val (.long a1), .second, .val (.long a2), .second, .val (.long a3), .second, .val (.long a4), .second, .val (.long a5), .second, .val (.int (4 : Int32)), .unset, .unset, .unset] [(.long a2), (.int (1 : Int32)), (.ref b227), (.ref b227)])) rfl rfl (hb hby at_19)
    have V233 : Arv Z h233 b227 k227 .long (5 : Int32) [(.long a1), (.long a2), (.long (0 : Int64)), (.long (0 : Int64)), (.long (0 : Int64))] (.long (0 : Int64)) := Arv.set Ar_q232 q1_q232 S_q232 N_q232 H_q232 G_q232 rfl W233 1 rfl (Nat.le_of_ble_eq_true rfl)
    have Z234 := Nat.le_trans Z231 (Keep.of_wr W233).1
    have K234 : Keep h0 h233 [] := K231.wr W233 (Or.inr sz_b227)
    have N233 := Fr.snoc X233 N230 ge_b227
    refine Go.by st233 ?_
    show Go _ _ _ _ _ _ _ (T233.setTop (mkF m 20 #[.val (.int s0), .val (.long a1), .second, .val (.long a2), .second, .val (.long a3), .second, .val (.long a4), .second, .val (.long a5), .second, .val (.int (4 : Int32)), .unset, .unset, .unset] [(.ref b227)]))
    refine Go.by (fun _ kont => XS.dup X233.here hx rfl (hb hby at_20) rfl rfl (XS.iconst X233.here hx rfl (hb hby at_21) (XS.lload X233.here hx rfl (hb hby at_22) rfl kont))) ?_
    show Go _ _ _ _ _ _ _ (T233.setTop (mkF m 24 #[.val (.int s0), .val (.long a1), .second, .val (.long a2), .second, .val (.long a3), .second, .val (.long a4), .second, .val (.long a5), .second, .val (.int (4 : Int32)), .unset, .unset, .unset] [(.long a3), (.int (2 : Int32)), (.ref b227), (.ref b227)]))
    obtain ⟨cl_q235, Ar_q235, q1_q235, S_q235, N_q235, H_q235, G_q235⟩ := id V233
    have hin_q235 : ¬ ((2 : Int32) < 0 ∨ cl_q235.slots.size ≤ ((2 : Int32)).toNatClampNeg) := inb_of S_q235 ⟨by decide, by decide⟩
    obtain ⟨T236, h236, X236, e236, W236, st236⟩ := stJ X233 hx hZ e233 Ar_q235 (j := (2 : Int32)) hin_q235 (g := (mkF m 24 #[.val (.int s0), .val (.long a1), .second, .val (.long a2), .second, .val (.long a3), .second, .val (.long a4), .second, .val (.long a5), .second, .val (.int (4 : Int32)), .unset, .unset, .unset] [(.long a3), (.int (2 : Int32)), (.ref b227), (.ref b227)])) rfl rfl (hb hby at_24)
    have V236 : Arv Z h236 b227 k227 .long (5 : Int32) [(.long a1), (.long a2), (.long a3), (.long (0 : Int64)), (.long (0 : Int64))] (.long (0 : Int64)) := Arv.set Ar_q235 q1_q235 S_q235 N_q235 H_q235 G_q235 rfl W236 2 rfl (Nat.le_of_ble_eq_true rfl)
    have Z237 := Nat.le_trans Z234 (Keep.of_wr W236).1
    have K237 : Keep h0 h236 [] := K234.wr W236 (Or.inr sz_b227)
    have N236 := Fr.snoc X236 N233 ge_b227
    refine Go.by st236 ?_
    show Go _ _ _ _ _ _ _ (T236.setTop (mkF m 25 #[.val (.int s0), .val (.long a1), .second, .val (.long a2), .second, .val (.long a3), .second, .val (.long a4), .second, .val (.long a5), .second, .val (.int (4 : Int32)), .unset, .unset, .unset] [(.ref b227)]))
    refine Go.by (fun _ kont => XS.dup X236.here hx rfl (hb hby at_25) rfl rfl (XS.iconst X236.here hx rfl (hb hby at_26) (XS.lload X236.here hx rfl (hb hby at_27) rfl kont))) ?_
    show Go _ _ _ _ _ _ _ (T236.setTop (mkF m 29 #[.val (.int s0), .val (.long a1), .second, .val (.long a2), .second, .val (.long a3), .second, .val (.long a4), .second, .val (.long a5), .second, .val (.int (4 : Int32)), .unset, .unset, .unset] [(.long a4), (.int (3 : Int32)), (.ref b227), (.ref b227)]))
    obtain ⟨cl_q238, Ar_q238, q1_q238, S_q238, N_q238, H_q238, G_q238⟩ := id V236
    have hin_q238 : ¬ ((3 : Int32) < 0 ∨ cl_q238.slots.size ≤ ((3 : Int32)).toNatClampNeg) := inb_of S_q238 ⟨by decide, by decide⟩
    obtain ⟨T239, h239, X239, e239, W239, st239⟩ := stJ X236 hx hZ e236 Ar_q238 (j := (3 : Int32)) hin_q238 (g := (mkF m 29 #[.val (.int s0), .val (.long a1), .second, .val (.long a2), .second, .val (.long a3), .second, .val (.long a4), .second, .val (.long a5), .second, .val (.int (4 : Int32)), .unset, .unset, .unset] [(.long a4), (.int (3 : Int32)), (.ref b227), (.ref b227)])) rfl rfl (hb hby at_29)
    have V239 : Arv Z h239 b227 k227 .long (5 : Int32) [(.long a1), (.long a2), (.long a3), (.long a4), (.long (0 : Int64))] (.long (0 : Int64)) := Arv.set Ar_q238 q1_q238 S_q238 N_q238 H_q238 G_q238 rfl W239 3 rfl (Nat.le_of_ble_eq_true rfl)
    have Z240 := Nat.le_trans Z237 (Keep.of_wr W239).1
    have K240 : Keep h0 h239 [] := K237.wr W239 (Or.inr sz_b227)
    have N239 := Fr.snoc X239 N236 ge_b227
    refine Go.by st239 ?_
    show Go _ _ _ _ _ _ _ (T239.setTop (mkF m 30 #[.val (.int s0), .val (.long a1), .second, .val (.long a2), .second, .val (.long a3), .second, .val (.long a4), .second, .val (.long a5), .second, .val (.int (4 : Int32)), .unset, .unset, .unset] [(.ref b227)]))
    refine Go.by (fun _ kont => XS.dup X239.here hx rfl (hb hby at_30) rfl rfl (XS.iconst X239.here hx rfl (hb hby at_31) (XS.lload X239.here hx rfl (hb hby at_32) rfl kont))) ?_
    show Go _ _ _ _ _ _ _ (T239.setTop (mkF m 34 #[.val (.int s0), .val (.long a1), .second, .val (.long a2), .second, .val (.long a3), .second, .val (.long a4), .second, .val (.long a5), .second, .val (.int (4 : Int32)), .unset, .unset, .unset] [(.long a5), (.int (4 : Int32)), (.ref b227), (.ref b227)]))
    obtain ⟨cl_q241, Ar_q241, q1_q241, S_q241, N_q241, H_q241, G_q241⟩ := id V239
    have hin_q241 : ¬ ((4 : Int32) < 0 ∨ cl_q241.slots.size ≤ ((4 : Int32)).toNatClampNeg) := inb_of S_q241 ⟨by decide, by decide⟩
    obtain ⟨T242, h242, X242, e242, W242, st242⟩ := stJ X239 hx hZ e239 Ar_q241 (j := (4 : Int32)) hin_q241 (g := (mkF m 34 #[.val (.int s0), .val (.long a1), .second, .val (.long a2), .second, .val (.long a3), .second, .val (.long a4), .second, .val (.long a5), .second, .val (.int (4 : Int32)), .unset, .unset, .unset] [(.long a5), (.int (4 : Int32)), (.ref b227), (.ref b227)])) rfl rfl (hb hby at_34)
    have V242 : Arv Z h242 b227 k227 .long (5 : Int32) [(.long a1), (.long a2), (.long a3), (.long a4), (.long a5)] (.long (0 : Int64)) := Arv.set Ar_q241 q1_q241 S_q241 N_q241 H_q241 G_q241 rfl W242 4 rfl (Nat.le_of_ble_eq_true rfl)
    have Z243 := Nat.le_trans Z240 (Keep.of_wr W242).1
    have K243 : Keep h0 h242 [] := K240.wr W242 (Or.inr sz_b227)
    have N242 := Fr.snoc X242 N239 ge_b227
    refine Go.by st242 ?_
    show Go _ _ _ _ _ _ _ (T242.setTop (mkF m 35 #[.val (.int s0), .val (.long a1), .second, .val (.long a2), .second, .val (.long a3), .second, .val (.long a4), .second, .val (.long a5), .second, .val (.int (4 : Int32)), .unset, .unset, .unset] [(.ref b227)]))
    refine Go.by (fun _ kont => XS.astore X242.here hx rfl (hb hby at_35) rfl rfl (l' := #[.val (.int s0), .val (.long a1), .second, .val (.long a2), .second, .val (.long a3), .second, .val (.long a4), .second, .val (.long a5), .second, .val (.int (4 : Int32)), .val (.ref b227), .unset, .unset]) rfl (XS.iload X242.here hx rfl (hb hby at_37) rfl kont)) ?_
    show Go _ _ _ _ _ _ _ (T242.setTop (mkF m 39 #[.val (.int s0), .val (.long a1), .second, .val (.long a2), .second, .val (.long a3), .second, .val (.long a4), .second, .val (.long a5), .second, .val (.int (4 : Int32)), .val (.ref b227), .unset, .unset] [(.int (4 : Int32))]))
    obtain ⟨T244, h244, k244, X244, e244, X_244, A244, st244⟩ := newP X242 hx hZ (hw _ (List.mem_of_getElem? (i := 1) rfl)) e242 (g := (mkF m 39 #[.val (.int s0), .val (.long a1), .second, .val (.long a2), .second, .val (.long a3), .second, .val (.long a4), .second, .val (.long a5), .second, .val (.int (4 : Int32)), .val (.ref b227), .unset, .unset] [(.int (4 : Int32))])) rfl (hb hby at_39) rfl (by decide) (cap := 4) (by decide) (by decide) (by decide) (by decide)
    obtain ⟨b244, g244⟩ : ∃ z, z = h242.size := ⟨_, rfl⟩
    rw [← g244] at A244 st244
    have ne_b227_b244 : b227 ≠ b244 := Nat.ne_of_lt (Nat.lt_of_lt_of_le V242.lt (Nat.le_of_eq g244.symm))
    have ge_b244 : n0 ≤ b244 := Nat.le_trans Z243 (Nat.le_of_eq g244.symm)
    have sz_b244 : h0.size ≤ b244 := Nat.le_trans K243.1 (Nat.le_of_eq g244.symm)
    have V245_b227 := V242.ext X_244
    have Z245 := Nat.le_trans Z243 X_244.1
    have K245 : Keep h0 h244 [] := K243.ext X_244
    have V244 : Arv Z h244 b244 k244 .long (4 : Int32) [(.long (0 : Int64)), (.long (0 : Int64)), (.long (0 : Int64)), (.long (0 : Int64))] (.long (0 : Int64)) := (Arv.new A244 (by decide)).pad (pad_rep [] (.long (0 : Int64)) 4)
    refine Go.by st244 ?_
    show Go _ _ _ _ _ _ _ (T244.setTop (mkF m 41 #[.val (.int s0), .val (.long a1), .second, .val (.long a2), .second, .val (.long a3), .second, .val (.long a4), .second, .val (.long a5), .second, .val (.int (4 : Int32)), .val (.ref b227), .unset, .unset] [(.ref b244)]))
    refine Go.by (fun _ kont => XS.astore X244.here hx rfl (hb hby at_41) rfl rfl (l' := #[.val (.int s0), .val (.long a1), .second, .val (.long a2), .second, .val (.long a3), .second, .val (.long a4), .second, .val (.long a5), .second, .val (.int (4 : Int32)), .val (.ref b227), .val (.ref b244), .unset]) rfl (XS.iload X244.here hx rfl (hb hby at_43) rfl kont)) ?_
    show Go _ _ _ _ _ _ _ (T244.setTop (mkF m 45 #[.val (.int s0), .val (.long a1), .second, .val (.long a2), .second, .val (.long a3), .second, .val (.long a4), .second, .val (.long a5), .second, .val (.int (4 : Int32)), .val (.ref b227), .val (.ref b244), .unset] [(.int (4 : Int32))]))
    refine Go.by (fun _ kont => XS.ifNo X244.here hx rfl (hb hby at_45) rfl (by decide) kont) ?_
    show Go _ _ _ _ _ _ _ (T244.setTop (mkF m 48 #[.val (.int s0), .val (.long a1), .second, .val (.long a2), .second, .val (.long a3), .second, .val (.long a4), .second, .val (.long a5), .second, .val (.int (4 : Int32)), .val (.ref b227), .val (.ref b244), .unset] []))
    refine Go.by (fun _ kont => XS.aload X244.here hx rfl (hb hby at_48) rfl rfl (XS.iconst X244.here hx rfl (hb hby at_50) (XS.lloadN X244.here hx rfl (hb hby at_51) rfl kont))) ?_
    show Go _ _ _ _ _ _ _ (T244.setTop (mkF m 52 #[.val (.int s0), .val (.long a1), .second, .val (.long a2), .second, .val (.long a3), .second, .val (.long a4), .second, .val (.long a5), .second, .val (.int (4 : Int32)), .val (.ref b227), .val (.ref b244), .unset] [(.long a1), (.int (0 : Int32)), (.ref b244)]))
    obtain ⟨cl_q246, Ar_q246, q1_q246, S_q246, N_q246, H_q246, G_q246⟩ := id V244
    have hin_q246 : ¬ ((0 : Int32) < 0 ∨ cl_q246.slots.size ≤ ((0 : Int32)).toNatClampNeg) := inb_of S_q246 ⟨by decide, by decide⟩
    obtain ⟨T247, h247, X247, e247, W247, st247⟩ := stJ X244 hx hZ e244 Ar_q246 (j := (0 : Int32)) hin_q246 (g := (mkF m 52 #[.val (.int s0), .val (.long a1), .second, .val (.long a2), .second, .val (.long a3), .second, .val (.long a4), .second, .val (.long a5), .second, .val (.int (4 : Int32)), .val (.ref b227), .val (.ref b244), .unset] [(.long a1), (.int (0 : Int32)), (.ref b244)])) rfl rfl (hb hby at_52)
    have V247 : Arv Z h247 b244 k244 .long (4 : Int32) [(.long a1), (.long (0 : Int64)), (.long (0 : Int64)), (.long (0 : Int64))] (.long (0 : Int64)) := Arv.set Ar_q246 q1_q246 S_q246 N_q246 H_q246 G_q246 rfl W247 0 rfl (Nat.le_of_ble_eq_true rfl)
    have V248_b227 := V245_b227.other W247 ne_b227_b244
    have Z248 := Nat.le_trans Z245 (Keep.of_wr W247).1
    have K248 : Keep h0 h247 [] := K245.wr W247 (Or.inr sz_b244)
    have N247 := Fr.snoc X247 N242 ge_b244
    refine Go.by st247 ?_
    show Go _ _ _ _ _ _ _ (T247.setTop (mkF m 53 #[.val (.int s0), .val (.long a1), .second, .val (.long a2), .second, .val (.long a3), .second, .val (.long a4), .second, .val (.long a5), .second, .val (.int (4 : Int32)), .val (.ref b227), .val (.ref b244), .unset] []))
    refine Go.by (fun _ kont => XS.iload X247.here hx rfl (hb hby at_53) rfl (XS.iconst X247.here hx rfl (hb hby at_55) kont)) ?_
    show Go _ _ _ _ _ _ _ (T247.setTop (mkF m 56 #[.val (.int s0), .val (.long a1), .second, .val (.long a2), .second, .val (.long a3), .second, .val (.long a4), .second, .val (.long a5), .second, .val (.int (4 : Int32)), .val (.ref b227), .val (.ref b244), .unset] [(.int (1 : Int32)), (.int (4 : Int32))]))
    refine Go.by (fun _ kont => XS.icmpNo X247.here hx rfl (hb hby at_56) rfl (by decide) kont) ?_
    show Go _ _ _ _ _ _ _ (T247.setTop (mkF m 59 #[.val (.int s0), .val (.long a1), .second, .val (.long a2), .second, .val (.long a3), .second, .val (.long a4), .second, .val (.long a5), .second, .val (.int (4 : Int32)), .val (.ref b227), .val (.ref b244), .unset] []))
    refine Go.by (fun _ kont => XS.aload X247.here hx rfl (hb hby at_59) rfl rfl (XS.iconst X247.here hx rfl (hb hby at_61) (XS.lloadN X247.here hx rfl (hb hby at_62) rfl kont))) ?_
    show Go _ _ _ _ _ _ _ (T247.setTop (mkF m 63 #[.val (.int s0), .val (.long a1), .second, .val (.long a2), .second, .val (.long a3), .second, .val (.long a4), .second, .val (.long a5), .second, .val (.int (4 : Int32)), .val (.ref b227), .val (.ref b244), .unset] [(.long a2), (.int (1 : Int32)), (.ref b244)]))
    obtain ⟨cl_q249, Ar_q249, q1_q249, S_q249, N_q249, H_q249, G_q249⟩ := id V247
    have hin_q249 : ¬ ((1 : Int32) < 0 ∨ cl_q249.slots.size ≤ ((1 : Int32)).toNatClampNeg) := inb_of S_q249 ⟨by decide, by decide⟩
    obtain ⟨T250, h250, X250, e250, W250, st250⟩ := stJ X247 hx hZ e247 Ar_q249 (j := (1 : Int32)) hin_q249 (g := (mkF m 63 #[.val (.int s0), .val (.long a1), .second, .val (.long a2), .second, .val (.long a3), .second, .val (.long a4), .second, .val (.long a5), .second, .val (.int (4 : Int32)), .val (.ref b227), .val (.ref b244), .unset] [(.long a2), (.int (1 : Int32)), (.ref b244)])) rfl rfl (hb hby at_63)
    have V250 : Arv Z h250 b244 k244 .long (4 : Int32) [(.long a1), (.long a2), (.long (0 : Int64)), (.long (0 : Int64))] (.long (0 : Int64)) := Arv.set Ar_q249 q1_q249 S_q249 N_q249 H_q249 G_q249 rfl W250 1 rfl (Nat.le_of_ble_eq_true rfl)
    have V251_b227 := V248_b227.other W250 ne_b227_b244
    have Z251 := Nat.le_trans Z248 (Keep.of_wr W250).1
    have K251 : Keep h0 h250 [] := K248.wr W250 (Or.inr sz_b244)
    have N250 := Fr.snoc X250 N247 ge_b244
    refine Go.by st250 ?_
    show Go _ _ _ _ _ _ _ (T250.setTop (mkF m 64 #[.val (.int s0), .val (.long a1), .second, .val (.long a2), .second, .val (.long a3), .second, .val (.long a4), .second, .val (.long a5), .second, .val (.int (4 : Int32)), .val (.ref b227), .val (.ref b244), .unset] []))
    refine Go.by (fun _ kont => XS.iload X250.here hx rfl (hb hby at_64) rfl (XS.iconst X250.here hx rfl (hb hby at_66) kont)) ?_
    show Go _ _ _ _ _ _ _ (T250.setTop (mkF m 67 #[.val (.int s0), .val (.long a1), .second, .val (.long a2), .second, .val (.long a3), .second, .val (.long a4), .second, .val (.long a5), .second, .val (.int (4 : Int32)), .val (.ref b227), .val (.ref b244), .unset] [(.int (2 : Int32)), (.int (4 : Int32))]))
    refine Go.by (fun _ kont => XS.icmpNo X250.here hx rfl (hb hby at_67) rfl (by decide) kont) ?_
    show Go _ _ _ _ _ _ _ (T250.setTop (mkF m 70 #[.val (.int s0), .val (.long a1), .second, .val (.long a2), .second, .val (.long a3), .second, .val (.long a4), .second, .val (.long a5), .second, .val (.int (4 : Int32)), .val (.ref b227), .val (.ref b244), .unset] []))
    refine Go.by (fun _ kont => XS.aload X250.here hx rfl (hb hby at_70) rfl rfl (XS.iconst X250.here hx rfl (hb hby at_72) (XS.lload X250.here hx rfl (hb hby at_73) rfl kont))) ?_
    show Go _ _ _ _ _ _ _ (T250.setTop (mkF m 75 #[.val (.int s0), .val (.long a1), .second, .val (.long a2), .second, .val (.long a3), .second, .val (.long a4), .second, .val (.long a5), .second, .val (.int (4 : Int32)), .val (.ref b227), .val (.ref b244), .unset] [(.long a3), (.int (2 : Int32)), (.ref b244)]))
    obtain ⟨cl_q252, Ar_q252, q1_q252, S_q252, N_q252, H_q252, G_q252⟩ := id V250
    have hin_q252 : ¬ ((2 : Int32) < 0 ∨ cl_q252.slots.size ≤ ((2 : Int32)).toNatClampNeg) := inb_of S_q252 ⟨by decide, by decide⟩
    obtain ⟨T253, h253, X253, e253, W253, st253⟩ := stJ X250 hx hZ e250 Ar_q252 (j := (2 : Int32)) hin_q252 (g := (mkF m 75 #[.val (.int s0), .val (.long a1), .second, .val (.long a2), .second, .val (.long a3), .second, .val (.long a4), .second, .val (.long a5), .second, .val (.int (4 : Int32)), .val (.ref b227), .val (.ref b244), .unset] [(.long a3), (.int (2 : Int32)), (.ref b244)])) rfl rfl (hb hby at_75)
    have V253 : Arv Z h253 b244 k244 .long (4 : Int32) [(.long a1), (.long a2), (.long a3), (.long (0 : Int64))] (.long (0 : Int64)) := Arv.set Ar_q252 q1_q252 S_q252 N_q252 H_q252 G_q252 rfl W253 2 rfl (Nat.le_of_ble_eq_true rfl)
    have V254_b227 := V251_b227.other W253 ne_b227_b244
    have Z254 := Nat.le_trans Z251 (Keep.of_wr W253).1
    have K254 : Keep h0 h253 [] := K251.wr W253 (Or.inr sz_b244)
    have N253 := Fr.snoc X253 N250 ge_b244
    refine Go.by st253 ?_
    show Go _ _ _ _ _ _ _ (T253.setTop (mkF m 76 #[.val (.int s0), .val (.long a1), .second, .val (.long a2), .second, .val (.long a3), .second, .val (.long a4), .second, .val (.long a5), .second, .val (.int (4 : Int32)), .val (.ref b227), .val (.ref b244), .unset] []))
    refine Go.by (fun _ kont => XS.iload X253.here hx rfl (hb hby at_76) rfl (XS.iconst X253.here hx rfl (hb hby at_78) kont)) ?_
    show Go _ _ _ _ _ _ _ (T253.setTop (mkF m 79 #[.val (.int s0), .val (.long a1), .second, .val (.long a2), .second, .val (.long a3), .second, .val (.long a4), .second, .val (.long a5), .second, .val (.int (4 : Int32)), .val (.ref b227), .val (.ref b244), .unset] [(.int (3 : Int32)), (.int (4 : Int32))]))
    refine Go.by (fun _ kont => XS.icmpNo X253.here hx rfl (hb hby at_79) rfl (by decide) kont) ?_
    show Go _ _ _ _ _ _ _ (T253.setTop (mkF m 82 #[.val (.int s0), .val (.long a1), .second, .val (.long a2), .second, .val (.long a3), .second, .val (.long a4), .second, .val (.long a5), .second, .val (.int (4 : Int32)), .val (.ref b227), .val (.ref b244), .unset] []))
    refine Go.by (fun _ kont => XS.aload X253.here hx rfl (hb hby at_82) rfl rfl (XS.iconst X253.here hx rfl (hb hby at_84) (XS.lload X253.here hx rfl (hb hby at_85) rfl kont))) ?_
    show Go _ _ _ _ _ _ _ (T253.setTop (mkF m 87 #[.val (.int s0), .val (.long a1), .second, .val (.long a2), .second, .val (.long a3), .second, .val (.long a4), .second, .val (.long a5), .second, .val (.int (4 : Int32)), .val (.ref b227), .val (.ref b244), .unset] [(.long a4), (.int (3 : Int32)), (.ref b244)]))
    obtain ⟨cl_q255, Ar_q255, q1_q255, S_q255, N_q255, H_q255, G_q255⟩ := id V253
    have hin_q255 : ¬ ((3 : Int32) < 0 ∨ cl_q255.slots.size ≤ ((3 : Int32)).toNatClampNeg) := inb_of S_q255 ⟨by decide, by decide⟩
    obtain ⟨T256, h256, X256, e256, W256, st256⟩ := stJ X253 hx hZ e253 Ar_q255 (j := (3 : Int32)) hin_q255 (g := (mkF m 87 #[.val (.int s0), .val (.long a1), .second, .val (.long a2), .second, .val (.long a3), .second, .val (.long a4), .second, .val (.long a5), .second, .val (.int (4 : Int32)), .val (.ref b227), .val (.ref b244), .unset] [(.long a4), (.int (3 : Int32)), (.ref b244)])) rfl rfl (hb hby at_87)
    have V256 : Arv Z h256 b244 k244 .long (4 : Int32) [(.long a1), (.long a2), (.long a3), (.long a4)] (.long (0 : Int64)) := Arv.set Ar_q255 q1_q255 S_q255 N_q255 H_q255 G_q255 rfl W256 3 rfl (Nat.le_of_ble_eq_true rfl)
    have V257_b227 := V254_b227.other W256 ne_b227_b244
    have Z257 := Nat.le_trans Z254 (Keep.of_wr W256).1
    have K257 : Keep h0 h256 [] := K254.wr W256 (Or.inr sz_b244)
    have N256 := Fr.snoc X256 N253 ge_b244
    refine Go.by st256 ?_
    show Go _ _ _ _ _ _ _ (T256.setTop (mkF m 88 #[.val (.int s0), .val (.long a1), .second, .val (.long a2), .second, .val (.long a3), .second, .val (.long a4), .second, .val (.long a5), .second, .val (.int (4 : Int32)), .val (.ref b227), .val (.ref b244), .unset] []))
    refine Go.by (fun _ kont => XS.iload X256.here hx rfl (hb hby at_88) rfl (XS.iconst X256.here hx rfl (hb hby at_90) kont)) ?_
    show Go _ _ _ _ _ _ _ (T256.setTop (mkF m 91 #[.val (.int s0), .val (.long a1), .second, .val (.long a2), .second, .val (.long a3), .second, .val (.long a4), .second, .val (.long a5), .second, .val (.int (4 : Int32)), .val (.ref b227), .val (.ref b244), .unset] [(.int (4 : Int32)), (.int (4 : Int32))]))
    refine Go.by (fun _ kont => XS.icmpYes X256.here hx rfl (pc0 := 91) (pc' := 100) rfl (hb hby at_91) rfl (by decide) (by decide) (by decide) kont) ?_
    show Go _ _ _ _ _ _ _ (T256.setTop (mkF m 100 #[.val (.int s0), .val (.long a1), .second, .val (.long a2), .second, .val (.long a3), .second, .val (.long a4), .second, .val (.long a5), .second, .val (.int (4 : Int32)), .val (.ref b227), .val (.ref b244), .unset] []))
    refine Go.by (fun _ kont => XS.aload X256.here hx rfl (hb hby at_100) rfl rfl kont) ?_
    show Go _ _ _ _ _ _ _ (T256.setTop (mkF m 102 #[.val (.int s0), .val (.long a1), .second, .val (.long a2), .second, .val (.long a3), .second, .val (.long a4), .second, .val (.long a5), .second, .val (.int (4 : Int32)), .val (.ref b227), .val (.ref b244), .unset] [(.ref b244)]))
    obtain ⟨_, _, ⟨T258, L258, k258, n258⟩, -, X258, ⟨Lc258, hQ258, l258, y258, z258⟩, st258⟩ := Jvm.LawKit.callS X256 hx (y := (⟨"com/example/runs_to_nets/runstonets/core/PlaceTransitionSynthesis", "negated", "([J)[J"⟩ : MethodName)) hown (mvT hZ (hw _ (List.mem_of_getElem? (i := 2) rfl))) (mvT hZ (hw _ (List.mem_of_getElem? (i := 3) rfl))) (mvT hZ (hw _ (List.mem_of_getElem? (i := 4) rfl))) (mvT hZ (hw _ (List.mem_of_getElem? (i := 5) rfl))) (by decide) (backOf (W := 0) (rmN4 l Z a0 hw [] b244 k244 a1 a2 a3 a4 h256 n0 Z257 V256) hZ (hw _ (List.mem_of_getElem? (i := 5) rfl)) (hw _ (List.mem_of_getElem? (i := 4) rfl)) (by decide) (by decide)) (g := (mkF m 102 #[.val (.int s0), .val (.long a1), .second, .val (.long a2), .second, .val (.long a3), .second, .val (.long a4), .second, .val (.long a5), .second, .val (.int (4 : Int32)), .val (.ref b227), .val (.ref b244), .unset] [(.ref b244)])) rfl (by rw [hml]; rfl) (argsL := [(.ref b244)]) (rest := []) (lenOf pd0_0 rfl) rfl (by show 2 * 0 + _ ≤ _; exact Nat.le_of_eq rfl) (hb hby at_102) (fun _ _ => ⟨rfl, e256, (by decide : 2 + 1 ≤ _), (by decide : 9 + 4 ≤ _)⟩)
    dsimp only [Pt.U, Pt.locs, Pt.cells, Pt.slots] at X258 l258 y258 z258 st258 hQ258
    subst l258 y258 z258
    obtain ⟨b102_258, k102_258, rfl, N258q, K258, ge_b102_258, szc_b102_258, g258_0⟩ := hQ258
    have ne_b227_b102_258 : b227 ≠ b102_258 := Nat.ne_of_lt (Nat.lt_of_lt_of_le V257_b227.lt szc_b102_258)
    have ne_b244_b102_258 : b244 ≠ b102_258 := Nat.ne_of_lt (Nat.lt_of_lt_of_le V256.lt szc_b102_258)
    have sz_b102_258 : h0.size ≤ b102_258 := Nat.le_trans K257.1 szc_b102_258
    have V259_b227 := V257_b227.keep K258 nin0
    have V259_b244 := V256.keep K258 nin0
    have Z259 := Nat.le_trans Z257 K258.1
    have K259 : Keep h0 T258.heap [] := Keep.trans K257 K258 all0
    have N258 := Fr.app N256 N258q
    refine Go.by st258 ?_
    show Go _ _ _ _ _ _ _ (T258.setTop (mkF m 105 #[.val (.int s0), .val (.long a1), .second, .val (.long a2), .second, .val (.long a3), .second, .val (.long a4), .second, .val (.long a5), .second, .val (.int (4 : Int32)), .val (.ref b227), .val (.ref b244), .unset] [(.ref b102_258)]))
    refine Go.by (fun _ kont => XS.astore X258.here hx rfl (hb hby at_105) rfl rfl (l' := #[.val (.int s0), .val (.long a1), .second, .val (.long a2), .second, .val (.long a3), .second, .val (.long a4), .second, .val (.long a5), .second, .val (.int (4 : Int32)), .val (.ref b227), .val (.ref b244), .val (.ref b102_258)]) rfl (XS.aload X258.here hx rfl (hb hby at_107) rfl rfl (XS.ifnullNo X258.here hx rfl (hb hby at_109) rfl (XS.aload X258.here hx rfl (hb hby at_112) rfl rfl kont)))) ?_
    show Go _ _ _ _ _ _ _ (T258.setTop (mkF m 114 #[.val (.int s0), .val (.long a1), .second, .val (.long a2), .second, .val (.long a3), .second, .val (.long a4), .second, .val (.long a5), .second, .val (.int (4 : Int32)), .val (.ref b227), .val (.ref b244), .val (.ref b102_258)] [(.ref b102_258)]))
    obtain ⟨cl_q260, Ar_q260, q1_q260, S_q260, N_q260, H_q260, G_q260⟩ := id g258_0
    refine Go.by (X258.arraylength hx (by first | exact Ar_q260.1 | (rw [rfl]; exact Ar_q260.1)) (State.isArrayOf_alike hZ.alike Ar_q260.2.1) (g := (mkF m 114 #[.val (.int s0), .val (.long a1), .second, .val (.long a2), .second, .val (.long a3), .second, .val (.long a4), .second, .val (.long a5), .second, .val (.int (4 : Int32)), .val (.ref b227), .val (.ref b244), .val (.ref b102_258)] [(.ref b102_258)])) rfl rfl (hb hby at_114)) ?_
    rw [len_of S_q260 N_q260]
    show Go _ _ _ _ _ _ _ (T258.setTop (mkF m 115 #[.val (.int s0), .val (.long a1), .second, .val (.long a2), .second, .val (.long a3), .second, .val (.long a4), .second, .val (.long a5), .second, .val (.int (4 : Int32)), .val (.ref b227), .val (.ref b244), .val (.ref b102_258)] [(.int (4 : Int32))]))
    refine Go.by (fun _ kont => XS.iload X258.here hx rfl (hb hby at_115) rfl kont) ?_
    show Go _ _ _ _ _ _ _ (T258.setTop (mkF m 117 #[.val (.int s0), .val (.long a1), .second, .val (.long a2), .second, .val (.long a3), .second, .val (.long a4), .second, .val (.long a5), .second, .val (.int (4 : Int32)), .val (.ref b227), .val (.ref b244), .val (.ref b102_258)] [(.int (4 : Int32)), (.int (4 : Int32))]))
    refine Go.by (fun _ kont => XS.icmpYes X258.here hx rfl (pc0 := 117) (pc' := 122) rfl (hb hby at_117) rfl (by decide) (by decide) (by decide) kont) ?_
    show Go _ _ _ _ _ _ _ (T258.setTop (mkF m 122 #[.val (.int s0), .val (.long a1), .second, .val (.long a2), .second, .val (.long a3), .second, .val (.long a4), .second, .val (.long a5), .second, .val (.int (4 : Int32)), .val (.ref b227), .val (.ref b244), .val (.ref b102_258)] []))
    refine Go.by (fun _ kont => XS.iload X258.here hx rfl (hb hby at_122) rfl kont) ?_
    show Go _ _ _ _ _ _ _ (T258.setTop (mkF m 124 #[.val (.int s0), .val (.long a1), .second, .val (.long a2), .second, .val (.long a3), .second, .val (.long a4), .second, .val (.long a5), .second, .val (.int (4 : Int32)), .val (.ref b227), .val (.ref b244), .val (.ref b102_258)] [(.int (4 : Int32))]))
    refine Go.by (fun _ kont => XS.ifNo X258.here hx rfl (hb hby at_124) rfl (by decide) kont) ?_
    show Go _ _ _ _ _ _ _ (T258.setTop (mkF m 127 #[.val (.int s0), .val (.long a1), .second, .val (.long a2), .second, .val (.long a3), .second, .val (.long a4), .second, .val (.long a5), .second, .val (.int (4 : Int32)), .val (.ref b227), .val (.ref b244), .val (.ref b102_258)] []))
    refine Go.by (fun _ kont => XS.aload X258.here hx rfl (hb hby at_127) rfl rfl (XS.aload X258.here hx rfl (hb hby at_129) rfl rfl kont)) ?_
    show Go _ _ _ _ _ _ _ (T258.setTop (mkF m 131 #[.val (.int s0), .val (.long a1), .second, .val (.long a2), .second, .val (.long a3), .second, .val (.long a4), .second, .val (.long a5), .second, .val (.int (4 : Int32)), .val (.ref b227), .val (.ref b244), .val (.ref b102_258)] [(.ref b244), (.ref b102_258)]))
    refine Go.by (fun _ kont => Jvm.RoadKit.acmp (g := (mkF m 131 #[.val (.int s0), .val (.long a1), .second, .val (.long a2), .second, .val (.long a3), .second, .val (.long a4), .second, .val (.long a5), .second, .val (.int (4 : Int32)), .val (.ref b227), .val (.ref b244), .val (.ref b102_258)] [(.ref b244), (.ref b102_258)])) X258 hx rfl rfl rfl (pc0 := 131) (pc' := 136) (same := false) rfl (hb hby at_131) rfl (decide_eq_false fun q => (Ne.symm ne_b244_b102_258) (Value.ref.inj q)) (by decide) (by decide) kont) ?_
    show Go _ _ _ _ _ _ _ (T258.setTop (mkF m 136 #[.val (.int s0), .val (.long a1), .second, .val (.long a2), .second, .val (.long a3), .second, .val (.long a4), .second, .val (.long a5), .second, .val (.int (4 : Int32)), .val (.ref b227), .val (.ref b244), .val (.ref b102_258)] []))
    refine Go.by (fun _ kont => XS.aload X258.here hx rfl (hb hby at_136) rfl rfl (XS.aload X258.here hx rfl (hb hby at_138) rfl rfl (XS.aload X258.here hx rfl (hb hby at_140) rfl rfl (XS.iconst X258.here hx rfl (hb hby at_142) (XS.iload X258.here hx rfl (hb hby at_143) rfl kont))))) ?_
    show Go _ _ _ _ _ _ _ (T258.setTop (mkF m 145 #[.val (.int s0), .val (.long a1), .second, .val (.long a2), .second, .val (.long a3), .second, .val (.long a4), .second, .val (.long a5), .second, .val (.int (4 : Int32)), .val (.ref b227), .val (.ref b244), .val (.ref b102_258)] [(.int (4 : Int32)), (.int (0 : Int32)), (.ref b227), (.ref b102_258), (.ref b244)]))
    obtain ⟨_, _, ⟨T261, L261, k261, n261⟩, -, X261, ⟨Lc261, hQ261, l261, y261, z261⟩, st261⟩ := Jvm.LawKit.callS X258 hx (y := (⟨"com/example/runs_to_nets/runstonets/core/PlaceTransitionSynthesisNegatedPinLaw", "ok", "([J[J[JII)Z"⟩ : MethodName)) hown (mvT hZ (hw _ (List.mem_of_getElem? (i := 6) rfl))) (mvT hZ (hw _ (List.mem_of_getElem? (i := 7) rfl))) (mvT hZ (hw _ (List.mem_of_getElem? (i := 8) rfl))) (mvT hZ (hw _ (List.mem_of_getElem? (i := 9) rfl))) (by decide) (backOf (W := 0) (rmK40 l Z a0 hw [] b244 b102_258 b227 k244 a1 a2 a3 a4 k102_258 k227 a5 T258.heap n0 Z259 V259_b244 g258_0 V259_b227) hZ (hw _ (List.mem_of_getElem? (i := 9) rfl)) (hw _ (List.mem_of_getElem? (i := 8) rfl)) (by decide) (by decide)) (g := (mkF m 145 #[.val (.int s0), .val (.long a1), .second, .val (.long a2), .second, .val (.long a3), .second, .val (.long a4), .second, .val (.long a5), .second, .val (.int (4 : Int32)), .val (.ref b227), .val (.ref b244), .val (.ref b102_258)] [(.int (4 : Int32)), (.int (0 : Int32)), (.ref b227), (.ref b102_258), (.ref b244)])) rfl (by rw [hml]; rfl) (argsL := [(.ref b244), (.ref b102_258), (.ref b227), (.int (0 : Int32)), (.int (4 : Int32))]) (rest := []) (lenOf pd0_1 rfl) rfl (by show 2 * 0 + _ ≤ _; exact Nat.le_of_eq rfl) (hb hby at_145) (fun _ _ => ⟨rfl, rfl, (by decide : 3 + 0 ≤ _), (by decide : 13 + 0 ≤ _)⟩)
    dsimp only [Pt.U, Pt.locs, Pt.cells, Pt.slots] at X261 l261 y261 z261 st261 hQ261
    subst l261 y261 z261
    obtain ⟨rfl, N261q, eh261⟩ := hQ261
    have N261 := Fr.app N258 N261q
    refine Go.by st261 ?_
    show Go _ _ _ _ _ _ _ (T261.setTop (mkF m 148 #[.val (.int s0), .val (.long a1), .second, .val (.long a2), .second, .val (.long a3), .second, .val (.long a4), .second, .val (.long a5), .second, .val (.int (4 : Int32)), .val (.ref b227), .val (.ref b244), .val (.ref b102_258)] [(.int (1 : Int32))]))
    refine Go.by (fun _ kont => XS.ifNo X261.here hx rfl (hb hby at_148) rfl (by decide) kont) ?_
    show Go _ _ _ _ _ _ _ (T261.setTop (mkF m 151 #[.val (.int s0), .val (.long a1), .second, .val (.long a2), .second, .val (.long a3), .second, .val (.long a4), .second, .val (.long a5), .second, .val (.int (4 : Int32)), .val (.ref b227), .val (.ref b244), .val (.ref b102_258)] []))
    refine Go.by (fun _ kont => XS.aload X261.here hx rfl (hb hby at_151) rfl rfl (XS.aload X261.here hx rfl (hb hby at_153) rfl rfl (XS.aload X261.here hx rfl (hb hby at_155) rfl rfl (XS.iconst X261.here hx rfl (hb hby at_157) (XS.iload X261.here hx rfl (hb hby at_158) rfl kont))))) ?_
    show Go _ _ _ _ _ _ _ (T261.setTop (mkF m 160 #[.val (.int s0), .val (.long a1), .second, .val (.long a2), .second, .val (.long a3), .second, .val (.long a4), .second, .val (.long a5), .second, .val (.int (4 : Int32)), .val (.ref b227), .val (.ref b244), .val (.ref b102_258)] [(.int (4 : Int32)), (.int (1 : Int32)), (.ref b227), (.ref b102_258), (.ref b244)]))
    obtain ⟨_, _, ⟨T262, L262, k262, n262⟩, -, X262, ⟨Lc262, hQ262, l262, y262, z262⟩, st262⟩ := Jvm.LawKit.callS X261 hx (y := (⟨"com/example/runs_to_nets/runstonets/core/PlaceTransitionSynthesisNegatedPinLaw", "ok", "([J[J[JII)Z"⟩ : MethodName)) hown (mvT hZ (hw _ (List.mem_of_getElem? (i := 6) rfl))) (mvT hZ (hw _ (List.mem_of_getElem? (i := 7) rfl))) (mvT hZ (hw _ (List.mem_of_getElem? (i := 8) rfl))) (mvT hZ (hw _ (List.mem_of_getElem? (i := 9) rfl))) (by decide) (backOf (W := 0) (rmK41 l Z a0 hw [] b244 b102_258 b227 k244 a1 a2 a3 a4 k102_258 k227 a5 T258.heap n0 Z259 V259_b244 g258_0 V259_b227) hZ (hw _ (List.mem_of_getElem? (i := 9) rfl)) (hw _ (List.mem_of_getElem? (i := 8) rfl)) (by decide) (by decide)) (g := (mkF m 160 #[.val (.int s0), .val (.long a1), .second, .val (.long a2), .second, .val (.long a3), .second, .val (.long a4), .second, .val (.long a5), .second, .val (.int (4 : Int32)), .val (.ref b227), .val (.ref b244), .val (.ref b102_258)] [(.int (4 : Int32)), (.int (1 : Int32)), (.ref b227), (.ref b102_258), (.ref b244)])) rfl (by rw [hml]; rfl) (argsL := [(.ref b244), (.ref b102_258), (.ref b227), (.int (1 : Int32)), (.int (4 : Int32))]) (rest := []) (lenOf pd0_1 rfl) rfl (by show 2 * 0 + _ ≤ _; exact Nat.le_of_eq rfl) (hb hby at_160) (fun _ _ => ⟨rfl, eh261, (by decide : 3 + 0 ≤ _), (by decide : 13 + 0 ≤ _)⟩)
    dsimp only [Pt.U, Pt.locs, Pt.cells, Pt.slots] at X262 l262 y262 z262 st262 hQ262
    subst l262 y262 z262
    obtain ⟨rfl, N262q, eh262⟩ := hQ262
    have N262 := Fr.app N261 N262q
    refine Go.by st262 ?_
    show Go _ _ _ _ _ _ _ (T262.setTop (mkF m 163 #[.val (.int s0), .val (.long a1), .second, .val (.long a2), .second, .val (.long a3), .second, .val (.long a4), .second, .val (.long a5), .second, .val (.int (4 : Int32)), .val (.ref b227), .val (.ref b244), .val (.ref b102_258)] [(.int (1 : Int32))]))
    refine Go.by (fun _ kont => XS.ifNo X262.here hx rfl (hb hby at_163) rfl (by decide) kont) ?_
    show Go _ _ _ _ _ _ _ (T262.setTop (mkF m 166 #[.val (.int s0), .val (.long a1), .second, .val (.long a2), .second, .val (.long a3), .second, .val (.long a4), .second, .val (.long a5), .second, .val (.int (4 : Int32)), .val (.ref b227), .val (.ref b244), .val (.ref b102_258)] []))
    refine Go.by (fun _ kont => XS.aload X262.here hx rfl (hb hby at_166) rfl rfl (XS.aload X262.here hx rfl (hb hby at_168) rfl rfl (XS.aload X262.here hx rfl (hb hby at_170) rfl rfl (XS.iconst X262.here hx rfl (hb hby at_172) (XS.iload X262.here hx rfl (hb hby at_173) rfl kont))))) ?_
    show Go _ _ _ _ _ _ _ (T262.setTop (mkF m 175 #[.val (.int s0), .val (.long a1), .second, .val (.long a2), .second, .val (.long a3), .second, .val (.long a4), .second, .val (.long a5), .second, .val (.int (4 : Int32)), .val (.ref b227), .val (.ref b244), .val (.ref b102_258)] [(.int (4 : Int32)), (.int (2 : Int32)), (.ref b227), (.ref b102_258), (.ref b244)]))
    obtain ⟨_, _, ⟨T263, L263, k263, n263⟩, -, X263, ⟨Lc263, hQ263, l263, y263, z263⟩, st263⟩ := Jvm.LawKit.callS X262 hx (y := (⟨"com/example/runs_to_nets/runstonets/core/PlaceTransitionSynthesisNegatedPinLaw", "ok", "([J[J[JII)Z"⟩ : MethodName)) hown (mvT hZ (hw _ (List.mem_of_getElem? (i := 6) rfl))) (mvT hZ (hw _ (List.mem_of_getElem? (i := 7) rfl))) (mvT hZ (hw _ (List.mem_of_getElem? (i := 8) rfl))) (mvT hZ (hw _ (List.mem_of_getElem? (i := 9) rfl))) (by decide) (backOf (W := 0) (rmK42 l Z a0 hw [] b244 b102_258 b227 k244 a1 a2 a3 a4 k102_258 k227 a5 T258.heap n0 Z259 V259_b244 g258_0 V259_b227) hZ (hw _ (List.mem_of_getElem? (i := 9) rfl)) (hw _ (List.mem_of_getElem? (i := 8) rfl)) (by decide) (by decide)) (g := (mkF m 175 #[.val (.int s0), .val (.long a1), .second, .val (.long a2), .second, .val (.long a3), .second, .val (.long a4), .second, .val (.long a5), .second, .val (.int (4 : Int32)), .val (.ref b227), .val (.ref b244), .val (.ref b102_258)] [(.int (4 : Int32)), (.int (2 : Int32)), (.ref b227), (.ref b102_258), (.ref b244)])) rfl (by rw [hml]; rfl) (argsL := [(.ref b244), (.ref b102_258), (.ref b227), (.int (2 : Int32)), (.int (4 : Int32))]) (rest := []) (lenOf pd0_1 rfl) rfl (by show 2 * 0 + _ ≤ _; exact Nat.le_of_eq rfl) (hb hby at_175) (fun _ _ => ⟨rfl, eh262, (by decide : 3 + 0 ≤ _), (by decide : 13 + 0 ≤ _)⟩)
    dsimp only [Pt.U, Pt.locs, Pt.cells, Pt.slots] at X263 l263 y263 z263 st263 hQ263
    subst l263 y263 z263
    obtain ⟨rfl, N263q, eh263⟩ := hQ263
    have N263 := Fr.app N262 N263q
    refine Go.by st263 ?_
    show Go _ _ _ _ _ _ _ (T263.setTop (mkF m 178 #[.val (.int s0), .val (.long a1), .second, .val (.long a2), .second, .val (.long a3), .second, .val (.long a4), .second, .val (.long a5), .second, .val (.int (4 : Int32)), .val (.ref b227), .val (.ref b244), .val (.ref b102_258)] [(.int (1 : Int32))]))
    refine Go.by (fun _ kont => XS.ifNo X263.here hx rfl (hb hby at_178) rfl (by decide) kont) ?_
    show Go _ _ _ _ _ _ _ (T263.setTop (mkF m 181 #[.val (.int s0), .val (.long a1), .second, .val (.long a2), .second, .val (.long a3), .second, .val (.long a4), .second, .val (.long a5), .second, .val (.int (4 : Int32)), .val (.ref b227), .val (.ref b244), .val (.ref b102_258)] []))
    refine Go.by (fun _ kont => XS.aload X263.here hx rfl (hb hby at_181) rfl rfl (XS.aload X263.here hx rfl (hb hby at_183) rfl rfl (XS.aload X263.here hx rfl (hb hby at_185) rfl rfl (XS.iconst X263.here hx rfl (hb hby at_187) (XS.iload X263.here hx rfl (hb hby at_188) rfl kont))))) ?_
    show Go _ _ _ _ _ _ _ (T263.setTop (mkF m 190 #[.val (.int s0), .val (.long a1), .second, .val (.long a2), .second, .val (.long a3), .second, .val (.long a4), .second, .val (.long a5), .second, .val (.int (4 : Int32)), .val (.ref b227), .val (.ref b244), .val (.ref b102_258)] [(.int (4 : Int32)), (.int (3 : Int32)), (.ref b227), (.ref b102_258), (.ref b244)]))
    obtain ⟨_, _, ⟨T264, L264, k264, n264⟩, -, X264, ⟨Lc264, hQ264, l264, y264, z264⟩, st264⟩ := Jvm.LawKit.callS X263 hx (y := (⟨"com/example/runs_to_nets/runstonets/core/PlaceTransitionSynthesisNegatedPinLaw", "ok", "([J[J[JII)Z"⟩ : MethodName)) hown (mvT hZ (hw _ (List.mem_of_getElem? (i := 6) rfl))) (mvT hZ (hw _ (List.mem_of_getElem? (i := 7) rfl))) (mvT hZ (hw _ (List.mem_of_getElem? (i := 8) rfl))) (mvT hZ (hw _ (List.mem_of_getElem? (i := 9) rfl))) (by decide) (backOf (W := 0) (rmK43 l Z a0 hw [] b244 b102_258 b227 k244 a1 a2 a3 a4 k102_258 k227 a5 T258.heap n0 Z259 V259_b244 g258_0 V259_b227) hZ (hw _ (List.mem_of_getElem? (i := 9) rfl)) (hw _ (List.mem_of_getElem? (i := 8) rfl)) (by decide) (by decide)) (g := (mkF m 190 #[.val (.int s0), .val (.long a1), .second, .val (.long a2), .second, .val (.long a3), .second, .val (.long a4), .second, .val (.long a5), .second, .val (.int (4 : Int32)), .val (.ref b227), .val (.ref b244), .val (.ref b102_258)] [(.int (4 : Int32)), (.int (3 : Int32)), (.ref b227), (.ref b102_258), (.ref b244)])) rfl (by rw [hml]; rfl) (argsL := [(.ref b244), (.ref b102_258), (.ref b227), (.int (3 : Int32)), (.int (4 : Int32))]) (rest := []) (lenOf pd0_1 rfl) rfl (by show 2 * 0 + _ ≤ _; exact Nat.le_of_eq rfl) (hb hby at_190) (fun _ _ => ⟨rfl, eh263, (by decide : 3 + 0 ≤ _), (by decide : 13 + 0 ≤ _)⟩)
    dsimp only [Pt.U, Pt.locs, Pt.cells, Pt.slots] at X264 l264 y264 z264 st264 hQ264
    subst l264 y264 z264
    obtain ⟨rfl, N264q, eh264⟩ := hQ264
    have N264 := Fr.app N263 N264q
    refine Go.by st264 ?_
    show Go _ _ _ _ _ _ _ (T264.setTop (mkF m 193 #[.val (.int s0), .val (.long a1), .second, .val (.long a2), .second, .val (.long a3), .second, .val (.long a4), .second, .val (.long a5), .second, .val (.int (4 : Int32)), .val (.ref b227), .val (.ref b244), .val (.ref b102_258)] [(.int (1 : Int32))]))
    refine Go.by (fun _ kont => XS.ifNo X264.here hx rfl (hb hby at_193) rfl (by decide) kont) ?_
    show Go _ _ _ _ _ _ _ (T264.setTop (mkF m 196 #[.val (.int s0), .val (.long a1), .second, .val (.long a2), .second, .val (.long a3), .second, .val (.long a4), .second, .val (.long a5), .second, .val (.int (4 : Int32)), .val (.ref b227), .val (.ref b244), .val (.ref b102_258)] []))
    refine Go.by (fun _ kont => XS.aload X264.here hx rfl (hb hby at_196) rfl rfl (XS.aload X264.here hx rfl (hb hby at_198) rfl rfl (XS.aload X264.here hx rfl (hb hby at_200) rfl rfl (XS.iconst X264.here hx rfl (hb hby at_202) (XS.iload X264.here hx rfl (hb hby at_203) rfl kont))))) ?_
    show Go _ _ _ _ _ _ _ (T264.setTop (mkF m 205 #[.val (.int s0), .val (.long a1), .second, .val (.long a2), .second, .val (.long a3), .second, .val (.long a4), .second, .val (.long a5), .second, .val (.int (4 : Int32)), .val (.ref b227), .val (.ref b244), .val (.ref b102_258)] [(.int (4 : Int32)), (.int (4 : Int32)), (.ref b227), (.ref b102_258), (.ref b244)]))
    obtain ⟨_, _, ⟨T265, L265, k265, n265⟩, -, X265, ⟨Lc265, hQ265, l265, y265, z265⟩, st265⟩ := Jvm.LawKit.callS X264 hx (y := (⟨"com/example/runs_to_nets/runstonets/core/PlaceTransitionSynthesisNegatedPinLaw", "ok", "([J[J[JII)Z"⟩ : MethodName)) hown (mvT hZ (hw _ (List.mem_of_getElem? (i := 6) rfl))) (mvT hZ (hw _ (List.mem_of_getElem? (i := 7) rfl))) (mvT hZ (hw _ (List.mem_of_getElem? (i := 8) rfl))) (mvT hZ (hw _ (List.mem_of_getElem? (i := 9) rfl))) (by decide) (backOf (W := 0) (rmK44 l Z a0 hw [] b244 b102_258 b227 T258.heap n0 Z259 ) hZ (hw _ (List.mem_of_getElem? (i := 9) rfl)) (hw _ (List.mem_of_getElem? (i := 8) rfl)) (by decide) (by decide)) (g := (mkF m 205 #[.val (.int s0), .val (.long a1), .second, .val (.long a2), .second, .val (.long a3), .second, .val (.long a4), .second, .val (.long a5), .second, .val (.int (4 : Int32)), .val (.ref b227), .val (.ref b244), .val (.ref b102_258)] [(.int (4 : Int32)), (.int (4 : Int32)), (.ref b227), (.ref b102_258), (.ref b244)])) rfl (by rw [hml]; rfl) (argsL := [(.ref b244), (.ref b102_258), (.ref b227), (.int (4 : Int32)), (.int (4 : Int32))]) (rest := []) (lenOf pd0_1 rfl) rfl (by show 2 * 0 + _ ≤ _; exact Nat.le_of_eq rfl) (hb hby at_205) (fun _ _ => ⟨rfl, eh264, (by decide : 3 + 0 ≤ _), (by decide : 13 + 0 ≤ _)⟩)
    dsimp only [Pt.U, Pt.locs, Pt.cells, Pt.slots] at X265 l265 y265 z265 st265 hQ265
    subst l265 y265 z265
    obtain ⟨rfl, N265q, eh265⟩ := hQ265
    have N265 := Fr.app N264 N265q
    refine Go.by st265 ?_
    show Go _ _ _ _ _ _ _ (T265.setTop (mkF m 208 #[.val (.int s0), .val (.long a1), .second, .val (.long a2), .second, .val (.long a3), .second, .val (.long a4), .second, .val (.long a5), .second, .val (.int (4 : Int32)), .val (.ref b227), .val (.ref b244), .val (.ref b102_258)] [(.int (1 : Int32))]))
    refine Go.by (fun _ kont => XS.ifNo X265.here hx rfl (hb hby at_208) rfl (by decide) kont) ?_
    show Go _ _ _ _ _ _ _ (T265.setTop (mkF m 211 #[.val (.int s0), .val (.long a1), .second, .val (.long a2), .second, .val (.long a3), .second, .val (.long a4), .second, .val (.long a5), .second, .val (.int (4 : Int32)), .val (.ref b227), .val (.ref b244), .val (.ref b102_258)] []))
    refine Go.by (fun _ kont => XS.iconst X265.here hx rfl (hb hby at_211) (XS.goto X265.here hx rfl (pc0 := 212) (pc' := 216) rfl (hb hby at_212) (by decide) (by decide) kont)) ?_
    show Go _ _ _ _ _ _ _ (T265.setTop (mkF m 216 #[.val (.int s0), .val (.long a1), .second, .val (.long a2), .second, .val (.long a3), .second, .val (.long a4), .second, .val (.long a5), .second, .val (.int (4 : Int32)), .val (.ref b227), .val (.ref b244), .val (.ref b102_258)] [(.int (1 : Int32))]))
    refine Go.retN X265 hx (t := .boolean) hret (by simp) hlk (hb hby at_216) ?_ (by decide) (by decide)
    show Q0 Z h0 n0 (some (.int (1 : Int32))) T265.heap _
    rw [eh265]
    exact ⟨rfl, N265⟩
  · show Go _ _ _ _ _ _ _ (s₁.setTop (mkF m 9 #[.val (.int s0), .val (.long a1), .second, .val (.long a2), .second, .val (.long a3), .second, .val (.long a4), .second, .val (.long a5), .second, .val (.int (5 : Int32)), .unset, .unset, .unset] []))
    refine Go.by (fun _ kont => XS.iconst X0.here hx rfl (hb hby at_9) kont) ?_
    show Go _ _ _ _ _ _ _ (s₁.setTop (mkF m 10 #[.val (.int s0), .val (.long a1), .second, .val (.long a2), .second, .val (.long a3), .second, .val (.long a4), .second, .val (.long a5), .second, .val (.int (5 : Int32)), .unset, .unset, .unset] [(.int (5 : Int32))]))
    obtain ⟨T266, h266, k266, X266, e266, X_266, A266, st266⟩ := newP X0 hx hZ (hw _ (List.mem_of_getElem? (i := 1) rfl)) e0 (g := (mkF m 10 #[.val (.int s0), .val (.long a1), .second, .val (.long a2), .second, .val (.long a3), .second, .val (.long a4), .second, .val (.long a5), .second, .val (.int (5 : Int32)), .unset, .unset, .unset] [(.int (5 : Int32))])) rfl (hb hby at_10) rfl (by decide) (cap := 5) (by decide) (by decide) (by decide) (by decide)
    obtain ⟨b266, g266⟩ : ∃ z, z = h0.size := ⟨_, rfl⟩
    rw [← g266] at A266 st266
    have ge_b266 : n0 ≤ b266 := Nat.le_trans Z0 (Nat.le_of_eq g266.symm)
    have sz_b266 : h0.size ≤ b266 := Nat.le_trans (Keep.refl h0 []).1 (Nat.le_of_eq g266.symm)
    have Z267 := Nat.le_trans Z0 X_266.1
    have K267 : Keep h0 h266 [] := (Keep.refl h0 []).ext X_266
    have V266 : Arv Z h266 b266 k266 .long (5 : Int32) [(.long (0 : Int64)), (.long (0 : Int64)), (.long (0 : Int64)), (.long (0 : Int64)), (.long (0 : Int64))] (.long (0 : Int64)) := (Arv.new A266 (by decide)).pad (pad_rep [] (.long (0 : Int64)) 5)
    refine Go.by st266 ?_
    show Go _ _ _ _ _ _ _ (T266.setTop (mkF m 12 #[.val (.int s0), .val (.long a1), .second, .val (.long a2), .second, .val (.long a3), .second, .val (.long a4), .second, .val (.long a5), .second, .val (.int (5 : Int32)), .unset, .unset, .unset] [(.ref b266)]))
    refine Go.by (fun _ kont => XS.dup X266.here hx rfl (hb hby at_12) rfl rfl (XS.iconst X266.here hx rfl (hb hby at_13) (XS.lloadN X266.here hx rfl (hb hby at_14) rfl kont))) ?_
    show Go _ _ _ _ _ _ _ (T266.setTop (mkF m 15 #[.val (.int s0), .val (.long a1), .second, .val (.long a2), .second, .val (.long a3), .second, .val (.long a4), .second, .val (.long a5), .second, .val (.int (5 : Int32)), .unset, .unset, .unset] [(.long a1), (.int (0 : Int32)), (.ref b266), (.ref b266)]))
    obtain ⟨cl_q268, Ar_q268, q1_q268, S_q268, N_q268, H_q268, G_q268⟩ := id V266
    have hin_q268 : ¬ ((0 : Int32) < 0 ∨ cl_q268.slots.size ≤ ((0 : Int32)).toNatClampNeg) := inb_of S_q268 ⟨by decide, by decide⟩
    obtain ⟨T269, h269, X269, e269, W269, st269⟩ := stJ X266 hx hZ e266 Ar_q268 (j := (0 : Int32)) hin_q268 (g := (mkF m 15 #[.val (.int s0), .val (.long a1), .second, .val (.long a2), .second, .val (.long a3), .second, .val (.long a4), .second, .val (.long a5), .second, .val (.int (5 : Int32)), .unset, .unset, .unset] [(.long a1), (.int (0 : Int32)), (.ref b266), (.ref b266)])) rfl rfl (hb hby at_15)
    have V269 : Arv Z h269 b266 k266 .long (5 : Int32) [(.long a1), (.long (0 : Int64)), (.long (0 : Int64)), (.long (0 : Int64)), (.long (0 : Int64))] (.long (0 : Int64)) := Arv.set Ar_q268 q1_q268 S_q268 N_q268 H_q268 G_q268 rfl W269 0 rfl (Nat.le_of_ble_eq_true rfl)
    have Z270 := Nat.le_trans Z267 (Keep.of_wr W269).1
    have K270 : Keep h0 h269 [] := K267.wr W269 (Or.inr sz_b266)
    have N269 := Fr.snoc X269 N0 ge_b266
    refine Go.by st269 ?_
    show Go _ _ _ _ _ _ _ (T269.setTop (mkF m 16 #[.val (.int s0), .val (.long a1), .second, .val (.long a2), .second, .val (.long a3), .second, .val (.long a4), .second, .val (.long a5), .second, .val (.int (5 : Int32)), .unset, .unset, .unset] [(.ref b266)]))
    refine Go.by (fun _ kont => XS.dup X269.here hx rfl (hb hby at_16) rfl rfl (XS.iconst X269.here hx rfl (hb hby at_17) (XS.lloadN X269.here hx rfl (hb hby at_18) rfl kont))) ?_
    show Go _ _ _ _ _ _ _ (T269.setTop (mkF m 19 #[.val (.int s0), .val (.long a1), .second, .val (.long a2), .second, .val (.long a3), .second, .val (.long a4), .second, .val (.long a5), .second, .val (.int (5 : Int32)), .unset, .unset, .unset] [(.long a2), (.int (1 : Int32)), (.ref b266), (.ref b266)]))
    obtain ⟨cl_q271, Ar_q271, q1_q271, S_q271, N_q271, H_q271, G_q271⟩ := id V269
    have hin_q271 : ¬ ((1 : Int32) < 0 ∨ cl_q271.slots.size ≤ ((1 : Int32)).toNatClampNeg) := inb_of S_q271 ⟨by decide, by decide⟩
    obtain ⟨T272, h272, X272, e272, W272, st272⟩ := stJ X269 hx hZ e269 Ar_q271 (j := (1 : Int32)) hin_q271 (g := (mkF m 19 #[.val (.int s0), .val (.long a1), .second, .val (.long a2), .second, .val (.long a3), .second, .val (.long a4), .second, .val (.long a5), .second, .val (.int (5 : Int32)), .unset, .unset, .unset] [(.long a2), (.int (1 : Int32)), (.ref b266), (.ref b266)])) rfl rfl (hb hby at_19)
    have V272 : Arv Z h272 b266 k266 .long (5 : Int32) [(.long a1), (.long a2), (.long (0 : Int64)), (.long (0 : Int64)), (.long (0 : Int64))] (.long (0 : Int64)) := Arv.set Ar_q271 q1_q271 S_q271 N_q271 H_q271 G_q271 rfl W272 1 rfl (Nat.le_of_ble_eq_true rfl)
    have Z273 := Nat.le_trans Z270 (Keep.of_wr W272).1
    have K273 : Keep h0 h272 [] := K270.wr W272 (Or.inr sz_b266)
    have N272 := Fr.snoc X272 N269 ge_b266
    refine Go.by st272 ?_
    show Go _ _ _ _ _ _ _ (T272.setTop (mkF m 20 #[.val (.int s0), .val (.long a1), .second, .val (.long a2), .second, .val (.long a3), .second, .val (.long a4), .second, .val (.long a5), .second, .val (.int (5 : Int32)), .unset, .unset, .unset] [(.ref b266)]))
    refine Go.by (fun _ kont => XS.dup X272.here hx rfl (hb hby at_20) rfl rfl (XS.iconst X272.here hx rfl (hb hby at_21) (XS.lload X272.here hx rfl (hb hby at_22) rfl kont))) ?_
    show Go _ _ _ _ _ _ _ (T272.setTop (mkF m 24 #[.val (.int s0), .val (.long a1), .second, .val (.long a2), .second, .val (.long a3), .second, .val (.long a4), .second, .val (.long a5), .second, .val (.int (5 : Int32)), .unset, .unset, .unset] [(.long a3), (.int (2 : Int32)), (.ref b266), (.ref b266)]))
    obtain ⟨cl_q274, Ar_q274, q1_q274, S_q274, N_q274, H_q274, G_q274⟩ := id V272
    have hin_q274 : ¬ ((2 : Int32) < 0 ∨ cl_q274.slots.size ≤ ((2 : Int32)).toNatClampNeg) := inb_of S_q274 ⟨by decide, by decide⟩
    obtain ⟨T275, h275, X275, e275, W275, st275⟩ := stJ X272 hx hZ e272 Ar_q274 (j := (2 : Int32)) hin_q274 (g := (mkF m 24 #[.val (.int s0), .val (.long a1), .second, .val (.long a2), .second, .val (.long a3), .second, .val (.long a4), .second, .val (.long a5), .second, .val (.int (5 : Int32)), .unset, .unset, .unset] [(.long a3), (.int (2 : Int32)), (.ref b266), (.ref b266)])) rfl rfl (hb hby at_24)
    have V275 : Arv Z h275 b266 k266 .long (5 : Int32) [(.long a1), (.long a2), (.long a3), (.long (0 : Int64)), (.long (0 : Int64))] (.long (0 : Int64)) := Arv.set Ar_q274 q1_q274 S_q274 N_q274 H_q274 G_q274 rfl W275 2 rfl (Nat.le_of_ble_eq_true rfl)
    have Z276 := Nat.le_trans Z273 (Keep.of_wr W275).1
    have K276 : Keep h0 h275 [] := K273.wr W275 (Or.inr sz_b266)
    have N275 := Fr.snoc X275 N272 ge_b266
    refine Go.by st275 ?_
    show Go _ _ _ _ _ _ _ (T275.setTop (mkF m 25 #[.val (.int s0), .val (.long a1), .second, .val (.long a2), .second, .val (.long a3), .second, .val (.long a4), .second, .val (.long a5), .second, .val (.int (5 : Int32)), .unset, .unset, .unset] [(.ref b266)]))
    refine Go.by (fun _ kont => XS.dup X275.here hx rfl (hb hby at_25) rfl rfl (XS.iconst X275.here hx rfl (hb hby at_26) (XS.lload X275.here hx rfl (hb hby at_27) rfl kont))) ?_
    show Go _ _ _ _ _ _ _ (T275.setTop (mkF m 29 #[.val (.int s0), .val (.long a1), .second, .val (.long a2), .second, .val (.long a3), .second, .val (.long a4), .second, .val (.long a5), .second, .val (.int (5 : Int32)), .unset, .unset, .unset] [(.long a4), (.int (3 : Int32)), (.ref b266), (.ref b266)]))
    obtain ⟨cl_q277, Ar_q277, q1_q277, S_q277, N_q277, H_q277, G_q277⟩ := id V275
    have hin_q277 : ¬ ((3 : Int32) < 0 ∨ cl_q277.slots.size ≤ ((3 : Int32)).toNatClampNeg) := inb_of S_q277 ⟨by decide, by decide⟩
    obtain ⟨T278, h278, X278, e278, W278, st278⟩ := stJ X275 hx hZ e275 Ar_q277 (j := (3 : Int32)) hin_q277 (g := (mkF m 29 #[.val (.int s0), .val (.long a1), .second, .val (.long a2), .second, .val (.long a3), .second, .val (.long a4), .second, .val (.long a5), .second, .val (.int (5 : Int32)), .unset, .unset, .unset] [(.long a4), (.int (3 : Int32)), (.ref b266), (.ref b266)])) rfl rfl (hb hby at_29)
    have V278 : Arv Z h278 b266 k266 .long (5 : Int32) [(.long a1), (.long a2), (.long a3), (.long a4), (.long (0 : Int64))] (.long (0 : Int64)) := Arv.set Ar_q277 q1_q277 S_q277 N_q277 H_q277 G_q277 rfl W278 3 rfl (Nat.le_of_ble_eq_true rfl)
    have Z279 := Nat.le_trans Z276 (Keep.of_wr W278).1
    have K279 : Keep h0 h278 [] := K276.wr W278 (Or.inr sz_b266)
    have N278 := Fr.snoc X278 N275 ge_b266
    refine Go.by st278 ?_
    show Go _ _ _ _ _ _ _ (T278.setTop (mkF m 30 #[.val (.int s0), .val (.long a1), .second, .val (.long a2), .second, .val (.long a3), .second, .val (.long a4), .second, .val (.long a5), .second, .val (.int (5 : Int32)), .unset, .unset, .unset] [(.ref b266)]))
    refine Go.by (fun _ kont => XS.dup X278.here hx rfl (hb hby at_30) rfl rfl (XS.iconst X278.here hx rfl (hb hby at_31) (XS.lload X278.here hx rfl (hb hby at_32) rfl kont))) ?_
    show Go _ _ _ _ _ _ _ (T278.setTop (mkF m 34 #[.val (.int s0), .val (.long a1), .second, .val (.long a2), .second, .val (.long a3), .second, .val (.long a4), .second, .val (.long a5), .second, .val (.int (5 : Int32)), .unset, .unset, .unset] [(.long a5), (.int (4 : Int32)), (.ref b266), (.ref b266)]))
    obtain ⟨cl_q280, Ar_q280, q1_q280, S_q280, N_q280, H_q280, G_q280⟩ := id V278
    have hin_q280 : ¬ ((4 : Int32) < 0 ∨ cl_q280.slots.size ≤ ((4 : Int32)).toNatClampNeg) := inb_of S_q280 ⟨by decide, by decide⟩
    obtain ⟨T281, h281, X281, e281, W281, st281⟩ := stJ X278 hx hZ e278 Ar_q280 (j := (4 : Int32)) hin_q280 (g := (mkF m 34 #[.val (.int s0), .val (.long a1), .second, .val (.long a2), .second, .val (.long a3), .second, .val (.long a4), .second, .val (.long a5), .second, .val (.int (5 : Int32)), .unset, .unset, .unset] [(.long a5), (.int (4 : Int32)), (.ref b266), (.ref b266)])) rfl rfl (hb hby at_34)
    have V281 : Arv Z h281 b266 k266 .long (5 : Int32) [(.long a1), (.long a2), (.long a3), (.long a4), (.long a5)] (.long (0 : Int64)) := Arv.set Ar_q280 q1_q280 S_q280 N_q280 H_q280 G_q280 rfl W281 4 rfl (Nat.le_of_ble_eq_true rfl)
    have Z282 := Nat.le_trans Z279 (Keep.of_wr W281).1
    have K282 : Keep h0 h281 [] := K279.wr W281 (Or.inr sz_b266)
    have N281 := Fr.snoc X281 N278 ge_b266
    refine Go.by st281 ?_
    show Go _ _ _ _ _ _ _ (T281.setTop (mkF m 35 #[.val (.int s0), .val (.long a1), .second, .val (.long a2), .second, .val (.long a3), .second, .val (.long a4), .second, .val (.long a5), .second, .val (.int (5 : Int32)), .unset, .unset, .unset] [(.ref b266)]))
    refine Go.by (fun _ kont => XS.astore X281.here hx rfl (hb hby at_35) rfl rfl (l' := #[.val (.int s0), .val (.long a1), .second, .val (.long a2), .second, .val (.long a3), .second, .val (.long a4), .second, .val (.long a5), .second, .val (.int (5 : Int32)), .val (.ref b266), .unset, .unset]) rfl (XS.iload X281.here hx rfl (hb hby at_37) rfl kont)) ?_
    show Go _ _ _ _ _ _ _ (T281.setTop (mkF m 39 #[.val (.int s0), .val (.long a1), .second, .val (.long a2), .second, .val (.long a3), .second, .val (.long a4), .second, .val (.long a5), .second, .val (.int (5 : Int32)), .val (.ref b266), .unset, .unset] [(.int (5 : Int32))]))
    obtain ⟨T283, h283, k283, X283, e283, X_283, A283, st283⟩ := newP X281 hx hZ (hw _ (List.mem_of_getElem? (i := 1) rfl)) e281 (g := (mkF m 39 #[.val (.int s0), .val (.long a1), .second, .val (.long a2), .second, .val (.long a3), .second, .val (.long a4), .second, .val (.long a5), .second, .val (.int (5 : Int32)), .val (.ref b266), .unset, .unset] [(.int (5 : Int32))])) rfl (hb hby at_39) rfl (by decide) (cap := 5) (by decide) (by decide) (by decide) (by decide)
    obtain ⟨b283, g283⟩ : ∃ z, z = h281.size := ⟨_, rfl⟩
    rw [← g283] at A283 st283
    have ne_b266_b283 : b266 ≠ b283 := Nat.ne_of_lt (Nat.lt_of_lt_of_le V281.lt (Nat.le_of_eq g283.symm))
    have ge_b283 : n0 ≤ b283 := Nat.le_trans Z282 (Nat.le_of_eq g283.symm)
    have sz_b283 : h0.size ≤ b283 := Nat.le_trans K282.1 (Nat.le_of_eq g283.symm)
    have V284_b266 := V281.ext X_283
    have Z284 := Nat.le_trans Z282 X_283.1
    have K284 : Keep h0 h283 [] := K282.ext X_283
    have V283 : Arv Z h283 b283 k283 .long (5 : Int32) [(.long (0 : Int64)), (.long (0 : Int64)), (.long (0 : Int64)), (.long (0 : Int64)), (.long (0 : Int64))] (.long (0 : Int64)) := (Arv.new A283 (by decide)).pad (pad_rep [] (.long (0 : Int64)) 5)
    refine Go.by st283 ?_
    show Go _ _ _ _ _ _ _ (T283.setTop (mkF m 41 #[.val (.int s0), .val (.long a1), .second, .val (.long a2), .second, .val (.long a3), .second, .val (.long a4), .second, .val (.long a5), .second, .val (.int (5 : Int32)), .val (.ref b266), .unset, .unset] [(.ref b283)]))
    refine Go.by (fun _ kont => XS.astore X283.here hx rfl (hb hby at_41) rfl rfl (l' := #[.val (.int s0), .val (.long a1), .second, .val (.long a2), .second, .val (.long a3), .second, .val (.long a4), .second, .val (.long a5), .second, .val (.int (5 : Int32)), .val (.ref b266), .val (.ref b283), .unset]) rfl (XS.iload X283.here hx rfl (hb hby at_43) rfl kont)) ?_
    show Go _ _ _ _ _ _ _ (T283.setTop (mkF m 45 #[.val (.int s0), .val (.long a1), .second, .val (.long a2), .second, .val (.long a3), .second, .val (.long a4), .second, .val (.long a5), .second, .val (.int (5 : Int32)), .val (.ref b266), .val (.ref b283), .unset] [(.int (5 : Int32))]))
    refine Go.by (fun _ kont => XS.ifNo X283.here hx rfl (hb hby at_45) rfl (by decide) kont) ?_
    show Go _ _ _ _ _ _ _ (T283.setTop (mkF m 48 #[.val (.int s0), .val (.long a1), .second, .val (.long a2), .second, .val (.long a3), .second, .val (.long a4), .second, .val (.long a5), .second, .val (.int (5 : Int32)), .val (.ref b266), .val (.ref b283), .unset] []))
    refine Go.by (fun _ kont => XS.aload X283.here hx rfl (hb hby at_48) rfl rfl (XS.iconst X283.here hx rfl (hb hby at_50) (XS.lloadN X283.here hx rfl (hb hby at_51) rfl kont))) ?_
    show Go _ _ _ _ _ _ _ (T283.setTop (mkF m 52 #[.val (.int s0), .val (.long a1), .second, .val (.long a2), .second, .val (.long a3), .second, .val (.long a4), .second, .val (.long a5), .second, .val (.int (5 : Int32)), .val (.ref b266), .val (.ref b283), .unset] [(.long a1), (.int (0 : Int32)), (.ref b283)]))
    obtain ⟨cl_q285, Ar_q285, q1_q285, S_q285, N_q285, H_q285, G_q285⟩ := id V283
    have hin_q285 : ¬ ((0 : Int32) < 0 ∨ cl_q285.slots.size ≤ ((0 : Int32)).toNatClampNeg) := inb_of S_q285 ⟨by decide, by decide⟩
    obtain ⟨T286, h286, X286, e286, W286, st286⟩ := stJ X283 hx hZ e283 Ar_q285 (j := (0 : Int32)) hin_q285 (g := (mkF m 52 #[.val (.int s0), .val (.long a1), .second, .val (.long a2), .second, .val (.long a3), .second, .val (.long a4), .second, .val (.long a5), .second, .val (.int (5 : Int32)), .val (.ref b266), .val (.ref b283), .unset] [(.long a1), (.int (0 : Int32)), (.ref b283)])) rfl rfl (hb hby at_52)
    have V286 : Arv Z h286 b283 k283 .long (5 : Int32) [(.long a1), (.long (0 : Int64)), (.long (0 : Int64)), (.long (0 : Int64)), (.long (0 : Int64))] (.long (0 : Int64)) := Arv.set Ar_q285 q1_q285 S_q285 N_q285 H_q285 G_q285 rfl W286 0 rfl (Nat.le_of_ble_eq_true rfl)
    have V287_b266 := V284_b266.other W286 ne_b266_b283
    have Z287 := Nat.le_trans Z284 (Keep.of_wr W286).1
    have K287 : Keep h0 h286 [] := K284.wr W286 (Or.inr sz_b283)
    have N286 := Fr.snoc X286 N281 ge_b283
    refine Go.by st286 ?_
    show Go _ _ _ _ _ _ _ (T286.setTop (mkF m 53 #[.val (.int s0), .val (.long a1), .second, .val (.long a2), .second, .val (.long a3), .second, .val (.long a4), .second, .val (.long a5), .second, .val (.int (5 : Int32)), .val (.ref b266), .val (.ref b283), .unset] []))
    refine Go.by (fun _ kont => XS.iload X286.here hx rfl (hb hby at_53) rfl (XS.iconst X286.here hx rfl (hb hby at_55) kont)) ?_
    show Go _ _ _ _ _ _ _ (T286.setTop (mkF m 56 #[.val (.int s0), .val (.long a1), .second, .val (.long a2), .second, .val (.long a3), .second, .val (.long a4), .second, .val (.long a5), .second, .val (.int (5 : Int32)), .val (.ref b266), .val (.ref b283), .unset] [(.int (1 : Int32)), (.int (5 : Int32))]))
    refine Go.by (fun _ kont => XS.icmpNo X286.here hx rfl (hb hby at_56) rfl (by decide) kont) ?_
    show Go _ _ _ _ _ _ _ (T286.setTop (mkF m 59 #[.val (.int s0), .val (.long a1), .second, .val (.long a2), .second, .val (.long a3), .second, .val (.long a4), .second, .val (.long a5), .second, .val (.int (5 : Int32)), .val (.ref b266), .val (.ref b283), .unset] []))
    refine Go.by (fun _ kont => XS.aload X286.here hx rfl (hb hby at_59) rfl rfl (XS.iconst X286.here hx rfl (hb hby at_61) (XS.lloadN X286.here hx rfl (hb hby at_62) rfl kont))) ?_
    show Go _ _ _ _ _ _ _ (T286.setTop (mkF m 63 #[.val (.int s0), .val (.long a1), .second, .val (.long a2), .second, .val (.long a3), .second, .val (.long a4), .second, .val (.long a5), .second, .val (.int (5 : Int32)), .val (.ref b266), .val (.ref b283), .unset] [(.long a2), (.int (1 : Int32)), (.ref b283)]))
    obtain ⟨cl_q288, Ar_q288, q1_q288, S_q288, N_q288, H_q288, G_q288⟩ := id V286
    have hin_q288 : ¬ ((1 : Int32) < 0 ∨ cl_q288.slots.size ≤ ((1 : Int32)).toNatClampNeg) := inb_of S_q288 ⟨by decide, by decide⟩
    obtain ⟨T289, h289, X289, e289, W289, st289⟩ := stJ X286 hx hZ e286 Ar_q288 (j := (1 : Int32)) hin_q288 (g := (mkF m 63 #[.val (.int s0), .val (.long a1), .second, .val (.long a2), .second, .val (.long a3), .second, .val (.long a4), .second, .val (.long a5), .second, .val (.int (5 : Int32)), .val (.ref b266), .val (.ref b283), .unset] [(.long a2), (.int (1 : Int32)), (.ref b283)])) rfl rfl (hb hby at_63)
    have V289 : Arv Z h289 b283 k283 .long (5 : Int32) [(.long a1), (.long a2), (.long (0 : Int64)), (.long (0 : Int64)), (.long (0 : Int64))] (.long (0 : Int64)) := Arv.set Ar_q288 q1_q288 S_q288 N_q288 H_q288 G_q288 rfl W289 1 rfl (Nat.le_of_ble_eq_true rfl)
    have V290_b266 := V287_b266.other W289 ne_b266_b283
    have Z290 := Nat.le_trans Z287 (Keep.of_wr W289).1
    have K290 : Keep h0 h289 [] := K287.wr W289 (Or.inr sz_b283)
    have N289 := Fr.snoc X289 N286 ge_b283
    refine Go.by st289 ?_
    show Go _ _ _ _ _ _ _ (T289.setTop (mkF m 64 #[.val (.int s0), .val (.long a1), .second, .val (.long a2), .second, .val (.long a3), .second, .val (.long a4), .second, .val (.long a5), .second, .val (.int (5 : Int32)), .val (.ref b266), .val (.ref b283), .unset] []))
    refine Go.by (fun _ kont => XS.iload X289.here hx rfl (hb hby at_64) rfl (XS.iconst X289.here hx rfl (hb hby at_66) kont)) ?_
    show Go _ _ _ _ _ _ _ (T289.setTop (mkF m 67 #[.val (.int s0), .val (.long a1), .second, .val (.long a2), .second, .val (.long a3), .second, .val (.long a4), .second, .val (.long a5), .second, .val (.int (5 : Int32)), .val (.ref b266), .val (.ref b283), .unset] [(.int (2 : Int32)), (.int (5 : Int32))]))
    refine Go.by (fun _ kont => XS.icmpNo X289.here hx rfl (hb hby at_67) rfl (by decide) kont) ?_
    show Go _ _ _ _ _ _ _ (T289.setTop (mkF m 70 #[.val (.int s0), .val (.long a1), .second, .val (.long a2), .second, .val (.long a3), .second, .val (.long a4), .second, .val (.long a5), .second, .val (.int (5 : Int32)), .val (.ref b266), .val (.ref b283), .unset] []))
    refine Go.by (fun _ kont => XS.aload X289.here hx rfl (hb hby at_70) rfl rfl (XS.iconst X289.here hx rfl (hb hby at_72) (XS.lload X289.here hx rfl (hb hby at_73) rfl kont))) ?_
    show Go _ _ _ _ _ _ _ (T289.setTop (mkF m 75 #[.val (.int s0), .val (.long a1), .second, .val (.long a2), .second, .val (.long a3), .second, .val (.long a4), .second, .val (.long a5), .second, .val (.int (5 : Int32)), .val (.ref b266), .val (.ref b283), .unset] [(.long a3), (.int (2 : Int32)), (.ref b283)]))
    obtain ⟨cl_q291, Ar_q291, q1_q291, S_q291, N_q291, H_q291, G_q291⟩ := id V289
    have hin_q291 : ¬ ((2 : Int32) < 0 ∨ cl_q291.slots.size ≤ ((2 : Int32)).toNatClampNeg) := inb_of S_q291 ⟨by decide, by decide⟩
    obtain ⟨T292, h292, X292, e292, W292, st292⟩ := stJ X289 hx hZ e289 Ar_q291 (j := (2 : Int32)) hin_q291 (g := (mkF m 75 #[.val (.int s0), .val (.long a1), .second, .val (.long a2), .second, .val (.long a3), .second, .val (.long a4), .second, .val (.long a5), .second, .val (.int (5 : Int32)), .val (.ref b266), .val (.ref b283), .unset] [(.long a3), (.int (2 : Int32)), (.ref b283)])) rfl rfl (hb hby at_75)
    have V292 : Arv Z h292 b283 k283 .long (5 : Int32) [(.long a1), (.long a2), (.long a3), (.long (0 : Int64)), (.long (0 : Int64))] (.long (0 : Int64)) := Arv.set Ar_q291 q1_q291 S_q291 N_q291 H_q291 G_q291 rfl W292 2 rfl (Nat.le_of_ble_eq_true rfl)
    have V293_b266 := V290_b266.other W292 ne_b266_b283
    have Z293 := Nat.le_trans Z290 (Keep.of_wr W292).1
    have K293 : Keep h0 h292 [] := K290.wr W292 (Or.inr sz_b283)
    have N292 := Fr.snoc X292 N289 ge_b283
    refine Go.by st292 ?_
    show Go _ _ _ _ _ _ _ (T292.setTop (mkF m 76 #[.val (.int s0), .val (.long a1), .second, .val (.long a2), .second, .val (.long a3), .second, .val (.long a4), .second, .val (.long a5), .second, .val (.int (5 : Int32)), .val (.ref b266), .val (.ref b283), .unset] []))
    refine Go.by (fun _ kont => XS.iload X292.here hx rfl (hb hby at_76) rfl (XS.iconst X292.here hx rfl (hb hby at_78) kont)) ?_
    show Go _ _ _ _ _ _ _ (T292.setTop (mkF m 79 #[.val (.int s0), .val (.long a1), .second, .val (.long a2), .second, .val (.long a3), .second, .val (.long a4), .second, .val (.long a5), .second, .val (.int (5 : Int32)), .val (.ref b266), .val (.ref b283), .unset] [(.int (3 : Int32)), (.int (5 : Int32))]))
    refine Go.by (fun _ kont => XS.icmpNo X292.here hx rfl (hb hby at_79) rfl (by decide) kont) ?_
    show Go _ _ _ _ _ _ _ (T292.setTop (mkF m 82 #[.val (.int s0), .val (.long a1), .second, .val (.long a2), .second, .val (.long a3), .second, .val (.long a4), .second, .val (.long a5), .second, .val (.int (5 : Int32)), .val (.ref b266), .val (.ref b283), .unset] []))
    refine Go.by (fun _ kont => XS.aload X292.here hx rfl (hb hby at_82) rfl rfl (XS.iconst X292.here hx rfl (hb hby at_84) (XS.lload X292.here hx rfl (hb hby at_85) rfl kont))) ?_
    show Go _ _ _ _ _ _ _ (T292.setTop (mkF m 87 #[.val (.int s0), .val (.long a1), .second, .val (.long a2), .second, .val (.long a3), .second, .val (.long a4), .second, .val (.long a5), .second, .val (.int (5 : Int32)), .val (.ref b266), .val (.ref b283), .unset] [(.long a4), (.int (3 : Int32)), (.ref b283)]))
    obtain ⟨cl_q294, Ar_q294, q1_q294, S_q294, N_q294, H_q294, G_q294⟩ := id V292
    have hin_q294 : ¬ ((3 : Int32) < 0 ∨ cl_q294.slots.size ≤ ((3 : Int32)).toNatClampNeg) := inb_of S_q294 ⟨by decide, by decide⟩
    obtain ⟨T295, h295, X295, e295, W295, st295⟩ := stJ X292 hx hZ e292 Ar_q294 (j := (3 : Int32)) hin_q294 (g := (mkF m 87 #[.val (.int s0), .val (.long a1), .second, .val (.long a2), .second, .val (.long a3), .second, .val (.long a4), .second, .val (.long a5), .second, .val (.int (5 : Int32)), .val (.ref b266), .val (.ref b283), .unset] [(.long a4), (.int (3 : Int32)), (.ref b283)])) rfl rfl (hb hby at_87)
    have V295 : Arv Z h295 b283 k283 .long (5 : Int32) [(.long a1), (.long a2), (.long a3), (.long a4), (.long (0 : Int64))] (.long (0 : Int64)) := Arv.set Ar_q294 q1_q294 S_q294 N_q294 H_q294 G_q294 rfl W295 3 rfl (Nat.le_of_ble_eq_true rfl)
    have V296_b266 := V293_b266.other W295 ne_b266_b283
    have Z296 := Nat.le_trans Z293 (Keep.of_wr W295).1
    have K296 : Keep h0 h295 [] := K293.wr W295 (Or.inr sz_b283)
    have N295 := Fr.snoc X295 N292 ge_b283
    refine Go.by st295 ?_
    show Go _ _ _ _ _ _ _ (T295.setTop (mkF m 88 #[.val (.int s0), .val (.long a1), .second, .val (.long a2), .second, .val (.long a3), .second, .val (.long a4), .second, .val (.long a5), .second, .val (.int (5 : Int32)), .val (.ref b266), .val (.ref b283), .unset] []))
    refine Go.by (fun _ kont => XS.iload X295.here hx rfl (hb hby at_88) rfl (XS.iconst X295.here hx rfl (hb hby at_90) kont)) ?_
    show Go _ _ _ _ _ _ _ (T295.setTop (mkF m 91 #[.val (.int s0), .val (.long a1), .second, .val (.long a2), .second, .val (.long a3), .second, .val (.long a4), .second, .val (.long a5), .second, .val (.int (5 : Int32)), .val (.ref b266), .val (.ref b283), .unset] [(.int (4 : Int32)), (.int (5 : Int32))]))
    refine Go.by (fun _ kont => XS.icmpNo X295.here hx rfl (hb hby at_91) rfl (by decide) kont) ?_
    show Go _ _ _ _ _ _ _ (T295.setTop (mkF m 94 #[.val (.int s0), .val (.long a1), .second, .val (.long a2), .second, .val (.long a3), .second, .val (.long a4), .second, .val (.long a5), .second, .val (.int (5 : Int32)), .val (.ref b266), .val (.ref b283), .unset] []))
    refine Go.by (fun _ kont => XS.aload X295.here hx rfl (hb hby at_94) rfl rfl (XS.iconst X295.here hx rfl (hb hby at_96) (XS.lload X295.here hx rfl (hb hby at_97) rfl kont))) ?_
    show Go _ _ _ _ _ _ _ (T295.setTop (mkF m 99 #[.val (.int s0), .val (.long a1), .second, .val (.long a2), .second, .val (.long a3), .second, .val (.long a4), .second, .val (.long a5), .second, .val (.int (5 : Int32)), .val (.ref b266), .val (.ref b283), .unset] [(.long a5), (.int (4 : Int32)), (.ref b283)]))
    obtain ⟨cl_q297, Ar_q297, q1_q297, S_q297, N_q297, H_q297, G_q297⟩ := id V295
    have hin_q297 : ¬ ((4 : Int32) < 0 ∨ cl_q297.slots.size ≤ ((4 : Int32)).toNatClampNeg) := inb_of S_q297 ⟨by decide, by decide⟩
    obtain ⟨T298, h298, X298, e298, W298, st298⟩ := stJ X295 hx hZ e295 Ar_q297 (j := (4 : Int32)) hin_q297 (g := (mkF m 99 #[.val (.int s0), .val (.long a1), .second, .val (.long a2), .second, .val (.long a3), .second, .val (.long a4), .second, .val (.long a5), .second, .val (.int (5 : Int32)), .val (.ref b266), .val (.ref b283), .unset] [(.long a5), (.int (4 : Int32)), (.ref b283)])) rfl rfl (hb hby at_99)
    have V298 : Arv Z h298 b283 k283 .long (5 : Int32) [(.long a1), (.long a2), (.long a3), (.long a4), (.long a5)] (.long (0 : Int64)) := Arv.set Ar_q297 q1_q297 S_q297 N_q297 H_q297 G_q297 rfl W298 4 rfl (Nat.le_of_ble_eq_true rfl)
    have V299_b266 := V296_b266.other W298 ne_b266_b283
    have Z299 := Nat.le_trans Z296 (Keep.of_wr W298).1
    have K299 : Keep h0 h298 [] := K296.wr W298 (Or.inr sz_b283)
    have N298 := Fr.snoc X298 N295 ge_b283
    refine Go.by st298 ?_
    show Go _ _ _ _ _ _ _ (T298.setTop (mkF m 100 #[.val (.int s0), .val (.long a1), .second, .val (.long a2), .second, .val (.long a3), .second, .val (.long a4), .second, .val (.long a5), .second, .val (.int (5 : Int32)), .val (.ref b266), .val (.ref b283), .unset] []))
    refine Go.by (fun _ kont => XS.aload X298.here hx rfl (hb hby at_100) rfl rfl kont) ?_
    show Go _ _ _ _ _ _ _ (T298.setTop (mkF m 102 #[.val (.int s0), .val (.long a1), .second, .val (.long a2), .second, .val (.long a3), .second, .val (.long a4), .second, .val (.long a5), .second, .val (.int (5 : Int32)), .val (.ref b266), .val (.ref b283), .unset] [(.ref b283)]))
    obtain ⟨_, _, ⟨T300, L300, k300, n300⟩, -, X300, ⟨Lc300, hQ300, l300, y300, z300⟩, st300⟩ := Jvm.LawKit.callS X298 hx (y := (⟨"com/example/runs_to_nets/runstonets/core/PlaceTransitionSynthesis", "negated", "([J)[J"⟩ : MethodName)) hown (mvT hZ (hw _ (List.mem_of_getElem? (i := 2) rfl))) (mvT hZ (hw _ (List.mem_of_getElem? (i := 3) rfl))) (mvT hZ (hw _ (List.mem_of_getElem? (i := 4) rfl))) (mvT hZ (hw _ (List.mem_of_getElem? (i := 5) rfl))) (by decide) (backOf (W := 0) (rmN5 l Z a0 hw [] b283 k283 a1 a2 a3 a4 a5 h298 n0 Z299 V298) hZ (hw _ (List.mem_of_getElem? (i := 5) rfl)) (hw _ (List.mem_of_getElem? (i := 4) rfl)) (by decide) (by decide)) (g := (mkF m 102 #[.val (.int s0), .val (.long a1), .second, .val (.long a2), .second, .val (.long a3), .second, .val (.long a4), .second, .val (.long a5), .second, .val (.int (5 : Int32)), .val (.ref b266), .val (.ref b283), .unset] [(.ref b283)])) rfl (by rw [hml]; rfl) (argsL := [(.ref b283)]) (rest := []) (lenOf pd0_0 rfl) rfl (by show 2 * 0 + _ ≤ _; exact Nat.le_of_eq rfl) (hb hby at_102) (fun _ _ => ⟨rfl, e298, (by decide : 2 + 1 ≤ _), (by decide : 10 + 5 ≤ _)⟩)
    dsimp only [Pt.U, Pt.locs, Pt.cells, Pt.slots] at X300 l300 y300 z300 st300 hQ300
    subst l300 y300 z300
    obtain ⟨b102_300, k102_300, rfl, N300q, K300, ge_b102_300, szc_b102_300, g300_0⟩ := hQ300
    have ne_b266_b102_300 : b266 ≠ b102_300 := Nat.ne_of_lt (Nat.lt_of_lt_of_le V299_b266.lt szc_b102_300)
    have ne_b283_b102_300 : b283 ≠ b102_300 := Nat.ne_of_lt (Nat.lt_of_lt_of_le V298.lt szc_b102_300)
    have sz_b102_300 : h0.size ≤ b102_300 := Nat.le_trans K299.1 szc_b102_300
    have V301_b266 := V299_b266.keep K300 nin0
    have V301_b283 := V298.keep K300 nin0
    have Z301 := Nat.le_trans Z299 K300.1
    have K301 : Keep h0 T300.heap [] := Keep.trans K299 K300 all0
    have N300 := Fr.app N298 N300q
    refine Go.by st300 ?_
    show Go _ _ _ _ _ _ _ (T300.setTop (mkF m 105 #[.val (.int s0), .val (.long a1), .second, .val (.long a2), .second, .val (.long a3), .second, .val (.long a4), .second, .val (.long a5), .second, .val (.int (5 : Int32)), .val (.ref b266), .val (.ref b283), .unset] [(.ref b102_300)]))
    refine Go.by (fun _ kont => XS.astore X300.here hx rfl (hb hby at_105) rfl rfl (l' := #[.val (.int s0), .val (.long a1), .second, .val (.long a2), .second, .val (.long a3), .second, .val (.long a4), .second, .val (.long a5), .second, .val (.int (5 : Int32)), .val (.ref b266), .val (.ref b283), .val (.ref b102_300)]) rfl (XS.aload X300.here hx rfl (hb hby at_107) rfl rfl (XS.ifnullNo X300.here hx rfl (hb hby at_109) rfl (XS.aload X300.here hx rfl (hb hby at_112) rfl rfl kont)))) ?_
    show Go _ _ _ _ _ _ _ (T300.setTop (mkF m 114 #[.val (.int s0), .val (.long a1), .second, .val (.long a2), .second, .val (.long a3), .second, .val (.long a4), .second, .val (.long a5), .second, .val (.int (5 : Int32)), .val (.ref b266), .val (.ref b283), .val (.ref b102_300)] [(.ref b102_300)]))
    obtain ⟨cl_q302, Ar_q302, q1_q302, S_q302, N_q302, H_q302, G_q302⟩ := id g300_0
    refine Go.by (X300.arraylength hx (by first | exact Ar_q302.1 | (rw [rfl]; exact Ar_q302.1)) (State.isArrayOf_alike hZ.alike Ar_q302.2.1) (g := (mkF m 114 #[.val (.int s0), .val (.long a1), .second, .val (.long a2), .second, .val (.long a3), .second, .val (.long a4), .second, .val (.long a5), .second, .val (.int (5 : Int32)), .val (.ref b266), .val (.ref b283), .val (.ref b102_300)] [(.ref b102_300)])) rfl rfl (hb hby at_114)) ?_
    rw [len_of S_q302 N_q302]
    show Go _ _ _ _ _ _ _ (T300.setTop (mkF m 115 #[.val (.int s0), .val (.long a1), .second, .val (.long a2), .second, .val (.long a3), .second, .val (.long a4), .second, .val (.long a5), .second, .val (.int (5 : Int32)), .val (.ref b266), .val (.ref b283), .val (.ref b102_300)] [(.int (5 : Int32))]))
    refine Go.by (fun _ kont => XS.iload X300.here hx rfl (hb hby at_115) rfl kont) ?_
    show Go _ _ _ _ _ _ _ (T300.setTop (mkF m 117 #[.val (.int s0), .val (.long a1), .second, .val (.long a2), .second, .val (.long a3), .second, .val (.long a4), .second, .val (.long a5), .second, .val (.int (5 : Int32)), .val (.ref b266), .val (.ref b283), .val (.ref b102_300)] [(.int (5 : Int32)), (.int (5 : Int32))]))
    refine Go.by (fun _ kont => XS.icmpYes X300.here hx rfl (pc0 := 117) (pc' := 122) rfl (hb hby at_117) rfl (by decide) (by decide) (by decide) kont) ?_
    show Go _ _ _ _ _ _ _ (T300.setTop (mkF m 122 #[.val (.int s0), .val (.long a1), .second, .val (.long a2), .second, .val (.long a3), .second, .val (.long a4), .second, .val (.long a5), .second, .val (.int (5 : Int32)), .val (.ref b266), .val (.ref b283), .val (.ref b102_300)] []))
    refine Go.by (fun _ kont => XS.iload X300.here hx rfl (hb hby at_122) rfl kont) ?_
    show Go _ _ _ _ _ _ _ (T300.setTop (mkF m 124 #[.val (.int s0), .val (.long a1), .second, .val (.long a2), .second, .val (.long a3), .second, .val (.long a4), .second, .val (.long a5), .second, .val (.int (5 : Int32)), .val (.ref b266), .val (.ref b283), .val (.ref b102_300)] [(.int (5 : Int32))]))
    refine Go.by (fun _ kont => XS.ifNo X300.here hx rfl (hb hby at_124) rfl (by decide) kont) ?_
    show Go _ _ _ _ _ _ _ (T300.setTop (mkF m 127 #[.val (.int s0), .val (.long a1), .second, .val (.long a2), .second, .val (.long a3), .second, .val (.long a4), .second, .val (.long a5), .second, .val (.int (5 : Int32)), .val (.ref b266), .val (.ref b283), .val (.ref b102_300)] []))
    refine Go.by (fun _ kont => XS.aload X300.here hx rfl (hb hby at_127) rfl rfl (XS.aload X300.here hx rfl (hb hby at_129) rfl rfl kont)) ?_
    show Go _ _ _ _ _ _ _ (T300.setTop (mkF m 131 #[.val (.int s0), .val (.long a1), .second, .val (.long a2), .second, .val (.long a3), .second, .val (.long a4), .second, .val (.long a5), .second, .val (.int (5 : Int32)), .val (.ref b266), .val (.ref b283), .val (.ref b102_300)] [(.ref b283), (.ref b102_300)]))
    refine Go.by (fun _ kont => Jvm.RoadKit.acmp (g := (mkF m 131 #[.val (.int s0), .val (.long a1), .second, .val (.long a2), .second, .val (.long a3), .second, .val (.long a4), .second, .val (.long a5), .second, .val (.int (5 : Int32)), .val (.ref b266), .val (.ref b283), .val (.ref b102_300)] [(.ref b283), (.ref b102_300)])) X300 hx rfl rfl rfl (pc0 := 131) (pc' := 136) (same := false) rfl (hb hby at_131) rfl (decide_eq_false fun q => (Ne.symm ne_b283_b102_300) (Value.ref.inj q)) (by decide) (by decide) kont) ?_
    show Go _ _ _ _ _ _ _ (T300.setTop (mkF m 136 #[.val (.int s0), .val (.long a1), .second, .val (.long a2), .second, .val (.long a3), .second, .val (.long a4), .second, .val (.long a5), .second, .val (.int (5 : Int32)), .val (.ref b266), .val (.ref b283), .val (.ref b102_300)] []))
    refine Go.by (fun _ kont => XS.aload X300.here hx rfl (hb hby at_136) rfl rfl (XS.aload X300.here hx rfl (hb hby at_138) rfl rfl (XS.aload X300.here hx rfl (hb hby at_140) rfl rfl (XS.iconst X300.here hx rfl (hb hby at_142) (XS.iload X300.here hx rfl (hb hby at_143) rfl kont))))) ?_
    show Go _ _ _ _ _ _ _ (T300.setTop (mkF m 145 #[.val (.int s0), .val (.long a1), .second, .val (.long a2), .second, .val (.long a3), .second, .val (.long a4), .second, .val (.long a5), .second, .val (.int (5 : Int32)), .val (.ref b266), .val (.ref b283), .val (.ref b102_300)] [(.int (5 : Int32)), (.int (0 : Int32)), (.ref b266), (.ref b102_300), (.ref b283)]))
    obtain ⟨_, _, ⟨T303, L303, k303, n303⟩, -, X303, ⟨Lc303, hQ303, l303, y303, z303⟩, st303⟩ := Jvm.LawKit.callS X300 hx (y := (⟨"com/example/runs_to_nets/runstonets/core/PlaceTransitionSynthesisNegatedPinLaw", "ok", "([J[J[JII)Z"⟩ : MethodName)) hown (mvT hZ (hw _ (List.mem_of_getElem? (i := 6) rfl))) (mvT hZ (hw _ (List.mem_of_getElem? (i := 7) rfl))) (mvT hZ (hw _ (List.mem_of_getElem? (i := 8) rfl))) (mvT hZ (hw _ (List.mem_of_getElem? (i := 9) rfl))) (by decide) (backOf (W := 0) (rmK50 l Z a0 hw [] b283 b102_300 b266 k283 a1 a2 a3 a4 a5 k102_300 k266 T300.heap n0 Z301 V301_b283 g300_0 V301_b266) hZ (hw _ (List.mem_of_getElem? (i := 9) rfl)) (hw _ (List.mem_of_getElem? (i := 8) rfl)) (by decide) (by decide)) (g := (mkF m 145 #[.val (.int s0), .val (.long a1), .second, .val (.long a2), .second, .val (.long a3), .second, .val (.long a4), .second, .val (.long a5), .second, .val (.int (5 : Int32)), .val (.ref b266), .val (.ref b283), .val (.ref b102_300)] [(.int (5 : Int32)), (.int (0 : Int32)), (.ref b266), (.ref b102_300), (.ref b283)])) rfl (by rw [hml]; rfl) (argsL := [(.ref b283), (.ref b102_300), (.ref b266), (.int (0 : Int32)), (.int (5 : Int32))]) (rest := []) (lenOf pd0_1 rfl) rfl (by show 2 * 0 + _ ≤ _; exact Nat.le_of_eq rfl) (hb hby at_145) (fun _ _ => ⟨rfl, rfl, (by decide : 3 + 0 ≤ _), (by decide : 15 + 0 ≤ _)⟩)
    dsimp only [Pt.U, Pt.locs, Pt.cells, Pt.slots] at X303 l303 y303 z303 st303 hQ303
    subst l303 y303 z303
    obtain ⟨rfl, N303q, eh303⟩ := hQ303
    have N303 := Fr.app N300 N303q
    refine Go.by st303 ?_
    show Go _ _ _ _ _ _ _ (T303.setTop (mkF m 148 #[.val (.int s0), .val (.long a1), .second, .val (.long a2), .second, .val (.long a3), .second, .val (.long a4), .second, .val (.long a5), .second, .val (.int (5 : Int32)), .val (.ref b266), .val (.ref b283), .val (.ref b102_300)] [(.int (1 : Int32))]))
    refine Go.by (fun _ kont => XS.ifNo X303.here hx rfl (hb hby at_148) rfl (by decide) kont) ?_
    show Go _ _ _ _ _ _ _ (T303.setTop (mkF m 151 #[.val (.int s0), .val (.long a1), .second, .val (.long a2), .second, .val (.long a3), .second, .val (.long a4), .second, .val (.long a5), .second, .val (.int (5 : Int32)), .val (.ref b266), .val (.ref b283), .val (.ref b102_300)] []))
    refine Go.by (fun _ kont => XS.aload X303.here hx rfl (hb hby at_151) rfl rfl (XS.aload X303.here hx rfl (hb hby at_153) rfl rfl (XS.aload X303.here hx rfl (hb hby at_155) rfl rfl (XS.iconst X303.here hx rfl (hb hby at_157) (XS.iload X303.here hx rfl (hb hby at_158) rfl kont))))) ?_
    show Go _ _ _ _ _ _ _ (T303.setTop (mkF m 160 #[.val (.int s0), .val (.long a1), .second, .val (.long a2), .second, .val (.long a3), .second, .val (.long a4), .second, .val (.long a5), .second, .val (.int (5 : Int32)), .val (.ref b266), .val (.ref b283), .val (.ref b102_300)] [(.int (5 : Int32)), (.int (1 : Int32)), (.ref b266), (.ref b102_300), (.ref b283)]))
    obtain ⟨_, _, ⟨T304, L304, k304, n304⟩, -, X304, ⟨Lc304, hQ304, l304, y304, z304⟩, st304⟩ := Jvm.LawKit.callS X303 hx (y := (⟨"com/example/runs_to_nets/runstonets/core/PlaceTransitionSynthesisNegatedPinLaw", "ok", "([J[J[JII)Z"⟩ : MethodName)) hown (mvT hZ (hw _ (List.mem_of_getElem? (i := 6) rfl))) (mvT hZ (hw _ (List.mem_of_getElem? (i := 7) rfl))) (mvT hZ (hw _ (List.mem_of_getElem? (i := 8) rfl))) (mvT hZ (hw _ (List.mem_of_getElem? (i := 9) rfl))) (by decide) (backOf (W := 0) (rmK51 l Z a0 hw [] b283 b102_300 b266 k283 a1 a2 a3 a4 a5 k102_300 k266 T300.heap n0 Z301 V301_b283 g300_0 V301_b266) hZ (hw _ (List.mem_of_getElem? (i := 9) rfl)) (hw _ (List.mem_of_getElem? (i := 8) rfl)) (by decide) (by decide)) (g := (mkF m 160 #[.val (.int s0), .val (.long a1), .second, .val (.long a2), .second, .val (.long a3), .second, .val (.long a4), .second, .val (.long a5), .second, .val (.int (5 : Int32)), .val (.ref b266), .val (.ref b283), .val (.ref b102_300)] [(.int (5 : Int32)), (.int (1 : Int32)), (.ref b266), (.ref b102_300), (.ref b283)])) rfl (by rw [hml]; rfl) (argsL := [(.ref b283), (.ref b102_300), (.ref b266), (.int (1 : Int32)), (.int (5 : Int32))]) (rest := []) (lenOf pd0_1 rfl) rfl (by show 2 * 0 + _ ≤ _; exact Nat.le_of_eq rfl) (hb hby at_160) (fun _ _ => ⟨rfl, eh303, (by decide : 3 + 0 ≤ _), (by decide : 15 + 0 ≤ _)⟩)
    dsimp only [Pt.U, Pt.locs, Pt.cells, Pt.slots] at X304 l304 y304 z304 st304 hQ304
    subst l304 y304 z304
    obtain ⟨rfl, N304q, eh304⟩ := hQ304
    have N304 := Fr.app N303 N304q
    refine Go.by st304 ?_
    show Go _ _ _ _ _ _ _ (T304.setTop (mkF m 163 #[.val (.int s0), .val (.long a1), .second, .val (.long a2), .second, .val (.long a3), .second, .val (.long a4), .second, .val (.long a5), .second, .val (.int (5 : Int32)), .val (.ref b266), .val (.ref b283), .val (.ref b102_300)] [(.int (1 : Int32))]))
    refine Go.by (fun _ kont => XS.ifNo X304.here hx rfl (hb hby at_163) rfl (by decide) kont) ?_
    show Go _ _ _ _ _ _ _ (T304.setTop (mkF m 166 #[.val (.int s0), .val (.long a1), .second, .val (.long a2), .second, .val (.long a3), .second, .val (.long a4), .second, .val (.long a5), .second, .val (.int (5 : Int32)), .val (.ref b266), .val (.ref b283), .val (.ref b102_300)] []))
    refine Go.by (fun _ kont => XS.aload X304.here hx rfl (hb hby at_166) rfl rfl (XS.aload X304.here hx rfl (hb hby at_168) rfl rfl (XS.aload X304.here hx rfl (hb hby at_170) rfl rfl (XS.iconst X304.here hx rfl (hb hby at_172) (XS.iload X304.here hx rfl (hb hby at_173) rfl kont))))) ?_
    show Go _ _ _ _ _ _ _ (T304.setTop (mkF m 175 #[.val (.int s0), .val (.long a1), .second, .val (.long a2), .second, .val (.long a3), .second, .val (.long a4), .second, .val (.long a5), .second, .val (.int (5 : Int32)), .val (.ref b266), .val (.ref b283), .val (.ref b102_300)] [(.int (5 : Int32)), (.int (2 : Int32)), (.ref b266), (.ref b102_300), (.ref b283)]))
    obtain ⟨_, _, ⟨T305, L305, k305, n305⟩, -, X305, ⟨Lc305, hQ305, l305, y305, z305⟩, st305⟩ := Jvm.LawKit.callS X304 hx (y := (⟨"com/example/runs_to_nets/runstonets/core/PlaceTransitionSynthesisNegatedPinLaw", "ok", "([J[J[JII)Z"⟩ : MethodName)) hown (mvT hZ (hw _ (List.mem_of_getElem? (i := 6) rfl))) (mvT hZ (hw _ (List.mem_of_getElem? (i := 7) rfl))) (mvT hZ (hw _ (List.mem_of_getElem? (i := 8) rfl))) (mvT hZ (hw _ (List.mem_of_getElem? (i := 9) rfl))) (by decide) (backOf (W := 0) (rmK52 l Z a0 hw [] b283 b102_300 b266 k283 a1 a2 a3 a4 a5 k102_300 k266 T300.heap n0 Z301 V301_b283 g300_0 V301_b266) hZ (hw _ (List.mem_of_getElem? (i := 9) rfl)) (hw _ (List.mem_of_getElem? (i := 8) rfl)) (by decide) (by decide)) (g := (mkF m 175 #[.val (.int s0), .val (.long a1), .second, .val (.long a2), .second, .val (.long a3), .second, .val (.long a4), .second, .val (.long a5), .second, .val (.int (5 : Int32)), .val (.ref b266), .val (.ref b283), .val (.ref b102_300)] [(.int (5 : Int32)), (.int (2 : Int32)), (.ref b266), (.ref b102_300), (.ref b283)])) rfl (by rw [hml]; rfl) (argsL := [(.ref b283), (.ref b102_300), (.ref b266), (.int (2 : Int32)), (.int (5 : Int32))]) (rest := []) (lenOf pd0_1 rfl) rfl (by show 2 * 0 + _ ≤ _; exact Nat.le_of_eq rfl) (hb hby at_175) (fun _ _ => ⟨rfl, eh304, (by decide : 3 + 0 ≤ _), (by decide : 15 + 0 ≤ _)⟩)
    dsimp only [Pt.U, Pt.locs, Pt.cells, Pt.slots] at X305 l305 y305 z305 st305 hQ305
    subst l305 y305 z305
    obtain ⟨rfl, N305q, eh305⟩ := hQ305
    have N305 := Fr.app N304 N305q
    refine Go.by st305 ?_
    show Go _ _ _ _ _ _ _ (T305.setTop (mkF m 178 #[.val (.int s0), .val (.long a1), .second, .val (.long a2), .second, .val (.long a3), .second, .val (.long a4), .second, .val (.long a5), .second, .val (.int (5 : Int32)), .val (.ref b266), .val (.ref b283), .val (.ref b102_300)] [(.int (1 : Int32))]))
    refine Go.by (fun _ kont => XS.ifNo X305.here hx rfl (hb hby at_178) rfl (by decide) kont) ?_
    show Go _ _ _ _ _ _ _ (T305.setTop (mkF m 181 #[.val (.int s0), .val (.long a1), .second, .val (.long a2), .second, .val (.long a3), .second, .val (.long a4), .second, .val (.long a5), .second, .val (.int (5 : Int32)), .val (.ref b266), .val (.ref b283), .val (.ref b102_300)] []))
    refine Go.by (fun _ kont => XS.aload X305.here hx rfl (hb hby at_181) rfl rfl (XS.aload X305.here hx rfl (hb hby at_183) rfl rfl (XS.aload X305.here hx rfl (hb hby at_185) rfl rfl (XS.iconst X305.here hx rfl (hb hby at_187) (XS.iload X305.here hx rfl (hb hby at_188) rfl kont))))) ?_
    show Go _ _ _ _ _ _ _ (T305.setTop (mkF m 190 #[.val (.int s0), .val (.long a1), .second, .val (.long a2), .second, .val (.long a3), .second, .val (.long a4), .second, .val (.long a5), .second, .val (.int (5 : Int32)), .val (.ref b266), .val (.ref b283), .val (.ref b102_300)] [(.int (5 : Int32)), (.int (3 : Int32)), (.ref b266), (.ref b102_300), (.ref b283)]))
    obtain ⟨_, _, ⟨T306, L306, k306, n306⟩, -, X306, ⟨Lc306, hQ306, l306, y306, z306⟩, st306⟩ := Jvm.LawKit.callS X305 hx (y := (⟨"com/example/runs_to_nets/runstonets/core/PlaceTransitionSynthesisNegatedPinLaw", "ok", "([J[J[JII)Z"⟩ : MethodName)) hown (mvT hZ (hw _ (List.mem_of_getElem? (i := 6) rfl))) (mvT hZ (hw _ (List.mem_of_getElem? (i := 7) rfl))) (mvT hZ (hw _ (List.mem_of_getElem? (i := 8) rfl))) (mvT hZ (hw _ (List.mem_of_getElem? (i := 9) rfl))) (by decide) (backOf (W := 0) (rmK53 l Z a0 hw [] b283 b102_300 b266 k283 a1 a2 a3 a4 a5 k102_300 k266 T300.heap n0 Z301 V301_b283 g300_0 V301_b266) hZ (hw _ (List.mem_of_getElem? (i := 9) rfl)) (hw _ (List.mem_of_getElem? (i := 8) rfl)) (by decide) (by decide)) (g := (mkF m 190 #[.val (.int s0), .val (.long a1), .second, .val (.long a2), .second, .val (.long a3), .second, .val (.long a4), .second, .val (.long a5), .second, .val (.int (5 : Int32)), .val (.ref b266), .val (.ref b283), .val (.ref b102_300)] [(.int (5 : Int32)), (.int (3 : Int32)), (.ref b266), (.ref b102_300), (.ref b283)])) rfl (by rw [hml]; rfl) (argsL := [(.ref b283), (.ref b102_300), (.ref b266), (.int (3 : Int32)), (.int (5 : Int32))]) (rest := []) (lenOf pd0_1 rfl) rfl (by show 2 * 0 + _ ≤ _; exact Nat.le_of_eq rfl) (hb hby at_190) (fun _ _ => ⟨rfl, eh305, (by decide : 3 + 0 ≤ _), (by decide : 15 + 0 ≤ _)⟩)
    dsimp only [Pt.U, Pt.locs, Pt.cells, Pt.slots] at X306 l306 y306 z306 st306 hQ306
    subst l306 y306 z306
    obtain ⟨rfl, N306q, eh306⟩ := hQ306
    have N306 := Fr.app N305 N306q
    refine Go.by st306 ?_
    show Go _ _ _ _ _ _ _ (T306.setTop (mkF m 193 #[.val (.int s0), .val (.long a1), .second, .val (.long a2), .second, .val (.long a3), .second, .val (.long a4), .second, .val (.long a5), .second, .val (.int (5 : Int32)), .val (.ref b266), .val (.ref b283), .val (.ref b102_300)] [(.int (1 : Int32))]))
    refine Go.by (fun _ kont => XS.ifNo X306.here hx rfl (hb hby at_193) rfl (by decide) kont) ?_
    show Go _ _ _ _ _ _ _ (T306.setTop (mkF m 196 #[.val (.int s0), .val (.long a1), .second, .val (.long a2), .second, .val (.long a3), .second, .val (.long a4), .second, .val (.long a5), .second, .val (.int (5 : Int32)), .val (.ref b266), .val (.ref b283), .val (.ref b102_300)] []))
    refine Go.by (fun _ kont => XS.aload X306.here hx rfl (hb hby at_196) rfl rfl (XS.aload X306.here hx rfl (hb hby at_198) rfl rfl (XS.aload X306.here hx rfl (hb hby at_200) rfl rfl (XS.iconst X306.here hx rfl (hb hby at_202) (XS.iload X306.here hx rfl (hb hby at_203) rfl kont))))) ?_
    show Go _ _ _ _ _ _ _ (T306.setTop (mkF m 205 #[.val (.int s0), .val (.long a1), .second, .val (.long a2), .second, .val (.long a3), .second, .val (.long a4), .second, .val (.long a5), .second, .val (.int (5 : Int32)), .val (.ref b266), .val (.ref b283), .val (.ref b102_300)] [(.int (5 : Int32)), (.int (4 : Int32)), (.ref b266), (.ref b102_300), (.ref b283)]))
    obtain ⟨_, _, ⟨T307, L307, k307, n307⟩, -, X307, ⟨Lc307, hQ307, l307, y307, z307⟩, st307⟩ := Jvm.LawKit.callS X306 hx (y := (⟨"com/example/runs_to_nets/runstonets/core/PlaceTransitionSynthesisNegatedPinLaw", "ok", "([J[J[JII)Z"⟩ : MethodName)) hown (mvT hZ (hw _ (List.mem_of_getElem? (i := 6) rfl))) (mvT hZ (hw _ (List.mem_of_getElem? (i := 7) rfl))) (mvT hZ (hw _ (List.mem_of_getElem? (i := 8) rfl))) (mvT hZ (hw _ (List.mem_of_getElem? (i := 9) rfl))) (by decide) (backOf (W := 0) (rmK54 l Z a0 hw [] b283 b102_300 b266 k283 a1 a2 a3 a4 a5 k102_300 k266 T300.heap n0 Z301 V301_b283 g300_0 V301_b266) hZ (hw _ (List.mem_of_getElem? (i := 9) rfl)) (hw _ (List.mem_of_getElem? (i := 8) rfl)) (by decide) (by decide)) (g := (mkF m 205 #[.val (.int s0), .val (.long a1), .second, .val (.long a2), .second, .val (.long a3), .second, .val (.long a4), .second, .val (.long a5), .second, .val (.int (5 : Int32)), .val (.ref b266), .val (.ref b283), .val (.ref b102_300)] [(.int (5 : Int32)), (.int (4 : Int32)), (.ref b266), (.ref b102_300), (.ref b283)])) rfl (by rw [hml]; rfl) (argsL := [(.ref b283), (.ref b102_300), (.ref b266), (.int (4 : Int32)), (.int (5 : Int32))]) (rest := []) (lenOf pd0_1 rfl) rfl (by show 2 * 0 + _ ≤ _; exact Nat.le_of_eq rfl) (hb hby at_205) (fun _ _ => ⟨rfl, eh306, (by decide : 3 + 0 ≤ _), (by decide : 15 + 0 ≤ _)⟩)
    dsimp only [Pt.U, Pt.locs, Pt.cells, Pt.slots] at X307 l307 y307 z307 st307 hQ307
    subst l307 y307 z307
    obtain ⟨rfl, N307q, eh307⟩ := hQ307
    have N307 := Fr.app N306 N307q
    refine Go.by st307 ?_
    show Go _ _ _ _ _ _ _ (T307.setTop (mkF m 208 #[.val (.int s0), .val (.long a1), .second, .val (.long a2), .second, .val (.long a3), .second, .val (.long a4), .second, .val (.long a5), .second, .val (.int (5 : Int32)), .val (.ref b266), .val (.ref b283), .val (.ref b102_300)] [(.int (1 : Int32))]))
    refine Go.by (fun _ kont => XS.ifNo X307.here hx rfl (hb hby at_208) rfl (by decide) kont) ?_
    show Go _ _ _ _ _ _ _ (T307.setTop (mkF m 211 #[.val (.int s0), .val (.long a1), .second, .val (.long a2), .second, .val (.long a3), .second, .val (.long a4), .second, .val (.long a5), .second, .val (.int (5 : Int32)), .val (.ref b266), .val (.ref b283), .val (.ref b102_300)] []))
    refine Go.by (fun _ kont => XS.iconst X307.here hx rfl (hb hby at_211) (XS.goto X307.here hx rfl (pc0 := 212) (pc' := 216) rfl (hb hby at_212) (by decide) (by decide) kont)) ?_
    show Go _ _ _ _ _ _ _ (T307.setTop (mkF m 216 #[.val (.int s0), .val (.long a1), .second, .val (.long a2), .second, .val (.long a3), .second, .val (.long a4), .second, .val (.long a5), .second, .val (.int (5 : Int32)), .val (.ref b266), .val (.ref b283), .val (.ref b102_300)] [(.int (1 : Int32))]))
    refine Go.retN X307 hx (t := .boolean) hret (by simp) hlk (hb hby at_216) ?_ (by decide) (by decide)
    show Q0 Z h0 n0 (some (.int (1 : Int32))) T307.heap _
    rw [eh307]
    exact ⟨rfl, N307⟩

set_option maxRecDepth 65536 in
set_option maxHeartbeats 40000000 in
theorem comes_1 {Post : Tables → Env → Array Value → State → Outcome → State → Prop} (hpost : ∀ tb e args s v u, (limb_1_1.after args s (.returned v) u = true ∧ limb_1_2.after args s (.returned v) u = true ∧ True) → FrameEnd s (.returned v) u (Jvm.fieldLocs frame_1_writes args s ++ Jvm.arrayLocs frame_1_arrays args s ++ Jvm.staticLocs frame_1_statics s) 16 128 → Post tb e args s (.returned v) u) :
    ArmFor flags0 classFile x code maxLocals ret World_1 tables_1 room_1 Calls_1 rest_1 Pre_1 Post := by
  intro l hfl _ _ p e ha hc hk s m args below hf hA hF happ hP
  obtain ⟨hcalls, hrest, hpre⟩ := hP
  obtain ⟨-, -, -, hnamed, -, -, -, hat⟩ := (Spec.applies_iff hf).mp happ
  obtain ⟨hg, hn⟩ := and_e (Cond.before_iff.mp (show (Jvm.Cond.and given_1 narrow_1).before args s = true from hpre))
  obtain ⟨hh1, hh2⟩ := and_e hg
  obtain ⟨hh3, hh4⟩ := and_e hh2
  obtain ⟨hh5, hh6⟩ := and_e hh4
  obtain ⟨hh7, hh8⟩ := and_e hh6
  obtain ⟨hh9, hh10⟩ := and_e hh8
  obtain ⟨hh11, hh12⟩ := and_e hh10
  obtain ⟨w0, w1, w2, w3, w4, w5, rfl⟩ : ∃ w0 w1 w2 w3 w4 w5 : Value, args = #[w0, w1, w2, w3, w4, w5] := by
    have hs : args.size = 6 := by simpa [Cond.value, given_1] using hh1
    obtain ⟨L⟩ := args
    match L, hs with
    | [w0, w1, w2, w3, w4, w5], _ => exact ⟨w0, w1, w2, w3, w4, w5, rfl⟩
  have hw := fun d (hd : d ∈ tables_1) => atoms_spec (ws := Jvm.Cond.code x code maxLocals ret :: tables_1) hat d (List.mem_cons_of_mem _ hd)
  obtain ⟨i0, ei0⟩ := is_v hh3
  obtain rfl : w0 = (.int i0) := Option.some.inj ei0
  obtain ⟨i1, ei1⟩ := isL_v hh5
  obtain rfl : w1 = (.long i1) := Option.some.inj ei1
  obtain ⟨i2, ei2⟩ := isL_v hh7
  obtain rfl : w2 = (.long i2) := Option.some.inj ei2
  obtain ⟨i3, ei3⟩ := isL_v hh9
  obtain rfl : w3 = (.long i3) := Option.some.inj ei3
  obtain ⟨i4, ei4⟩ := isL_v hh11
  obtain rfl : w4 = (.long i4) := Option.some.inj ei4
  obtain ⟨i5, ei5⟩ := isL_v hh12
  obtain rfl : w5 = (.long i5) := Option.some.inj ei5
  obtain ⟨n, o, h1, h2, h3, _, L, rfl, ⟨rfl, N⟩, hq⟩ := rm0 l s _ hw tables_1 i0 i1 i2 i3 i4 i5  s.heap s.heap.size (Nat.le_refl _)  p e ha hc hk s m _ below hf ((Spec.applies_iff_loose hf).mp happ).1 ⟨rfl, State.Warmed39.refl s, rfl⟩ trivial
  refine ⟨n, _, h1, h2, h3, hpost _ _ _ _ _ _ ⟨Cond.after_iff.mpr rfl, Cond.after_iff.mpr (eq_i res_at (Term.int_eval (1)) rfl), trivial⟩ ⟨hq.1, hq.2.1, (hq.2.2.sift fun y hy => Or.inr (N y hy)).mono (by decide) (by decide)⟩⟩
theorem main_1_1 : Claimed_1_1 := comes_1 fun _ _ _ _ _ _ h hF => ⟨h.1, hF⟩
theorem main_1_2 : Claimed_1_2 := comes_1 fun _ _ _ _ _ _ h hF => ⟨h.2.1, hF⟩

end Jvm.Pilot.@@N@@
namespace Jvm.Pilot.@@N@@
open Jvm Jvm.ClassFile Sem Op Lib Jvm.Free Jvm.Stand Jvm.Pilot.@@N@@.Jvm.D
/-! MADE BY PROGRAM (witnessworld.py) out of the Statement's table words and the real class files: 11 classes; the members and pool entries that the words name. The judged class is class 1, her method 1. -/
namespace start1
open Jvm.ClassFile
def u (s : String) : CpInfo := .utf8 (stringToUtf16 s)
/-- a pool by its gaps: so many unusable entries, then the entry; so many at the end -/
def gap : Nat → List CpInfo → List CpInfo
  | 0, r => r
  | n + 1, r => .unusable :: gap n r
def poolList (es : List (Nat × CpInfo)) (last : Nat) : List CpInfo := es.foldr (fun e r => gap e.1 (e.2 :: r)) (gap last [])
def pool (es : List (Nat × CpInfo)) (last : Nat) : Array CpInfo := ⟨poolList es last⟩
def fileOf (pool : Array CpInfo) (this : Nat) (attrs : Array Attribute := #[]) (ms : Array MethodInfo := #[]) (fl : Nat := 33) (sup : Nat := 0) (ifs : Array Nat := #[]) (fds : Array FieldInfo := #[]) : ClassFile where
  minorVersion := 0
  majorVersion := 65
  constantPool := pool
  accessFlags := fl
  thisClass := this
  superClass := sup
  interfaces := ifs
  fields := fds
  methods := ms
  attributes := attrs
def plain (name : String) (sup : Option ClassId) : Class where
  name := name
  kind := .ordinary
  loader := none
  accessFlags := 33
  super := sup
  interfaces := #[]
  cf := none
  fields := #[]
  methods := #[]
  instanceTypes := #[]
  staticTypes := #[]
  resolved := #[]
  callSites := []
  init := .initialized
  statics := none
  mirror := none

def pool0 : Array CpInfo := pool [(5, u "<init>"), (0, u "()V"), (1, .class_ 10), (1, u "java/lang/Object")] 113

def k0m0 : Method := { name := "<init>", desc := "()V", sig := { parameters := [], returnType := none }, accessFlags := 1, code := none }
/-- java/lang/Object -/
def k0 : Class := { plain "java/lang/Object" none with
  accessFlags := 33
  interfaces := #[]
  cf := some (fileOf pool0 8 #[] #[{ accessFlags := 1, nameIndex := 5, descriptorIndex := 6, attributes := #[] }] 33 0 #[] #[])
  fields := #[]
  methods := #[k0m0]
  instanceTypes := #[]
  staticTypes := #[]
  resolved := Array.replicate 124 none
  statics := none }

def pool1 : Array CpInfo := pool [(2, .class_ 4), (1, u "java/lang/Object"), (0, u "<init>"), (0, u "()V"), (0, .integer 2147483647), (0, .methodref 9 10), (0, .class_ 11), (0, .nameAndType 12 13), (0, u "com/example/runs_to_nets/runstonets/core/PlaceTransitionSynthesis"), (0, u "negated"), (0, u "([J)[J"), (0, .methodref 15 16), (0, .class_ 17), (0, .nameAndType 18 19), (0, u "com/example/runs_to_nets/runstonets/core/PlaceTransitionSynthesisNegatedPinLaw"), (0, u "ok"), (0, u "([J[J[JII)Z"), (2, u "law"), (0, u "(IJJJJJ)Z")] 5

def k1m0 : Method := { name := "<init>", desc := "()V", sig := { parameters := [], returnType := none }, accessFlags := 1, code := none }
def k1c1 : Code := { maxStack := 5, maxLocals := 15, code := code, exceptionTable := #[], attributes := #[] }
def k1m1 : Method := { name := "law", desc := "(IJJJJJ)Z", sig := { parameters := [.int, .long, .long, .long, .long, .long], returnType := some .boolean }, accessFlags := 9, code := some k1c1 }
def k1c2 : Code := { maxStack := 4, maxLocals := 5, code := method_3_code, exceptionTable := #[], attributes := #[] }
def k1m2 : Method := { name := "ok", desc := "([J[J[JII)Z", sig := { parameters := [(.array .long), (.array .long), (.array .long), .int, .int], returnType := some .boolean }, accessFlags := 10, code := some k1c2 }
/-- com/example/runs_to_nets/runstonets/core/PlaceTransitionSynthesisNegatedPinLaw -/
def k1 : Class := { plain "com/example/runs_to_nets/runstonets/core/PlaceTransitionSynthesisNegatedPinLaw" (some 0) with
  accessFlags := 49
  interfaces := #[]
  cf := some (fileOf pool1 15 #[] #[{ accessFlags := 1, nameIndex := 5, descriptorIndex := 6, attributes := #[] }, { accessFlags := 9, nameIndex := 22, descriptorIndex := 23, attributes := #[] }, { accessFlags := 10, nameIndex := 18, descriptorIndex := 19, attributes := #[] }] 49 2 #[] #[])
  fields := #[]
  methods := #[k1m0, k1m1, k1m2]
  instanceTypes := #[]
  staticTypes := #[]
  resolved := Array.replicate 29 none
  statics := none }

def pool2 : Array CpInfo := pool [(2, .class_ 4), (1, u "java/lang/Object"), (3, .class_ 10), (1, u "com/example/runs_to_nets/runstonets/core/PlaceTransitionSynthesis"), (0, u "net"), (0, u "Lcom/example/runs_to_nets/runstonets/core/PlaceTransitionNet;"), (2, u "unsolved"), (0, u "Ljava/util/List;"), (19, .class_ 37), (0, u "com/example/runs_to_nets/runstonets/core/PlaceTransitionSynthesis$Separator"), (172, .class_ 211), (0, u "com/example/runs_to_nets/runstonets/core/PlaceTransitionSynthesis$Beyond"), (169, u "negated"), (0, u "([J)[J")] 68

def k2c0 : Code := { maxStack := 4, maxLocals := 3, code := prog_27_method_10_code, exceptionTable := #[], attributes := #[] }
def k2m0 : Method := { name := "negated", desc := "([J)[J", sig := { parameters := [(.array .long)], returnType := some (.array .long) }, accessFlags := 8, code := some k2c0 }
/-- com/example/runs_to_nets/runstonets/core/PlaceTransitionSynthesis -/
def k2 : Class := { plain "com/example/runs_to_nets/runstonets/core/PlaceTransitionSynthesis" (some 0) with
  accessFlags := 49
  interfaces := #[]
  cf := some (fileOf pool2 8 #[.nestMembers #[210, 36]] #[{ accessFlags := 8, nameIndex := 381, descriptorIndex := 382, attributes := #[] }] 49 2 #[] #[{ accessFlags := 18, nameIndex := 11, descriptorIndex := 12, attributes := #[] }, { accessFlags := 18, nameIndex := 15, descriptorIndex := 16, attributes := #[] }])
  fields := #[{ name := "net", type := (.object "com/example/runs_to_nets/runstonets/core/PlaceTransitionNet"), accessFlags := 18, slot := 0, constantValue := 0 }, { name := "unsolved", type := (.object "java/util/List"), accessFlags := 18, slot := 1, constantValue := 0 }]
  methods := #[k2m0]
  instanceTypes := #[(.object "com/example/runs_to_nets/runstonets/core/PlaceTransitionNet"), (.object "java/util/List")]
  staticTypes := #[]
  resolved := Array.replicate 451 none
  statics := none }

def pool3 : Array CpInfo := pool [(1, u "java/lang/Cloneable"), (0, .class_ 1), (0, u "java/lang/Object"), (0, .class_ 3)] 3

/-- java/lang/Cloneable -/
def k3 : Class := { plain "java/lang/Cloneable" (some 0) with
  accessFlags := 1537
  interfaces := #[]
  cf := some (fileOf pool3 2 #[] #[] 1537 4 #[] #[])
  fields := #[]
  methods := #[]
  instanceTypes := #[]
  staticTypes := #[]
  resolved := Array.replicate 8 none
  statics := none }

def pool4 : Array CpInfo := pool [(1, u "java/io/Serializable"), (0, .class_ 1), (0, u "java/lang/Object"), (0, .class_ 3)] 3

/-- java/io/Serializable -/
def k4 : Class := { plain "java/io/Serializable" (some 0) with
  accessFlags := 1537
  interfaces := #[]
  cf := some (fileOf pool4 2 #[] #[] 1537 4 #[] #[])
  fields := #[]
  methods := #[]
  instanceTypes := #[]
  staticTypes := #[]
  resolved := Array.replicate 8 none
  statics := none }

/-- the primitive byte -/
def k5 : Class := { plain "byte" none with kind := .primitive 'B', accessFlags := 0x411 }
/-- [B -/
def k6 : Class := { plain "[B" (some 0) with kind := .array 5 .byte, interfaces := #[3, 4], accessFlags := 1041 }

/-- the primitive int -/
def k7 : Class := { plain "int" none with kind := .primitive 'I', accessFlags := 0x411 }
/-- [I -/
def k8 : Class := { plain "[I" (some 0) with kind := .array 7 .int, interfaces := #[3, 4], accessFlags := 1041 }

/-- the primitive long -/
def k9 : Class := { plain "long" none with kind := .primitive 'J', accessFlags := 0x411 }
/-- [J -/
def k10 : Class := { plain "[J" (some 0) with kind := .array 9 .long, interfaces := #[3, 4], accessFlags := 1041 }

def heap : Heap := #[]
def classes : Array Class := #[k0, k1, k2, k3, k4, k5, k6, k7, k8, k9, k10]
def interned : List (Array UInt16 × Addr) := []
def slotsUsed : Nat := 0
def theMethod : MethodId := ⟨1, 1⟩
def args0 : Array Value := #[.int 4, .long 3, .long 4, .long 5, .long 6, .long 7]
def aboutOver (below : List Frame) : State where
  vm := { classes := classes, interned := interned.toArray }
  heap := heap
  slotsUsed := slotsUsed
  threads := #[{ frames := .invoking theMethod args0 :: below }]
def below0 : List Frame := [.native { method := ⟨0, 0⟩, args := #[] }]
def about1 : State := aboutOver below0
def p0 : Program := .bare "" "" ""
def e0 : Env := launch0.env 0 0 0
theorem w_frames : about1.frames = Frame.invoking theMethod args0 :: below0 := rfl
set_option maxRecDepth 65536 in
theorem w_args : argsFit about1.vm theMethod args0 = true := by decide +kernel
set_option maxRecDepth 65536 in
theorem w_heap : heapFits about1 = true := by decide +kernel
set_option maxRecDepth 65536 in
theorem w_runnable : about1.curStatus? = some .runnable := by decide +kernel
set_option maxRecDepth 65536 in
theorem w_alone : about1.alone = true := by decide +kernel
set_option maxRecDepth 65536 in
theorem w_named : about1.methodNamed? x = some theMethod := by decide +kernel
set_option maxRecDepth 65536 in
theorem w_hears : about1.hears theMethod below0 = true := by decide +kernel
set_option maxRecDepth 65536 in
theorem w_ripe : about1.ripe theMethod args0 below0 = true := by decide +kernel
theorem w_running : about1.status = .running := rfl
set_option maxRecDepth 65536 in
theorem w_room : about1.hasRoom e0.platform room_1 = true :=
  launch0.hasRoom_least _ room_1 (by decide +kernel) (by decide +kernel) (by decide +kernel) (by decide +kernel) (by decide +kernel) (by decide +kernel)
theorem allAtoms_all (ts : List Jvm.Cond) (a : Array Jvm.Value) (st : Jvm.State) : (allAtoms ts).before a st = ts.all (fun c => c.before a st) := by
  induction ts with
  | nil => rfl
  | cons c t ih =>
    show (Jvm.Cond.and c (allAtoms t)).before a st = _
    rw [Jvm.Cond.before_and, ih, List.all_cons]
def words1 : List Jvm.Cond := Jvm.Cond.code x code maxLocals ret :: tables_1
/-- a 'code' word, met by the world's own term for the bytes: nothing is compared byte by byte -/
theorem code_word {y : MethodName} {bytes : ByteArray} {mx : Nat} {rt : Option FieldType} {a : Array Value} {s : State} {m : MethodId} {meth : Method} {c : Code} (h1 : s.methodNamed? y = some m) (h2 : s.vm.method? m = some meth) (h3 : meth.code = some c) (h4 : c.code = bytes)
    (h5 : (c.maxLocals == mx && c.exceptionTable.isEmpty && decide (c.maxStack ≤ mostOperands) && decide (meth.sig.returnType = rt) && !meth.locks && decide (parseMethodDescriptor y.desc = some meth.sig)) = true) : (Jvm.Cond.code y bytes mx rt).before a s = true := by
  simp only [Bool.and_eq_true, beq_iff_eq, Bool.not_eq_true', decide_eq_true_eq] at h5
  obtain ⟨⟨⟨⟨⟨g1, g2⟩, g3⟩, g4⟩, g5⟩, g6⟩ := h5
  simp [Cond.before, Cond.holds, Cond.value, h1, h2, h3, h4, g1, g2, g3, g4, g5, g6]
def isCode : Jvm.Cond → Bool
  | .code _ _ _ _ => true
  | _ => false
theorem all_split {L : List Jvm.Cond} {P : Jvm.Cond → Bool} (h1 : L.all (fun c => isCode c || P c) = true) (h2 : ∀ c ∈ L.filter isCode, P c = true) : L.all P = true := by
  refine List.all_eq_true.mpr fun c hc => ?_
  have h := List.all_eq_true.mp h1 c hc
  rcases Bool.eq_false_or_eq_true (isCode c) with hi | hi
  · exact h2 c (List.mem_filter.mpr ⟨hc, hi⟩)
  · simpa [hi] using h
set_option maxRecDepth 65536 in
theorem w_c0 : (Jvm.Cond.code x code maxLocals ret).before args0 about1 = true := code_word (m := ⟨1, 1⟩) (meth := k1m1) (c := k1c1) (by decide +kernel) rfl rfl rfl (by decide +kernel)
set_option maxRecDepth 65536 in
theorem w_c1 : (Jvm.Cond.code ({ cls := "com/example/runs_to_nets/runstonets/core/PlaceTransitionSynthesis", name := "negated", desc := "([J)[J" } : Jvm.MethodName) prog_27_method_10_code (3 : Nat) (Option.some (Jvm.ClassFile.FieldType.array Jvm.ClassFile.FieldType.long))).before args0 about1 = true := code_word (m := ⟨2, 0⟩) (meth := k2m0) (c := k2c0) (by decide +kernel) rfl rfl rfl (by decide +kernel)
set_option maxRecDepth 65536 in
theorem w_c2 : (Jvm.Cond.code ({ cls := "com/example/runs_to_nets/runstonets/core/PlaceTransitionSynthesisNegatedPinLaw", name := "ok", desc := "([J[J[JII)Z" } : Jvm.MethodName) method_3_code (5 : Nat) (Option.some Jvm.ClassFile.FieldType.boolean)).before args0 about1 = true := code_word (m := ⟨1, 2⟩) (meth := k1m2) (c := k1c2) (by decide +kernel) rfl rfl rfl (by decide +kernel)
def codes1 : List Jvm.Cond := [Jvm.Cond.code x code maxLocals ret, Jvm.Cond.code ({ cls := "com/example/runs_to_nets/runstonets/core/PlaceTransitionSynthesis", name := "negated", desc := "([J)[J" } : Jvm.MethodName) prog_27_method_10_code (3 : Nat) (Option.some (Jvm.ClassFile.FieldType.array Jvm.ClassFile.FieldType.long)), Jvm.Cond.code ({ cls := "com/example/runs_to_nets/runstonets/core/PlaceTransitionSynthesisNegatedPinLaw", name := "ok", desc := "([J[J[JII)Z" } : Jvm.MethodName) method_3_code (5 : Nat) (Option.some Jvm.ClassFile.FieldType.boolean)]
set_option maxRecDepth 65536 in
theorem codes_eq : words1.filter isCode = codes1 := rfl
theorem w_codes : ∀ c ∈ words1.filter isCode, c.before args0 about1 = true := by
  rw [codes_eq]
  intro c hc
  simp only [codes1, List.mem_cons, List.not_mem_nil, or_false] at hc
  rcases hc with rfl | rfl | rfl
  · exact w_c0
  · exact w_c1
  · exact w_c2
set_option maxRecDepth 65536 in
theorem w_t1 : words1.all (fun c => isCode c || c.before args0 about1) = true := by decide +kernel
theorem w_tables : (allAtoms (Jvm.Cond.code x code maxLocals ret :: tables_1)).before args0 about1 = true := by
  rw [allAtoms_all]
  show words1.all (fun c => c.before args0 about1) = true
  refine all_split ?_ w_codes
  rw [w_t1]
set_option maxRecDepth 65536 in
theorem w_case : (Jvm.Cond.and given_1 narrow_1).before args0 about1 = true := by decide +kernel
theorem w_applies : (headSpec (Jvm.Cond.code x code maxLocals ret :: tables_1) room_1).applies x e0.platform about1 = true :=
  (Spec.applies_iff w_frames).mpr ⟨w_running, w_runnable, w_alone, w_named, w_hears, w_ripe, w_room, w_tables⟩
theorem atStart : AtStart classFile x code maxLocals ret World_1 tables_1 room_1 Calls_1 rest_1 Pre_1 launch0 p0 e0 about1 theMethod args0 below0 :=
  ⟨lists_1, trivial, launch0.admits_env _ _ _, launch0.least_env, fairChoices_fair.cas, fairChoices_fair.clock, w_frames, w_args, w_heap, w_applies, trivial, trivial, w_case⟩
end start1
theorem witness_1 : WitnessClaimed_1 := ⟨start1.p0, start1.e0, start1.about1, start1.theMethod, start1.args0, start1.below0, start1.atStart⟩
end Jvm.Pilot.@@N@@
