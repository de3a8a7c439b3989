import JvmDerived
import JvmDerived.Pilot.@@N@@Statement
import JvmDerived.Pilot.@@N@@Code
set_option linter.unusedVariables false
set_option linter.unusedSimpArgs false
namespace Jvm.RoadKit
open Sem ClassFile Op Lib Jvm.Stand Jvm.Free Jvm.LawKit
section OwnGo
variable {p : Program} {l : Launch} {e : Env} {R : Room} {s : State} {m : MethodId} {args : Array Value} {below : List Frame} {meth : Method} {c : Code} {T T' : State} {locs : List Loc} {cells slots ck sk : Nat} {Q : Option Value → Heap → List Loc → Prop}
/-- from the state T the body comes to its end, with Q -/
def Go (p : Program) (e : Env) (below : List Frame) (s : State) (ck sk : Nat) (Q : Option Value → Heap → List Loc → Prop) (T : State) : Prop :=
  ∃ s₂ o, Steps p.tables e below T s₂ ∧ s₂.status = .running ∧ Ended s₂ below o ∧ ∃ v L, o = .returned v ∧ Q v s₂.heap L ∧ FrameEnd s o s₂ L ck sk
theorem Go.by (h : ∀ t, Steps p.tables e below T' t → Steps p.tables e below T t) (g : Go p e below s ck sk Q T') : Go p e below s ck sk Q T := by
  obtain ⟨s₂, o, h1, r⟩ := g
  exact ⟨s₂, o, h _ h1, r⟩
theorem Go.tr (h : Steps p.tables e below T T') (g : Go p e below s ck sk Q T') : Go p e below s ck sk Q T := by
  obtain ⟨s₂, o, h1, r⟩ := g
  exact ⟨s₂, o, h.trans h1, r⟩
theorem Go.fin (X : Stand p l e R s m args below meth c T locs cells slots) {v : Option Value} (hv : meth.sig.returnType = none → v = none) (hlk : meth.locks = false)
    (st : ∀ fs : List Frame, (∀ (f : JFrame) (acts : List Action), f.method = m → f.locked = none → f.entered = [] → (doReturn e (T.setTop f) acts v).1 = T.setFrames fs) → Steps p.tables e below T' (T.setFrames fs))
    (hq : Q v T.heap locs) (hc : cells ≤ ck) (hs : slots ≤ sk) : Go p e below s ck sk Q T' := by
  obtain ⟨fs, hr, hrun, hended, hW, hsame⟩ := X.leave hv hlk
  exact ⟨_, _, st fs hr, hrun, hended, _, _, rfl, hq, ⟨_, rfl⟩, hW, hsame.mono hc hs⟩
theorem Go.retV (X : Stand p l e R s m args below meth c T locs cells slots) (hx : p.tables.exec = Jvm.exec) {pc : Nat} {Ls : Array Slot} (hret : meth.sig.returnType = none) (hlk : meth.locks = false) (hd : decode c.code pc = .ok (.return_, 1))
    (hq : Q none T.heap locs) (hc : cells ≤ ck) (hs : slots ≤ sk) : Go p e below s ck sk Q (T.setTop (mkF m pc Ls [])) :=
  Go.fin X (fun _ => rfl) hlk (fun fs hr => X.returnOut hx hret hd hr) hq hc hs
theorem Go.retN (X : Stand p l e R s m args below meth c T locs cells slots) (hx : p.tables.exec = Jvm.exec) {pc : Nat} {Ls : Array Slot} {z : Int32} {t : FieldType} {rest : List Value} (hret : meth.sig.returnType = some t) (ht : t = .boolean ∨ t = .byte ∨ t = .char ∨ t = .short) (hlk : meth.locks = false) (hd : decode c.code pc = .ok (.ireturn, 1))
    (hq : Q (some (.int (nar t z))) T.heap locs) (hc : cells ≤ ck) (hs : slots ≤ sk) : Go p e below s ck sk Q (T.setTop (mkF m pc Ls (.int z :: rest))) :=
  Go.fin X (fun h => by rw [hret] at h; cases h) hlk (fun fs hr => Jvm.RoadKit.retN X hx hret ht hd hr) hq hc hs
theorem Go.retI (X : Stand p l e R s m args below meth c T locs cells slots) (hx : p.tables.exec = Jvm.exec) {pc : Nat} {Ls : Array Slot} {z : Int32} {rest : List Value} (hret : meth.sig.returnType = some .int) (hlk : meth.locks = false) (hd : decode c.code pc = .ok (.ireturn, 1))
    (hq : Q (some (.int z)) T.heap locs) (hc : cells ≤ ck) (hs : slots ≤ sk) : Go p e below s ck sk Q (T.setTop (mkF m pc Ls (.int z :: rest))) :=
  Go.fin X (fun h => by rw [hret] at h; cases h) hlk (fun fs hr => retOut X hx hret rfl (Or.inl ⟨rfl, Or.inl rfl, z, rfl⟩) hd hr) hq hc hs
theorem Go.retJ (X : Stand p l e R s m args below meth c T locs cells slots) (hx : p.tables.exec = Jvm.exec) {pc : Nat} {Ls : Array Slot} {z : Int64} {rest : List Value} (hret : meth.sig.returnType = some .long) (hlk : meth.locks = false) (hd : decode c.code pc = .ok (.lreturn, 1))
    (hq : Q (some (.long z)) T.heap locs) (hc : cells ≤ ck) (hs : slots ≤ sk) : Go p e below s ck sk Q (T.setTop (mkF m pc Ls (.long z :: rest))) :=
  Go.fin X (fun h => by rw [hret] at h; cases h) hlk (fun fs hr => retOut X hx hret rfl (Or.inr (Or.inl ⟨rfl, rfl, z, rfl⟩)) hd hr) hq hc hs
theorem Go.retR (X : Stand p l e R s m args below meth c T locs cells slots) (hx : p.tables.exec = Jvm.exec) {pc : Nat} {Ls : Array Slot} {w : Value} {t : FieldType} {rest : List Value} (hret : meth.sig.returnType = some t) (ht : t.isReference = true) (hw : w.isRef = true) (hlk : meth.locks = false) (hd : decode c.code pc = .ok (.areturn, 1))
    (hq : Q (some w) T.heap locs) (hc : cells ≤ ck) (hs : slots ≤ sk) : Go p e below s ck sk Q (T.setTop (mkF m pc Ls (w :: rest))) := by
  refine Go.fin X (fun h => by rw [hret] at h; cases h) hlk (fun fs hr => retOut X hx hret ?_ (Or.inr (Or.inr (Or.inr (Or.inr ⟨rfl, ht, hw⟩)))) hd hr) hq hc hs
  rcases ref_cases hw with rfl | ⟨a, rfl⟩ <;> cases t <;> first | rfl | cases ht
/-- the same where Strings may be interned on the way -/
def GoW (p : Program) (e : Env) (below : List Frame) (s : State) (ck sk : Nat) (Q : Option Value → Heap → List Loc → Prop) (T : State) : Prop :=
  ∃ s₂ o, Steps p.tables e below T s₂ ∧ s₂.status = .running ∧ Ended s₂ below o ∧ ∃ v L, o = .returned v ∧ Q v s₂.heap L ∧ ReturnedEndW s o s₂ L ck sk
theorem GoW.by (h : ∀ t, Steps p.tables e below T' t → Steps p.tables e below T t) (g : GoW p e below s ck sk Q T') : GoW p e below s ck sk Q T := by
  obtain ⟨s₂, o, h1, r⟩ := g
  exact ⟨s₂, o, h _ h1, r⟩
theorem GoW.tr (h : Steps p.tables e below T T') (g : GoW p e below s ck sk Q T') : GoW p e below s ck sk Q T := by
  obtain ⟨s₂, o, h1, r⟩ := g
  exact ⟨s₂, o, h.trans h1, r⟩
theorem GoW.fin {vm1 : Vm} {k1 : Nat} (X : Stand p l e R (s.setVm vm1) m args below meth c T locs cells slots) (hS : s.Since vm1 k1) (hk : k1 ≤ T.heap.size) {v : Option Value} (hv : meth.sig.returnType = none → v = none) (hlk : meth.locks = false)
    (st : ∀ fs : List Frame, (∀ (f : JFrame) (acts : List Action), f.method = m → f.locked = none → f.entered = [] → (doReturn e (T.setTop f) acts v).1 = T.setFrames fs) → Steps p.tables e below T' (T.setFrames fs))
    (hq : Q v T.heap locs) (hc : cells ≤ ck) (hs : slots ≤ sk) : GoW p e below s ck sk Q T' := by
  obtain ⟨fs, hr, hrun, hended, hW, hsame⟩ := X.leave hv hlk
  obtain ⟨q1, q2, q3⟩ := hS.ended (U := T.setFrames fs) hW hk hsame
  exact ⟨_, _, st fs hr, hrun, hended, _, _, rfl, hq, ⟨_, rfl⟩, q1, q2, q3.mono hc hs⟩
theorem GoW.retV {vm1 : Vm} {k1 : Nat} (X : Stand p l e R (s.setVm vm1) m args below meth c T locs cells slots) (hS : s.Since vm1 k1) (hk : k1 ≤ T.heap.size) (hx : p.tables.exec = Jvm.exec) {pc : Nat} {Ls : Array Slot} (hret : meth.sig.returnType = none) (hlk : meth.locks = false) (hd : decode c.code pc = .ok (.return_, 1))
    (hq : Q none T.heap locs) (hc : cells ≤ ck) (hs : slots ≤ sk) : GoW p e below s ck sk Q (T.setTop (mkF m pc Ls [])) :=
  GoW.fin X hS hk (fun _ => rfl) hlk (fun fs hr => X.returnOut hx hret hd hr) hq hc hs
theorem GoW.retN {vm1 : Vm} {k1 : Nat} (X : Stand p l e R (s.setVm vm1) m args below meth c T locs cells slots) (hS : s.Since vm1 k1) (hk : k1 ≤ T.heap.size) (hx : p.tables.exec = Jvm.exec) {pc : Nat} {Ls : Array Slot} {z : Int32} {t : FieldType} {rest : List Value} (hret : meth.sig.returnType = some t) (ht : t = .boolean ∨ t = .byte ∨ t = .char ∨ t = .short) (hlk : meth.locks = false) (hd : decode c.code pc = .ok (.ireturn, 1))
    (hq : Q (some (.int (nar t z))) T.heap locs) (hc : cells ≤ ck) (hs : slots ≤ sk) : GoW p e below s ck sk Q (T.setTop (mkF m pc Ls (.int z :: rest))) :=
  GoW.fin X hS hk (fun h => by rw [hret] at h; cases h) hlk (fun fs hr => Jvm.RoadKit.retN X hx hret ht hd hr) hq hc hs
theorem GoW.retR {vm1 : Vm} {k1 : Nat} (X : Stand p l e R (s.setVm vm1) m args below meth c T locs cells slots) (hS : s.Since vm1 k1) (hk : k1 ≤ T.heap.size) (hx : p.tables.exec = Jvm.exec) {pc : Nat} {Ls : Array Slot} {w : Value} {t : FieldType} {rest : List Value} (hret : meth.sig.returnType = some t) (ht : t.isReference = true) (hw : w.isRef = true) (hlk : meth.locks = false) (hd : decode c.code pc = .ok (.areturn, 1))
    (hq : Q (some w) T.heap locs) (hc : cells ≤ ck) (hs : slots ≤ sk) : GoW p e below s ck sk Q (T.setTop (mkF m pc Ls (w :: rest))) := by
  refine GoW.fin X hS hk (fun h => by rw [hret] at h; cases h) hlk (fun fs hr => retOut X hx hret ?_ (Or.inr (Or.inr (Or.inr (Or.inr ⟨rfl, ht, hw⟩)))) hd hr) hq hc hs
  rcases ref_cases hw with rfl | ⟨a, rfl⟩ <;> cases t <;> first | rfl | cases ht
end OwnGo
theorem own_selp {Z s : State} {a0 args : Array Value} {y : MethodName} {n : Nat} (hZ : Z.Warmed39 s.vm) (wi : (Cond.instantiable y.cls n).before a0 Z = true) (wp : (Cond.privateMethod y).before a0 Z = true) (wm : (Cond.instanceMethod y).before a0 Z = true) (hy : y.cls ≠ "java/lang/invoke/MethodHandle" ∧ y.cls ≠ "java/lang/invoke/VarHandle") : (Cond.selects y.cls y y).before args s = true := by
  obtain ⟨c, k, h1, h2, -, h4, -⟩ := Cond.instantiable_spec (mv (args := args) hZ wi)
  exact selects_self_of_private h1 h2 (by simpa using (Bool.or_eq_false_iff.mp h4).1) (Cond.privateMethod_at (mvP (args := args) hZ wp)) (mv hZ wm) hy
theorem own_zn {z : Int32} (h : z = (0 : Int32) ∨ z = (1 : Int32)) : narrow .boolean (.int z) = .int z := by rcases h with rfl | rfl <;> rfl
theorem own_zf {z : Int32} (h : z = (0 : Int32) ∨ z = (1 : Int32)) : fits .boolean (.int z) = true := by rcases h with rfl | rfl <;> rfl
theorem own_ns {Z : State} {h : Heap} {b : Addr} {C : String} (E : Exa Z h b C) : ∀ cell : Cell, h[b]? = some cell → cell.vm.isStatics = false := fun cell hc => by
  obtain ⟨c, _, h1, -, -, h4, -⟩ := E
  cases h1.symm.trans hc
  exact h4
theorem own_stakeep {Z : State} {h h' : Heap} {C n d : String} {v : Value} {ws : List Addr} (F : Sta Z h C n d v) (K : Keep h h' ws) (q : ∀ x ∈ ws, ∀ cell : Cell, h[x]? = some cell → cell.vm.isStatics = false) : Sta Z h' C n d v := by
  obtain ⟨cf, i, k, f, st, cell, h1, h2, h3, h4, h5, h6, h7⟩ := F
  refine ⟨cf, i, k, f, st, cell, h1, h2, h3, h4, K.2.1 st cell h5 fun z => ?_, h6, h7⟩
  rw [q st z cell h5] at h6
  cases h6
section OwnLong
variable {Z : State} {h h' : Heap} {a b : Addr} {k : ClassId} {n j : Int32} {x : Int64} {ws : List Addr} {sl : Nat} {v : Value}
/-- a long[] of the length n, whatever it holds -/
def LA (Z : State) (h : Heap) (a : Addr) (k : ClassId) (n : Int32) : Prop := ∃ c : Cell, Arr Z h a c .long ∧ c.cls = k ∧ c.slots.size = n.toNatClampNeg ∧ ¬ n < 0 ∧ ∀ i, i < c.slots.size → ∃ x : Int64, c.slots[i]? = some (.long x)
theorem LA.lt (F : LA Z h a k n) : a < h.size := by obtain ⟨c, A, -⟩ := F; exact A.lt
theorem LA.ext (F : LA Z h a k n) (E : Ext h h') : LA Z h' a k n := by obtain ⟨c, A, r⟩ := F; exact ⟨c, A.ext E, r⟩
theorem LA.other (F : LA Z h b k n) (W : Wr h h' a sl v) (q : b ≠ a) : LA Z h' b k n := by obtain ⟨c, A, r⟩ := F; exact ⟨c, A.other W q, r⟩
theorem LA.keep (F : LA Z h a k n) (K : Keep h h' ws) (q : a ∉ ws) : LA Z h' a k n := by obtain ⟨c, A, r⟩ := F; exact ⟨c, ⟨K.2.1 a c A.1 q, A.2⟩, r⟩
theorem LA.new (A : Arr Z h a (newA k .long n) .long) (q : ¬ n < 0) : LA Z h a k n := ⟨_, A, rfl, sz_new _ _ _, q, fun i hi => ⟨0, by
  have hi' : i < n.toNatClampNeg := by rw [sz_new] at hi; exact hi
  show (Array.replicate n.toNatClampNeg (defaultValue .long))[i]? = _
  simp [hi', defaultValue]⟩⟩
theorem LA.set {c : Cell} (A : Arr Z h a c .long) (q1 : c.cls = k) (S : c.slots.size = n.toNatClampNeg) (q3 : ¬ n < 0) (G : ∀ i, i < c.slots.size → ∃ x : Int64, c.slots[i]? = some (.long x)) (W : Wr h h' a sl (.long x)) : LA Z h' a k n := by
  refine ⟨_, A.same W, q1, by rw [sz_set]; exact S, q3, fun i hi => ?_⟩
  rw [sz_set] at hi
  by_cases e : sl = i
  · subst e; exact ⟨x, by simp [Cell.setSlot, hi]⟩
  · obtain ⟨y, hy⟩ := G i hi
    exact ⟨y, by rw [← hy]; exact Array.getElem?_setIfInBounds_ne e⟩
end OwnLong
section OwnStart
variable {args : Array Value} {s : State} {a b t : Term}
theorem own_eqI {n : Int32} (h : (Cond.eq a (.int n)).value args s none s [] = some true) : a.eval args s none [] s = some (.int n) := by
  cases ha : a.eval args s none [] s with
  | none => simp [Cond.value, ha] at h
  | some x => cases x <;> simp [Cond.value, ha, Term.eval] at h ⊢ <;> exact h
theorem own_eqL {n : Int64} (h : (Cond.eq a (.long n)).value args s none s [] = some true) : a.eval args s none [] s = some (.long n) := by
  cases ha : a.eval args s none [] s with
  | none => simp [Cond.value, ha] at h
  | some x => cases x <;> simp [Cond.value, ha, Term.eval] at h ⊢ <;> exact h
theorem own_eqR {x : Addr} (h : (Cond.eq a b).value args s none s [] = some true) (hb : b.eval args s none [] s = some (.ref x)) : a.eval args s none [] s = some (.ref x) := by
  cases ha : a.eval args s none [] s with
  | none => simp [Cond.value, ha] at h
  | some y => cases y <;> simp [Cond.value, ha, hb] at h ⊢ <;> exact h
theorem own_neR {x y : Addr} (h : (Cond.not (Cond.eq a b)).value args s none s [] = some true) (ha : a.eval args s none [] s = some (.ref x)) (hb : b.eval args s none [] s = some (.ref y)) : x ≠ y := by
  intro e
  subst e
  simp [Cond.value, ha, hb] at h
theorem own_lenv {n : Int32} {x : Addr} {cl : Cell} (h : (Term.length t).eval args s none [] s = some (.int n)) (ht : t.eval args s none [] s = some (.ref x)) (hc : s.heap[x]? = some cl) : cl.slots.size < 2 ^ 31 ∧ cl.slots.size.toInt32 = n := by
  obtain ⟨a', cell, e1, e2, e3⟩ := Term.length_spec h
  cases ht.symm.trans e1
  have hcl : cell = cl := by
    simp only [State.arrayAt?, hc, Option.bind_eq_bind, Option.bind_some] at e2
    cases hk : s.vm.classes[cl.cls]? with
    | none => simp [hk] at e2
    | some k =>
      simp only [hk, Option.bind_some] at e2
      split at e2
      · cases e2
      · split at e2
        · exact (Option.some.inj e2).symm
        · cases e2
  subst hcl
  refine ⟨?_, (Value.int.inj e3).symm⟩
  simp only [Term.eval, ht, e2, Option.bind_eq_bind, Option.bind_some] at h
  split at h
  · assumption
  · cases h
end OwnStart
end Jvm.RoadKit
namespace Jvm.Pilot.@@N@@
open Jvm Jvm.ClassFile Sem Op Lib Jvm.Free Jvm.Stand Jvm.LawKit Jvm.RoadKit Bundle Jvm.Pilot.@@N@@.Jvm.D
theorem own_m9 (a : Int32) : (((a &&& (2147483647 : Int32)) % (9 : Int32)) + (1 : Int32)) = 1 ∨ (((a &&& (2147483647 : Int32)) % (9 : Int32)) + (1 : Int32)) = 2 ∨ (((a &&& (2147483647 : Int32)) % (9 : Int32)) + (1 : Int32)) = 3 ∨ (((a &&& (2147483647 : Int32)) % (9 : Int32)) + (1 : Int32)) = 4 ∨ (((a &&& (2147483647 : Int32)) % (9 : Int32)) + (1 : Int32)) = 5 ∨ (((a &&& (2147483647 : Int32)) % (9 : Int32)) + (1 : Int32)) = 6 ∨ (((a &&& (2147483647 : Int32)) % (9 : Int32)) + (1 : Int32)) = 7 ∨ (((a &&& (2147483647 : Int32)) % (9 : Int32)) + (1 : Int32)) = 8 ∨ (((a &&& (2147483647 : Int32)) % (9 : Int32)) + (1 : Int32)) = 9 := by
  have h1 := c_mask a 2147483647 31 (by decide) (by decide)
  have h2 := (c_irem (a &&& 2147483647) 9 9 (by decide)).1 (by rw [h1]; omega)
  have h3 := c_iadd ((a &&& 2147483647) % 9) 1
  have h4 := rng32 (((a &&& 2147483647) % 9) + 1)
  have e1 : (1 : Int32).toInt = 1 := by decide
  rw [h2, e1] at h3
  simp only [← Int32.toInt_inj]
  have e2 : (2 : Int32).toInt = 2 := by decide
  have e3 : (3 : Int32).toInt = 3 := by decide
  have e4 : (4 : Int32).toInt = 4 := by decide
  have e5 : (5 : Int32).toInt = 5 := by decide
  have e6 : (6 : Int32).toInt = 6 := by decide
  have e7 : (7 : Int32).toInt = 7 := by decide
  have e8 : (8 : Int32).toInt = 8 := by decide
  have e9 : (9 : Int32).toInt = 9 := by decide
  rw [e1, e2, e3, e4, e5, e6, e7, e8, e9]
  omega

theorem dF1_0 : decode prog_106_method_5_code 0 = .ok (.iload_n 0, 1) := by decide +kernel
theorem dF1_1 : decode prog_106_method_5_code 1 = .ok (.iconst 1, 1) := by decide +kernel
theorem dF1_2 : decode prog_106_method_5_code 2 = .ok (.if_icmp .lt 11, 3) := by decide +kernel
theorem dF1_5 : decode prog_106_method_5_code 5 = .ok (.iload_n 0, 1) := by decide +kernel
theorem dF1_6 : decode prog_106_method_5_code 6 = .ok (.getstatic 78, 3) := by decide +kernel
theorem dF1_9 : decode prog_106_method_5_code 9 = .ok (.arraylength, 1) := by decide +kernel
theorem dF1_10 : decode prog_106_method_5_code 10 = .ok (.if_icmp .le 7, 3) := by decide +kernel
theorem dF1_17 : decode prog_106_method_5_code 17 = .ok (.getstatic 78, 3) := by decide +kernel
theorem dF1_20 : decode prog_106_method_5_code 20 = .ok (.iload_n 0, 1) := by decide +kernel
theorem dF1_21 : decode prog_106_method_5_code 21 = .ok (.iconst 1, 1) := by decide +kernel
theorem dF1_22 : decode prog_106_method_5_code 22 = .ok (.isub, 1) := by decide +kernel
theorem dF1_23 : decode prog_106_method_5_code 23 = .ok (.aaload, 1) := by decide +kernel
theorem dF1_24 : decode prog_106_method_5_code 24 = .ok (.areturn, 1) := by decide +kernel
theorem pnF1 : plainName "com/example/classwright/classwright/ReferenceKind" = true := by first | (simp [plainName, overriddenIn]; done) | decide +kernel
theorem efF1 (m : MethodId)  : entryFrame m #[(.int (1 : Int32))] 1 = mkF m 0 #[.val (.int (1 : Int32))] [] := by first | (simp [entryFrame, mkF, argsToLocals, Value.category]; done) | rfl
def QF1 (Z : State) (ar : Addr) (kc_ar : ClassId) (k1 : Addr) (k2 : Addr) (k3 : Addr) (k4 : Addr) (k5 : Addr) (k6 : Addr) (k7 : Addr) (k8 : Addr) (k9 : Addr) (h0 : Heap) (n0 : Nat) (v : Option Value) (h : Heap) (L : List Loc) : Prop := (v = some (.ref k1) ∧ Fr n0 L ∧ h = h0)
set_option maxRecDepth 65536 in
set_option maxHeartbeats 40000000 in
theorem rmF1 (l : Launch) (Z : State) (a0 : Array Value) (hw : ∀ d ∈ tables_1, d.before a0 Z = true) (ws : List Jvm.Cond) (ar : Addr) (kc_ar : ClassId) (k1 : Addr) (k2 : Addr) (k3 : Addr) (k4 : Addr) (k5 : Addr) (k6 : Addr) (k7 : Addr) (k8 : Addr) (k9 : Addr) (h0 : Heap) (n0 : Nat) (Z0 : n0 ≤ h0.size) (V0_ar : Arv Z h0 ar kc_ar (.object "com/example/classwright/classwright/ReferenceKind") (9 : Int32) [(.ref k1), (.ref k2), (.ref k3), (.ref k4), (.ref k5), (.ref k6), (.ref k7), (.ref k8), (.ref k9)] .null) (S0_BY_VALUE : Sta Z h0 "com/example/classwright/classwright/ReferenceKind" "BY_VALUE" "[Lcom/example/classwright/classwright/ReferenceKind;" (.ref ar)) :
    MetFree l (⟨"com/example/classwright/classwright/ReferenceKind", "forByte", "(I)Lcom/example/classwright/classwright/ReferenceKind;"⟩ : MethodName) (head1 (Jvm.Cond.code (⟨"com/example/classwright/classwright/ReferenceKind", "forByte", "(I)Lcom/example/classwright/classwright/ReferenceKind;"⟩ : MethodName) prog_106_method_5_code 1 (some (.object "com/example/classwright/classwright/ReferenceKind")) :: ws) ({ frames := 0, cells := 0, slots := 0, locals := 0 } : Room)) (fun aa_ U_ => aa_ = #[(.int (1 : Int32))] ∧ Z.Warmed39 U_.vm ∧ U_.heap = h0) (fun _ _ _ _ _ => True) (fun _ U_ o_ V_ => ∃ v_ L_, o_ = .returned v_ ∧ QF1 Z ar kc_ar k1 k2 k3 k4 k5 k6 k7 k8 k9 h0 n0 v_ V_.heap L_ ∧ FrameEnd U_ o_ V_ L_ ({ frames := 0, cells := 0, slots := 0, locals := 0 } : Room).cells ({ frames := 0, cells := 0, slots := 0, locals := 0 } : Room).slots) := by
  refine MetFree.of_bodySF (plainFor_of_name pnF1) hisR ?_
  intro p e s m args below meth c s₁ Bd hml0 hP hK
  obtain ⟨rfl, hZ, hh⟩ := hP
  have hx := Bd.exec
  have hby := Bd.bytes
  have hml : c.maxLocals = 1 := hml0
  have hown : s.vm.findClass "com/example/classwright/classwright/ReferenceKind" = some m.cls := findClass_of_methodNamed Bd.named
  have hnm := (name_of_methodNamed Bd.named Bd.method).1
  have hlk : meth.locks = false := BodyLoose.notSynchronized Bd
  have hret : meth.sig.returnType = (some (.object "com/example/classwright/classwright/ReferenceKind")) := Bd.returns
  have X0 : Stand p l e ({ frames := 0, cells := 0, slots := 0, locals := 0 } : Room) s m #[(.int (1 : Int32))] below meth c s₁ [] 0 0 := Stand.of_body Bd
  have e0 : s₁.heap = h0 := by rw [← hh, Bd.state]; rfl
  have N0 := Fr.nil n0
  show Go p e below s ({ frames := 0, cells := 0, slots := 0, locals := 0 } : Room).cells ({ frames := 0, cells := 0, slots := 0, locals := 0 } : Room).slots (QF1 Z ar kc_ar k1 k2 k3 k4 k5 k6 k7 k8 k9 h0 n0) (s₁.setTop (entryFrame m #[(.int (1 : Int32))] 1))
  rw [efF1]
  refine Go.by (fun _ kont => XS.iloadN X0.here hx rfl (hb hby dF1_0) rfl (XS.iconst X0.here hx rfl (hb hby dF1_1) (XS.icmpNo X0.here hx rfl (hb hby dF1_2) rfl (by decide) (XS.iloadN X0.here hx rfl (hb hby dF1_5) rfl kont)))) ?_
  show Go _ _ _ _ _ _ _ (s₁.setTop (mkF m 6 #[.val (.int (1 : Int32))] [(.int (1 : Int32))]))
  obtain ⟨T101, X101, e101, st101⟩ := getS2 X0 hx hZ hown (host := "") (Or.inl (hw _ (List.mem_of_getElem? (i := 5) rfl))) Via.refl e0 S0_BY_VALUE (g := (mkF m 6 #[.val (.int (1 : Int32))] [(.int (1 : Int32))])) rfl (hb hby dF1_6)
  refine Go.by st101 ?_
  show Go _ _ _ _ _ _ _ (T101.setTop (mkF m 9 #[.val (.int (1 : Int32))] [(.ref ar), (.int (1 : Int32))]))
  obtain ⟨cl_q102, Ar_q102, q1_q102, S_q102, N_q102, H_q102, G_q102⟩ := id V0_ar
  refine Go.by (X101.arraylength hx (by first | exact Ar_q102.1 | (rw [e101]; exact Ar_q102.1)) (State.isArrayOf_alike hZ.alike Ar_q102.2.1) (g := (mkF m 9 #[.val (.int (1 : Int32))] [(.ref ar), (.int (1 : Int32))])) rfl rfl (hb hby dF1_9)) ?_
  rw [len_of S_q102 N_q102]
  show Go _ _ _ _ _ _ _ (T101.setTop (mkF m 10 #[.val (.int (1 : Int32))] [(.int (9 : Int32)), (.int (1 : Int32))]))
  refine Go.by (fun _ kont => XS.icmpYes X101.here hx rfl (pc0 := 10) (pc' := 17) rfl (hb hby dF1_10) rfl (by decide) (by decide) (by decide) kont) ?_
  show Go _ _ _ _ _ _ _ (T101.setTop (mkF m 17 #[.val (.int (1 : Int32))] []))
  obtain ⟨T103, X103, e103, st103⟩ := getS2 X101 hx hZ hown (host := "") (Or.inl (hw _ (List.mem_of_getElem? (i := 5) rfl))) Via.refl e101 S0_BY_VALUE (g := (mkF m 17 #[.val (.int (1 : Int32))] [])) rfl (hb hby dF1_17)
  refine Go.by st103 ?_
  show Go _ _ _ _ _ _ _ (T103.setTop (mkF m 20 #[.val (.int (1 : Int32))] [(.ref ar)]))
  refine Go.by (fun _ kont => XS.iloadN X103.here hx rfl (hb hby dF1_20) rfl (XS.iconst X103.here hx rfl (hb hby dF1_21) (XS.isub X103.here hx rfl (hb hby dF1_22) rfl kont))) ?_
  show Go _ _ _ _ _ _ _ (T103.setTop (mkF m 23 #[.val (.int (1 : Int32))] [(.int ((1 : Int32) - (1 : Int32))), (.ref ar)]))
  rw [show ((1 : Int32) - (1 : Int32)) = (0 : Int32) from by decide]
  show Go _ _ _ _ _ _ _ (T103.setTop (mkF m 23 #[.val (.int (1 : Int32))] [(.int (0 : Int32)), (.ref ar)]))
  obtain ⟨cl_q104, Ar_q104, q1_q104, S_q104, N_q104, H_q104, G_q104⟩ := id V0_ar
  have hin_q104 : ¬ ((0 : Int32) < 0 ∨ cl_q104.slots.size ≤ ((0 : Int32)).toNatClampNeg) := inb_of S_q104 ⟨by decide, by decide⟩
  have hat_q104 : cl_q104.slots[((0 : Int32)).toNatClampNeg]? = some (.ref k1) := Has.at H_q104 hin_q104 rfl
  refine Go.by (X103.aaload hx (j := (0 : Int32)) (v := (.ref k1)) (by first | exact Ar_q104.1 | (rw [e103]; exact Ar_q104.1)) (State.isArrayOf_alike hZ.alike Ar_q104.2.1) rfl Ar_q104.2.2 hin_q104 hat_q104 (g := (mkF m 23 #[.val (.int (1 : Int32))] [(.int (0 : Int32)), (.ref ar)])) rfl rfl (hb hby dF1_23)) ?_
  show Go _ _ _ _ _ _ _ (T103.setTop (mkF m 24 #[.val (.int (1 : Int32))] [(.ref k1)]))
  refine Go.retR X103 hx hret rfl rfl hlk (hb hby dF1_24) ?_ (by decide) (by decide)
  show QF1 Z ar kc_ar k1 k2 k3 k4 k5 k6 k7 k8 k9 h0 n0 (some (.ref k1)) T103.heap _
  rw [e103]
  exact ⟨rfl, N0, rfl⟩

theorem dF2_0 : decode prog_106_method_5_code 0 = .ok (.iload_n 0, 1) := by decide +kernel
theorem dF2_1 : decode prog_106_method_5_code 1 = .ok (.iconst 1, 1) := by decide +kernel
theorem dF2_2 : decode prog_106_method_5_code 2 = .ok (.if_icmp .lt 11, 3) := by decide +kernel
theorem dF2_5 : decode prog_106_method_5_code 5 = .ok (.iload_n 0, 1) := by decide +kernel
theorem dF2_6 : decode prog_106_method_5_code 6 = .ok (.getstatic 78, 3) := by decide +kernel
theorem dF2_9 : decode prog_106_method_5_code 9 = .ok (.arraylength, 1) := by decide +kernel
theorem dF2_10 : decode prog_106_method_5_code 10 = .ok (.if_icmp .le 7, 3) := by decide +kernel
theorem dF2_17 : decode prog_106_method_5_code 17 = .ok (.getstatic 78, 3) := by decide +kernel
theorem dF2_20 : decode prog_106_method_5_code 20 = .ok (.iload_n 0, 1) := by decide +kernel
theorem dF2_21 : decode prog_106_method_5_code 21 = .ok (.iconst 1, 1) := by decide +kernel
theorem dF2_22 : decode prog_106_method_5_code 22 = .ok (.isub, 1) := by decide +kernel
theorem dF2_23 : decode prog_106_method_5_code 23 = .ok (.aaload, 1) := by decide +kernel
theorem dF2_24 : decode prog_106_method_5_code 24 = .ok (.areturn, 1) := by decide +kernel
theorem pnF2 : plainName "com/example/classwright/classwright/ReferenceKind" = true := by first | (simp [plainName, overriddenIn]; done) | decide +kernel
theorem efF2 (m : MethodId)  : entryFrame m #[(.int (2 : Int32))] 1 = mkF m 0 #[.val (.int (2 : Int32))] [] := by first | (simp [entryFrame, mkF, argsToLocals, Value.category]; done) | rfl
def QF2 (Z : State) (ar : Addr) (kc_ar : ClassId) (k1 : Addr) (k2 : Addr) (k3 : Addr) (k4 : Addr) (k5 : Addr) (k6 : Addr) (k7 : Addr) (k8 : Addr) (k9 : Addr) (h0 : Heap) (n0 : Nat) (v : Option Value) (h : Heap) (L : List Loc) : Prop := (v = some (.ref k2) ∧ Fr n0 L ∧ h = h0)
set_option maxRecDepth 65536 in
set_option maxHeartbeats 40000000 in
theorem rmF2 (l : Launch) (Z : State) (a0 : Array Value) (hw : ∀ d ∈ tables_1, d.before a0 Z = true) (ws : List Jvm.Cond) (ar : Addr) (kc_ar : ClassId) (k1 : Addr) (k2 : Addr) (k3 : Addr) (k4 : Addr) (k5 : Addr) (k6 : Addr) (k7 : Addr) (k8 : Addr) (k9 : Addr) (h0 : Heap) (n0 : Nat) (Z0 : n0 ≤ h0.size) (V0_ar : Arv Z h0 ar kc_ar (.object "com/example/classwright/classwright/ReferenceKind") (9 : Int32) [(.ref k1), (.ref k2), (.ref k3), (.ref k4), (.ref k5), (.ref k6), (.ref k7), (.ref k8), (.ref k9)] .null) (S0_BY_VALUE : Sta Z h0 "com/example/classwright/classwright/ReferenceKind" "BY_VALUE" "[Lcom/example/classwright/classwright/ReferenceKind;" (.ref ar)) :
    MetFree l (⟨"com/example/classwright/classwright/ReferenceKind", "forByte", "(I)Lcom/example/classwright/classwright/ReferenceKind;"⟩ : MethodName) (head1 (Jvm.Cond.code (⟨"com/example/classwright/classwright/ReferenceKind", "forByte", "(I)Lcom/example/classwright/classwright/ReferenceKind;"⟩ : MethodName) prog_106_method_5_code 1 (some (.object "com/example/classwright/classwright/ReferenceKind")) :: ws) ({ frames := 0, cells := 0, slots := 0, locals := 0 } : Room)) (fun aa_ U_ => aa_ = #[(.int (2 : Int32))] ∧ Z.Warmed39 U_.vm ∧ U_.heap = h0) (fun _ _ _ _ _ => True) (fun _ U_ o_ V_ => ∃ v_ L_, o_ = .returned v_ ∧ QF2 Z ar kc_ar k1 k2 k3 k4 k5 k6 k7 k8 k9 h0 n0 v_ V_.heap L_ ∧ FrameEnd U_ o_ V_ L_ ({ frames := 0, cells := 0, slots := 0, locals := 0 } : Room).cells ({ frames := 0, cells := 0, slots := 0, locals := 0 } : Room).slots) := by
  refine MetFree.of_bodySF (plainFor_of_name pnF2) hisR ?_
  intro p e s m args below meth c s₁ Bd hml0 hP hK
  obtain ⟨rfl, hZ, hh⟩ := hP
  have hx := Bd.exec
  have hby := Bd.bytes
  have hml : c.maxLocals = 1 := hml0
  have hown : s.vm.findClass "com/example/classwright/classwright/ReferenceKind" = some m.cls := findClass_of_methodNamed Bd.named
  have hnm := (name_of_methodNamed Bd.named Bd.method).1
  have hlk : meth.locks = false := BodyLoose.notSynchronized Bd
  have hret : meth.sig.returnType = (some (.object "com/example/classwright/classwright/ReferenceKind")) := Bd.returns
  have X0 : Stand p l e ({ frames := 0, cells := 0, slots := 0, locals := 0 } : Room) s m #[(.int (2 : Int32))] below meth c s₁ [] 0 0 := Stand.of_body Bd
  have e0 : s₁.heap = h0 := by rw [← hh, Bd.state]; rfl
  have N0 := Fr.nil n0
  show Go p e below s ({ frames := 0, cells := 0, slots := 0, locals := 0 } : Room).cells ({ frames := 0, cells := 0, slots := 0, locals := 0 } : Room).slots (QF2 Z ar kc_ar k1 k2 k3 k4 k5 k6 k7 k8 k9 h0 n0) (s₁.setTop (entryFrame m #[(.int (2 : Int32))] 1))
  rw [efF2]
  refine Go.by (fun _ kont => XS.iloadN X0.here hx rfl (hb hby dF2_0) rfl (XS.iconst X0.here hx rfl (hb hby dF2_1) (XS.icmpNo X0.here hx rfl (hb hby dF2_2) rfl (by decide) (XS.iloadN X0.here hx rfl (hb hby dF2_5) rfl kont)))) ?_
  show Go _ _ _ _ _ _ _ (s₁.setTop (mkF m 6 #[.val (.int (2 : Int32))] [(.int (2 : Int32))]))
  obtain ⟨T101, X101, e101, st101⟩ := getS2 X0 hx hZ hown (host := "") (Or.inl (hw _ (List.mem_of_getElem? (i := 5) rfl))) Via.refl e0 S0_BY_VALUE (g := (mkF m 6 #[.val (.int (2 : Int32))] [(.int (2 : Int32))])) rfl (hb hby dF2_6)
  refine Go.by st101 ?_
  show Go _ _ _ _ _ _ _ (T101.setTop (mkF m 9 #[.val (.int (2 : Int32))] [(.ref ar), (.int (2 : Int32))]))
  obtain ⟨cl_q102, Ar_q102, q1_q102, S_q102, N_q102, H_q102, G_q102⟩ := id V0_ar
  refine Go.by (X101.arraylength hx (by first | exact Ar_q102.1 | (rw [e101]; exact Ar_q102.1)) (State.isArrayOf_alike hZ.alike Ar_q102.2.1) (g := (mkF m 9 #[.val (.int (2 : Int32))] [(.ref ar), (.int (2 : Int32))])) rfl rfl (hb hby dF2_9)) ?_
  rw [len_of S_q102 N_q102]
  show Go _ _ _ _ _ _ _ (T101.setTop (mkF m 10 #[.val (.int (2 : Int32))] [(.int (9 : Int32)), (.int (2 : Int32))]))
  refine Go.by (fun _ kont => XS.icmpYes X101.here hx rfl (pc0 := 10) (pc' := 17) rfl (hb hby dF2_10) rfl (by decide) (by decide) (by decide) kont) ?_
  show Go _ _ _ _ _ _ _ (T101.setTop (mkF m 17 #[.val (.int (2 : Int32))] []))
  obtain ⟨T103, X103, e103, st103⟩ := getS2 X101 hx hZ hown (host := "") (Or.inl (hw _ (List.mem_of_getElem? (i := 5) rfl))) Via.refl e101 S0_BY_VALUE (g := (mkF m 17 #[.val (.int (2 : Int32))] [])) rfl (hb hby dF2_17)
  refine Go.by st103 ?_
  show Go _ _ _ _ _ _ _ (T103.setTop (mkF m 20 #[.val (.int (2 : Int32))] [(.ref ar)]))
  refine Go.by (fun _ kont => XS.iloadN X103.here hx rfl (hb hby dF2_20) rfl (XS.iconst X103.here hx rfl (hb hby dF2_21) (XS.isub X103.here hx rfl (hb hby dF2_22) rfl kont))) ?_
  show Go _ _ _ _ _ _ _ (T103.setTop (mkF m 23 #[.val (.int (2 : Int32))] [(.int ((2 : Int32) - (1 : Int32))), (.ref ar)]))
  rw [show ((2 : Int32) - (1 : Int32)) = (1 : Int32) from by decide]
  show Go _ _ _ _ _ _ _ (T103.setTop (mkF m 23 #[.val (.int (2 : Int32))] [(.int (1 : Int32)), (.ref ar)]))
  obtain ⟨cl_q104, Ar_q104, q1_q104, S_q104, N_q104, H_q104, G_q104⟩ := id V0_ar
  have hin_q104 : ¬ ((1 : Int32) < 0 ∨ cl_q104.slots.size ≤ ((1 : Int32)).toNatClampNeg) := inb_of S_q104 ⟨by decide, by decide⟩
  have hat_q104 : cl_q104.slots[((1 : Int32)).toNatClampNeg]? = some (.ref k2) := Has.at H_q104 hin_q104 rfl
  refine Go.by (X103.aaload hx (j := (1 : Int32)) (v := (.ref k2)) (by first | exact Ar_q104.1 | (rw [e103]; exact Ar_q104.1)) (State.isArrayOf_alike hZ.alike Ar_q104.2.1) rfl Ar_q104.2.2 hin_q104 hat_q104 (g := (mkF m 23 #[.val (.int (2 : Int32))] [(.int (1 : Int32)), (.ref ar)])) rfl rfl (hb hby dF2_23)) ?_
  show Go _ _ _ _ _ _ _ (T103.setTop (mkF m 24 #[.val (.int (2 : Int32))] [(.ref k2)]))
  refine Go.retR X103 hx hret rfl rfl hlk (hb hby dF2_24) ?_ (by decide) (by decide)
  show QF2 Z ar kc_ar k1 k2 k3 k4 k5 k6 k7 k8 k9 h0 n0 (some (.ref k2)) T103.heap _
  rw [e103]
  exact ⟨rfl, N0, rfl⟩

theorem dF3_0 : decode prog_106_method_5_code 0 = .ok (.iload_n 0, 1) := by decide +kernel
theorem dF3_1 : decode prog_106_method_5_code 1 = .ok (.iconst 1, 1) := by decide +kernel
theorem dF3_2 : decode prog_106_method_5_code 2 = .ok (.if_icmp .lt 11, 3) := by decide +kernel
theorem dF3_5 : decode prog_106_method_5_code 5 = .ok (.iload_n 0, 1) := by decide +kernel
theorem dF3_6 : decode prog_106_method_5_code 6 = .ok (.getstatic 78, 3) := by decide +kernel
theorem dF3_9 : decode prog_106_method_5_code 9 = .ok (.arraylength, 1) := by decide +kernel
theorem dF3_10 : decode prog_106_method_5_code 10 = .ok (.if_icmp .le 7, 3) := by decide +kernel
theorem dF3_17 : decode prog_106_method_5_code 17 = .ok (.getstatic 78, 3) := by decide +kernel
theorem dF3_20 : decode prog_106_method_5_code 20 = .ok (.iload_n 0, 1) := by decide +kernel
theorem dF3_21 : decode prog_106_method_5_code 21 = .ok (.iconst 1, 1) := by decide +kernel
theorem dF3_22 : decode prog_106_method_5_code 22 = .ok (.isub, 1) := by decide +kernel
theorem dF3_23 : decode prog_106_method_5_code 23 = .ok (.aaload, 1) := by decide +kernel
theorem dF3_24 : decode prog_106_method_5_code 24 = .ok (.areturn, 1) := by decide +kernel
theorem pnF3 : plainName "com/example/classwright/classwright/ReferenceKind" = true := by first | (simp [plainName, overriddenIn]; done) | decide +kernel
theorem efF3 (m : MethodId)  : entryFrame m #[(.int (3 : Int32))] 1 = mkF m 0 #[.val (.int (3 : Int32))] [] := by first | (simp [entryFrame, mkF, argsToLocals, Value.category]; done) | rfl
def QF3 (Z : State) (ar : Addr) (kc_ar : ClassId) (k1 : Addr) (k2 : Addr) (k3 : Addr) (k4 : Addr) (k5 : Addr) (k6 : Addr) (k7 : Addr) (k8 : Addr) (k9 : Addr) (h0 : Heap) (n0 : Nat) (v : Option Value) (h : Heap) (L : List Loc) : Prop := (v = some (.ref k3) ∧ Fr n0 L ∧ h = h0)
set_option maxRecDepth 65536 in
set_option maxHeartbeats 40000000 in
theorem rmF3 (l : Launch) (Z : State) (a0 : Array Value) (hw : ∀ d ∈ tables_1, d.before a0 Z = true) (ws : List Jvm.Cond) (ar : Addr) (kc_ar : ClassId) (k1 : Addr) (k2 : Addr) (k3 : Addr) (k4 : Addr) (k5 : Addr) (k6 : Addr) (k7 : Addr) (k8 : Addr) (k9 : Addr) (h0 : Heap) (n0 : Nat) (Z0 : n0 ≤ h0.size) (V0_ar : Arv Z h0 ar kc_ar (.object "com/example/classwright/classwright/ReferenceKind") (9 : Int32) [(.ref k1), (.ref k2), (.ref k3), (.ref k4), (.ref k5), (.ref k6), (.ref k7), (.ref k8), (.ref k9)] .null) (S0_BY_VALUE : Sta Z h0 "com/example/classwright/classwright/ReferenceKind" "BY_VALUE" "[Lcom/example/classwright/classwright/ReferenceKind;" (.ref ar)) :
    MetFree l (⟨"com/example/classwright/classwright/ReferenceKind", "forByte", "(I)Lcom/example/classwright/classwright/ReferenceKind;"⟩ : MethodName) (head1 (Jvm.Cond.code (⟨"com/example/classwright/classwright/ReferenceKind", "forByte", "(I)Lcom/example/classwright/classwright/ReferenceKind;"⟩ : MethodName) prog_106_method_5_code 1 (some (.object "com/example/classwright/classwright/ReferenceKind")) :: ws) ({ frames := 0, cells := 0, slots := 0, locals := 0 } : Room)) (fun aa_ U_ => aa_ = #[(.int (3 : Int32))] ∧ Z.Warmed39 U_.vm ∧ U_.heap = h0) (fun _ _ _ _ _ => True) (fun _ U_ o_ V_ => ∃ v_ L_, o_ = .returned v_ ∧ QF3 Z ar kc_ar k1 k2 k3 k4 k5 k6 k7 k8 k9 h0 n0 v_ V_.heap L_ ∧ FrameEnd U_ o_ V_ L_ ({ frames := 0, cells := 0, slots := 0, locals := 0 } : Room).cells ({ frames := 0, cells := 0, slots := 0, locals := 0 } : Room).slots) := by
  refine MetFree.of_bodySF (plainFor_of_name pnF3) hisR ?_
  intro p e s m args below meth c s₁ Bd hml0 hP hK
  obtain ⟨rfl, hZ, hh⟩ := hP
  have hx := Bd.exec
  have hby := Bd.bytes
  have hml : c.maxLocals = 1 := hml0
  have hown : s.vm.findClass "com/example/classwright/classwright/ReferenceKind" = some m.cls := findClass_of_methodNamed Bd.named
  have hnm := (name_of_methodNamed Bd.named Bd.method).1
  have hlk : meth.locks = false := BodyLoose.notSynchronized Bd
  have hret : meth.sig.returnType = (some (.object "com/example/classwright/classwright/ReferenceKind")) := Bd.returns
  have X0 : Stand p l e ({ frames := 0, cells := 0, slots := 0, locals := 0 } : Room) s m #[(.int (3 : Int32))] below meth c s₁ [] 0 0 := Stand.of_body Bd
  have e0 : s₁.heap = h0 := by rw [← hh, Bd.state]; rfl
  have N0 := Fr.nil n0
  show Go p e below s ({ frames := 0, cells := 0, slots := 0, locals := 0 } : Room).cells ({ frames := 0, cells := 0, slots := 0, locals := 0 } : Room).slots (QF3 Z ar kc_ar k1 k2 k3 k4 k5 k6 k7 k8 k9 h0 n0) (s₁.setTop (entryFrame m #[(.int (3 : Int32))] 1))
  rw [efF3]
  refine Go.by (fun _ kont => XS.iloadN X0.here hx rfl (hb hby dF3_0) rfl (XS.iconst X0.here hx rfl (hb hby dF3_1) (XS.icmpNo X0.here hx rfl (hb hby dF3_2) rfl (by decide) (XS.iloadN X0.here hx rfl (hb hby dF3_5) rfl kont)))) ?_
  show Go _ _ _ _ _ _ _ (s₁.setTop (mkF m 6 #[.val (.int (3 : Int32))] [(.int (3 : Int32))]))
  obtain ⟨T101, X101, e101, st101⟩ := getS2 X0 hx hZ hown (host := "") (Or.inl (hw _ (List.mem_of_getElem? (i := 5) rfl))) Via.refl e0 S0_BY_VALUE (g := (mkF m 6 #[.val (.int (3 : Int32))] [(.int (3 : Int32))])) rfl (hb hby dF3_6)
  refine Go.by st101 ?_
  show Go _ _ _ _ _ _ _ (T101.setTop (mkF m 9 #[.val (.int (3 : Int32))] [(.ref ar), (.int (3 : Int32))]))
  obtain ⟨cl_q102, Ar_q102, q1_q102, S_q102, N_q102, H_q102, G_q102⟩ := id V0_ar
  refine Go.by (X101.arraylength hx (by first | exact Ar_q102.1 | (rw [e101]; exact Ar_q102.1)) (State.isArrayOf_alike hZ.alike Ar_q102.2.1) (g := (mkF m 9 #[.val (.int (3 : Int32))] [(.ref ar), (.int (3 : Int32))])) rfl rfl (hb hby dF3_9)) ?_
  rw [len_of S_q102 N_q102]
  show Go _ _ _ _ _ _ _ (T101.setTop (mkF m 10 #[.val (.int (3 : Int32))] [(.int (9 : Int32)), (.int (3 : Int32))]))
  refine Go.by (fun _ kont => XS.icmpYes X101.here hx rfl (pc0 := 10) (pc' := 17) rfl (hb hby dF3_10) rfl (by decide) (by decide) (by decide) kont) ?_
  show Go _ _ _ _ _ _ _ (T101.setTop (mkF m 17 #[.val (.int (3 : Int32))] []))
  obtain ⟨T103, X103, e103, st103⟩ := getS2 X101 hx hZ hown (host := "") (Or.inl (hw _ (List.mem_of_getElem? (i := 5) rfl))) Via.refl e101 S0_BY_VALUE (g := (mkF m 17 #[.val (.int (3 : Int32))] [])) rfl (hb hby dF3_17)
  refine Go.by st103 ?_
  show Go _ _ _ _ _ _ _ (T103.setTop (mkF m 20 #[.val (.int (3 : Int32))] [(.ref ar)]))
  refine Go.by (fun _ kont => XS.iloadN X103.here hx rfl (hb hby dF3_20) rfl (XS.iconst X103.here hx rfl (hb hby dF3_21) (XS.isub X103.here hx rfl (hb hby dF3_22) rfl kont))) ?_
  show Go _ _ _ _ _ _ _ (T103.setTop (mkF m 23 #[.val (.int (3 : Int32))] [(.int ((3 : Int32) - (1 : Int32))), (.ref ar)]))
  rw [show ((3 : Int32) - (1 : Int32)) = (2 : Int32) from by decide]
  show Go _ _ _ _ _ _ _ (T103.setTop (mkF m 23 #[.val (.int (3 : Int32))] [(.int (2 : Int32)), (.ref ar)]))
  obtain ⟨cl_q104, Ar_q104, q1_q104, S_q104, N_q104, H_q104, G_q104⟩ := id V0_ar
  have hin_q104 : ¬ ((2 : Int32) < 0 ∨ cl_q104.slots.size ≤ ((2 : Int32)).toNatClampNeg) := inb_of S_q104 ⟨by decide, by decide⟩
  have hat_q104 : cl_q104.slots[((2 : Int32)).toNatClampNeg]? = some (.ref k3) := Has.at H_q104 hin_q104 rfl
  refine Go.by (X103.aaload hx (j := (2 : Int32)) (v := (.ref k3)) (by first | exact Ar_q104.1 | (rw [e103]; exact Ar_q104.1)) (State.isArrayOf_alike hZ.alike Ar_q104.2.1) rfl Ar_q104.2.2 hin_q104 hat_q104 (g := (mkF m 23 #[.val (.int (3 : Int32))] [(.int (2 : Int32)), (.ref ar)])) rfl rfl (hb hby dF3_23)) ?_
  show Go _ _ _ _ _ _ _ (T103.setTop (mkF m 24 #[.val (.int (3 : Int32))] [(.ref k3)]))
  refine Go.retR X103 hx hret rfl rfl hlk (hb hby dF3_24) ?_ (by decide) (by decide)
  show QF3 Z ar kc_ar k1 k2 k3 k4 k5 k6 k7 k8 k9 h0 n0 (some (.ref k3)) T103.heap _
  rw [e103]
  exact ⟨rfl, N0, rfl⟩

theorem dF4_0 : decode prog_106_method_5_code 0 = .ok (.iload_n 0, 1) := by decide +kernel
theorem dF4_1 : decode prog_106_method_5_code 1 = .ok (.iconst 1, 1) := by decide +kernel
theorem dF4_2 : decode prog_106_method_5_code 2 = .ok (.if_icmp .lt 11, 3) := by decide +kernel
theorem dF4_5 : decode prog_106_method_5_code 5 = .ok (.iload_n 0, 1) := by decide +kernel
theorem dF4_6 : decode prog_106_method_5_code 6 = .ok (.getstatic 78, 3) := by decide +kernel
theorem dF4_9 : decode prog_106_method_5_code 9 = .ok (.arraylength, 1) := by decide +kernel
theorem dF4_10 : decode prog_106_method_5_code 10 = .ok (.if_icmp .le 7, 3) := by decide +kernel
theorem dF4_17 : decode prog_106_method_5_code 17 = .ok (.getstatic 78, 3) := by decide +kernel
theorem dF4_20 : decode prog_106_method_5_code 20 = .ok (.iload_n 0, 1) := by decide +kernel
theorem dF4_21 : decode prog_106_method_5_code 21 = .ok (.iconst 1, 1) := by decide +kernel
theorem dF4_22 : decode prog_106_method_5_code 22 = .ok (.isub, 1) := by decide +kernel
theorem dF4_23 : decode prog_106_method_5_code 23 = .ok (.aaload, 1) := by decide +kernel
theorem dF4_24 : decode prog_106_method_5_code 24 = .ok (.areturn, 1) := by decide +kernel
theorem pnF4 : plainName "com/example/classwright/classwright/ReferenceKind" = true := by first | (simp [plainName, overriddenIn]; done) | decide +kernel
theorem efF4 (m : MethodId)  : entryFrame m #[(.int (4 : Int32))] 1 = mkF m 0 #[.val (.int (4 : Int32))] [] := by first | (simp [entryFrame, mkF, argsToLocals, Value.category]; done) | rfl
def QF4 (Z : State) (ar : Addr) (kc_ar : ClassId) (k1 : Addr) (k2 : Addr) (k3 : Addr) (k4 : Addr) (k5 : Addr) (k6 : Addr) (k7 : Addr) (k8 : Addr) (k9 : Addr) (h0 : Heap) (n0 : Nat) (v : Option Value) (h : Heap) (L : List Loc) : Prop := (v = some (.ref k4) ∧ Fr n0 L ∧ h = h0)
set_option maxRecDepth 65536 in
set_option maxHeartbeats 40000000 in
theorem rmF4 (l : Launch) (Z : State) (a0 : Array Value) (hw : ∀ d ∈ tables_1, d.before a0 Z = true) (ws : List Jvm.Cond) (ar : Addr) (kc_ar : ClassId) (k1 : Addr) (k2 : Addr) (k3 : Addr) (k4 : Addr) (k5 : Addr) (k6 : Addr) (k7 : Addr) (k8 : Addr) (k9 : Addr) (h0 : Heap) (n0 : Nat) (Z0 : n0 ≤ h0.size) (V0_ar : Arv Z h0 ar kc_ar (.object "com/example/classwright/classwright/ReferenceKind") (9 : Int32) [(.ref k1), (.ref k2), (.ref k3), (.ref k4), (.ref k5), (.ref k6), (.ref k7), (.ref k8), (.ref k9)] .null) (S0_BY_VALUE : Sta Z h0 "com/example/classwright/classwright/ReferenceKind" "BY_VALUE" "[Lcom/example/classwright/classwright/ReferenceKind;" (.ref ar)) :
    MetFree l (⟨"com/example/classwright/classwright/ReferenceKind", "forByte", "(I)Lcom/example/classwright/classwright/ReferenceKind;"⟩ : MethodName) (head1 (Jvm.Cond.code (⟨"com/example/classwright/classwright/ReferenceKind", "forByte", "(I)Lcom/example/classwright/classwright/ReferenceKind;"⟩ : MethodName) prog_106_method_5_code 1 (some (.object "com/example/classwright/classwright/ReferenceKind")) :: ws) ({ frames := 0, cells := 0, slots := 0, locals := 0 } : Room)) (fun aa_ U_ => aa_ = #[(.int (4 : Int32))] ∧ Z.Warmed39 U_.vm ∧ U_.heap = h0) (fun _ _ _ _ _ => True) (fun _ U_ o_ V_ => ∃ v_ L_, o_ = .returned v_ ∧ QF4 Z ar kc_ar k1 k2 k3 k4 k5 k6 k7 k8 k9 h0 n0 v_ V_.heap L_ ∧ FrameEnd U_ o_ V_ L_ ({ frames := 0, cells := 0, slots := 0, locals := 0 } : Room).cells ({ frames := 0, cells := 0, slots := 0, locals := 0 } : Room).slots) := by
  refine MetFree.of_bodySF (plainFor_of_name pnF4) hisR ?_
  intro p e s m args below meth c s₁ Bd hml0 hP hK
  obtain ⟨rfl, hZ, hh⟩ := hP
  have hx := Bd.exec
  have hby := Bd.bytes
  have hml : c.maxLocals = 1 := hml0
  have hown : s.vm.findClass "com/example/classwright/classwright/ReferenceKind" = some m.cls := findClass_of_methodNamed Bd.named
  have hnm := (name_of_methodNamed Bd.named Bd.method).1
  have hlk : meth.locks = false := BodyLoose.notSynchronized Bd
  have hret : meth.sig.returnType = (some (.object "com/example/classwright/classwright/ReferenceKind")) := Bd.returns
  have X0 : Stand p l e ({ frames := 0, cells := 0, slots := 0, locals := 0 } : Room) s m #[(.int (4 : Int32))] below meth c s₁ [] 0 0 := Stand.of_body Bd
  have e0 : s₁.heap = h0 := by rw [← hh, Bd.state]; rfl
  have N0 := Fr.nil n0
  show Go p e below s ({ frames := 0, cells := 0, slots := 0, locals := 0 } : Room).cells ({ frames := 0, cells := 0, slots := 0, locals := 0 } : Room).slots (QF4 Z ar kc_ar k1 k2 k3 k4 k5 k6 k7 k8 k9 h0 n0) (s₁.setTop (entryFrame m #[(.int (4 : Int32))] 1))
  rw [efF4]
  refine Go.by (fun _ kont => XS.iloadN X0.here hx rfl (hb hby dF4_0) rfl (XS.iconst X0.here hx rfl (hb hby dF4_1) (XS.icmpNo X0.here hx rfl (hb hby dF4_2) rfl (by decide) (XS.iloadN X0.here hx rfl (hb hby dF4_5) rfl kont)))) ?_
  show Go _ _ _ _ _ _ _ (s₁.setTop (mkF m 6 #[.val (.int (4 : Int32))] [(.int (4 : Int32))]))
  obtain ⟨T101, X101, e101, st101⟩ := getS2 X0 hx hZ hown (host := "") (Or.inl (hw _ (List.mem_of_getElem? (i := 5) rfl))) Via.refl e0 S0_BY_VALUE (g := (mkF m 6 #[.val (.int (4 : Int32))] [(.int (4 : Int32))])) rfl (hb hby dF4_6)
  refine Go.by st101 ?_
  show Go _ _ _ _ _ _ _ (T101.setTop (mkF m 9 #[.val (.int (4 : Int32))] [(.ref ar), (.int (4 : Int32))]))
  obtain ⟨cl_q102, Ar_q102, q1_q102, S_q102, N_q102, H_q102, G_q102⟩ := id V0_ar
  refine Go.by (X101.arraylength hx (by first | exact Ar_q102.1 | (rw [e101]; exact Ar_q102.1)) (State.isArrayOf_alike hZ.alike Ar_q102.2.1) (g := (mkF m 9 #[.val (.int (4 : Int32))] [(.ref ar), (.int (4 : Int32))])) rfl rfl (hb hby dF4_9)) ?_
  rw [len_of S_q102 N_q102]
  show Go _ _ _ _ _ _ _ (T101.setTop (mkF m 10 #[.val (.int (4 : Int32))] [(.int (9 : Int32)), (.int (4 : Int32))]))
  refine Go.by (fun _ kont => XS.icmpYes X101.here hx rfl (pc0 := 10) (pc' := 17) rfl (hb hby dF4_10) rfl (by decide) (by decide) (by decide) kont) ?_
  show Go _ _ _ _ _ _ _ (T101.setTop (mkF m 17 #[.val (.int (4 : Int32))] []))
  obtain ⟨T103, X103, e103, st103⟩ := getS2 X101 hx hZ hown (host := "") (Or.inl (hw _ (List.mem_of_getElem? (i := 5) rfl))) Via.refl e101 S0_BY_VALUE (g := (mkF m 17 #[.val (.int (4 : Int32))] [])) rfl (hb hby dF4_17)
  refine Go.by st103 ?_
  show Go _ _ _ _ _ _ _ (T103.setTop (mkF m 20 #[.val (.int (4 : Int32))] [(.ref ar)]))
  refine Go.by (fun _ kont => XS.iloadN X103.here hx rfl (hb hby dF4_20) rfl (XS.iconst X103.here hx rfl (hb hby dF4_21) (XS.isub X103.here hx rfl (hb hby dF4_22) rfl kont))) ?_
  show Go _ _ _ _ _ _ _ (T103.setTop (mkF m 23 #[.val (.int (4 : Int32))] [(.int ((4 : Int32) - (1 : Int32))), (.ref ar)]))
  rw [show ((4 : Int32) - (1 : Int32)) = (3 : Int32) from by decide]
  show Go _ _ _ _ _ _ _ (T103.setTop (mkF m 23 #[.val (.int (4 : Int32))] [(.int (3 : Int32)), (.ref ar)]))
  obtain ⟨cl_q104, Ar_q104, q1_q104, S_q104, N_q104, H_q104, G_q104⟩ := id V0_ar
  have hin_q104 : ¬ ((3 : Int32) < 0 ∨ cl_q104.slots.size ≤ ((3 : Int32)).toNatClampNeg) := inb_of S_q104 ⟨by decide, by decide⟩
  have hat_q104 : cl_q104.slots[((3 : Int32)).toNatClampNeg]? = some (.ref k4) := Has.at H_q104 hin_q104 rfl
  refine Go.by (X103.aaload hx (j := (3 : Int32)) (v := (.ref k4)) (by first | exact Ar_q104.1 | (rw [e103]; exact Ar_q104.1)) (State.isArrayOf_alike hZ.alike Ar_q104.2.1) rfl Ar_q104.2.2 hin_q104 hat_q104 (g := (mkF m 23 #[.val (.int (4 : Int32))] [(.int (3 : Int32)), (.ref ar)])) rfl rfl (hb hby dF4_23)) ?_
  show Go _ _ _ _ _ _ _ (T103.setTop (mkF m 24 #[.val (.int (4 : Int32))] [(.ref k4)]))
  refine Go.retR X103 hx hret rfl rfl hlk (hb hby dF4_24) ?_ (by decide) (by decide)
  show QF4 Z ar kc_ar k1 k2 k3 k4 k5 k6 k7 k8 k9 h0 n0 (some (.ref k4)) T103.heap _
  rw [e103]
  exact ⟨rfl, N0, rfl⟩

theorem dF5_0 : decode prog_106_method_5_code 0 = .ok (.iload_n 0, 1) := by decide +kernel
theorem dF5_1 : decode prog_106_method_5_code 1 = .ok (.iconst 1, 1) := by decide +kernel
theorem dF5_2 : decode prog_106_method_5_code 2 = .ok (.if_icmp .lt 11, 3) := by decide +kernel
theorem dF5_5 : decode prog_106_method_5_code 5 = .ok (.iload_n 0, 1) := by decide +kernel
theorem dF5_6 : decode prog_106_method_5_code 6 = .ok (.getstatic 78, 3) := by decide +kernel
theorem dF5_9 : decode prog_106_method_5_code 9 = .ok (.arraylength, 1) := by decide +kernel
theorem dF5_10 : decode prog_106_method_5_code 10 = .ok (.if_icmp .le 7, 3) := by decide +kernel
theorem dF5_17 : decode prog_106_method_5_code 17 = .ok (.getstatic 78, 3) := by decide +kernel
theorem dF5_20 : decode prog_106_method_5_code 20 = .ok (.iload_n 0, 1) := by decide +kernel
theorem dF5_21 : decode prog_106_method_5_code 21 = .ok (.iconst 1, 1) := by decide +kernel
theorem dF5_22 : decode prog_106_method_5_code 22 = .ok (.isub, 1) := by decide +kernel
theorem dF5_23 : decode prog_106_method_5_code 23 = .ok (.aaload, 1) := by decide +kernel
theorem dF5_24 : decode prog_106_method_5_code 24 = .ok (.areturn, 1) := by decide +kernel
theorem pnF5 : plainName "com/example/classwright/classwright/ReferenceKind" = true := by first | (simp [plainName, overriddenIn]; done) | decide +kernel
theorem efF5 (m : MethodId)  : entryFrame m #[(.int (5 : Int32))] 1 = mkF m 0 #[.val (.int (5 : Int32))] [] := by first | (simp [entryFrame, mkF, argsToLocals, Value.category]; done) | rfl
def QF5 (Z : State) (ar : Addr) (kc_ar : ClassId) (k1 : Addr) (k2 : Addr) (k3 : Addr) (k4 : Addr) (k5 : Addr) (k6 : Addr) (k7 : Addr) (k8 : Addr) (k9 : Addr) (h0 : Heap) (n0 : Nat) (v : Option Value) (h : Heap) (L : List Loc) : Prop := (v = some (.ref k5) ∧ Fr n0 L ∧ h = h0)
set_option maxRecDepth 65536 in
set_option maxHeartbeats 40000000 in
theorem rmF5 (l : Launch) (Z : State) (a0 : Array Value) (hw : ∀ d ∈ tables_1, d.before a0 Z = true) (ws : List Jvm.Cond) (ar : Addr) (kc_ar : ClassId) (k1 : Addr) (k2 : Addr) (k3 : Addr) (k4 : Addr) (k5 : Addr) (k6 : Addr) (k7 : Addr) (k8 : Addr) (k9 : Addr) (h0 : Heap) (n0 : Nat) (Z0 : n0 ≤ h0.size) (V0_ar : Arv Z h0 ar kc_ar (.object "com/example/classwright/classwright/ReferenceKind") (9 : Int32) [(.ref k1), (.ref k2), (.ref k3), (.ref k4), (.ref k5), (.ref k6), (.ref k7), (.ref k8), (.ref k9)] .null) (S0_BY_VALUE : Sta Z h0 "com/example/classwright/classwright/ReferenceKind" "BY_VALUE" "[Lcom/example/classwright/classwright/ReferenceKind;" (.ref ar)) :
    MetFree l (⟨"com/example/classwright/classwright/ReferenceKind", "forByte", "(I)Lcom/example/classwright/classwright/ReferenceKind;"⟩ : MethodName) (head1 (Jvm.Cond.code (⟨"com/example/classwright/classwright/ReferenceKind", "forByte", "(I)Lcom/example/classwright/classwright/ReferenceKind;"⟩ : MethodName) prog_106_method_5_code 1 (some (.object "com/example/classwright/classwright/ReferenceKind")) :: ws) ({ frames := 0, cells := 0, slots := 0, locals := 0 } : Room)) (fun aa_ U_ => aa_ = #[(.int (5 : Int32))] ∧ Z.Warmed39 U_.vm ∧ U_.heap = h0) (fun _ _ _ _ _ => True) (fun _ U_ o_ V_ => ∃ v_ L_, o_ = .returned v_ ∧ QF5 Z ar kc_ar k1 k2 k3 k4 k5 k6 k7 k8 k9 h0 n0 v_ V_.heap L_ ∧ FrameEnd U_ o_ V_ L_ ({ frames := 0, cells := 0, slots := 0, locals := 0 } : Room).cells ({ frames := 0, cells := 0, slots := 0, locals := 0 } : Room).slots) := by
  refine MetFree.of_bodySF (plainFor_of_name pnF5) hisR ?_
  intro p e s m args below meth c s₁ Bd hml0 hP hK
  obtain ⟨rfl, hZ, hh⟩ := hP
  have hx := Bd.exec
  have hby := Bd.bytes
  have hml : c.maxLocals = 1 := hml0
  have hown : s.vm.findClass "com/example/classwright/classwright/ReferenceKind" = some m.cls := findClass_of_methodNamed Bd.named
  have hnm := (name_of_methodNamed Bd.named Bd.method).1
  have hlk : meth.locks = false := BodyLoose.notSynchronized Bd
  have hret : meth.sig.returnType = (some (.object "com/example/classwright/classwright/ReferenceKind")) := Bd.returns
  have X0 : Stand p l e ({ frames := 0, cells := 0, slots := 0, locals := 0 } : Room) s m #[(.int (5 : Int32))] below meth c s₁ [] 0 0 := Stand.of_body Bd
  have e0 : s₁.heap = h0 := by rw [← hh, Bd.state]; rfl
  have N0 := Fr.nil n0
  show Go p e below s ({ frames := 0, cells := 0, slots := 0, locals := 0 } : Room).cells ({ frames := 0, cells := 0, slots := 0, locals := 0 } : Room).slots (QF5 Z ar kc_ar k1 k2 k3 k4 k5 k6 k7 k8 k9 h0 n0) (s₁.setTop (entryFrame m #[(.int (5 : Int32))] 1))
  rw [efF5]
  refine Go.by (fun _ kont => XS.iloadN X0.here hx rfl (hb hby dF5_0) rfl (XS.iconst X0.here hx rfl (hb hby dF5_1) (XS.icmpNo X0.here hx rfl (hb hby dF5_2) rfl (by decide) (XS.iloadN X0.here hx rfl (hb hby dF5_5) rfl kont)))) ?_
  show Go _ _ _ _ _ _ _ (s₁.setTop (mkF m 6 #[.val (.int (5 : Int32))] [(.int (5 : Int32))]))
  obtain ⟨T101, X101, e101, st101⟩ := getS2 X0 hx hZ hown (host := "") (Or.inl (hw _ (List.mem_of_getElem? (i := 5) rfl))) Via.refl e0 S0_BY_VALUE (g := (mkF m 6 #[.val (.int (5 : Int32))] [(.int (5 : Int32))])) rfl (hb hby dF5_6)
  refine Go.by st101 ?_
  show Go _ _ _ _ _ _ _ (T101.setTop (mkF m 9 #[.val (.int (5 : Int32))] [(.ref ar), (.int (5 : Int32))]))
  obtain ⟨cl_q102, Ar_q102, q1_q102, S_q102, N_q102, H_q102, G_q102⟩ := id V0_ar
  refine Go.by (X101.arraylength hx (by first | exact Ar_q102.1 | (rw [e101]; exact Ar_q102.1)) (State.isArrayOf_alike hZ.alike Ar_q102.2.1) (g := (mkF m 9 #[.val (.int (5 : Int32))] [(.ref ar), (.int (5 : Int32))])) rfl rfl (hb hby dF5_9)) ?_
  rw [len_of S_q102 N_q102]
  show Go _ _ _ _ _ _ _ (T101.setTop (mkF m 10 #[.val (.int (5 : Int32))] [(.int (9 : Int32)), (.int (5 : Int32))]))
  refine Go.by (fun _ kont => XS.icmpYes X101.here hx rfl (pc0 := 10) (pc' := 17) rfl (hb hby dF5_10) rfl (by decide) (by decide) (by decide) kont) ?_
  show Go _ _ _ _ _ _ _ (T101.setTop (mkF m 17 #[.val (.int (5 : Int32))] []))
  obtain ⟨T103, X103, e103, st103⟩ := getS2 X101 hx hZ hown (host := "") (Or.inl (hw _ (List.mem_of_getElem? (i := 5) rfl))) Via.refl e101 S0_BY_VALUE (g := (mkF m 17 #[.val (.int (5 : Int32))] [])) rfl (hb hby dF5_17)
  refine Go.by st103 ?_
  show Go _ _ _ _ _ _ _ (T103.setTop (mkF m 20 #[.val (.int (5 : Int32))] [(.ref ar)]))
  refine Go.by (fun _ kont => XS.iloadN X103.here hx rfl (hb hby dF5_20) rfl (XS.iconst X103.here hx rfl (hb hby dF5_21) (XS.isub X103.here hx rfl (hb hby dF5_22) rfl kont))) ?_
  show Go _ _ _ _ _ _ _ (T103.setTop (mkF m 23 #[.val (.int (5 : Int32))] [(.int ((5 : Int32) - (1 : Int32))), (.ref ar)]))
  rw [show ((5 : Int32) - (1 : Int32)) = (4 : Int32) from by decide]
  show Go _ _ _ _ _ _ _ (T103.setTop (mkF m 23 #[.val (.int (5 : Int32))] [(.int (4 : Int32)), (.ref ar)]))
  obtain ⟨cl_q104, Ar_q104, q1_q104, S_q104, N_q104, H_q104, G_q104⟩ := id V0_ar
  have hin_q104 : ¬ ((4 : Int32) < 0 ∨ cl_q104.slots.size ≤ ((4 : Int32)).toNatClampNeg) := inb_of S_q104 ⟨by decide, by decide⟩
  have hat_q104 : cl_q104.slots[((4 : Int32)).toNatClampNeg]? = some (.ref k5) := Has.at H_q104 hin_q104 rfl
  refine Go.by (X103.aaload hx (j := (4 : Int32)) (v := (.ref k5)) (by first | exact Ar_q104.1 | (rw [e103]; exact Ar_q104.1)) (State.isArrayOf_alike hZ.alike Ar_q104.2.1) rfl Ar_q104.2.2 hin_q104 hat_q104 (g := (mkF m 23 #[.val (.int (5 : Int32))] [(.int (4 : Int32)), (.ref ar)])) rfl rfl (hb hby dF5_23)) ?_
  show Go _ _ _ _ _ _ _ (T103.setTop (mkF m 24 #[.val (.int (5 : Int32))] [(.ref k5)]))
  refine Go.retR X103 hx hret rfl rfl hlk (hb hby dF5_24) ?_ (by decide) (by decide)
  show QF5 Z ar kc_ar k1 k2 k3 k4 k5 k6 k7 k8 k9 h0 n0 (some (.ref k5)) T103.heap _
  rw [e103]
  exact ⟨rfl, N0, rfl⟩

theorem dF6_0 : decode prog_106_method_5_code 0 = .ok (.iload_n 0, 1) := by decide +kernel
theorem dF6_1 : decode prog_106_method_5_code 1 = .ok (.iconst 1, 1) := by decide +kernel
theorem dF6_2 : decode prog_106_method_5_code 2 = .ok (.if_icmp .lt 11, 3) := by decide +kernel
theorem dF6_5 : decode prog_106_method_5_code 5 = .ok (.iload_n 0, 1) := by decide +kernel
theorem dF6_6 : decode prog_106_method_5_code 6 = .ok (.getstatic 78, 3) := by decide +kernel
theorem dF6_9 : decode prog_106_method_5_code 9 = .ok (.arraylength, 1) := by decide +kernel
theorem dF6_10 : decode prog_106_method_5_code 10 = .ok (.if_icmp .le 7, 3) := by decide +kernel
theorem dF6_17 : decode prog_106_method_5_code 17 = .ok (.getstatic 78, 3) := by decide +kernel
theorem dF6_20 : decode prog_106_method_5_code 20 = .ok (.iload_n 0, 1) := by decide +kernel
theorem dF6_21 : decode prog_106_method_5_code 21 = .ok (.iconst 1, 1) := by decide +kernel
theorem dF6_22 : decode prog_106_method_5_code 22 = .ok (.isub, 1) := by decide +kernel
theorem dF6_23 : decode prog_106_method_5_code 23 = .ok (.aaload, 1) := by decide +kernel
theorem dF6_24 : decode prog_106_method_5_code 24 = .ok (.areturn, 1) := by decide +kernel
theorem pnF6 : plainName "com/example/classwright/classwright/ReferenceKind" = true := by first | (simp [plainName, overriddenIn]; done) | decide +kernel
theorem efF6 (m : MethodId)  : entryFrame m #[(.int (6 : Int32))] 1 = mkF m 0 #[.val (.int (6 : Int32))] [] := by first | (simp [entryFrame, mkF, argsToLocals, Value.category]; done) | rfl
def QF6 (Z : State) (ar : Addr) (kc_ar : ClassId) (k1 : Addr) (k2 : Addr) (k3 : Addr) (k4 : Addr) (k5 : Addr) (k6 : Addr) (k7 : Addr) (k8 : Addr) (k9 : Addr) (h0 : Heap) (n0 : Nat) (v : Option Value) (h : Heap) (L : List Loc) : Prop := (v = some (.ref k6) ∧ Fr n0 L ∧ h = h0)
set_option maxRecDepth 65536 in
set_option maxHeartbeats 40000000 in
theorem rmF6 (l : Launch) (Z : State) (a0 : Array Value) (hw : ∀ d ∈ tables_1, d.before a0 Z = true) (ws : List Jvm.Cond) (ar : Addr) (kc_ar : ClassId) (k1 : Addr) (k2 : Addr) (k3 : Addr) (k4 : Addr) (k5 : Addr) (k6 : Addr) (k7 : Addr) (k8 : Addr) (k9 : Addr) (h0 : Heap) (n0 : Nat) (Z0 : n0 ≤ h0.size) (V0_ar : Arv Z h0 ar kc_ar (.object "com/example/classwright/classwright/ReferenceKind") (9 : Int32) [(.ref k1), (.ref k2), (.ref k3), (.ref k4), (.ref k5), (.ref k6), (.ref k7), (.ref k8), (.ref k9)] .null) (S0_BY_VALUE : Sta Z h0 "com/example/classwright/classwright/ReferenceKind" "BY_VALUE" "[Lcom/example/classwright/classwright/ReferenceKind;" (.ref ar)) :
    MetFree l (⟨"com/example/classwright/classwright/ReferenceKind", "forByte", "(I)Lcom/example/classwright/classwright/ReferenceKind;"⟩ : MethodName) (head1 (Jvm.Cond.code (⟨"com/example/classwright/classwright/ReferenceKind", "forByte", "(I)Lcom/example/classwright/classwright/ReferenceKind;"⟩ : MethodName) prog_106_method_5_code 1 (some (.object "com/example/classwright/classwright/ReferenceKind")) :: ws) ({ frames := 0, cells := 0, slots := 0, locals := 0 } : Room)) (fun aa_ U_ => aa_ = #[(.int (6 : Int32))] ∧ Z.Warmed39 U_.vm ∧ U_.heap = h0) (fun _ _ _ _ _ => True) (fun _ U_ o_ V_ => ∃ v_ L_, o_ = .returned v_ ∧ QF6 Z ar kc_ar k1 k2 k3 k4 k5 k6 k7 k8 k9 h0 n0 v_ V_.heap L_ ∧ FrameEnd U_ o_ V_ L_ ({ frames := 0, cells := 0, slots := 0, locals := 0 } : Room).cells ({ frames := 0, cells := 0, slots := 0, locals := 0 } : Room).slots) := by
  refine MetFree.of_bodySF (plainFor_of_name pnF6) hisR ?_
  intro p e s m args below meth c s₁ Bd hml0 hP hK
  obtain ⟨rfl, hZ, hh⟩ := hP
  have hx := Bd.exec
  have hby := Bd.bytes
  have hml : c.maxLocals = 1 := hml0
  have hown : s.vm.findClass "com/example/classwright/classwright/ReferenceKind" = some m.cls := findClass_of_methodNamed Bd.named
  have hnm := (name_of_methodNamed Bd.named Bd.method).1
  have hlk : meth.locks = false := BodyLoose.notSynchronized Bd
  have hret : meth.sig.returnType = (some (.object "com/example/classwright/classwright/ReferenceKind")) := Bd.returns
  have X0 : Stand p l e ({ frames := 0, cells := 0, slots := 0, locals := 0 } : Room) s m #[(.int (6 : Int32))] below meth c s₁ [] 0 0 := Stand.of_body Bd
  have e0 : s₁.heap = h0 := by rw [← hh, Bd.state]; rfl
  have N0 := Fr.nil n0
  show Go p e below s ({ frames := 0, cells := 0, slots := 0, locals := 0 } : Room).cells ({ frames := 0, cells := 0, slots := 0, locals := 0 } : Room).slots (QF6 Z ar kc_ar k1 k2 k3 k4 k5 k6 k7 k8 k9 h0 n0) (s₁.setTop (entryFrame m #[(.int (6 : Int32))] 1))
  rw [efF6]
  refine Go.by (fun _ kont => XS.iloadN X0.here hx rfl (hb hby dF6_0) rfl (XS.iconst X0.here hx rfl (hb hby dF6_1) (XS.icmpNo X0.here hx rfl (hb hby dF6_2) rfl (by decide) (XS.iloadN X0.here hx rfl (hb hby dF6_5) rfl kont)))) ?_
  show Go _ _ _ _ _ _ _ (s₁.setTop (mkF m 6 #[.val (.int (6 : Int32))] [(.int (6 : Int32))]))
  obtain ⟨T101, X101, e101, st101⟩ := getS2 X0 hx hZ hown (host := "") (Or.inl (hw _ (List.mem_of_getElem? (i := 5) rfl))) Via.refl e0 S0_BY_VALUE (g := (mkF m 6 #[.val (.int (6 : Int32))] [(.int (6 : Int32))])) rfl (hb hby dF6_6)
  refine Go.by st101 ?_
  show Go _ _ _ _ _ _ _ (T101.setTop (mkF m 9 #[.val (.int (6 : Int32))] [(.ref ar), (.int (6 : Int32))]))
  obtain ⟨cl_q102, Ar_q102, q1_q102, S_q102, N_q102, H_q102, G_q102⟩ := id V0_ar
  refine Go.by (X101.arraylength hx (by first | exact Ar_q102.1 | (rw [e101]; exact Ar_q102.1)) (State.isArrayOf_alike hZ.alike Ar_q102.2.1) (g := (mkF m 9 #[.val (.int (6 : Int32))] [(.ref ar), (.int (6 : Int32))])) rfl rfl (hb hby dF6_9)) ?_
  rw [len_of S_q102 N_q102]
  show Go _ _ _ _ _ _ _ (T101.setTop (mkF m 10 #[.val (.int (6 : Int32))] [(.int (9 : Int32)), (.int (6 : Int32))]))
  refine Go.by (fun _ kont => XS.icmpYes X101.here hx rfl (pc0 := 10) (pc' := 17) rfl (hb hby dF6_10) rfl (by decide) (by decide) (by decide) kont) ?_
  show Go _ _ _ _ _ _ _ (T101.setTop (mkF m 17 #[.val (.int (6 : Int32))] []))
  obtain ⟨T103, X103, e103, st103⟩ := getS2 X101 hx hZ hown (host := "") (Or.inl (hw _ (List.mem_of_getElem? (i := 5) rfl))) Via.refl e101 S0_BY_VALUE (g := (mkF m 17 #[.val (.int (6 : Int32))] [])) rfl (hb hby dF6_17)
  refine Go.by st103 ?_
  show Go _ _ _ _ _ _ _ (T103.setTop (mkF m 20 #[.val (.int (6 : Int32))] [(.ref ar)]))
  refine Go.by (fun _ kont => XS.iloadN X103.here hx rfl (hb hby dF6_20) rfl (XS.iconst X103.here hx rfl (hb hby dF6_21) (XS.isub X103.here hx rfl (hb hby dF6_22) rfl kont))) ?_
  show Go _ _ _ _ _ _ _ (T103.setTop (mkF m 23 #[.val (.int (6 : Int32))] [(.int ((6 : Int32) - (1 : Int32))), (.ref ar)]))
  rw [show ((6 : Int32) - (1 : Int32)) = (5 : Int32) from by decide]
  show Go _ _ _ _ _ _ _ (T103.setTop (mkF m 23 #[.val (.int (6 : Int32))] [(.int (5 : Int32)), (.ref ar)]))
  obtain ⟨cl_q104, Ar_q104, q1_q104, S_q104, N_q104, H_q104, G_q104⟩ := id V0_ar
  have hin_q104 : ¬ ((5 : Int32) < 0 ∨ cl_q104.slots.size ≤ ((5 : Int32)).toNatClampNeg) := inb_of S_q104 ⟨by decide, by decide⟩
  have hat_q104 : cl_q104.slots[((5 : Int32)).toNatClampNeg]? = some (.ref k6) := Has.at H_q104 hin_q104 rfl
  refine Go.by (X103.aaload hx (j := (5 : Int32)) (v := (.ref k6)) (by first | exact Ar_q104.1 | (rw [e103]; exact Ar_q104.1)) (State.isArrayOf_alike hZ.alike Ar_q104.2.1) rfl Ar_q104.2.2 hin_q104 hat_q104 (g := (mkF m 23 #[.val (.int (6 : Int32))] [(.int (5 : Int32)), (.ref ar)])) rfl rfl (hb hby dF6_23)) ?_
  show Go _ _ _ _ _ _ _ (T103.setTop (mkF m 24 #[.val (.int (6 : Int32))] [(.ref k6)]))
  refine Go.retR X103 hx hret rfl rfl hlk (hb hby dF6_24) ?_ (by decide) (by decide)
  show QF6 Z ar kc_ar k1 k2 k3 k4 k5 k6 k7 k8 k9 h0 n0 (some (.ref k6)) T103.heap _
  rw [e103]
  exact ⟨rfl, N0, rfl⟩

theorem dF7_0 : decode prog_106_method_5_code 0 = .ok (.iload_n 0, 1) := by decide +kernel
theorem dF7_1 : decode prog_106_method_5_code 1 = .ok (.iconst 1, 1) := by decide +kernel
theorem dF7_2 : decode prog_106_method_5_code 2 = .ok (.if_icmp .lt 11, 3) := by decide +kernel
theorem dF7_5 : decode prog_106_method_5_code 5 = .ok (.iload_n 0, 1) := by decide +kernel
theorem dF7_6 : decode prog_106_method_5_code 6 = .ok (.getstatic 78, 3) := by decide +kernel
theorem dF7_9 : decode prog_106_method_5_code 9 = .ok (.arraylength, 1) := by decide +kernel
theorem dF7_10 : decode prog_106_method_5_code 10 = .ok (.if_icmp .le 7, 3) := by decide +kernel
theorem dF7_17 : decode prog_106_method_5_code 17 = .ok (.getstatic 78, 3) := by decide +kernel
theorem dF7_20 : decode prog_106_method_5_code 20 = .ok (.iload_n 0, 1) := by decide +kernel
theorem dF7_21 : decode prog_106_method_5_code 21 = .ok (.iconst 1, 1) := by decide +kernel
theorem dF7_22 : decode prog_106_method_5_code 22 = .ok (.isub, 1) := by decide +kernel
theorem dF7_23 : decode prog_106_method_5_code 23 = .ok (.aaload, 1) := by decide +kernel
theorem dF7_24 : decode prog_106_method_5_code 24 = .ok (.areturn, 1) := by decide +kernel
theorem pnF7 : plainName "com/example/classwright/classwright/ReferenceKind" = true := by first | (simp [plainName, overriddenIn]; done) | decide +kernel
theorem efF7 (m : MethodId)  : entryFrame m #[(.int (7 : Int32))] 1 = mkF m 0 #[.val (.int (7 : Int32))] [] := by first | (simp [entryFrame, mkF, argsToLocals, Value.category]; done) | rfl
def QF7 (Z : State) (ar : Addr) (kc_ar : ClassId) (k1 : Addr) (k2 : Addr) (k3 : Addr) (k4 : Addr) (k5 : Addr) (k6 : Addr) (k7 : Addr) (k8 : Addr) (k9 : Addr) (h0 : Heap) (n0 : Nat) (v : Option Value) (h : Heap) (L : List Loc) : Prop := (v = some (.ref k7) ∧ Fr n0 L ∧ h = h0)
set_option maxRecDepth 65536 in
set_option maxHeartbeats 40000000 in
theorem rmF7 (l : Launch) (Z : State) (a0 : Array Value) (hw : ∀ d ∈ tables_1, d.before a0 Z = true) (ws : List Jvm.Cond) (ar : Addr) (kc_ar : ClassId) (k1 : Addr) (k2 : Addr) (k3 : Addr) (k4 : Addr) (k5 : Addr) (k6 : Addr) (k7 : Addr) (k8 : Addr) (k9 : Addr) (h0 : Heap) (n0 : Nat) (Z0 : n0 ≤ h0.size) (V0_ar : Arv Z h0 ar kc_ar (.object "com/example/classwright/classwright/ReferenceKind") (9 : Int32) [(.ref k1), (.ref k2), (.ref k3), (.ref k4), (.ref k5), (.ref k6), (.ref k7), (.ref k8), (.ref k9)] .null) (S0_BY_VALUE : Sta Z h0 "com/example/classwright/classwright/ReferenceKind" "BY_VALUE" "[Lcom/example/classwright/classwright/ReferenceKind;" (.ref ar)) :
    MetFree l (⟨"com/example/classwright/classwright/ReferenceKind", "forByte", "(I)Lcom/example/classwright/classwright/ReferenceKind;"⟩ : MethodName) (head1 (Jvm.Cond.code (⟨"com/example/classwright/classwright/ReferenceKind", "forByte", "(I)Lcom/example/classwright/classwright/ReferenceKind;"⟩ : MethodName) prog_106_method_5_code 1 (some (.object "com/example/classwright/classwright/ReferenceKind")) :: ws) ({ frames := 0, cells := 0, slots := 0, locals := 0 } : Room)) (fun aa_ U_ => aa_ = #[(.int (7 : Int32))] ∧ Z.Warmed39 U_.vm ∧ U_.heap = h0) (fun _ _ _ _ _ => True) (fun _ U_ o_ V_ => ∃ v_ L_, o_ = .returned v_ ∧ QF7 Z ar kc_ar k1 k2 k3 k4 k5 k6 k7 k8 k9 h0 n0 v_ V_.heap L_ ∧ FrameEnd U_ o_ V_ L_ ({ frames := 0, cells := 0, slots := 0, locals := 0 } : Room).cells ({ frames := 0, cells := 0, slots := 0, locals := 0 } : Room).slots) := by
  refine MetFree.of_bodySF (plainFor_of_name pnF7) hisR ?_
  intro p e s m args below meth c s₁ Bd hml0 hP hK
  obtain ⟨rfl, hZ, hh⟩ := hP
  have hx := Bd.exec
  have hby := Bd.bytes
  have hml : c.maxLocals = 1 := hml0
  have hown : s.vm.findClass "com/example/classwright/classwright/ReferenceKind" = some m.cls := findClass_of_methodNamed Bd.named
  have hnm := (name_of_methodNamed Bd.named Bd.method).1
  have hlk : meth.locks = false := BodyLoose.notSynchronized Bd
  have hret : meth.sig.returnType = (some (.object "com/example/classwright/classwright/ReferenceKind")) := Bd.returns
  have X0 : Stand p l e ({ frames := 0, cells := 0, slots := 0, locals := 0 } : Room) s m #[(.int (7 : Int32))] below meth c s₁ [] 0 0 := Stand.of_body Bd
  have e0 : s₁.heap = h0 := by rw [← hh, Bd.state]; rfl
  have N0 := Fr.nil n0
  show Go p e below s ({ frames := 0, cells := 0, slots := 0, locals := 0 } : Room).cells ({ frames := 0, cells := 0, slots := 0, locals := 0 } : Room).slots (QF7 Z ar kc_ar k1 k2 k3 k4 k5 k6 k7 k8 k9 h0 n0) (s₁.setTop (entryFrame m #[(.int (7 : Int32))] 1))
  rw [efF7]
  refine Go.by (fun _ kont => XS.iloadN X0.here hx rfl (hb hby dF7_0) rfl (XS.iconst X0.here hx rfl (hb hby dF7_1) (XS.icmpNo X0.here hx rfl (hb hby dF7_2) rfl (by decide) (XS.iloadN X0.here hx rfl (hb hby dF7_5) rfl kont)))) ?_
  show Go _ _ _ _ _ _ _ (s₁.setTop (mkF m 6 #[.val (.int (7 : Int32))] [(.int (7 : Int32))]))
  obtain ⟨T101, X101, e101, st101⟩ := getS2 X0 hx hZ hown (host := "") (Or.inl (hw _ (List.mem_of_getElem? (i := 5) rfl))) Via.refl e0 S0_BY_VALUE (g := (mkF m 6 #[.val (.int (7 : Int32))] [(.int (7 : Int32))])) rfl (hb hby dF7_6)
  refine Go.by st101 ?_
  show Go _ _ _ _ _ _ _ (T101.setTop (mkF m 9 #[.val (.int (7 : Int32))] [(.ref ar), (.int (7 : Int32))]))
  obtain ⟨cl_q102, Ar_q102, q1_q102, S_q102, N_q102, H_q102, G_q102⟩ := id V0_ar
  refine Go.by (X101.arraylength hx (by first | exact Ar_q102.1 | (rw [e101]; exact Ar_q102.1)) (State.isArrayOf_alike hZ.alike Ar_q102.2.1) (g := (mkF m 9 #[.val (.int (7 : Int32))] [(.ref ar), (.int (7 : Int32))])) rfl rfl (hb hby dF7_9)) ?_
  rw [len_of S_q102 N_q102]
  show Go _ _ _ _ _ _ _ (T101.setTop (mkF m 10 #[.val (.int (7 : Int32))] [(.int (9 : Int32)), (.int (7 : Int32))]))
  refine Go.by (fun _ kont => XS.icmpYes X101.here hx rfl (pc0 := 10) (pc' := 17) rfl (hb hby dF7_10) rfl (by decide) (by decide) (by decide) kont) ?_
  show Go _ _ _ _ _ _ _ (T101.setTop (mkF m 17 #[.val (.int (7 : Int32))] []))
  obtain ⟨T103, X103, e103, st103⟩ := getS2 X101 hx hZ hown (host := "") (Or.inl (hw _ (List.mem_of_getElem? (i := 5) rfl))) Via.refl e101 S0_BY_VALUE (g := (mkF m 17 #[.val (.int (7 : Int32))] [])) rfl (hb hby dF7_17)
  refine Go.by st103 ?_
  show Go _ _ _ _ _ _ _ (T103.setTop (mkF m 20 #[.val (.int (7 : Int32))] [(.ref ar)]))
  refine Go.by (fun _ kont => XS.iloadN X103.here hx rfl (hb hby dF7_20) rfl (XS.iconst X103.here hx rfl (hb hby dF7_21) (XS.isub X103.here hx rfl (hb hby dF7_22) rfl kont))) ?_
  show Go _ _ _ _ _ _ _ (T103.setTop (mkF m 23 #[.val (.int (7 : Int32))] [(.int ((7 : Int32) - (1 : Int32))), (.ref ar)]))
  rw [show ((7 : Int32) - (1 : Int32)) = (6 : Int32) from by decide]
  show Go _ _ _ _ _ _ _ (T103.setTop (mkF m 23 #[.val (.int (7 : Int32))] [(.int (6 : Int32)), (.ref ar)]))
  obtain ⟨cl_q104, Ar_q104, q1_q104, S_q104, N_q104, H_q104, G_q104⟩ := id V0_ar
  have hin_q104 : ¬ ((6 : Int32) < 0 ∨ cl_q104.slots.size ≤ ((6 : Int32)).toNatClampNeg) := inb_of S_q104 ⟨by decide, by decide⟩
  have hat_q104 : cl_q104.slots[((6 : Int32)).toNatClampNeg]? = some (.ref k7) := Has.at H_q104 hin_q104 rfl
  refine Go.by (X103.aaload hx (j := (6 : Int32)) (v := (.ref k7)) (by first | exact Ar_q104.1 | (rw [e103]; exact Ar_q104.1)) (State.isArrayOf_alike hZ.alike Ar_q104.2.1) rfl Ar_q104.2.2 hin_q104 hat_q104 (g := (mkF m 23 #[.val (.int (7 : Int32))] [(.int (6 : Int32)), (.ref ar)])) rfl rfl (hb hby dF7_23)) ?_
  show Go _ _ _ _ _ _ _ (T103.setTop (mkF m 24 #[.val (.int (7 : Int32))] [(.ref k7)]))
  refine Go.retR X103 hx hret rfl rfl hlk (hb hby dF7_24) ?_ (by decide) (by decide)
  show QF7 Z ar kc_ar k1 k2 k3 k4 k5 k6 k7 k8 k9 h0 n0 (some (.ref k7)) T103.heap _
  rw [e103]
  exact ⟨rfl, N0, rfl⟩

theorem dF8_0 : decode prog_106_method_5_code 0 = .ok (.iload_n 0, 1) := by decide +kernel
theorem dF8_1 : decode prog_106_method_5_code 1 = .ok (.iconst 1, 1) := by decide +kernel
theorem dF8_2 : decode prog_106_method_5_code 2 = .ok (.if_icmp .lt 11, 3) := by decide +kernel
theorem dF8_5 : decode prog_106_method_5_code 5 = .ok (.iload_n 0, 1) := by decide +kernel
theorem dF8_6 : decode prog_106_method_5_code 6 = .ok (.getstatic 78, 3) := by decide +kernel
theorem dF8_9 : decode prog_106_method_5_code 9 = .ok (.arraylength, 1) := by decide +kernel
theorem dF8_10 : decode prog_106_method_5_code 10 = .ok (.if_icmp .le 7, 3) := by decide +kernel
theorem dF8_17 : decode prog_106_method_5_code 17 = .ok (.getstatic 78, 3) := by decide +kernel
theorem dF8_20 : decode prog_106_method_5_code 20 = .ok (.iload_n 0, 1) := by decide +kernel
theorem dF8_21 : decode prog_106_method_5_code 21 = .ok (.iconst 1, 1) := by decide +kernel
theorem dF8_22 : decode prog_106_method_5_code 22 = .ok (.isub, 1) := by decide +kernel
theorem dF8_23 : decode prog_106_method_5_code 23 = .ok (.aaload, 1) := by decide +kernel
theorem dF8_24 : decode prog_106_method_5_code 24 = .ok (.areturn, 1) := by decide +kernel
theorem pnF8 : plainName "com/example/classwright/classwright/ReferenceKind" = true := by first | (simp [plainName, overriddenIn]; done) | decide +kernel
theorem efF8 (m : MethodId)  : entryFrame m #[(.int (8 : Int32))] 1 = mkF m 0 #[.val (.int (8 : Int32))] [] := by first | (simp [entryFrame, mkF, argsToLocals, Value.category]; done) | rfl
def QF8 (Z : State) (ar : Addr) (kc_ar : ClassId) (k1 : Addr) (k2 : Addr) (k3 : Addr) (k4 : Addr) (k5 : Addr) (k6 : Addr) (k7 : Addr) (k8 : Addr) (k9 : Addr) (h0 : Heap) (n0 : Nat) (v : Option Value) (h : Heap) (L : List Loc) : Prop := (v = some (.ref k8) ∧ Fr n0 L ∧ h = h0)
set_option maxRecDepth 65536 in
set_option maxHeartbeats 40000000 in
theorem rmF8 (l : Launch) (Z : State) (a0 : Array Value) (hw : ∀ d ∈ tables_1, d.before a0 Z = true) (ws : List Jvm.Cond) (ar : Addr) (kc_ar : ClassId) (k1 : Addr) (k2 : Addr) (k3 : Addr) (k4 : Addr) (k5 : Addr) (k6 : Addr) (k7 : Addr) (k8 : Addr) (k9 : Addr) (h0 : Heap) (n0 : Nat) (Z0 : n0 ≤ h0.size) (V0_ar : Arv Z h0 ar kc_ar (.object "com/example/classwright/classwright/ReferenceKind") (9 : Int32) [(.ref k1), (.ref k2), (.ref k3), (.ref k4), (.ref k5), (.ref k6), (.ref k7), (.ref k8), (.ref k9)] .null) (S0_BY_VALUE : Sta Z h0 "com/example/classwright/classwright/ReferenceKind" "BY_VALUE" "[Lcom/example/classwright/classwright/ReferenceKind;" (.ref ar)) :
    MetFree l (⟨"com/example/classwright/classwright/ReferenceKind", "forByte", "(I)Lcom/example/classwright/classwright/ReferenceKind;"⟩ : MethodName) (head1 (Jvm.Cond.code (⟨"com/example/classwright/classwright/ReferenceKind", "forByte", "(I)Lcom/example/classwright/classwright/ReferenceKind;"⟩ : MethodName) prog_106_method_5_code 1 (some (.object "com/example/classwright/classwright/ReferenceKind")) :: ws) ({ frames := 0, cells := 0, slots := 0, locals := 0 } : Room)) (fun aa_ U_ => aa_ = #[(.int (8 : Int32))] ∧ Z.Warmed39 U_.vm ∧ U_.heap = h0) (fun _ _ _ _ _ => True) (fun _ U_ o_ V_ => ∃ v_ L_, o_ = .returned v_ ∧ QF8 Z ar kc_ar k1 k2 k3 k4 k5 k6 k7 k8 k9 h0 n0 v_ V_.heap L_ ∧ FrameEnd U_ o_ V_ L_ ({ frames := 0, cells := 0, slots := 0, locals := 0 } : Room).cells ({ frames := 0, cells := 0, slots := 0, locals := 0 } : Room).slots) := by
  refine MetFree.of_bodySF (plainFor_of_name pnF8) hisR ?_
  intro p e s m args below meth c s₁ Bd hml0 hP hK
  obtain ⟨rfl, hZ, hh⟩ := hP
  have hx := Bd.exec
  have hby := Bd.bytes
  have hml : c.maxLocals = 1 := hml0
  have hown : s.vm.findClass "com/example/classwright/classwright/ReferenceKind" = some m.cls := findClass_of_methodNamed Bd.named
  have hnm := (name_of_methodNamed Bd.named Bd.method).1
  have hlk : meth.locks = false := BodyLoose.notSynchronized Bd
  have hret : meth.sig.returnType = (some (.object "com/example/classwright/classwright/ReferenceKind")) := Bd.returns
  have X0 : Stand p l e ({ frames := 0, cells := 0, slots := 0, locals := 0 } : Room) s m #[(.int (8 : Int32))] below meth c s₁ [] 0 0 := Stand.of_body Bd
  have e0 : s₁.heap = h0 := by rw [← hh, Bd.state]; rfl
  have N0 := Fr.nil n0
  show Go p e below s ({ frames := 0, cells := 0, slots := 0, locals := 0 } : Room).cells ({ frames := 0, cells := 0, slots := 0, locals := 0 } : Room).slots (QF8 Z ar kc_ar k1 k2 k3 k4 k5 k6 k7 k8 k9 h0 n0) (s₁.setTop (entryFrame m #[(.int (8 : Int32))] 1))
  rw [efF8]
  refine Go.by (fun _ kont => XS.iloadN X0.here hx rfl (hb hby dF8_0) rfl (XS.iconst X0.here hx rfl (hb hby dF8_1) (XS.icmpNo X0.here hx rfl (hb hby dF8_2) rfl (by decide) (XS.iloadN X0.here hx rfl (hb hby dF8_5) rfl kont)))) ?_
  show Go _ _ _ _ _ _ _ (s₁.setTop (mkF m 6 #[.val (.int (8 : Int32))] [(.int (8 : Int32))]))
  obtain ⟨T101, X101, e101, st101⟩ := getS2 X0 hx hZ hown (host := "") (Or.inl (hw _ (List.mem_of_getElem? (i := 5) rfl))) Via.refl e0 S0_BY_VALUE (g := (mkF m 6 #[.val (.int (8 : Int32))] [(.int (8 : Int32))])) rfl (hb hby dF8_6)
  refine Go.by st101 ?_
  show Go _ _ _ _ _ _ _ (T101.setTop (mkF m 9 #[.val (.int (8 : Int32))] [(.ref ar), (.int (8 : Int32))]))
  obtain ⟨cl_q102, Ar_q102, q1_q102, S_q102, N_q102, H_q102, G_q102⟩ := id V0_ar
  refine Go.by (X101.arraylength hx (by first | exact Ar_q102.1 | (rw [e101]; exact Ar_q102.1)) (State.isArrayOf_alike hZ.alike Ar_q102.2.1) (g := (mkF m 9 #[.val (.int (8 : Int32))] [(.ref ar), (.int (8 : Int32))])) rfl rfl (hb hby dF8_9)) ?_
  rw [len_of S_q102 N_q102]
  show Go _ _ _ _ _ _ _ (T101.setTop (mkF m 10 #[.val (.int (8 : Int32))] [(.int (9 : Int32)), (.int (8 : Int32))]))
  refine Go.by (fun _ kont => XS.icmpYes X101.here hx rfl (pc0 := 10) (pc' := 17) rfl (hb hby dF8_10) rfl (by decide) (by decide) (by decide) kont) ?_
  show Go _ _ _ _ _ _ _ (T101.setTop (mkF m 17 #[.val (.int (8 : Int32))] []))
  obtain ⟨T103, X103, e103, st103⟩ := getS2 X101 hx hZ hown (host := "") (Or.inl (hw _ (List.mem_of_getElem? (i := 5) rfl))) Via.refl e101 S0_BY_VALUE (g := (mkF m 17 #[.val (.int (8 : Int32))] [])) rfl (hb hby dF8_17)
  refine Go.by st103 ?_
  show Go _ _ _ _ _ _ _ (T103.setTop (mkF m 20 #[.val (.int (8 : Int32))] [(.ref ar)]))
  refine Go.by (fun _ kont => XS.iloadN X103.here hx rfl (hb hby dF8_20) rfl (XS.iconst X103.here hx rfl (hb hby dF8_21) (XS.isub X103.here hx rfl (hb hby dF8_22) rfl kont))) ?_
  show Go _ _ _ _ _ _ _ (T103.setTop (mkF m 23 #[.val (.int (8 : Int32))] [(.int ((8 : Int32) - (1 : Int32))), (.ref ar)]))
  rw [show ((8 : Int32) - (1 : Int32)) = (7 : Int32) from by decide]
  show Go _ _ _ _ _ _ _ (T103.setTop (mkF m 23 #[.val (.int (8 : Int32))] [(.int (7 : Int32)), (.ref ar)]))
  obtain ⟨cl_q104, Ar_q104, q1_q104, S_q104, N_q104, H_q104, G_q104⟩ := id V0_ar
  have hin_q104 : ¬ ((7 : Int32) < 0 ∨ cl_q104.slots.size ≤ ((7 : Int32)).toNatClampNeg) := inb_of S_q104 ⟨by decide, by decide⟩
  have hat_q104 : cl_q104.slots[((7 : Int32)).toNatClampNeg]? = some (.ref k8) := Has.at H_q104 hin_q104 rfl
  refine Go.by (X103.aaload hx (j := (7 : Int32)) (v := (.ref k8)) (by first | exact Ar_q104.1 | (rw [e103]; exact Ar_q104.1)) (State.isArrayOf_alike hZ.alike Ar_q104.2.1) rfl Ar_q104.2.2 hin_q104 hat_q104 (g := (mkF m 23 #[.val (.int (8 : Int32))] [(.int (7 : Int32)), (.ref ar)])) rfl rfl (hb hby dF8_23)) ?_
  show Go _ _ _ _ _ _ _ (T103.setTop (mkF m 24 #[.val (.int (8 : Int32))] [(.ref k8)]))
  refine Go.retR X103 hx hret rfl rfl hlk (hb hby dF8_24) ?_ (by decide) (by decide)
  show QF8 Z ar kc_ar k1 k2 k3 k4 k5 k6 k7 k8 k9 h0 n0 (some (.ref k8)) T103.heap _
  rw [e103]
  exact ⟨rfl, N0, rfl⟩

theorem dF9_0 : decode prog_106_method_5_code 0 = .ok (.iload_n 0, 1) := by decide +kernel
theorem dF9_1 : decode prog_106_method_5_code 1 = .ok (.iconst 1, 1) := by decide +kernel
theorem dF9_2 : decode prog_106_method_5_code 2 = .ok (.if_icmp .lt 11, 3) := by decide +kernel
theorem dF9_5 : decode prog_106_method_5_code 5 = .ok (.iload_n 0, 1) := by decide +kernel
theorem dF9_6 : decode prog_106_method_5_code 6 = .ok (.getstatic 78, 3) := by decide +kernel
theorem dF9_9 : decode prog_106_method_5_code 9 = .ok (.arraylength, 1) := by decide +kernel
theorem dF9_10 : decode prog_106_method_5_code 10 = .ok (.if_icmp .le 7, 3) := by decide +kernel
theorem dF9_17 : decode prog_106_method_5_code 17 = .ok (.getstatic 78, 3) := by decide +kernel
theorem dF9_20 : decode prog_106_method_5_code 20 = .ok (.iload_n 0, 1) := by decide +kernel
theorem dF9_21 : decode prog_106_method_5_code 21 = .ok (.iconst 1, 1) := by decide +kernel
theorem dF9_22 : decode prog_106_method_5_code 22 = .ok (.isub, 1) := by decide +kernel
theorem dF9_23 : decode prog_106_method_5_code 23 = .ok (.aaload, 1) := by decide +kernel
theorem dF9_24 : decode prog_106_method_5_code 24 = .ok (.areturn, 1) := by decide +kernel
theorem pnF9 : plainName "com/example/classwright/classwright/ReferenceKind" = true := by first | (simp [plainName, overriddenIn]; done) | decide +kernel
theorem efF9 (m : MethodId)  : entryFrame m #[(.int (9 : Int32))] 1 = mkF m 0 #[.val (.int (9 : Int32))] [] := by first | (simp [entryFrame, mkF, argsToLocals, Value.category]; done) | rfl
def QF9 (Z : State) (ar : Addr) (kc_ar : ClassId) (k1 : Addr) (k2 : Addr) (k3 : Addr) (k4 : Addr) (k5 : Addr) (k6 : Addr) (k7 : Addr) (k8 : Addr) (k9 : Addr) (h0 : Heap) (n0 : Nat) (v : Option Value) (h : Heap) (L : List Loc) : Prop := (v = some (.ref k9) ∧ Fr n0 L ∧ h = h0)
set_option maxRecDepth 65536 in
set_option maxHeartbeats 40000000 in
theorem rmF9 (l : Launch) (Z : State) (a0 : Array Value) (hw : ∀ d ∈ tables_1, d.before a0 Z = true) (ws : List Jvm.Cond) (ar : Addr) (kc_ar : ClassId) (k1 : Addr) (k2 : Addr) (k3 : Addr) (k4 : Addr) (k5 : Addr) (k6 : Addr) (k7 : Addr) (k8 : Addr) (k9 : Addr) (h0 : Heap) (n0 : Nat) (Z0 : n0 ≤ h0.size) (V0_ar : Arv Z h0 ar kc_ar (.object "com/example/classwright/classwright/ReferenceKind") (9 : Int32) [(.ref k1), (.ref k2), (.ref k3), (.ref k4), (.ref k5), (.ref k6), (.ref k7), (.ref k8), (.ref k9)] .null) (S0_BY_VALUE : Sta Z h0 "com/example/classwright/classwright/ReferenceKind" "BY_VALUE" "[Lcom/example/classwright/classwright/ReferenceKind;" (.ref ar)) :
    MetFree l (⟨"com/example/classwright/classwright/ReferenceKind", "forByte", "(I)Lcom/example/classwright/classwright/ReferenceKind;"⟩ : MethodName) (head1 (Jvm.Cond.code (⟨"com/example/classwright/classwright/ReferenceKind", "forByte", "(I)Lcom/example/classwright/classwright/ReferenceKind;"⟩ : MethodName) prog_106_method_5_code 1 (some (.object "com/example/classwright/classwright/ReferenceKind")) :: ws) ({ frames := 0, cells := 0, slots := 0, locals := 0 } : Room)) (fun aa_ U_ => aa_ = #[(.int (9 : Int32))] ∧ Z.Warmed39 U_.vm ∧ U_.heap = h0) (fun _ _ _ _ _ => True) (fun _ U_ o_ V_ => ∃ v_ L_, o_ = .returned v_ ∧ QF9 Z ar kc_ar k1 k2 k3 k4 k5 k6 k7 k8 k9 h0 n0 v_ V_.heap L_ ∧ FrameEnd U_ o_ V_ L_ ({ frames := 0, cells := 0, slots := 0, locals := 0 } : Room).cells ({ frames := 0, cells := 0, slots := 0, locals := 0 } : Room).slots) := by
  refine MetFree.of_bodySF (plainFor_of_name pnF9) hisR ?_
  intro p e s m args below meth c s₁ Bd hml0 hP hK
  obtain ⟨rfl, hZ, hh⟩ := hP
  have hx := Bd.exec
  have hby := Bd.bytes
  have hml : c.maxLocals = 1 := hml0
  have hown : s.vm.findClass "com/example/classwright/classwright/ReferenceKind" = some m.cls := findClass_of_methodNamed Bd.named
  have hnm := (name_of_methodNamed Bd.named Bd.method).1
  have hlk : meth.locks = false := BodyLoose.notSynchronized Bd
  have hret : meth.sig.returnType = (some (.object "com/example/classwright/classwright/ReferenceKind")) := Bd.returns
  have X0 : Stand p l e ({ frames := 0, cells := 0, slots := 0, locals := 0 } : Room) s m #[(.int (9 : Int32))] below meth c s₁ [] 0 0 := Stand.of_body Bd
  have e0 : s₁.heap = h0 := by rw [← hh, Bd.state]; rfl
  have N0 := Fr.nil n0
  show Go p e below s ({ frames := 0, cells := 0, slots := 0, locals := 0 } : Room).cells ({ frames := 0, cells := 0, slots := 0, locals := 0 } : Room).slots (QF9 Z ar kc_ar k1 k2 k3 k4 k5 k6 k7 k8 k9 h0 n0) (s₁.setTop (entryFrame m #[(.int (9 : Int32))] 1))
  rw [efF9]
  refine Go.by (fun _ kont => XS.iloadN X0.here hx rfl (hb hby dF9_0) rfl (XS.iconst X0.here hx rfl (hb hby dF9_1) (XS.icmpNo X0.here hx rfl (hb hby dF9_2) rfl (by decide) (XS.iloadN X0.here hx rfl (hb hby dF9_5) rfl kont)))) ?_
  show Go _ _ _ _ _ _ _ (s₁.setTop (mkF m 6 #[.val (.int (9 : Int32))] [(.int (9 : Int32))]))
  obtain ⟨T101, X101, e101, st101⟩ := getS2 X0 hx hZ hown (host := "") (Or.inl (hw _ (List.mem_of_getElem? (i := 5) rfl))) Via.refl e0 S0_BY_VALUE (g := (mkF m 6 #[.val (.int (9 : Int32))] [(.int (9 : Int32))])) rfl (hb hby dF9_6)
  refine Go.by st101 ?_
  show Go _ _ _ _ _ _ _ (T101.setTop (mkF m 9 #[.val (.int (9 : Int32))] [(.ref ar), (.int (9 : Int32))]))
  obtain ⟨cl_q102, Ar_q102, q1_q102, S_q102, N_q102, H_q102, G_q102⟩ := id V0_ar
  refine Go.by (X101.arraylength hx (by first | exact Ar_q102.1 | (rw [e101]; exact Ar_q102.1)) (State.isArrayOf_alike hZ.alike Ar_q102.2.1) (g := (mkF m 9 #[.val (.int (9 : Int32))] [(.ref ar), (.int (9 : Int32))])) rfl rfl (hb hby dF9_9)) ?_
  rw [len_of S_q102 N_q102]
  show Go _ _ _ _ _ _ _ (T101.setTop (mkF m 10 #[.val (.int (9 : Int32))] [(.int (9 : Int32)), (.int (9 : Int32))]))
  refine Go.by (fun _ kont => XS.icmpYes X101.here hx rfl (pc0 := 10) (pc' := 17) rfl (hb hby dF9_10) rfl (by decide) (by decide) (by decide) kont) ?_
  show Go _ _ _ _ _ _ _ (T101.setTop (mkF m 17 #[.val (.int (9 : Int32))] []))
  obtain ⟨T103, X103, e103, st103⟩ := getS2 X101 hx hZ hown (host := "") (Or.inl (hw _ (List.mem_of_getElem? (i := 5) rfl))) Via.refl e101 S0_BY_VALUE (g := (mkF m 17 #[.val (.int (9 : Int32))] [])) rfl (hb hby dF9_17)
  refine Go.by st103 ?_
  show Go _ _ _ _ _ _ _ (T103.setTop (mkF m 20 #[.val (.int (9 : Int32))] [(.ref ar)]))
  refine Go.by (fun _ kont => XS.iloadN X103.here hx rfl (hb hby dF9_20) rfl (XS.iconst X103.here hx rfl (hb hby dF9_21) (XS.isub X103.here hx rfl (hb hby dF9_22) rfl kont))) ?_
  show Go _ _ _ _ _ _ _ (T103.setTop (mkF m 23 #[.val (.int (9 : Int32))] [(.int ((9 : Int32) - (1 : Int32))), (.ref ar)]))
  rw [show ((9 : Int32) - (1 : Int32)) = (8 : Int32) from by decide]
  show Go _ _ _ _ _ _ _ (T103.setTop (mkF m 23 #[.val (.int (9 : Int32))] [(.int (8 : Int32)), (.ref ar)]))
  obtain ⟨cl_q104, Ar_q104, q1_q104, S_q104, N_q104, H_q104, G_q104⟩ := id V0_ar
  have hin_q104 : ¬ ((8 : Int32) < 0 ∨ cl_q104.slots.size ≤ ((8 : Int32)).toNatClampNeg) := inb_of S_q104 ⟨by decide, by decide⟩
  have hat_q104 : cl_q104.slots[((8 : Int32)).toNatClampNeg]? = some (.ref k9) := Has.at H_q104 hin_q104 rfl
  refine Go.by (X103.aaload hx (j := (8 : Int32)) (v := (.ref k9)) (by first | exact Ar_q104.1 | (rw [e103]; exact Ar_q104.1)) (State.isArrayOf_alike hZ.alike Ar_q104.2.1) rfl Ar_q104.2.2 hin_q104 hat_q104 (g := (mkF m 23 #[.val (.int (9 : Int32))] [(.int (8 : Int32)), (.ref ar)])) rfl rfl (hb hby dF9_23)) ?_
  show Go _ _ _ _ _ _ _ (T103.setTop (mkF m 24 #[.val (.int (9 : Int32))] [(.ref k9)]))
  refine Go.retR X103 hx hret rfl rfl hlk (hb hby dF9_24) ?_ (by decide) (by decide)
  show QF9 Z ar kc_ar k1 k2 k3 k4 k5 k6 k7 k8 k9 h0 n0 (some (.ref k9)) T103.heap _
  rw [e103]
  exact ⟨rfl, N0, rfl⟩

theorem dV_0 : decode prog_106_method_6_code 0 = .ok (.aload_n 0, 1) := by decide +kernel
theorem dV_1 : decode prog_106_method_6_code 1 = .ok (.getfield 50, 3) := by decide +kernel
theorem dV_4 : decode prog_106_method_6_code 4 = .ok (.ireturn, 1) := by decide +kernel
theorem pnV : plainName "com/example/classwright/classwright/ReferenceKind" = true := by first | (simp [plainName, overriddenIn]; done) | decide +kernel
theorem efV (m : MethodId) (a : Addr) : entryFrame m #[(.ref a)] 1 = mkF m 0 #[.val (.ref a)] [] := by first | (simp [entryFrame, mkF, argsToLocals, Value.category]; done) | rfl
def QV (Z : State) (a : Addr) (vv : Int32) (h0 : Heap) (n0 : Nat) (v : Option Value) (h : Heap) (L : List Loc) : Prop := (v = some (.int vv) ∧ Fr n0 L ∧ h = h0)
set_option maxRecDepth 65536 in
set_option maxHeartbeats 40000000 in
theorem rmV (l : Launch) (Z : State) (a0 : Array Value) (hw : ∀ d ∈ tables_1, d.before a0 Z = true) (ws : List Jvm.Cond) (a : Addr) (vv : Int32) (h0 : Heap) (n0 : Nat) (Z0 : n0 ≤ h0.size) (E0_a : Exa Z h0 a "com/example/classwright/classwright/ReferenceKind") (F0_a_value : Fld Z h0 a "com/example/classwright/classwright/ReferenceKind" "value" "I" (.int vv)) :
    MetFree l (⟨"com/example/classwright/classwright/ReferenceKind", "value", "()I"⟩ : MethodName) (head1 (Jvm.Cond.code (⟨"com/example/classwright/classwright/ReferenceKind", "value", "()I"⟩ : MethodName) prog_106_method_6_code 1 (some .int) :: ws) ({ frames := 0, cells := 0, slots := 0, locals := 0 } : Room)) (fun aa_ U_ => aa_ = #[(.ref a)] ∧ Z.Warmed39 U_.vm ∧ U_.heap = h0) (fun _ _ _ _ _ => True) (fun _ U_ o_ V_ => ∃ v_ L_, o_ = .returned v_ ∧ QV Z a vv h0 n0 v_ V_.heap L_ ∧ FrameEnd U_ o_ V_ L_ ({ frames := 0, cells := 0, slots := 0, locals := 0 } : Room).cells ({ frames := 0, cells := 0, slots := 0, locals := 0 } : Room).slots) := by
  refine MetFree.of_bodySF (plainFor_of_name pnV) hisR ?_
  intro p e s m args below meth c s₁ Bd hml0 hP hK
  obtain ⟨rfl, hZ, hh⟩ := hP
  have hx := Bd.exec
  have hby := Bd.bytes
  have hml : c.maxLocals = 1 := hml0
  have hown : s.vm.findClass "com/example/classwright/classwright/ReferenceKind" = some m.cls := findClass_of_methodNamed Bd.named
  have hnm := (name_of_methodNamed Bd.named Bd.method).1
  have hlk : meth.locks = false := BodyLoose.notSynchronized Bd
  have hret : meth.sig.returnType = (some .int) := Bd.returns
  have X0 : Stand p l e ({ frames := 0, cells := 0, slots := 0, locals := 0 } : Room) s m #[(.ref a)] below meth c s₁ [] 0 0 := Stand.of_body Bd
  have e0 : s₁.heap = h0 := by rw [← hh, Bd.state]; rfl
  have N0 := Fr.nil n0
  show Go p e below s ({ frames := 0, cells := 0, slots := 0, locals := 0 } : Room).cells ({ frames := 0, cells := 0, slots := 0, locals := 0 } : Room).slots (QV Z a vv h0 n0) (s₁.setTop (entryFrame m #[(.ref a)] 1))
  rw [efV]
  refine Go.by (fun _ kont => XS.aloadN X0.here hx rfl (hb hby dV_0) rfl rfl kont) ?_
  show Go _ _ _ _ _ _ _ (s₁.setTop (mkF m 1 #[.val (.ref a)] [(.ref a)]))
  obtain ⟨T101, X101, e101, st101⟩ := getF X0 hx hZ hown (host := "") (Or.inl (hw _ (List.mem_of_getElem? (i := 13) rfl))) Via.refl e0 F0_a_value (g := (mkF m 1 #[.val (.ref a)] [(.ref a)])) rfl rfl (hb hby dV_1)
  refine Go.by st101 ?_
  show Go _ _ _ _ _ _ _ (T101.setTop (mkF m 4 #[.val (.ref a)] [(.int vv)]))
  refine Go.retI X101 hx hret hlk (hb hby dV_4) ?_ (by decide) (by decide)
  show QV Z a vv h0 n0 (some (.int vv)) T101.heap _
  rw [e101]
  exact ⟨rfl, N0, rfl⟩

theorem dTm_0 : decode prog_106_method_8_code 0 = .ok (.aload_n 0, 1) := by decide +kernel
theorem dTm_1 : decode prog_106_method_8_code 1 = .ok (.getfield 64, 3) := by decide +kernel
theorem dTm_4 : decode prog_106_method_8_code 4 = .ok (.astore_n 2, 1) := by decide +kernel
theorem dTm_5 : decode prog_106_method_8_code 5 = .ok (.iload_n 1, 1) := by decide +kernel
theorem dTm_6 : decode prog_106_method_8_code 6 = .ok (.bipush 52, 2) := by decide +kernel
theorem dTm_8 : decode prog_106_method_8_code 8 = .ok (.if_icmp .ge 21, 3) := by decide +kernel
theorem dTm_29 : decode prog_106_method_8_code 29 = .ok (.aload_n 2, 1) := by decide +kernel
theorem dTm_30 : decode prog_106_method_8_code 30 = .ok (.areturn, 1) := by decide +kernel
theorem pnTm : plainName "com/example/classwright/classwright/ReferenceKind" = true := by first | (simp [plainName, overriddenIn]; done) | decide +kernel
theorem efTm (m : MethodId) (a : Addr) (mv : Int32) : entryFrame m #[(.ref a), (.int mv)] 3 = mkF m 0 #[.val (.ref a), .val (.int mv), .unset] [] := by first | (simp [entryFrame, mkF, argsToLocals, Value.category]; done) | rfl
def QTm (Z : State) (a : Addr) (mv : Int32) (tg : Addr) (h0 : Heap) (n0 : Nat) (v : Option Value) (h : Heap) (L : List Loc) : Prop := (v = some (.ref tg) ∧ Fr n0 L ∧ h = h0)
set_option maxRecDepth 65536 in
set_option maxHeartbeats 40000000 in
theorem rmTm (l : Launch) (Z : State) (a0 : Array Value) (hw : ∀ d ∈ tables_1, d.before a0 Z = true) (ws : List Jvm.Cond) (a : Addr) (mv : Int32) (tg : Addr) (h0 : Heap) (n0 : Nat) (Z0 : n0 ≤ h0.size) (E0_a : Exa Z h0 a "com/example/classwright/classwright/ReferenceKind") (F0_a_targets : Fld Z h0 a "com/example/classwright/classwright/ReferenceKind" "targets" "Lcom/example/classwright/classwright/KindSet;" (.ref tg)) (hmv : ¬ (mv < (52 : Int32))) :
    MetFree l (⟨"com/example/classwright/classwright/ReferenceKind", "targetKinds", "(I)Lcom/example/classwright/classwright/KindSet;"⟩ : MethodName) (head1 (Jvm.Cond.code (⟨"com/example/classwright/classwright/ReferenceKind", "targetKinds", "(I)Lcom/example/classwright/classwright/KindSet;"⟩ : MethodName) prog_106_method_8_code 3 (some (.object "com/example/classwright/classwright/KindSet")) :: ws) ({ frames := 0, cells := 0, slots := 0, locals := 0 } : Room)) (fun aa_ U_ => aa_ = #[(.ref a), (.int mv)] ∧ Z.Warmed39 U_.vm ∧ U_.heap = h0) (fun _ _ _ _ _ => True) (fun _ U_ o_ V_ => ∃ v_ L_, o_ = .returned v_ ∧ QTm Z a mv tg h0 n0 v_ V_.heap L_ ∧ FrameEnd U_ o_ V_ L_ ({ frames := 0, cells := 0, slots := 0, locals := 0 } : Room).cells ({ frames := 0, cells := 0, slots := 0, locals := 0 } : Room).slots) := by
  refine MetFree.of_bodySF (plainFor_of_name pnTm) hisR ?_
  intro p e s m args below meth c s₁ Bd hml0 hP hK
  obtain ⟨rfl, hZ, hh⟩ := hP
  have hx := Bd.exec
  have hby := Bd.bytes
  have hml : c.maxLocals = 3 := hml0
  have hown : s.vm.findClass "com/example/classwright/classwright/ReferenceKind" = some m.cls := findClass_of_methodNamed Bd.named
  have hnm := (name_of_methodNamed Bd.named Bd.method).1
  have hlk : meth.locks = false := BodyLoose.notSynchronized Bd
  have hret : meth.sig.returnType = (some (.object "com/example/classwright/classwright/KindSet")) := Bd.returns
  have X0 : Stand p l e ({ frames := 0, cells := 0, slots := 0, locals := 0 } : Room) s m #[(.ref a), (.int mv)] below meth c s₁ [] 0 0 := Stand.of_body Bd
  have e0 : s₁.heap = h0 := by rw [← hh, Bd.state]; rfl
  have N0 := Fr.nil n0
  show Go p e below s ({ frames := 0, cells := 0, slots := 0, locals := 0 } : Room).cells ({ frames := 0, cells := 0, slots := 0, locals := 0 } : Room).slots (QTm Z a mv tg h0 n0) (s₁.setTop (entryFrame m #[(.ref a), (.int mv)] 3))
  rw [efTm]
  refine Go.by (fun _ kont => XS.aloadN X0.here hx rfl (hb hby dTm_0) rfl rfl kont) ?_
  show Go _ _ _ _ _ _ _ (s₁.setTop (mkF m 1 #[.val (.ref a), .val (.int mv), .unset] [(.ref a)]))
  obtain ⟨T101, X101, e101, st101⟩ := getF X0 hx hZ hown (host := "") (Or.inl (hw _ (List.mem_of_getElem? (i := 20) rfl))) Via.refl e0 F0_a_targets (g := (mkF m 1 #[.val (.ref a), .val (.int mv), .unset] [(.ref a)])) rfl rfl (hb hby dTm_1)
  refine Go.by st101 ?_
  show Go _ _ _ _ _ _ _ (T101.setTop (mkF m 4 #[.val (.ref a), .val (.int mv), .unset] [(.ref tg)]))
  refine Go.by (fun _ kont => XS.astoreN X101.here hx rfl (hb hby dTm_4) rfl rfl (l' := #[.val (.ref a), .val (.int mv), .val (.ref tg)]) rfl (XS.iloadN X101.here hx rfl (hb hby dTm_5) rfl (XS.bipush X101.here hx rfl (hb hby dTm_6) kont))) ?_
  show Go _ _ _ _ _ _ _ (T101.setTop (mkF m 8 #[.val (.ref a), .val (.int mv), .val (.ref tg)] [(.int (52 : Int32)), (.int mv)]))
  refine Go.by (fun _ kont => XS.icmpYes X101.here hx rfl (pc0 := 8) (pc' := 29) rfl (hb hby dTm_8) rfl (flt hmv).2.1 (by decide) (by decide) kont) ?_
  show Go _ _ _ _ _ _ _ (T101.setTop (mkF m 29 #[.val (.ref a), .val (.int mv), .val (.ref tg)] []))
  refine Go.by (fun _ kont => XS.aloadN X101.here hx rfl (hb hby dTm_29) rfl rfl kont) ?_
  show Go _ _ _ _ _ _ _ (T101.setTop (mkF m 30 #[.val (.ref a), .val (.int mv), .val (.ref tg)] [(.ref tg)]))
  refine Go.retR X101 hx hret rfl rfl hlk (hb hby dTm_30) ?_ (by decide) (by decide)
  show QTm Z a mv tg h0 n0 (some (.ref tg)) T101.heap _
  rw [e101]
  exact ⟨rfl, N0, rfl⟩

theorem dTs_0 : decode prog_106_method_8_code 0 = .ok (.aload_n 0, 1) := by decide +kernel
theorem dTs_1 : decode prog_106_method_8_code 1 = .ok (.getfield 64, 3) := by decide +kernel
theorem dTs_4 : decode prog_106_method_8_code 4 = .ok (.astore_n 2, 1) := by decide +kernel
theorem dTs_5 : decode prog_106_method_8_code 5 = .ok (.iload_n 1, 1) := by decide +kernel
theorem dTs_6 : decode prog_106_method_8_code 6 = .ok (.bipush 52, 2) := by decide +kernel
theorem dTs_8 : decode prog_106_method_8_code 8 = .ok (.if_icmp .ge 21, 3) := by decide +kernel
theorem dTs_11 : decode prog_106_method_8_code 11 = .ok (.aload_n 0, 1) := by decide +kernel
theorem dTs_12 : decode prog_106_method_8_code 12 = .ok (.getstatic 19, 3) := by decide +kernel
theorem dTs_15 : decode prog_106_method_8_code 15 = .ok (.if_acmp .eq 10, 3) := by decide +kernel
theorem dTs_25 : decode prog_106_method_8_code 25 = .ok (.getstatic 87, 3) := by decide +kernel
theorem dTs_28 : decode prog_106_method_8_code 28 = .ok (.astore_n 2, 1) := by decide +kernel
theorem dTs_29 : decode prog_106_method_8_code 29 = .ok (.aload_n 2, 1) := by decide +kernel
theorem dTs_30 : decode prog_106_method_8_code 30 = .ok (.areturn, 1) := by decide +kernel
theorem pnTs : plainName "com/example/classwright/classwright/ReferenceKind" = true := by first | (simp [plainName, overriddenIn]; done) | decide +kernel
theorem efTs (m : MethodId) (is : Addr) (mv : Int32) : entryFrame m #[(.ref is), (.int mv)] 3 = mkF m 0 #[.val (.ref is), .val (.int mv), .unset] [] := by first | (simp [entryFrame, mkF, argsToLocals, Value.category]; done) | rfl
def QTs (Z : State) (is : Addr) (mv : Int32) (tg : Addr) (ip : Addr) (mr : Addr) (h0 : Heap) (n0 : Nat) (v : Option Value) (h : Heap) (L : List Loc) : Prop := (v = some (.ref mr) ∧ Fr n0 L ∧ h = h0)
set_option maxRecDepth 65536 in
set_option maxHeartbeats 40000000 in
theorem rmTs (l : Launch) (Z : State) (a0 : Array Value) (hw : ∀ d ∈ tables_1, d.before a0 Z = true) (ws : List Jvm.Cond) (is : Addr) (mv : Int32) (tg : Addr) (ip : Addr) (mr : Addr) (h0 : Heap) (n0 : Nat) (Z0 : n0 ≤ h0.size) (E0_is : Exa Z h0 is "com/example/classwright/classwright/ReferenceKind") (F0_is_targets : Fld Z h0 is "com/example/classwright/classwright/ReferenceKind" "targets" "Lcom/example/classwright/classwright/KindSet;" (.ref tg)) (S0_INVOKE_STATIC : Sta Z h0 "com/example/classwright/classwright/ReferenceKind" "INVOKE_STATIC" "Lcom/example/classwright/classwright/ReferenceKind;" (.ref is)) (S0_INVOKE_SPECIAL : Sta Z h0 "com/example/classwright/classwright/ReferenceKind" "INVOKE_SPECIAL" "Lcom/example/classwright/classwright/ReferenceKind;" (.ref ip)) (S0_METHODREF : Sta Z h0 "com/example/classwright/classwright/ReferenceKind" "METHODREF" "Lcom/example/classwright/classwright/KindSet;" (.ref mr)) (hmv : mv < (52 : Int32)) :
    MetFree l (⟨"com/example/classwright/classwright/ReferenceKind", "targetKinds", "(I)Lcom/example/classwright/classwright/KindSet;"⟩ : MethodName) (head1 (Jvm.Cond.code (⟨"com/example/classwright/classwright/ReferenceKind", "targetKinds", "(I)Lcom/example/classwright/classwright/KindSet;"⟩ : MethodName) prog_106_method_8_code 3 (some (.object "com/example/classwright/classwright/KindSet")) :: ws) ({ frames := 0, cells := 0, slots := 0, locals := 0 } : Room)) (fun aa_ U_ => aa_ = #[(.ref is), (.int mv)] ∧ Z.Warmed39 U_.vm ∧ U_.heap = h0) (fun _ _ _ _ _ => True) (fun _ U_ o_ V_ => ∃ v_ L_, o_ = .returned v_ ∧ QTs Z is mv tg ip mr h0 n0 v_ V_.heap L_ ∧ FrameEnd U_ o_ V_ L_ ({ frames := 0, cells := 0, slots := 0, locals := 0 } : Room).cells ({ frames := 0, cells := 0, slots := 0, locals := 0 } : Room).slots) := by
  refine MetFree.of_bodySF (plainFor_of_name pnTs) hisR ?_
  intro p e s m args below meth c s₁ Bd hml0 hP hK
  obtain ⟨rfl, hZ, hh⟩ := hP
  have hx := Bd.exec
  have hby := Bd.bytes
  have hml : c.maxLocals = 3 := hml0
  have hown : s.vm.findClass "com/example/classwright/classwright/ReferenceKind" = some m.cls := findClass_of_methodNamed Bd.named
  have hnm := (name_of_methodNamed Bd.named Bd.method).1
  have hlk : meth.locks = false := BodyLoose.notSynchronized Bd
  have hret : meth.sig.returnType = (some (.object "com/example/classwright/classwright/KindSet")) := Bd.returns
  have X0 : Stand p l e ({ frames := 0, cells := 0, slots := 0, locals := 0 } : Room) s m #[(.ref is), (.int mv)] below meth c s₁ [] 0 0 := Stand.of_body Bd
  have e0 : s₁.heap = h0 := by rw [← hh, Bd.state]; rfl
  have N0 := Fr.nil n0
  show Go p e below s ({ frames := 0, cells := 0, slots := 0, locals := 0 } : Room).cells ({ frames := 0, cells := 0, slots := 0, locals := 0 } : Room).slots (QTs Z is mv tg ip mr h0 n0) (s₁.setTop (entryFrame m #[(.ref is), (.int mv)] 3))
  rw [efTs]
  refine Go.by (fun _ kont => XS.aloadN X0.here hx rfl (hb hby dTs_0) rfl rfl kont) ?_
  show Go _ _ _ _ _ _ _ (s₁.setTop (mkF m 1 #[.val (.ref is), .val (.int mv), .unset] [(.ref is)]))
  obtain ⟨T101, X101, e101, st101⟩ := getF X0 hx hZ hown (host := "") (Or.inl (hw _ (List.mem_of_getElem? (i := 20) rfl))) Via.refl e0 F0_is_targets (g := (mkF m 1 #[.val (.ref is), .val (.int mv), .unset] [(.ref is)])) rfl rfl (hb hby dTs_1)
  refine Go.by st101 ?_
  show Go _ _ _ _ _ _ _ (T101.setTop (mkF m 4 #[.val (.ref is), .val (.int mv), .unset] [(.ref tg)]))
  refine Go.by (fun _ kont => XS.astoreN X101.here hx rfl (hb hby dTs_4) rfl rfl (l' := #[.val (.ref is), .val (.int mv), .val (.ref tg)]) rfl (XS.iloadN X101.here hx rfl (hb hby dTs_5) rfl (XS.bipush X101.here hx rfl (hb hby dTs_6) kont))) ?_
  show Go _ _ _ _ _ _ _ (T101.setTop (mkF m 8 #[.val (.ref is), .val (.int mv), .val (.ref tg)] [(.int (52 : Int32)), (.int mv)]))
  refine Go.by (fun _ kont => XS.icmpNo X101.here hx rfl (hb hby dTs_8) rfl (tlt hmv).2.1 kont) ?_
  show Go _ _ _ _ _ _ _ (T101.setTop (mkF m 11 #[.val (.ref is), .val (.int mv), .val (.ref tg)] []))
  refine Go.by (fun _ kont => XS.aloadN X101.here hx rfl (hb hby dTs_11) rfl rfl kont) ?_
  show Go _ _ _ _ _ _ _ (T101.setTop (mkF m 12 #[.val (.ref is), .val (.int mv), .val (.ref tg)] [(.ref is)]))
  obtain ⟨T102, X102, e102, st102⟩ := getS2 X101 hx hZ hown (host := "") (Or.inl (hw _ (List.mem_of_getElem? (i := 22) rfl))) Via.refl e101 S0_INVOKE_STATIC (g := (mkF m 12 #[.val (.ref is), .val (.int mv), .val (.ref tg)] [(.ref is)])) rfl (hb hby dTs_12)
  refine Go.by st102 ?_
  show Go _ _ _ _ _ _ _ (T102.setTop (mkF m 15 #[.val (.ref is), .val (.int mv), .val (.ref tg)] [(.ref is), (.ref is)]))
  refine Go.by (fun _ kont => Jvm.RoadKit.acmp (g := (mkF m 15 #[.val (.ref is), .val (.int mv), .val (.ref tg)] [(.ref is), (.ref is)])) X102 hx rfl rfl rfl (pc0 := 15) (pc' := 25) (same := true) rfl (hb hby dTs_15) rfl (decide_eq_true rfl) (by decide) (by decide) kont) ?_
  show Go _ _ _ _ _ _ _ (T102.setTop (mkF m 25 #[.val (.ref is), .val (.int mv), .val (.ref tg)] []))
  obtain ⟨T103, X103, e103, st103⟩ := getS2 X102 hx hZ hown (host := "") (Or.inl (hw _ (List.mem_of_getElem? (i := 64) rfl))) Via.refl e102 S0_METHODREF (g := (mkF m 25 #[.val (.ref is), .val (.int mv), .val (.ref tg)] [])) rfl (hb hby dTs_25)
  refine Go.by st103 ?_
  show Go _ _ _ _ _ _ _ (T103.setTop (mkF m 28 #[.val (.ref is), .val (.int mv), .val (.ref tg)] [(.ref mr)]))
  refine Go.by (fun _ kont => XS.astoreN X103.here hx rfl (hb hby dTs_28) rfl rfl (l' := #[.val (.ref is), .val (.int mv), .val (.ref mr)]) rfl (XS.aloadN X103.here hx rfl (hb hby dTs_29) rfl rfl kont)) ?_
  show Go _ _ _ _ _ _ _ (T103.setTop (mkF m 30 #[.val (.ref is), .val (.int mv), .val (.ref mr)] [(.ref mr)]))
  refine Go.retR X103 hx hret rfl rfl hlk (hb hby dTs_30) ?_ (by decide) (by decide)
  show QTs Z is mv tg ip mr h0 n0 (some (.ref mr)) T103.heap _
  rw [e103]
  exact ⟨rfl, N0, rfl⟩

theorem dTp_0 : decode prog_106_method_8_code 0 = .ok (.aload_n 0, 1) := by decide +kernel
theorem dTp_1 : decode prog_106_method_8_code 1 = .ok (.getfield 64, 3) := by decide +kernel
theorem dTp_4 : decode prog_106_method_8_code 4 = .ok (.astore_n 2, 1) := by decide +kernel
theorem dTp_5 : decode prog_106_method_8_code 5 = .ok (.iload_n 1, 1) := by decide +kernel
theorem dTp_6 : decode prog_106_method_8_code 6 = .ok (.bipush 52, 2) := by decide +kernel
theorem dTp_8 : decode prog_106_method_8_code 8 = .ok (.if_icmp .ge 21, 3) := by decide +kernel
theorem dTp_11 : decode prog_106_method_8_code 11 = .ok (.aload_n 0, 1) := by decide +kernel
theorem dTp_12 : decode prog_106_method_8_code 12 = .ok (.getstatic 19, 3) := by decide +kernel
theorem dTp_15 : decode prog_106_method_8_code 15 = .ok (.if_acmp .eq 10, 3) := by decide +kernel
theorem dTp_18 : decode prog_106_method_8_code 18 = .ok (.aload_n 0, 1) := by decide +kernel
theorem dTp_19 : decode prog_106_method_8_code 19 = .ok (.getstatic 22, 3) := by decide +kernel
theorem dTp_22 : decode prog_106_method_8_code 22 = .ok (.if_acmp .ne 7, 3) := by decide +kernel
theorem dTp_25 : decode prog_106_method_8_code 25 = .ok (.getstatic 87, 3) := by decide +kernel
theorem dTp_28 : decode prog_106_method_8_code 28 = .ok (.astore_n 2, 1) := by decide +kernel
theorem dTp_29 : decode prog_106_method_8_code 29 = .ok (.aload_n 2, 1) := by decide +kernel
theorem dTp_30 : decode prog_106_method_8_code 30 = .ok (.areturn, 1) := by decide +kernel
theorem pnTp : plainName "com/example/classwright/classwright/ReferenceKind" = true := by first | (simp [plainName, overriddenIn]; done) | decide +kernel
theorem efTp (m : MethodId) (ip : Addr) (mv : Int32) : entryFrame m #[(.ref ip), (.int mv)] 3 = mkF m 0 #[.val (.ref ip), .val (.int mv), .unset] [] := by first | (simp [entryFrame, mkF, argsToLocals, Value.category]; done) | rfl
def QTp (Z : State) (ip : Addr) (mv : Int32) (tg : Addr) (is : Addr) (mr : Addr) (h0 : Heap) (n0 : Nat) (v : Option Value) (h : Heap) (L : List Loc) : Prop := (v = some (.ref mr) ∧ Fr n0 L ∧ h = h0)
set_option maxRecDepth 65536 in
set_option maxHeartbeats 40000000 in
theorem rmTp (l : Launch) (Z : State) (a0 : Array Value) (hw : ∀ d ∈ tables_1, d.before a0 Z = true) (ws : List Jvm.Cond) (ip : Addr) (mv : Int32) (tg : Addr) (is : Addr) (mr : Addr) (h0 : Heap) (n0 : Nat) (Z0 : n0 ≤ h0.size) (E0_ip : Exa Z h0 ip "com/example/classwright/classwright/ReferenceKind") (F0_ip_targets : Fld Z h0 ip "com/example/classwright/classwright/ReferenceKind" "targets" "Lcom/example/classwright/classwright/KindSet;" (.ref tg)) (ne0_ip_is : ip ≠ is) (S0_INVOKE_STATIC : Sta Z h0 "com/example/classwright/classwright/ReferenceKind" "INVOKE_STATIC" "Lcom/example/classwright/classwright/ReferenceKind;" (.ref is)) (S0_INVOKE_SPECIAL : Sta Z h0 "com/example/classwright/classwright/ReferenceKind" "INVOKE_SPECIAL" "Lcom/example/classwright/classwright/ReferenceKind;" (.ref ip)) (S0_METHODREF : Sta Z h0 "com/example/classwright/classwright/ReferenceKind" "METHODREF" "Lcom/example/classwright/classwright/KindSet;" (.ref mr)) (hmv : mv < (52 : Int32)) :
    MetFree l (⟨"com/example/classwright/classwright/ReferenceKind", "targetKinds", "(I)Lcom/example/classwright/classwright/KindSet;"⟩ : MethodName) (head1 (Jvm.Cond.code (⟨"com/example/classwright/classwright/ReferenceKind", "targetKinds", "(I)Lcom/example/classwright/classwright/KindSet;"⟩ : MethodName) prog_106_method_8_code 3 (some (.object "com/example/classwright/classwright/KindSet")) :: ws) ({ frames := 0, cells := 0, slots := 0, locals := 0 } : Room)) (fun aa_ U_ => aa_ = #[(.ref ip), (.int mv)] ∧ Z.Warmed39 U_.vm ∧ U_.heap = h0) (fun _ _ _ _ _ => True) (fun _ U_ o_ V_ => ∃ v_ L_, o_ = .returned v_ ∧ QTp Z ip mv tg is mr h0 n0 v_ V_.heap L_ ∧ FrameEnd U_ o_ V_ L_ ({ frames := 0, cells := 0, slots := 0, locals := 0 } : Room).cells ({ frames := 0, cells := 0, slots := 0, locals := 0 } : Room).slots) := by
  refine MetFree.of_bodySF (plainFor_of_name pnTp) hisR ?_
  intro p e s m args below meth c s₁ Bd hml0 hP hK
  obtain ⟨rfl, hZ, hh⟩ := hP
  have hx := Bd.exec
  have hby := Bd.bytes
  have hml : c.maxLocals = 3 := hml0
  have hown : s.vm.findClass "com/example/classwright/classwright/ReferenceKind" = some m.cls := findClass_of_methodNamed Bd.named
  have hnm := (name_of_methodNamed Bd.named Bd.method).1
  have hlk : meth.locks = false := BodyLoose.notSynchronized Bd
  have hret : meth.sig.returnType = (some (.object "com/example/classwright/classwright/KindSet")) := Bd.returns
  have X0 : Stand p l e ({ frames := 0, cells := 0, slots := 0, locals := 0 } : Room) s m #[(.ref ip), (.int mv)] below meth c s₁ [] 0 0 := Stand.of_body Bd
  have e0 : s₁.heap = h0 := by rw [← hh, Bd.state]; rfl
  have N0 := Fr.nil n0
  show Go p e below s ({ frames := 0, cells := 0, slots := 0, locals := 0 } : Room).cells ({ frames := 0, cells := 0, slots := 0, locals := 0 } : Room).slots (QTp Z ip mv tg is mr h0 n0) (s₁.setTop (entryFrame m #[(.ref ip), (.int mv)] 3))
  rw [efTp]
  refine Go.by (fun _ kont => XS.aloadN X0.here hx rfl (hb hby dTp_0) rfl rfl kont) ?_
  show Go _ _ _ _ _ _ _ (s₁.setTop (mkF m 1 #[.val (.ref ip), .val (.int mv), .unset] [(.ref ip)]))
  obtain ⟨T101, X101, e101, st101⟩ := getF X0 hx hZ hown (host := "") (Or.inl (hw _ (List.mem_of_getElem? (i := 20) rfl))) Via.refl e0 F0_ip_targets (g := (mkF m 1 #[.val (.ref ip), .val (.int mv), .unset] [(.ref ip)])) rfl rfl (hb hby dTp_1)
  refine Go.by st101 ?_
  show Go _ _ _ _ _ _ _ (T101.setTop (mkF m 4 #[.val (.ref ip), .val (.int mv), .unset] [(.ref tg)]))
  refine Go.by (fun _ kont => XS.astoreN X101.here hx rfl (hb hby dTp_4) rfl rfl (l' := #[.val (.ref ip), .val (.int mv), .val (.ref tg)]) rfl (XS.iloadN X101.here hx rfl (hb hby dTp_5) rfl (XS.bipush X101.here hx rfl (hb hby dTp_6) kont))) ?_
  show Go _ _ _ _ _ _ _ (T101.setTop (mkF m 8 #[.val (.ref ip), .val (.int mv), .val (.ref tg)] [(.int (52 : Int32)), (.int mv)]))
  refine Go.by (fun _ kont => XS.icmpNo X101.here hx rfl (hb hby dTp_8) rfl (tlt hmv).2.1 kont) ?_
  show Go _ _ _ _ _ _ _ (T101.setTop (mkF m 11 #[.val (.ref ip), .val (.int mv), .val (.ref tg)] []))
  refine Go.by (fun _ kont => XS.aloadN X101.here hx rfl (hb hby dTp_11) rfl rfl kont) ?_
  show Go _ _ _ _ _ _ _ (T101.setTop (mkF m 12 #[.val (.ref ip), .val (.int mv), .val (.ref tg)] [(.ref ip)]))
  obtain ⟨T102, X102, e102, st102⟩ := getS2 X101 hx hZ hown (host := "") (Or.inl (hw _ (List.mem_of_getElem? (i := 22) rfl))) Via.refl e101 S0_INVOKE_STATIC (g := (mkF m 12 #[.val (.ref ip), .val (.int mv), .val (.ref tg)] [(.ref ip)])) rfl (hb hby dTp_12)
  refine Go.by st102 ?_
  show Go _ _ _ _ _ _ _ (T102.setTop (mkF m 15 #[.val (.ref ip), .val (.int mv), .val (.ref tg)] [(.ref is), (.ref ip)]))
  refine Go.by (fun _ kont => Jvm.RoadKit.acmp (g := (mkF m 15 #[.val (.ref ip), .val (.int mv), .val (.ref tg)] [(.ref is), (.ref ip)])) X102 hx rfl rfl rfl (pc0 := 15) (pc' := 18) (same := false) rfl (hb hby dTp_15) rfl (decide_eq_false fun q => ne0_ip_is (Value.ref.inj q)) (by decide) (by decide) kont) ?_
  show Go _ _ _ _ _ _ _ (T102.setTop (mkF m 18 #[.val (.ref ip), .val (.int mv), .val (.ref tg)] []))
  refine Go.by (fun _ kont => XS.aloadN X102.here hx rfl (hb hby dTp_18) rfl rfl kont) ?_
  show Go _ _ _ _ _ _ _ (T102.setTop (mkF m 19 #[.val (.ref ip), .val (.int mv), .val (.ref tg)] [(.ref ip)]))
  obtain ⟨T103, X103, e103, st103⟩ := getS2 X102 hx hZ hown (host := "") (Or.inl (hw _ (List.mem_of_getElem? (i := 24) rfl))) Via.refl e102 S0_INVOKE_SPECIAL (g := (mkF m 19 #[.val (.ref ip), .val (.int mv), .val (.ref tg)] [(.ref ip)])) rfl (hb hby dTp_19)
  refine Go.by st103 ?_
  show Go _ _ _ _ _ _ _ (T103.setTop (mkF m 22 #[.val (.ref ip), .val (.int mv), .val (.ref tg)] [(.ref ip), (.ref ip)]))
  refine Go.by (fun _ kont => Jvm.RoadKit.acmp (g := (mkF m 22 #[.val (.ref ip), .val (.int mv), .val (.ref tg)] [(.ref ip), (.ref ip)])) X103 hx rfl rfl rfl (pc0 := 22) (pc' := 25) (same := true) rfl (hb hby dTp_22) rfl (decide_eq_true rfl) (by decide) (by decide) kont) ?_
  show Go _ _ _ _ _ _ _ (T103.setTop (mkF m 25 #[.val (.ref ip), .val (.int mv), .val (.ref tg)] []))
  obtain ⟨T104, X104, e104, st104⟩ := getS2 X103 hx hZ hown (host := "") (Or.inl (hw _ (List.mem_of_getElem? (i := 64) rfl))) Via.refl e103 S0_METHODREF (g := (mkF m 25 #[.val (.ref ip), .val (.int mv), .val (.ref tg)] [])) rfl (hb hby dTp_25)
  refine Go.by st104 ?_
  show Go _ _ _ _ _ _ _ (T104.setTop (mkF m 28 #[.val (.ref ip), .val (.int mv), .val (.ref tg)] [(.ref mr)]))
  refine Go.by (fun _ kont => XS.astoreN X104.here hx rfl (hb hby dTp_28) rfl rfl (l' := #[.val (.ref ip), .val (.int mv), .val (.ref mr)]) rfl (XS.aloadN X104.here hx rfl (hb hby dTp_29) rfl rfl kont)) ?_
  show Go _ _ _ _ _ _ _ (T104.setTop (mkF m 30 #[.val (.ref ip), .val (.int mv), .val (.ref mr)] [(.ref mr)]))
  refine Go.retR X104 hx hret rfl rfl hlk (hb hby dTp_30) ?_ (by decide) (by decide)
  show QTp Z ip mv tg is mr h0 n0 (some (.ref mr)) T104.heap _
  rw [e104]
  exact ⟨rfl, N0, rfl⟩

theorem dTe_0 : decode prog_106_method_8_code 0 = .ok (.aload_n 0, 1) := by decide +kernel
theorem dTe_1 : decode prog_106_method_8_code 1 = .ok (.getfield 64, 3) := by decide +kernel
theorem dTe_4 : decode prog_106_method_8_code 4 = .ok (.astore_n 2, 1) := by decide +kernel
theorem dTe_5 : decode prog_106_method_8_code 5 = .ok (.iload_n 1, 1) := by decide +kernel
theorem dTe_6 : decode prog_106_method_8_code 6 = .ok (.bipush 52, 2) := by decide +kernel
theorem dTe_8 : decode prog_106_method_8_code 8 = .ok (.if_icmp .ge 21, 3) := by decide +kernel
theorem dTe_11 : decode prog_106_method_8_code 11 = .ok (.aload_n 0, 1) := by decide +kernel
theorem dTe_12 : decode prog_106_method_8_code 12 = .ok (.getstatic 19, 3) := by decide +kernel
theorem dTe_15 : decode prog_106_method_8_code 15 = .ok (.if_acmp .eq 10, 3) := by decide +kernel
theorem dTe_18 : decode prog_106_method_8_code 18 = .ok (.aload_n 0, 1) := by decide +kernel
theorem dTe_19 : decode prog_106_method_8_code 19 = .ok (.getstatic 22, 3) := by decide +kernel
theorem dTe_22 : decode prog_106_method_8_code 22 = .ok (.if_acmp .ne 7, 3) := by decide +kernel
theorem dTe_29 : decode prog_106_method_8_code 29 = .ok (.aload_n 2, 1) := by decide +kernel
theorem dTe_30 : decode prog_106_method_8_code 30 = .ok (.areturn, 1) := by decide +kernel
theorem pnTe : plainName "com/example/classwright/classwright/ReferenceKind" = true := by first | (simp [plainName, overriddenIn]; done) | decide +kernel
theorem efTe (m : MethodId) (a : Addr) (mv : Int32) : entryFrame m #[(.ref a), (.int mv)] 3 = mkF m 0 #[.val (.ref a), .val (.int mv), .unset] [] := by first | (simp [entryFrame, mkF, argsToLocals, Value.category]; done) | rfl
def QTe (Z : State) (a : Addr) (mv : Int32) (tg : Addr) (is : Addr) (ip : Addr) (mr : Addr) (h0 : Heap) (n0 : Nat) (v : Option Value) (h : Heap) (L : List Loc) : Prop := (v = some (.ref tg) ∧ Fr n0 L ∧ h = h0)
set_option maxRecDepth 65536 in
set_option maxHeartbeats 40000000 in
theorem rmTe (l : Launch) (Z : State) (a0 : Array Value) (hw : ∀ d ∈ tables_1, d.before a0 Z = true) (ws : List Jvm.Cond) (a : Addr) (mv : Int32) (tg : Addr) (is : Addr) (ip : Addr) (mr : Addr) (h0 : Heap) (n0 : Nat) (Z0 : n0 ≤ h0.size) (E0_a : Exa Z h0 a "com/example/classwright/classwright/ReferenceKind") (F0_a_targets : Fld Z h0 a "com/example/classwright/classwright/ReferenceKind" "targets" "Lcom/example/classwright/classwright/KindSet;" (.ref tg)) (ne0_a_is : a ≠ is) (ne0_a_ip : a ≠ ip) (S0_INVOKE_STATIC : Sta Z h0 "com/example/classwright/classwright/ReferenceKind" "INVOKE_STATIC" "Lcom/example/classwright/classwright/ReferenceKind;" (.ref is)) (S0_INVOKE_SPECIAL : Sta Z h0 "com/example/classwright/classwright/ReferenceKind" "INVOKE_SPECIAL" "Lcom/example/classwright/classwright/ReferenceKind;" (.ref ip)) (S0_METHODREF : Sta Z h0 "com/example/classwright/classwright/ReferenceKind" "METHODREF" "Lcom/example/classwright/classwright/KindSet;" (.ref mr)) (hmv : mv < (52 : Int32)) :
    MetFree l (⟨"com/example/classwright/classwright/ReferenceKind", "targetKinds", "(I)Lcom/example/classwright/classwright/KindSet;"⟩ : MethodName) (head1 (Jvm.Cond.code (⟨"com/example/classwright/classwright/ReferenceKind", "targetKinds", "(I)Lcom/example/classwright/classwright/KindSet;"⟩ : MethodName) prog_106_method_8_code 3 (some (.object "com/example/classwright/classwright/KindSet")) :: ws) ({ frames := 0, cells := 0, slots := 0, locals := 0 } : Room)) (fun aa_ U_ => aa_ = #[(.ref a), (.int mv)] ∧ Z.Warmed39 U_.vm ∧ U_.heap = h0) (fun _ _ _ _ _ => True) (fun _ U_ o_ V_ => ∃ v_ L_, o_ = .returned v_ ∧ QTe Z a mv tg is ip mr h0 n0 v_ V_.heap L_ ∧ FrameEnd U_ o_ V_ L_ ({ frames := 0, cells := 0, slots := 0, locals := 0 } : Room).cells ({ frames := 0, cells := 0, slots := 0, locals := 0 } : Room).slots) := by
  refine MetFree.of_bodySF (plainFor_of_name pnTe) hisR ?_
  intro p e s m args below meth c s₁ Bd hml0 hP hK
  obtain ⟨rfl, hZ, hh⟩ := hP
  have hx := Bd.exec
  have hby := Bd.bytes
  have hml : c.maxLocals = 3 := hml0
  have hown : s.vm.findClass "com/example/classwright/classwright/ReferenceKind" = some m.cls := findClass_of_methodNamed Bd.named
  have hnm := (name_of_methodNamed Bd.named Bd.method).1
  have hlk : meth.locks = false := BodyLoose.notSynchronized Bd
  have hret : meth.sig.returnType = (some (.object "com/example/classwright/classwright/KindSet")) := Bd.returns
  have X0 : Stand p l e ({ frames := 0, cells := 0, slots := 0, locals := 0 } : Room) s m #[(.ref a), (.int mv)] below meth c s₁ [] 0 0 := Stand.of_body Bd
  have e0 : s₁.heap = h0 := by rw [← hh, Bd.state]; rfl
  have N0 := Fr.nil n0
  show Go p e below s ({ frames := 0, cells := 0, slots := 0, locals := 0 } : Room).cells ({ frames := 0, cells := 0, slots := 0, locals := 0 } : Room).slots (QTe Z a mv tg is ip mr h0 n0) (s₁.setTop (entryFrame m #[(.ref a), (.int mv)] 3))
  rw [efTe]
  refine Go.by (fun _ kont => XS.aloadN X0.here hx rfl (hb hby dTe_0) rfl rfl kont) ?_
  show Go _ _ _ _ _ _ _ (s₁.setTop (mkF m 1 #[.val (.ref a), .val (.int mv), .unset] [(.ref a)]))
  obtain ⟨T101, X101, e101, st101⟩ := getF X0 hx hZ hown (host := "") (Or.inl (hw _ (List.mem_of_getElem? (i := 20) rfl))) Via.refl e0 F0_a_targets (g := (mkF m 1 #[.val (.ref a), .val (.int mv), .unset] [(.ref a)])) rfl rfl (hb hby dTe_1)
  refine Go.by st101 ?_
  show Go _ _ _ _ _ _ _ (T101.setTop (mkF m 4 #[.val (.ref a), .val (.int mv), .unset] [(.ref tg)]))
  refine Go.by (fun _ kont => XS.astoreN X101.here hx rfl (hb hby dTe_4) rfl rfl (l' := #[.val (.ref a), .val (.int mv), .val (.ref tg)]) rfl (XS.iloadN X101.here hx rfl (hb hby dTe_5) rfl (XS.bipush X101.here hx rfl (hb hby dTe_6) kont))) ?_
  show Go _ _ _ _ _ _ _ (T101.setTop (mkF m 8 #[.val (.ref a), .val (.int mv), .val (.ref tg)] [(.int (52 : Int32)), (.int mv)]))
  refine Go.by (fun _ kont => XS.icmpNo X101.here hx rfl (hb hby dTe_8) rfl (tlt hmv).2.1 kont) ?_
  show Go _ _ _ _ _ _ _ (T101.setTop (mkF m 11 #[.val (.ref a), .val (.int mv), .val (.ref tg)] []))
  refine Go.by (fun _ kont => XS.aloadN X101.here hx rfl (hb hby dTe_11) rfl rfl kont) ?_
  show Go _ _ _ _ _ _ _ (T101.setTop (mkF m 12 #[.val (.ref a), .val (.int mv), .val (.ref tg)] [(.ref a)]))
  obtain ⟨T102, X102, e102, st102⟩ := getS2 X101 hx hZ hown (host := "") (Or.inl (hw _ (List.mem_of_getElem? (i := 22) rfl))) Via.refl e101 S0_INVOKE_STATIC (g := (mkF m 12 #[.val (.ref a), .val (.int mv), .val (.ref tg)] [(.ref a)])) rfl (hb hby dTe_12)
  refine Go.by st102 ?_
  show Go _ _ _ _ _ _ _ (T102.setTop (mkF m 15 #[.val (.ref a), .val (.int mv), .val (.ref tg)] [(.ref is), (.ref a)]))
  refine Go.by (fun _ kont => Jvm.RoadKit.acmp (g := (mkF m 15 #[.val (.ref a), .val (.int mv), .val (.ref tg)] [(.ref is), (.ref a)])) X102 hx rfl rfl rfl (pc0 := 15) (pc' := 18) (same := false) rfl (hb hby dTe_15) rfl (decide_eq_false fun q => ne0_a_is (Value.ref.inj q)) (by decide) (by decide) kont) ?_
  show Go _ _ _ _ _ _ _ (T102.setTop (mkF m 18 #[.val (.ref a), .val (.int mv), .val (.ref tg)] []))
  refine Go.by (fun _ kont => XS.aloadN X102.here hx rfl (hb hby dTe_18) rfl rfl kont) ?_
  show Go _ _ _ _ _ _ _ (T102.setTop (mkF m 19 #[.val (.ref a), .val (.int mv), .val (.ref tg)] [(.ref a)]))
  obtain ⟨T103, X103, e103, st103⟩ := getS2 X102 hx hZ hown (host := "") (Or.inl (hw _ (List.mem_of_getElem? (i := 24) rfl))) Via.refl e102 S0_INVOKE_SPECIAL (g := (mkF m 19 #[.val (.ref a), .val (.int mv), .val (.ref tg)] [(.ref a)])) rfl (hb hby dTe_19)
  refine Go.by st103 ?_
  show Go _ _ _ _ _ _ _ (T103.setTop (mkF m 22 #[.val (.ref a), .val (.int mv), .val (.ref tg)] [(.ref ip), (.ref a)]))
  refine Go.by (fun _ kont => Jvm.RoadKit.acmp (g := (mkF m 22 #[.val (.ref a), .val (.int mv), .val (.ref tg)] [(.ref ip), (.ref a)])) X103 hx rfl rfl rfl (pc0 := 22) (pc' := 29) (same := false) rfl (hb hby dTe_22) rfl (decide_eq_false fun q => ne0_a_ip (Value.ref.inj q)) (by decide) (by decide) kont) ?_
  show Go _ _ _ _ _ _ _ (T103.setTop (mkF m 29 #[.val (.ref a), .val (.int mv), .val (.ref tg)] []))
  refine Go.by (fun _ kont => XS.aloadN X103.here hx rfl (hb hby dTe_29) rfl rfl kont) ?_
  show Go _ _ _ _ _ _ _ (T103.setTop (mkF m 30 #[.val (.ref a), .val (.int mv), .val (.ref tg)] [(.ref tg)]))
  refine Go.retR X103 hx hret rfl rfl hlk (hb hby dTe_30) ?_ (by decide) (by decide)
  show QTe Z a mv tg is ip mr h0 n0 (some (.ref tg)) T103.heap _
  rw [e103]
  exact ⟨rfl, N0, rfl⟩

theorem dO_0 : decode jdk_37_method_2_code 0 = .ok (.aload_n 0, 1) := by decide +kernel
theorem dO_1 : decode jdk_37_method_2_code 1 = .ok (.getfield 7, 3) := by decide +kernel
theorem dO_4 : decode jdk_37_method_2_code 4 = .ok (.ireturn, 1) := by decide +kernel
theorem pnO : plainName "java/lang/Enum" = true := by first | (simp [plainName, overriddenIn]; done) | decide +kernel
theorem efO (m : MethodId) (k : Addr) : entryFrame m #[(.ref k)] 1 = mkF m 0 #[.val (.ref k)] [] := by first | (simp [entryFrame, mkF, argsToLocals, Value.category]; done) | rfl
def QO (Z : State) (k : Addr) (oo : Int32) (h0 : Heap) (n0 : Nat) (v : Option Value) (h : Heap) (L : List Loc) : Prop := (v = some (.int oo) ∧ Fr n0 L ∧ h = h0)
set_option maxRecDepth 65536 in
set_option maxHeartbeats 40000000 in
theorem rmO (l : Launch) (Z : State) (a0 : Array Value) (hw : ∀ d ∈ tables_1, d.before a0 Z = true) (ws : List Jvm.Cond) (k : Addr) (oo : Int32) (h0 : Heap) (n0 : Nat) (Z0 : n0 ≤ h0.size) (E0_k : Exa Z h0 k "com/example/classwright/classwright/ConstantKind") (F0_k_ordinal : Fld Z h0 k "java/lang/Enum" "ordinal" "I" (.int oo)) :
    MetFree l (⟨"java/lang/Enum", "ordinal", "()I"⟩ : MethodName) (head1 (Jvm.Cond.code (⟨"java/lang/Enum", "ordinal", "()I"⟩ : MethodName) jdk_37_method_2_code 1 (some .int) :: ws) ({ frames := 0, cells := 0, slots := 0, locals := 0 } : Room)) (fun aa_ U_ => aa_ = #[(.ref k)] ∧ Z.Warmed39 U_.vm ∧ U_.heap = h0) (fun _ _ _ _ _ => True) (fun _ U_ o_ V_ => ∃ v_ L_, o_ = .returned v_ ∧ QO Z k oo h0 n0 v_ V_.heap L_ ∧ FrameEnd U_ o_ V_ L_ ({ frames := 0, cells := 0, slots := 0, locals := 0 } : Room).cells ({ frames := 0, cells := 0, slots := 0, locals := 0 } : Room).slots) := by
  refine MetFree.of_bodySF (plainFor_of_name pnO) hisR ?_
  intro p e s m args below meth c s₁ Bd hml0 hP hK
  obtain ⟨rfl, hZ, hh⟩ := hP
  have hx := Bd.exec
  have hby := Bd.bytes
  have hml : c.maxLocals = 1 := hml0
  have hown : s.vm.findClass "java/lang/Enum" = some m.cls := findClass_of_methodNamed Bd.named
  have hnm := (name_of_methodNamed Bd.named Bd.method).1
  have hlk : meth.locks = false := BodyLoose.notSynchronized Bd
  have hret : meth.sig.returnType = (some .int) := Bd.returns
  have X0 : Stand p l e ({ frames := 0, cells := 0, slots := 0, locals := 0 } : Room) s m #[(.ref k)] below meth c s₁ [] 0 0 := Stand.of_body Bd
  have e0 : s₁.heap = h0 := by rw [← hh, Bd.state]; rfl
  have N0 := Fr.nil n0
  show Go p e below s ({ frames := 0, cells := 0, slots := 0, locals := 0 } : Room).cells ({ frames := 0, cells := 0, slots := 0, locals := 0 } : Room).slots (QO Z k oo h0 n0) (s₁.setTop (entryFrame m #[(.ref k)] 1))
  rw [efO]
  refine Go.by (fun _ kont => XS.aloadN X0.here hx rfl (hb hby dO_0) rfl rfl kont) ?_
  show Go _ _ _ _ _ _ _ (s₁.setTop (mkF m 1 #[.val (.ref k)] [(.ref k)]))
  obtain ⟨T101, X101, e101, st101⟩ := getF X0 hx hZ hown (host := "") (Or.inl (hw _ (List.mem_of_getElem? (i := 46) rfl))) Via.refl e0 F0_k_ordinal (g := (mkF m 1 #[.val (.ref k)] [(.ref k)])) rfl rfl (hb hby dO_1)
  refine Go.by st101 ?_
  show Go _ _ _ _ _ _ _ (T101.setTop (mkF m 4 #[.val (.ref k)] [(.int oo)]))
  refine Go.retI X101 hx hret hlk (hb hby dO_4) ?_ (by decide) (by decide)
  show QO Z k oo h0 n0 (some (.int oo)) T101.heap _
  rw [e101]
  exact ⟨rfl, N0, rfl⟩

theorem dC128_7_0 : decode prog_67_method_3_code 0 = .ok (.aload_n 1, 1) := by decide +kernel
theorem dC128_7_1 : decode prog_67_method_3_code 1 = .ok (.instanceof 14, 3) := by decide +kernel
theorem dC128_7_4 : decode prog_67_method_3_code 4 = .ok (.ifCond .eq 26, 3) := by decide +kernel
theorem dC128_7_7 : decode prog_67_method_3_code 7 = .ok (.aload_n 1, 1) := by decide +kernel
theorem dC128_7_8 : decode prog_67_method_3_code 8 = .ok (.checkcast 14, 3) := by decide +kernel
theorem dC128_7_11 : decode prog_67_method_3_code 11 = .ok (.astore_n 2, 1) := by decide +kernel
theorem dC128_7_12 : decode prog_67_method_3_code 12 = .ok (.aload_n 0, 1) := by decide +kernel
theorem dC128_7_13 : decode prog_67_method_3_code 13 = .ok (.getfield 7, 3) := by decide +kernel
theorem dC128_7_16 : decode prog_67_method_3_code 16 = .ok (.iconst 1, 1) := by decide +kernel
theorem dC128_7_17 : decode prog_67_method_3_code 17 = .ok (.aload_n 2, 1) := by decide +kernel
theorem dC128_7_18 : decode prog_67_method_3_code 18 = .ok (.invokevirtual 13, 3) := by decide +kernel
theorem dC128_7_21 : decode prog_67_method_3_code 21 = .ok (.ishl, 1) := by decide +kernel
theorem dC128_7_22 : decode prog_67_method_3_code 22 = .ok (.iand, 1) := by decide +kernel
theorem dC128_7_23 : decode prog_67_method_3_code 23 = .ok (.ifCond .eq 7, 3) := by decide +kernel
theorem dC128_7_26 : decode prog_67_method_3_code 26 = .ok (.iconst 1, 1) := by decide +kernel
theorem dC128_7_27 : decode prog_67_method_3_code 27 = .ok (.goto 4, 3) := by decide +kernel
theorem dC128_7_31 : decode prog_67_method_3_code 31 = .ok (.ireturn, 1) := by decide +kernel
theorem pdC128_7_0 : parseMethodDescriptor "()I" = some ⟨[], some .int⟩ := by decide +kernel
theorem pnC128_7 : plainName "com/example/classwright/classwright/KindSet" = true := by first | (simp [plainName, overriddenIn]; done) | decide +kernel
theorem efC128_7 (m : MethodId) (a : Addr) (k : Addr) : entryFrame m #[(.ref a), (.ref k)] 3 = mkF m 0 #[.val (.ref a), .val (.ref k), .unset] [] := by first | (simp [entryFrame, mkF, argsToLocals, Value.category]; done) | rfl
def QC128_7 (Z : State) (a : Addr) (k : Addr) (h0 : Heap) (n0 : Nat) (v : Option Value) (h : Heap) (L : List Loc) : Prop := (v = some (.int (1 : Int32)) ∧ Fr n0 L ∧ h = h0)
set_option maxRecDepth 65536 in
set_option maxHeartbeats 40000000 in
theorem rmC128_7 (l : Launch) (Z : State) (a0 : Array Value) (hw : ∀ d ∈ tables_1, d.before a0 Z = true) (ws : List Jvm.Cond) (a : Addr) (k : Addr) (h0 : Heap) (n0 : Nat) (Z0 : n0 ≤ h0.size) (E0_a : Exa Z h0 a "com/example/classwright/classwright/KindSet") (F0_a_bits : Fld Z h0 a "com/example/classwright/classwright/KindSet" "bits" "I" (.int (128 : Int32))) (E0_k : Exa Z h0 k "com/example/classwright/classwright/ConstantKind") (F0_k_ordinal : Fld Z h0 k "java/lang/Enum" "ordinal" "I" (.int (7 : Int32))) :
    MetFree l (⟨"com/example/classwright/classwright/KindSet", "contains", "(Ljava/lang/Object;)Z"⟩ : MethodName) (head1 (Jvm.Cond.code (⟨"com/example/classwright/classwright/KindSet", "contains", "(Ljava/lang/Object;)Z"⟩ : MethodName) prog_67_method_3_code 3 (some .boolean) :: ws) ({ frames := 1, cells := 0, slots := 0, locals := 14 } : Room)) (fun aa_ U_ => aa_ = #[(.ref a), (.ref k)] ∧ Z.Warmed39 U_.vm ∧ U_.heap = h0) (fun _ _ _ _ _ => True) (fun _ U_ o_ V_ => ∃ v_ L_, o_ = .returned v_ ∧ QC128_7 Z a k h0 n0 v_ V_.heap L_ ∧ FrameEnd U_ o_ V_ L_ ({ frames := 1, cells := 0, slots := 0, locals := 14 } : Room).cells ({ frames := 1, cells := 0, slots := 0, locals := 14 } : Room).slots) := by
  refine MetFree.of_bodySF (plainFor_of_name pnC128_7) hisR ?_
  intro p e s m args below meth c s₁ Bd hml0 hP hK
  obtain ⟨rfl, hZ, hh⟩ := hP
  have hx := Bd.exec
  have hby := Bd.bytes
  have hml : c.maxLocals = 3 := hml0
  have hown : s.vm.findClass "com/example/classwright/classwright/KindSet" = some m.cls := findClass_of_methodNamed Bd.named
  have hnm := (name_of_methodNamed Bd.named Bd.method).1
  have hlk : meth.locks = false := BodyLoose.notSynchronized Bd
  have hret : meth.sig.returnType = (some .boolean) := Bd.returns
  have X0 : Stand p l e ({ frames := 1, cells := 0, slots := 0, locals := 14 } : Room) s m #[(.ref a), (.ref k)] below meth c s₁ [] 0 0 := Stand.of_body Bd
  have e0 : s₁.heap = h0 := by rw [← hh, Bd.state]; rfl
  have N0 := Fr.nil n0
  show Go p e below s ({ frames := 1, cells := 0, slots := 0, locals := 14 } : Room).cells ({ frames := 1, cells := 0, slots := 0, locals := 14 } : Room).slots (QC128_7 Z a k h0 n0) (s₁.setTop (entryFrame m #[(.ref a), (.ref k)] 3))
  rw [efC128_7]
  refine Go.by (fun _ kont => XS.aloadN X0.here hx rfl (hb hby dC128_7_0) rfl rfl kont) ?_
  show Go _ _ _ _ _ _ _ (s₁.setTop (mkF m 1 #[.val (.ref a), .val (.ref k), .unset] [(.ref k)]))
  obtain ⟨T101, X101, e101, st101⟩ := instY X0 hx hZ hown (hw _ (List.mem_of_getElem? (i := 35) rfl)) e0 (Ins.self E0_k) (g := (mkF m 1 #[.val (.ref a), .val (.ref k), .unset] [(.ref k)])) rfl rfl (hb hby dC128_7_1)
  refine Go.by st101 ?_
  show Go _ _ _ _ _ _ _ (T101.setTop (mkF m 4 #[.val (.ref a), .val (.ref k), .unset] [(.int (1 : Int32))]))
  refine Go.by (fun _ kont => XS.ifNo X101.here hx rfl (hb hby dC128_7_4) rfl (by decide) (XS.aloadN X101.here hx rfl (hb hby dC128_7_7) rfl rfl kont)) ?_
  show Go _ _ _ _ _ _ _ (T101.setTop (mkF m 8 #[.val (.ref a), .val (.ref k), .unset] [(.ref k)]))
  obtain ⟨T102, X102, e102, st102⟩ := castY X101 hx hZ hown (hw _ (List.mem_of_getElem? (i := 35) rfl)) e101 (Ins.self E0_k) (g := (mkF m 8 #[.val (.ref a), .val (.ref k), .unset] [(.ref k)])) rfl rfl (hb hby dC128_7_8)
  refine Go.by st102 ?_
  show Go _ _ _ _ _ _ _ (T102.setTop (mkF m 11 #[.val (.ref a), .val (.ref k), .unset] [(.ref k)]))
  refine Go.by (fun _ kont => XS.astoreN X102.here hx rfl (hb hby dC128_7_11) rfl rfl (l' := #[.val (.ref a), .val (.ref k), .val (.ref k)]) rfl (XS.aloadN X102.here hx rfl (hb hby dC128_7_12) rfl rfl kont)) ?_
  show Go _ _ _ _ _ _ _ (T102.setTop (mkF m 13 #[.val (.ref a), .val (.ref k), .val (.ref k)] [(.ref a)]))
  obtain ⟨T103, X103, e103, st103⟩ := getF X102 hx hZ hown (host := "") (Or.inl (hw _ (List.mem_of_getElem? (i := 37) rfl))) Via.refl e102 F0_a_bits (g := (mkF m 13 #[.val (.ref a), .val (.ref k), .val (.ref k)] [(.ref a)])) rfl rfl (hb hby dC128_7_13)
  refine Go.by st103 ?_
  show Go _ _ _ _ _ _ _ (T103.setTop (mkF m 16 #[.val (.ref a), .val (.ref k), .val (.ref k)] [(.int (128 : Int32))]))
  refine Go.by (fun _ kont => XS.iconst X103.here hx rfl (hb hby dC128_7_16) (XS.aloadN X103.here hx rfl (hb hby dC128_7_17) rfl rfl kont)) ?_
  show Go _ _ _ _ _ _ _ (T103.setTop (mkF m 18 #[.val (.ref a), .val (.ref k), .val (.ref k)] [(.ref k), (.int (1 : Int32)), (.int (128 : Int32))]))
  obtain ⟨cq104, kq104, q104a, q104b, q104c⟩ := isOf hZ e103 E0_k
  obtain ⟨_, _, ⟨T104, L104, k104, n104⟩, -, X104, ⟨Lc104, hQ104, l104, y104, z104⟩, st104⟩ := X103.virtualBackUp hx (x := (⟨"com/example/classwright/classwright/ConstantKind", "ordinal", "()I"⟩ : MethodName)) (y := (⟨"java/lang/Enum", "ordinal", "()I"⟩ : MethodName)) (owner := "java/lang/Enum") hown (mvT hZ (hw _ (List.mem_of_getElem? (i := 39) rfl))) (mvT hZ (hw _ (List.mem_of_getElem? (i := 40) rfl))) (mvT hZ (hw _ (List.mem_of_getElem? (i := 41) rfl))) (by decide) (mvT hZ (hw _ (List.mem_of_getElem? (i := 43) rfl))) (mvT hZ (hw _ (List.mem_of_getElem? (i := 42) rfl))) (backOf (W := 2) (rmO l Z a0 hw [] k (7 : Int32) h0 n0 Z0 E0_k F0_k_ordinal) hZ (hw _ (List.mem_of_getElem? (i := 45) rfl)) (hw _ (List.mem_of_getElem? (i := 44) rfl)) (by decide) (by decide)) q104a q104c (g := (mkF m 18 #[.val (.ref a), .val (.ref k), .val (.ref k)] [(.ref k), (.int (1 : Int32)), (.int (128 : Int32))])) rfl (by rw [hml]; rfl) (Steps.refl _) (argsL := []) (rest := [(.int (1 : Int32)), (.int (128 : Int32))]) (lenOf pdC128_7_0 rfl) rfl (by show 2 * 0 + _ ≤ _; exact Nat.le_of_eq rfl) (hb hby dC128_7_18) (fun _ _ => ⟨rfl, e103, (by decide : 0 + 0 ≤ _), (by decide : 0 + 0 ≤ _)⟩)
  dsimp only [Pt.U, Pt.locs, Pt.cells, Pt.slots] at X104 l104 y104 z104 st104 hQ104
  subst l104 y104 z104
  obtain ⟨rfl, N104q, eh104⟩ := hQ104
  have N104 := Fr.app N0 N104q
  refine Go.tr st104 ?_
  show Go _ _ _ _ _ _ _ (T104.setTop (mkF m 21 #[.val (.ref a), .val (.ref k), .val (.ref k)] [(.int (7 : Int32)), (.int (1 : Int32)), (.int (128 : Int32))]))
  refine Go.by (fun _ kont => XS.ishl X104.here hx rfl (hb hby dC128_7_21) rfl kont) ?_
  show Go _ _ _ _ _ _ _ (T104.setTop (mkF m 22 #[.val (.ref a), .val (.ref k), .val (.ref k)] [(.int ((1 : Int32) <<< ((7 : Int32) &&& 31))), (.int (128 : Int32))]))
  rw [show ((1 : Int32) <<< ((7 : Int32) &&& 31)) = (128 : Int32) from by decide]
  show Go _ _ _ _ _ _ _ (T104.setTop (mkF m 22 #[.val (.ref a), .val (.ref k), .val (.ref k)] [(.int (128 : Int32)), (.int (128 : Int32))]))
  refine Go.by (fun _ kont => XS.iand X104.here hx rfl (hb hby dC128_7_22) rfl kont) ?_
  show Go _ _ _ _ _ _ _ (T104.setTop (mkF m 23 #[.val (.ref a), .val (.ref k), .val (.ref k)] [(.int ((128 : Int32) &&& (128 : Int32)))]))
  rw [show ((128 : Int32) &&& (128 : Int32)) = (128 : Int32) from by decide]
  show Go _ _ _ _ _ _ _ (T104.setTop (mkF m 23 #[.val (.ref a), .val (.ref k), .val (.ref k)] [(.int (128 : Int32))]))
  refine Go.by (fun _ kont => XS.ifNo X104.here hx rfl (hb hby dC128_7_23) rfl (by decide) (XS.iconst X104.here hx rfl (hb hby dC128_7_26) (XS.goto X104.here hx rfl (pc0 := 27) (pc' := 31) rfl (hb hby dC128_7_27) (by decide) (by decide) kont))) ?_
  show Go _ _ _ _ _ _ _ (T104.setTop (mkF m 31 #[.val (.ref a), .val (.ref k), .val (.ref k)] [(.int (1 : Int32))]))
  refine Go.retN X104 hx (t := .boolean) hret (by simp) hlk (hb hby dC128_7_31) ?_ (by decide) (by decide)
  show QC128_7 Z a k h0 n0 (some (.int (1 : Int32))) T104.heap _
  rw [eh104]
  exact ⟨rfl, N104, rfl⟩

theorem dC128_8_0 : decode prog_67_method_3_code 0 = .ok (.aload_n 1, 1) := by decide +kernel
theorem dC128_8_1 : decode prog_67_method_3_code 1 = .ok (.instanceof 14, 3) := by decide +kernel
theorem dC128_8_4 : decode prog_67_method_3_code 4 = .ok (.ifCond .eq 26, 3) := by decide +kernel
theorem dC128_8_7 : decode prog_67_method_3_code 7 = .ok (.aload_n 1, 1) := by decide +kernel
theorem dC128_8_8 : decode prog_67_method_3_code 8 = .ok (.checkcast 14, 3) := by decide +kernel
theorem dC128_8_11 : decode prog_67_method_3_code 11 = .ok (.astore_n 2, 1) := by decide +kernel
theorem dC128_8_12 : decode prog_67_method_3_code 12 = .ok (.aload_n 0, 1) := by decide +kernel
theorem dC128_8_13 : decode prog_67_method_3_code 13 = .ok (.getfield 7, 3) := by decide +kernel
theorem dC128_8_16 : decode prog_67_method_3_code 16 = .ok (.iconst 1, 1) := by decide +kernel
theorem dC128_8_17 : decode prog_67_method_3_code 17 = .ok (.aload_n 2, 1) := by decide +kernel
theorem dC128_8_18 : decode prog_67_method_3_code 18 = .ok (.invokevirtual 13, 3) := by decide +kernel
theorem dC128_8_21 : decode prog_67_method_3_code 21 = .ok (.ishl, 1) := by decide +kernel
theorem dC128_8_22 : decode prog_67_method_3_code 22 = .ok (.iand, 1) := by decide +kernel
theorem dC128_8_23 : decode prog_67_method_3_code 23 = .ok (.ifCond .eq 7, 3) := by decide +kernel
theorem dC128_8_30 : decode prog_67_method_3_code 30 = .ok (.iconst 0, 1) := by decide +kernel
theorem dC128_8_31 : decode prog_67_method_3_code 31 = .ok (.ireturn, 1) := by decide +kernel
theorem pdC128_8_0 : parseMethodDescriptor "()I" = some ⟨[], some .int⟩ := by decide +kernel
theorem pnC128_8 : plainName "com/example/classwright/classwright/KindSet" = true := by first | (simp [plainName, overriddenIn]; done) | decide +kernel
theorem efC128_8 (m : MethodId) (a : Addr) (k : Addr) : entryFrame m #[(.ref a), (.ref k)] 3 = mkF m 0 #[.val (.ref a), .val (.ref k), .unset] [] := by first | (simp [entryFrame, mkF, argsToLocals, Value.category]; done) | rfl
def QC128_8 (Z : State) (a : Addr) (k : Addr) (h0 : Heap) (n0 : Nat) (v : Option Value) (h : Heap) (L : List Loc) : Prop := (v = some (.int (0 : Int32)) ∧ Fr n0 L ∧ h = h0)
set_option maxRecDepth 65536 in
set_option maxHeartbeats 40000000 in
theorem rmC128_8 (l : Launch) (Z : State) (a0 : Array Value) (hw : ∀ d ∈ tables_1, d.before a0 Z = true) (ws : List Jvm.Cond) (a : Addr) (k : Addr) (h0 : Heap) (n0 : Nat) (Z0 : n0 ≤ h0.size) (E0_a : Exa Z h0 a "com/example/classwright/classwright/KindSet") (F0_a_bits : Fld Z h0 a "com/example/classwright/classwright/KindSet" "bits" "I" (.int (128 : Int32))) (E0_k : Exa Z h0 k "com/example/classwright/classwright/ConstantKind") (F0_k_ordinal : Fld Z h0 k "java/lang/Enum" "ordinal" "I" (.int (8 : Int32))) :
    MetFree l (⟨"com/example/classwright/classwright/KindSet", "contains", "(Ljava/lang/Object;)Z"⟩ : MethodName) (head1 (Jvm.Cond.code (⟨"com/example/classwright/classwright/KindSet", "contains", "(Ljava/lang/Object;)Z"⟩ : MethodName) prog_67_method_3_code 3 (some .boolean) :: ws) ({ frames := 1, cells := 0, slots := 0, locals := 14 } : Room)) (fun aa_ U_ => aa_ = #[(.ref a), (.ref k)] ∧ Z.Warmed39 U_.vm ∧ U_.heap = h0) (fun _ _ _ _ _ => True) (fun _ U_ o_ V_ => ∃ v_ L_, o_ = .returned v_ ∧ QC128_8 Z a k h0 n0 v_ V_.heap L_ ∧ FrameEnd U_ o_ V_ L_ ({ frames := 1, cells := 0, slots := 0, locals := 14 } : Room).cells ({ frames := 1, cells := 0, slots := 0, locals := 14 } : Room).slots) := by
  refine MetFree.of_bodySF (plainFor_of_name pnC128_8) hisR ?_
  intro p e s m args below meth c s₁ Bd hml0 hP hK
  obtain ⟨rfl, hZ, hh⟩ := hP
  have hx := Bd.exec
  have hby := Bd.bytes
  have hml : c.maxLocals = 3 := hml0
  have hown : s.vm.findClass "com/example/classwright/classwright/KindSet" = some m.cls := findClass_of_methodNamed Bd.named
  have hnm := (name_of_methodNamed Bd.named Bd.method).1
  have hlk : meth.locks = false := BodyLoose.notSynchronized Bd
  have hret : meth.sig.returnType = (some .boolean) := Bd.returns
  have X0 : Stand p l e ({ frames := 1, cells := 0, slots := 0, locals := 14 } : Room) s m #[(.ref a), (.ref k)] below meth c s₁ [] 0 0 := Stand.of_body Bd
  have e0 : s₁.heap = h0 := by rw [← hh, Bd.state]; rfl
  have N0 := Fr.nil n0
  show Go p e below s ({ frames := 1, cells := 0, slots := 0, locals := 14 } : Room).cells ({ frames := 1, cells := 0, slots := 0, locals := 14 } : Room).slots (QC128_8 Z a k h0 n0) (s₁.setTop (entryFrame m #[(.ref a), (.ref k)] 3))
  rw [efC128_8]
  refine Go.by (fun _ kont => XS.aloadN X0.here hx rfl (hb hby dC128_8_0) rfl rfl kont) ?_
  show Go _ _ _ _ _ _ _ (s₁.setTop (mkF m 1 #[.val (.ref a), .val (.ref k), .unset] [(.ref k)]))
  obtain ⟨T101, X101, e101, st101⟩ := instY X0 hx hZ hown (hw _ (List.mem_of_getElem? (i := 35) rfl)) e0 (Ins.self E0_k) (g := (mkF m 1 #[.val (.ref a), .val (.ref k), .unset] [(.ref k)])) rfl rfl (hb hby dC128_8_1)
  refine Go.by st101 ?_
  show Go _ _ _ _ _ _ _ (T101.setTop (mkF m 4 #[.val (.ref a), .val (.ref k), .unset] [(.int (1 : Int32))]))
  refine Go.by (fun _ kont => XS.ifNo X101.here hx rfl (hb hby dC128_8_4) rfl (by decide) (XS.aloadN X101.here hx rfl (hb hby dC128_8_7) rfl rfl kont)) ?_
  show Go _ _ _ _ _ _ _ (T101.setTop (mkF m 8 #[.val (.ref a), .val (.ref k), .unset] [(.ref k)]))
  obtain ⟨T102, X102, e102, st102⟩ := castY X101 hx hZ hown (hw _ (List.mem_of_getElem? (i := 35) rfl)) e101 (Ins.self E0_k) (g := (mkF m 8 #[.val (.ref a), .val (.ref k), .unset] [(.ref k)])) rfl rfl (hb hby dC128_8_8)
  refine Go.by st102 ?_
  show Go _ _ _ _ _ _ _ (T102.setTop (mkF m 11 #[.val (.ref a), .val (.ref k), .unset] [(.ref k)]))
  refine Go.by (fun _ kont => XS.astoreN X102.here hx rfl (hb hby dC128_8_11) rfl rfl (l' := #[.val (.ref a), .val (.ref k), .val (.ref k)]) rfl (XS.aloadN X102.here hx rfl (hb hby dC128_8_12) rfl rfl kont)) ?_
  show Go _ _ _ _ _ _ _ (T102.setTop (mkF m 13 #[.val (.ref a), .val (.ref k), .val (.ref k)] [(.ref a)]))
  obtain ⟨T103, X103, e103, st103⟩ := getF X102 hx hZ hown (host := "") (Or.inl (hw _ (List.mem_of_getElem? (i := 37) rfl))) Via.refl e102 F0_a_bits (g := (mkF m 13 #[.val (.ref a), .val (.ref k), .val (.ref k)] [(.ref a)])) rfl rfl (hb hby dC128_8_13)
  refine Go.by st103 ?_
  show Go _ _ _ _ _ _ _ (T103.setTop (mkF m 16 #[.val (.ref a), .val (.ref k), .val (.ref k)] [(.int (128 : Int32))]))
  refine Go.by (fun _ kont => XS.iconst X103.here hx rfl (hb hby dC128_8_16) (XS.aloadN X103.here hx rfl (hb hby dC128_8_17) rfl rfl kont)) ?_
  show Go _ _ _ _ _ _ _ (T103.setTop (mkF m 18 #[.val (.ref a), .val (.ref k), .val (.ref k)] [(.ref k), (.int (1 : Int32)), (.int (128 : Int32))]))
  obtain ⟨cq104, kq104, q104a, q104b, q104c⟩ := isOf hZ e103 E0_k
  obtain ⟨_, _, ⟨T104, L104, k104, n104⟩, -, X104, ⟨Lc104, hQ104, l104, y104, z104⟩, st104⟩ := X103.virtualBackUp hx (x := (⟨"com/example/classwright/classwright/ConstantKind", "ordinal", "()I"⟩ : MethodName)) (y := (⟨"java/lang/Enum", "ordinal", "()I"⟩ : MethodName)) (owner := "java/lang/Enum") hown (mvT hZ (hw _ (List.mem_of_getElem? (i := 39) rfl))) (mvT hZ (hw _ (List.mem_of_getElem? (i := 40) rfl))) (mvT hZ (hw _ (List.mem_of_getElem? (i := 41) rfl))) (by decide) (mvT hZ (hw _ (List.mem_of_getElem? (i := 43) rfl))) (mvT hZ (hw _ (List.mem_of_getElem? (i := 42) rfl))) (backOf (W := 2) (rmO l Z a0 hw [] k (8 : Int32) h0 n0 Z0 E0_k F0_k_ordinal) hZ (hw _ (List.mem_of_getElem? (i := 45) rfl)) (hw _ (List.mem_of_getElem? (i := 44) rfl)) (by decide) (by decide)) q104a q104c (g := (mkF m 18 #[.val (.ref a), .val (.ref k), .val (.ref k)] [(.ref k), (.int (1 : Int32)), (.int (128 : Int32))])) rfl (by rw [hml]; rfl) (Steps.refl _) (argsL := []) (rest := [(.int (1 : Int32)), (.int (128 : Int32))]) (lenOf pdC128_8_0 rfl) rfl (by show 2 * 0 + _ ≤ _; exact Nat.le_of_eq rfl) (hb hby dC128_8_18) (fun _ _ => ⟨rfl, e103, (by decide : 0 + 0 ≤ _), (by decide : 0 + 0 ≤ _)⟩)
  dsimp only [Pt.U, Pt.locs, Pt.cells, Pt.slots] at X104 l104 y104 z104 st104 hQ104
  subst l104 y104 z104
  obtain ⟨rfl, N104q, eh104⟩ := hQ104
  have N104 := Fr.app N0 N104q
  refine Go.tr st104 ?_
  show Go _ _ _ _ _ _ _ (T104.setTop (mkF m 21 #[.val (.ref a), .val (.ref k), .val (.ref k)] [(.int (8 : Int32)), (.int (1 : Int32)), (.int (128 : Int32))]))
  refine Go.by (fun _ kont => XS.ishl X104.here hx rfl (hb hby dC128_8_21) rfl kont) ?_
  show Go _ _ _ _ _ _ _ (T104.setTop (mkF m 22 #[.val (.ref a), .val (.ref k), .val (.ref k)] [(.int ((1 : Int32) <<< ((8 : Int32) &&& 31))), (.int (128 : Int32))]))
  rw [show ((1 : Int32) <<< ((8 : Int32) &&& 31)) = (256 : Int32) from by decide]
  show Go _ _ _ _ _ _ _ (T104.setTop (mkF m 22 #[.val (.ref a), .val (.ref k), .val (.ref k)] [(.int (256 : Int32)), (.int (128 : Int32))]))
  refine Go.by (fun _ kont => XS.iand X104.here hx rfl (hb hby dC128_8_22) rfl kont) ?_
  show Go _ _ _ _ _ _ _ (T104.setTop (mkF m 23 #[.val (.ref a), .val (.ref k), .val (.ref k)] [(.int ((128 : Int32) &&& (256 : Int32)))]))
  rw [show ((128 : Int32) &&& (256 : Int32)) = (0 : Int32) from by decide]
  show Go _ _ _ _ _ _ _ (T104.setTop (mkF m 23 #[.val (.ref a), .val (.ref k), .val (.ref k)] [(.int (0 : Int32))]))
  refine Go.by (fun _ kont => XS.ifYes X104.here hx rfl (pc0 := 23) (pc' := 30) rfl (hb hby dC128_8_23) rfl (by decide) (by decide) (by decide) (XS.iconst X104.here hx rfl (hb hby dC128_8_30) kont)) ?_
  show Go _ _ _ _ _ _ _ (T104.setTop (mkF m 31 #[.val (.ref a), .val (.ref k), .val (.ref k)] [(.int (0 : Int32))]))
  refine Go.retN X104 hx (t := .boolean) hret (by simp) hlk (hb hby dC128_8_31) ?_ (by decide) (by decide)
  show QC128_8 Z a k h0 n0 (some (.int (0 : Int32))) T104.heap _
  rw [eh104]
  exact ⟨rfl, N104, rfl⟩

theorem dC128_9_0 : decode prog_67_method_3_code 0 = .ok (.aload_n 1, 1) := by decide +kernel
theorem dC128_9_1 : decode prog_67_method_3_code 1 = .ok (.instanceof 14, 3) := by decide +kernel
theorem dC128_9_4 : decode prog_67_method_3_code 4 = .ok (.ifCond .eq 26, 3) := by decide +kernel
theorem dC128_9_7 : decode prog_67_method_3_code 7 = .ok (.aload_n 1, 1) := by decide +kernel
theorem dC128_9_8 : decode prog_67_method_3_code 8 = .ok (.checkcast 14, 3) := by decide +kernel
theorem dC128_9_11 : decode prog_67_method_3_code 11 = .ok (.astore_n 2, 1) := by decide +kernel
theorem dC128_9_12 : decode prog_67_method_3_code 12 = .ok (.aload_n 0, 1) := by decide +kernel
theorem dC128_9_13 : decode prog_67_method_3_code 13 = .ok (.getfield 7, 3) := by decide +kernel
theorem dC128_9_16 : decode prog_67_method_3_code 16 = .ok (.iconst 1, 1) := by decide +kernel
theorem dC128_9_17 : decode prog_67_method_3_code 17 = .ok (.aload_n 2, 1) := by decide +kernel
theorem dC128_9_18 : decode prog_67_method_3_code 18 = .ok (.invokevirtual 13, 3) := by decide +kernel
theorem dC128_9_21 : decode prog_67_method_3_code 21 = .ok (.ishl, 1) := by decide +kernel
theorem dC128_9_22 : decode prog_67_method_3_code 22 = .ok (.iand, 1) := by decide +kernel
theorem dC128_9_23 : decode prog_67_method_3_code 23 = .ok (.ifCond .eq 7, 3) := by decide +kernel
theorem dC128_9_30 : decode prog_67_method_3_code 30 = .ok (.iconst 0, 1) := by decide +kernel
theorem dC128_9_31 : decode prog_67_method_3_code 31 = .ok (.ireturn, 1) := by decide +kernel
theorem pdC128_9_0 : parseMethodDescriptor "()I" = some ⟨[], some .int⟩ := by decide +kernel
theorem pnC128_9 : plainName "com/example/classwright/classwright/KindSet" = true := by first | (simp [plainName, overriddenIn]; done) | decide +kernel
theorem efC128_9 (m : MethodId) (a : Addr) (k : Addr) : entryFrame m #[(.ref a), (.ref k)] 3 = mkF m 0 #[.val (.ref a), .val (.ref k), .unset] [] := by first | (simp [entryFrame, mkF, argsToLocals, Value.category]; done) | rfl
def QC128_9 (Z : State) (a : Addr) (k : Addr) (h0 : Heap) (n0 : Nat) (v : Option Value) (h : Heap) (L : List Loc) : Prop := (v = some (.int (0 : Int32)) ∧ Fr n0 L ∧ h = h0)
set_option maxRecDepth 65536 in
set_option maxHeartbeats 40000000 in
theorem rmC128_9 (l : Launch) (Z : State) (a0 : Array Value) (hw : ∀ d ∈ tables_1, d.before a0 Z = true) (ws : List Jvm.Cond) (a : Addr) (k : Addr) (h0 : Heap) (n0 : Nat) (Z0 : n0 ≤ h0.size) (E0_a : Exa Z h0 a "com/example/classwright/classwright/KindSet") (F0_a_bits : Fld Z h0 a "com/example/classwright/classwright/KindSet" "bits" "I" (.int (128 : Int32))) (E0_k : Exa Z h0 k "com/example/classwright/classwright/ConstantKind") (F0_k_ordinal : Fld Z h0 k "java/lang/Enum" "ordinal" "I" (.int (9 : Int32))) :
    MetFree l (⟨"com/example/classwright/classwright/KindSet", "contains", "(Ljava/lang/Object;)Z"⟩ : MethodName) (head1 (Jvm.Cond.code (⟨"com/example/classwright/classwright/KindSet", "contains", "(Ljava/lang/Object;)Z"⟩ : MethodName) prog_67_method_3_code 3 (some .boolean) :: ws) ({ frames := 1, cells := 0, slots := 0, locals := 14 } : Room)) (fun aa_ U_ => aa_ = #[(.ref a), (.ref k)] ∧ Z.Warmed39 U_.vm ∧ U_.heap = h0) (fun _ _ _ _ _ => True) (fun _ U_ o_ V_ => ∃ v_ L_, o_ = .returned v_ ∧ QC128_9 Z a k h0 n0 v_ V_.heap L_ ∧ FrameEnd U_ o_ V_ L_ ({ frames := 1, cells := 0, slots := 0, locals := 14 } : Room).cells ({ frames := 1, cells := 0, slots := 0, locals := 14 } : Room).slots) := by
  refine MetFree.of_bodySF (plainFor_of_name pnC128_9) hisR ?_
  intro p e s m args below meth c s₁ Bd hml0 hP hK
  obtain ⟨rfl, hZ, hh⟩ := hP
  have hx := Bd.exec
  have hby := Bd.bytes
  have hml : c.maxLocals = 3 := hml0
  have hown : s.vm.findClass "com/example/classwright/classwright/KindSet" = some m.cls := findClass_of_methodNamed Bd.named
  have hnm := (name_of_methodNamed Bd.named Bd.method).1
  have hlk : meth.locks = false := BodyLoose.notSynchronized Bd
  have hret : meth.sig.returnType = (some .boolean) := Bd.returns
  have X0 : Stand p l e ({ frames := 1, cells := 0, slots := 0, locals := 14 } : Room) s m #[(.ref a), (.ref k)] below meth c s₁ [] 0 0 := Stand.of_body Bd
  have e0 : s₁.heap = h0 := by rw [← hh, Bd.state]; rfl
  have N0 := Fr.nil n0
  show Go p e below s ({ frames := 1, cells := 0, slots := 0, locals := 14 } : Room).cells ({ frames := 1, cells := 0, slots := 0, locals := 14 } : Room).slots (QC128_9 Z a k h0 n0) (s₁.setTop (entryFrame m #[(.ref a), (.ref k)] 3))
  rw [efC128_9]
  refine Go.by (fun _ kont => XS.aloadN X0.here hx rfl (hb hby dC128_9_0) rfl rfl kont) ?_
  show Go _ _ _ _ _ _ _ (s₁.setTop (mkF m 1 #[.val (.ref a), .val (.ref k), .unset] [(.ref k)]))
  obtain ⟨T101, X101, e101, st101⟩ := instY X0 hx hZ hown (hw _ (List.mem_of_getElem? (i := 35) rfl)) e0 (Ins.self E0_k) (g := (mkF m 1 #[.val (.ref a), .val (.ref k), .unset] [(.ref k)])) rfl rfl (hb hby dC128_9_1)
  refine Go.by st101 ?_
  show Go _ _ _ _ _ _ _ (T101.setTop (mkF m 4 #[.val (.ref a), .val (.ref k), .unset] [(.int (1 : Int32))]))
  refine Go.by (fun _ kont => XS.ifNo X101.here hx rfl (hb hby dC128_9_4) rfl (by decide) (XS.aloadN X101.here hx rfl (hb hby dC128_9_7) rfl rfl kont)) ?_
  show Go _ _ _ _ _ _ _ (T101.setTop (mkF m 8 #[.val (.ref a), .val (.ref k), .unset] [(.ref k)]))
  obtain ⟨T102, X102, e102, st102⟩ := castY X101 hx hZ hown (hw _ (List.mem_of_getElem? (i := 35) rfl)) e101 (Ins.self E0_k) (g := (mkF m 8 #[.val (.ref a), .val (.ref k), .unset] [(.ref k)])) rfl rfl (hb hby dC128_9_8)
  refine Go.by st102 ?_
  show Go _ _ _ _ _ _ _ (T102.setTop (mkF m 11 #[.val (.ref a), .val (.ref k), .unset] [(.ref k)]))
  refine Go.by (fun _ kont => XS.astoreN X102.here hx rfl (hb hby dC128_9_11) rfl rfl (l' := #[.val (.ref a), .val (.ref k), .val (.ref k)]) rfl (XS.aloadN X102.here hx rfl (hb hby dC128_9_12) rfl rfl kont)) ?_
  show Go _ _ _ _ _ _ _ (T102.setTop (mkF m 13 #[.val (.ref a), .val (.ref k), .val (.ref k)] [(.ref a)]))
  obtain ⟨T103, X103, e103, st103⟩ := getF X102 hx hZ hown (host := "") (Or.inl (hw _ (List.mem_of_getElem? (i := 37) rfl))) Via.refl e102 F0_a_bits (g := (mkF m 13 #[.val (.ref a), .val (.ref k), .val (.ref k)] [(.ref a)])) rfl rfl (hb hby dC128_9_13)
  refine Go.by st103 ?_
  show Go _ _ _ _ _ _ _ (T103.setTop (mkF m 16 #[.val (.ref a), .val (.ref k), .val (.ref k)] [(.int (128 : Int32))]))
  refine Go.by (fun _ kont => XS.iconst X103.here hx rfl (hb hby dC128_9_16) (XS.aloadN X103.here hx rfl (hb hby dC128_9_17) rfl rfl kont)) ?_
  show Go _ _ _ _ _ _ _ (T103.setTop (mkF m 18 #[.val (.ref a), .val (.ref k), .val (.ref k)] [(.ref k), (.int (1 : Int32)), (.int (128 : Int32))]))
  obtain ⟨cq104, kq104, q104a, q104b, q104c⟩ := isOf hZ e103 E0_k
  obtain ⟨_, _, ⟨T104, L104, k104, n104⟩, -, X104, ⟨Lc104, hQ104, l104, y104, z104⟩, st104⟩ := X103.virtualBackUp hx (x := (⟨"com/example/classwright/classwright/ConstantKind", "ordinal", "()I"⟩ : MethodName)) (y := (⟨"java/lang/Enum", "ordinal", "()I"⟩ : MethodName)) (owner := "java/lang/Enum") hown (mvT hZ (hw _ (List.mem_of_getElem? (i := 39) rfl))) (mvT hZ (hw _ (List.mem_of_getElem? (i := 40) rfl))) (mvT hZ (hw _ (List.mem_of_getElem? (i := 41) rfl))) (by decide) (mvT hZ (hw _ (List.mem_of_getElem? (i := 43) rfl))) (mvT hZ (hw _ (List.mem_of_getElem? (i := 42) rfl))) (backOf (W := 2) (rmO l Z a0 hw [] k (9 : Int32) h0 n0 Z0 E0_k F0_k_ordinal) hZ (hw _ (List.mem_of_getElem? (i := 45) rfl)) (hw _ (List.mem_of_getElem? (i := 44) rfl)) (by decide) (by decide)) q104a q104c (g := (mkF m 18 #[.val (.ref a), .val (.ref k), .val (.ref k)] [(.ref k), (.int (1 : Int32)), (.int (128 : Int32))])) rfl (by rw [hml]; rfl) (Steps.refl _) (argsL := []) (rest := [(.int (1 : Int32)), (.int (128 : Int32))]) (lenOf pdC128_9_0 rfl) rfl (by show 2 * 0 + _ ≤ _; exact Nat.le_of_eq rfl) (hb hby dC128_9_18) (fun _ _ => ⟨rfl, e103, (by decide : 0 + 0 ≤ _), (by decide : 0 + 0 ≤ _)⟩)
  dsimp only [Pt.U, Pt.locs, Pt.cells, Pt.slots] at X104 l104 y104 z104 st104 hQ104
  subst l104 y104 z104
  obtain ⟨rfl, N104q, eh104⟩ := hQ104
  have N104 := Fr.app N0 N104q
  refine Go.tr st104 ?_
  show Go _ _ _ _ _ _ _ (T104.setTop (mkF m 21 #[.val (.ref a), .val (.ref k), .val (.ref k)] [(.int (9 : Int32)), (.int (1 : Int32)), (.int (128 : Int32))]))
  refine Go.by (fun _ kont => XS.ishl X104.here hx rfl (hb hby dC128_9_21) rfl kont) ?_
  show Go _ _ _ _ _ _ _ (T104.setTop (mkF m 22 #[.val (.ref a), .val (.ref k), .val (.ref k)] [(.int ((1 : Int32) <<< ((9 : Int32) &&& 31))), (.int (128 : Int32))]))
  rw [show ((1 : Int32) <<< ((9 : Int32) &&& 31)) = (512 : Int32) from by decide]
  show Go _ _ _ _ _ _ _ (T104.setTop (mkF m 22 #[.val (.ref a), .val (.ref k), .val (.ref k)] [(.int (512 : Int32)), (.int (128 : Int32))]))
  refine Go.by (fun _ kont => XS.iand X104.here hx rfl (hb hby dC128_9_22) rfl kont) ?_
  show Go _ _ _ _ _ _ _ (T104.setTop (mkF m 23 #[.val (.ref a), .val (.ref k), .val (.ref k)] [(.int ((128 : Int32) &&& (512 : Int32)))]))
  rw [show ((128 : Int32) &&& (512 : Int32)) = (0 : Int32) from by decide]
  show Go _ _ _ _ _ _ _ (T104.setTop (mkF m 23 #[.val (.ref a), .val (.ref k), .val (.ref k)] [(.int (0 : Int32))]))
  refine Go.by (fun _ kont => XS.ifYes X104.here hx rfl (pc0 := 23) (pc' := 30) rfl (hb hby dC128_9_23) rfl (by decide) (by decide) (by decide) (XS.iconst X104.here hx rfl (hb hby dC128_9_30) kont)) ?_
  show Go _ _ _ _ _ _ _ (T104.setTop (mkF m 31 #[.val (.ref a), .val (.ref k), .val (.ref k)] [(.int (0 : Int32))]))
  refine Go.retN X104 hx (t := .boolean) hret (by simp) hlk (hb hby dC128_9_31) ?_ (by decide) (by decide)
  show QC128_9 Z a k h0 n0 (some (.int (0 : Int32))) T104.heap _
  rw [eh104]
  exact ⟨rfl, N104, rfl⟩

theorem dB128_0 : decode jdk_33_method_49_code 0 = .ok (.iload_n 0, 1) := by decide +kernel
theorem dB128_1 : decode jdk_33_method_49_code 1 = .ok (.iload_n 0, 1) := by decide +kernel
theorem dB128_2 : decode jdk_33_method_49_code 2 = .ok (.iconst 1, 1) := by decide +kernel
theorem dB128_3 : decode jdk_33_method_49_code 3 = .ok (.iushr, 1) := by decide +kernel
theorem dB128_4 : decode jdk_33_method_49_code 4 = .ok (.ldc_w 265, 3) := by decide +kernel
theorem dB128_7 : decode jdk_33_method_49_code 7 = .ok (.iand, 1) := by decide +kernel
theorem dB128_8 : decode jdk_33_method_49_code 8 = .ok (.isub, 1) := by decide +kernel
theorem dB128_9 : decode jdk_33_method_49_code 9 = .ok (.istore_n 0, 1) := by decide +kernel
theorem dB128_10 : decode jdk_33_method_49_code 10 = .ok (.iload_n 0, 1) := by decide +kernel
theorem dB128_11 : decode jdk_33_method_49_code 11 = .ok (.ldc_w 266, 3) := by decide +kernel
theorem dB128_14 : decode jdk_33_method_49_code 14 = .ok (.iand, 1) := by decide +kernel
theorem dB128_15 : decode jdk_33_method_49_code 15 = .ok (.iload_n 0, 1) := by decide +kernel
theorem dB128_16 : decode jdk_33_method_49_code 16 = .ok (.iconst 2, 1) := by decide +kernel
theorem dB128_17 : decode jdk_33_method_49_code 17 = .ok (.iushr, 1) := by decide +kernel
theorem dB128_18 : decode jdk_33_method_49_code 18 = .ok (.ldc_w 266, 3) := by decide +kernel
theorem dB128_21 : decode jdk_33_method_49_code 21 = .ok (.iand, 1) := by decide +kernel
theorem dB128_22 : decode jdk_33_method_49_code 22 = .ok (.iadd, 1) := by decide +kernel
theorem dB128_23 : decode jdk_33_method_49_code 23 = .ok (.istore_n 0, 1) := by decide +kernel
theorem dB128_24 : decode jdk_33_method_49_code 24 = .ok (.iload_n 0, 1) := by decide +kernel
theorem dB128_25 : decode jdk_33_method_49_code 25 = .ok (.iload_n 0, 1) := by decide +kernel
theorem dB128_26 : decode jdk_33_method_49_code 26 = .ok (.iconst 4, 1) := by decide +kernel
theorem dB128_27 : decode jdk_33_method_49_code 27 = .ok (.iushr, 1) := by decide +kernel
theorem dB128_28 : decode jdk_33_method_49_code 28 = .ok (.iadd, 1) := by decide +kernel
theorem dB128_29 : decode jdk_33_method_49_code 29 = .ok (.ldc_w 267, 3) := by decide +kernel
theorem dB128_32 : decode jdk_33_method_49_code 32 = .ok (.iand, 1) := by decide +kernel
theorem dB128_33 : decode jdk_33_method_49_code 33 = .ok (.istore_n 0, 1) := by decide +kernel
theorem dB128_34 : decode jdk_33_method_49_code 34 = .ok (.iload_n 0, 1) := by decide +kernel
theorem dB128_35 : decode jdk_33_method_49_code 35 = .ok (.iload_n 0, 1) := by decide +kernel
theorem dB128_36 : decode jdk_33_method_49_code 36 = .ok (.bipush 8, 2) := by decide +kernel
theorem dB128_38 : decode jdk_33_method_49_code 38 = .ok (.iushr, 1) := by decide +kernel
theorem dB128_39 : decode jdk_33_method_49_code 39 = .ok (.iadd, 1) := by decide +kernel
theorem dB128_40 : decode jdk_33_method_49_code 40 = .ok (.istore_n 0, 1) := by decide +kernel
theorem dB128_41 : decode jdk_33_method_49_code 41 = .ok (.iload_n 0, 1) := by decide +kernel
theorem dB128_42 : decode jdk_33_method_49_code 42 = .ok (.iload_n 0, 1) := by decide +kernel
theorem dB128_43 : decode jdk_33_method_49_code 43 = .ok (.bipush 16, 2) := by decide +kernel
theorem dB128_45 : decode jdk_33_method_49_code 45 = .ok (.iushr, 1) := by decide +kernel
theorem dB128_46 : decode jdk_33_method_49_code 46 = .ok (.iadd, 1) := by decide +kernel
theorem dB128_47 : decode jdk_33_method_49_code 47 = .ok (.istore_n 0, 1) := by decide +kernel
theorem dB128_48 : decode jdk_33_method_49_code 48 = .ok (.iload_n 0, 1) := by decide +kernel
theorem dB128_49 : decode jdk_33_method_49_code 49 = .ok (.bipush 63, 2) := by decide +kernel
theorem dB128_51 : decode jdk_33_method_49_code 51 = .ok (.iand, 1) := by decide +kernel
theorem dB128_52 : decode jdk_33_method_49_code 52 = .ok (.ireturn, 1) := by decide +kernel
theorem pnB128 : plainName "java/lang/Integer" = true := by first | (simp [plainName, overriddenIn]; done) | decide +kernel
theorem efB128 (m : MethodId)  : entryFrame m #[(.int (128 : Int32))] 1 = mkF m 0 #[.val (.int (128 : Int32))] [] := by first | (simp [entryFrame, mkF, argsToLocals, Value.category]; done) | rfl
def QB128 (Z : State)  (h0 : Heap) (n0 : Nat) (v : Option Value) (h : Heap) (L : List Loc) : Prop := (v = some (.int (1 : Int32)) ∧ Fr n0 L ∧ h = h0)
set_option maxRecDepth 65536 in
set_option maxHeartbeats 40000000 in
theorem rmB128 (l : Launch) (Z : State) (a0 : Array Value) (hw : ∀ d ∈ tables_1, d.before a0 Z = true) (ws : List Jvm.Cond)  (h0 : Heap) (n0 : Nat) (Z0 : n0 ≤ h0.size) :
    MetFree l (⟨"java/lang/Integer", "bitCount", "(I)I"⟩ : MethodName) (head1 (Jvm.Cond.code (⟨"java/lang/Integer", "bitCount", "(I)I"⟩ : MethodName) jdk_33_method_49_code 1 (some .int) :: ws) ({ frames := 0, cells := 0, slots := 0, locals := 0 } : Room)) (fun aa_ U_ => aa_ = #[(.int (128 : Int32))] ∧ Z.Warmed39 U_.vm ∧ U_.heap = h0) (fun _ _ _ _ _ => True) (fun _ U_ o_ V_ => ∃ v_ L_, o_ = .returned v_ ∧ QB128 Z  h0 n0 v_ V_.heap L_ ∧ FrameEnd U_ o_ V_ L_ ({ frames := 0, cells := 0, slots := 0, locals := 0 } : Room).cells ({ frames := 0, cells := 0, slots := 0, locals := 0 } : Room).slots) := by
  refine MetFree.of_bodySF (plainFor_of_name pnB128) hisR ?_
  intro p e s m args below meth c s₁ Bd hml0 hP hK
  obtain ⟨rfl, hZ, hh⟩ := hP
  have hx := Bd.exec
  have hby := Bd.bytes
  have hml : c.maxLocals = 1 := hml0
  have hown : s.vm.findClass "java/lang/Integer" = some m.cls := findClass_of_methodNamed Bd.named
  have hnm := (name_of_methodNamed Bd.named Bd.method).1
  have hlk : meth.locks = false := BodyLoose.notSynchronized Bd
  have hret : meth.sig.returnType = (some .int) := Bd.returns
  have X0 : Stand p l e ({ frames := 0, cells := 0, slots := 0, locals := 0 } : Room) s m #[(.int (128 : Int32))] below meth c s₁ [] 0 0 := Stand.of_body Bd
  have e0 : s₁.heap = h0 := by rw [← hh, Bd.state]; rfl
  have N0 := Fr.nil n0
  show Go p e below s ({ frames := 0, cells := 0, slots := 0, locals := 0 } : Room).cells ({ frames := 0, cells := 0, slots := 0, locals := 0 } : Room).slots (QB128 Z  h0 n0) (s₁.setTop (entryFrame m #[(.int (128 : Int32))] 1))
  rw [efB128]
  refine Go.by (fun _ kont => XS.iloadN X0.here hx rfl (hb hby dB128_0) rfl (XS.iloadN X0.here hx rfl (hb hby dB128_1) rfl (XS.iconst X0.here hx rfl (hb hby dB128_2) (XS.iushr X0.here hx rfl (hb hby dB128_3) rfl kont)))) ?_
  show Go _ _ _ _ _ _ _ (s₁.setTop (mkF m 4 #[.val (.int (128 : Int32))] [(.int (((128 : Int32).toUInt32 >>> ((1 : Int32) &&& 31).toUInt32).toInt32)), (.int (128 : Int32))]))
  rw [show (((128 : Int32).toUInt32 >>> ((1 : Int32) &&& 31).toUInt32).toInt32) = (64 : Int32) from by decide]
  show Go _ _ _ _ _ _ _ (s₁.setTop (mkF m 4 #[.val (.int (128 : Int32))] [(.int (64 : Int32)), (.int (128 : Int32))]))
  refine Go.by (fun _ kont => X0.ldcwInt hx hown (mvT hZ (hw _ (List.mem_of_getElem? (i := 61) rfl))) (g := (mkF m 4 #[.val (.int (128 : Int32))] [(.int (64 : Int32)), (.int (128 : Int32))])) rfl (hb hby dB128_4) _ (XS.iand X0.here hx rfl (hb hby dB128_7) rfl kont)) ?_
  show Go _ _ _ _ _ _ _ (s₁.setTop (mkF m 8 #[.val (.int (128 : Int32))] [(.int ((64 : Int32) &&& (1431655765 : Int32))), (.int (128 : Int32))]))
  rw [show ((64 : Int32) &&& (1431655765 : Int32)) = (64 : Int32) from by decide]
  show Go _ _ _ _ _ _ _ (s₁.setTop (mkF m 8 #[.val (.int (128 : Int32))] [(.int (64 : Int32)), (.int (128 : Int32))]))
  refine Go.by (fun _ kont => XS.isub X0.here hx rfl (hb hby dB128_8) rfl kont) ?_
  show Go _ _ _ _ _ _ _ (s₁.setTop (mkF m 9 #[.val (.int (128 : Int32))] [(.int ((128 : Int32) - (64 : Int32)))]))
  rw [show ((128 : Int32) - (64 : Int32)) = (64 : Int32) from by decide]
  show Go _ _ _ _ _ _ _ (s₁.setTop (mkF m 9 #[.val (.int (128 : Int32))] [(.int (64 : Int32))]))
  refine Go.by (fun _ kont => XS.istoreN X0.here hx rfl (hb hby dB128_9) rfl (l' := #[.val (.int (64 : Int32))]) rfl (XS.iloadN X0.here hx rfl (hb hby dB128_10) rfl (X0.ldcwInt hx hown (mvT hZ (hw _ (List.mem_of_getElem? (i := 62) rfl))) (g := (mkF m 11 #[.val (.int (64 : Int32))] [(.int (64 : Int32))])) rfl (hb hby dB128_11) _ (XS.iand X0.here hx rfl (hb hby dB128_14) rfl kont)))) ?_
  show Go _ _ _ _ _ _ _ (s₁.setTop (mkF m 15 #[.val (.int (64 : Int32))] [(.int ((64 : Int32) &&& (858993459 : Int32)))]))
  rw [show ((64 : Int32) &&& (858993459 : Int32)) = (0 : Int32) from by decide]
  show Go _ _ _ _ _ _ _ (s₁.setTop (mkF m 15 #[.val (.int (64 : Int32))] [(.int (0 : Int32))]))
  refine Go.by (fun _ kont => XS.iloadN X0.here hx rfl (hb hby dB128_15) rfl (XS.iconst X0.here hx rfl (hb hby dB128_16) (XS.iushr X0.here hx rfl (hb hby dB128_17) rfl kont))) ?_
  show Go _ _ _ _ _ _ _ (s₁.setTop (mkF m 18 #[.val (.int (64 : Int32))] [(.int (((64 : Int32).toUInt32 >>> ((2 : Int32) &&& 31).toUInt32).toInt32)), (.int (0 : Int32))]))
  rw [show (((64 : Int32).toUInt32 >>> ((2 : Int32) &&& 31).toUInt32).toInt32) = (16 : Int32) from by decide]
  show Go _ _ _ _ _ _ _ (s₁.setTop (mkF m 18 #[.val (.int (64 : Int32))] [(.int (16 : Int32)), (.int (0 : Int32))]))
  refine Go.by (fun _ kont => X0.ldcwInt hx hown (mvT hZ (hw _ (List.mem_of_getElem? (i := 62) rfl))) (g := (mkF m 18 #[.val (.int (64 : Int32))] [(.int (16 : Int32)), (.int (0 : Int32))])) rfl (hb hby dB128_18) _ (XS.iand X0.here hx rfl (hb hby dB128_21) rfl kont)) ?_
  show Go _ _ _ _ _ _ _ (s₁.setTop (mkF m 22 #[.val (.int (64 : Int32))] [(.int ((16 : Int32) &&& (858993459 : Int32))), (.int (0 : Int32))]))
  rw [show ((16 : Int32) &&& (858993459 : Int32)) = (16 : Int32) from by decide]
  show Go _ _ _ _ _ _ _ (s₁.setTop (mkF m 22 #[.val (.int (64 : Int32))] [(.int (16 : Int32)), (.int (0 : Int32))]))
  refine Go.by (fun _ kont => XS.iadd X0.here hx rfl (hb hby dB128_22) rfl kont) ?_
  show Go _ _ _ _ _ _ _ (s₁.setTop (mkF m 23 #[.val (.int (64 : Int32))] [(.int ((0 : Int32) + (16 : Int32)))]))
  rw [show ((0 : Int32) + (16 : Int32)) = (16 : Int32) from by decide]
  show Go _ _ _ _ _ _ _ (s₁.setTop (mkF m 23 #[.val (.int (64 : Int32))] [(.int (16 : Int32))]))
  refine Go.by (fun _ kont => XS.istoreN X0.here hx rfl (hb hby dB128_23) rfl (l' := #[.val (.int (16 : Int32))]) rfl (XS.iloadN X0.here hx rfl (hb hby dB128_24) rfl (XS.iloadN X0.here hx rfl (hb hby dB128_25) rfl (XS.iconst X0.here hx rfl (hb hby dB128_26) (XS.iushr X0.here hx rfl (hb hby dB128_27) rfl kont))))) ?_
  show Go _ _ _ _ _ _ _ (s₁.setTop (mkF m 28 #[.val (.int (16 : Int32))] [(.int (((16 : Int32).toUInt32 >>> ((4 : Int32) &&& 31).toUInt32).toInt32)), (.int (16 : Int32))]))
  rw [show (((16 : Int32).toUInt32 >>> ((4 : Int32) &&& 31).toUInt32).toInt32) = (1 : Int32) from by decide]
  show Go _ _ _ _ _ _ _ (s₁.setTop (mkF m 28 #[.val (.int (16 : Int32))] [(.int (1 : Int32)), (.int (16 : Int32))]))
  refine Go.by (fun _ kont => XS.iadd X0.here hx rfl (hb hby dB128_28) rfl kont) ?_
  show Go _ _ _ _ _ _ _ (s₁.setTop (mkF m 29 #[.val (.int (16 : Int32))] [(.int ((16 : Int32) + (1 : Int32)))]))
  rw [show ((16 : Int32) + (1 : Int32)) = (17 : Int32) from by decide]
  show Go _ _ _ _ _ _ _ (s₁.setTop (mkF m 29 #[.val (.int (16 : Int32))] [(.int (17 : Int32))]))
  refine Go.by (fun _ kont => X0.ldcwInt hx hown (mvT hZ (hw _ (List.mem_of_getElem? (i := 63) rfl))) (g := (mkF m 29 #[.val (.int (16 : Int32))] [(.int (17 : Int32))])) rfl (hb hby dB128_29) _ (XS.iand X0.here hx rfl (hb hby dB128_32) rfl kont)) ?_
  show Go _ _ _ _ _ _ _ (s₁.setTop (mkF m 33 #[.val (.int (16 : Int32))] [(.int ((17 : Int32) &&& (252645135 : Int32)))]))
  rw [show ((17 : Int32) &&& (252645135 : Int32)) = (1 : Int32) from by decide]
  show Go _ _ _ _ _ _ _ (s₁.setTop (mkF m 33 #[.val (.int (16 : Int32))] [(.int (1 : Int32))]))
  refine Go.by (fun _ kont => XS.istoreN X0.here hx rfl (hb hby dB128_33) rfl (l' := #[.val (.int (1 : Int32))]) rfl (XS.iloadN X0.here hx rfl (hb hby dB128_34) rfl (XS.iloadN X0.here hx rfl (hb hby dB128_35) rfl (XS.bipush X0.here hx rfl (hb hby dB128_36) (XS.iushr X0.here hx rfl (hb hby dB128_38) rfl kont))))) ?_
  show Go _ _ _ _ _ _ _ (s₁.setTop (mkF m 39 #[.val (.int (1 : Int32))] [(.int (((1 : Int32).toUInt32 >>> ((8 : Int32) &&& 31).toUInt32).toInt32)), (.int (1 : Int32))]))
  rw [show (((1 : Int32).toUInt32 >>> ((8 : Int32) &&& 31).toUInt32).toInt32) = (0 : Int32) from by decide]
  show Go _ _ _ _ _ _ _ (s₁.setTop (mkF m 39 #[.val (.int (1 : Int32))] [(.int (0 : Int32)), (.int (1 : Int32))]))
  refine Go.by (fun _ kont => XS.iadd X0.here hx rfl (hb hby dB128_39) rfl kont) ?_
  show Go _ _ _ _ _ _ _ (s₁.setTop (mkF m 40 #[.val (.int (1 : Int32))] [(.int ((1 : Int32) + (0 : Int32)))]))
  rw [show ((1 : Int32) + (0 : Int32)) = (1 : Int32) from by decide]
  show Go _ _ _ _ _ _ _ (s₁.setTop (mkF m 40 #[.val (.int (1 : Int32))] [(.int (1 : Int32))]))
  refine Go.by (fun _ kont => XS.istoreN X0.here hx rfl (hb hby dB128_40) rfl (l' := #[.val (.int (1 : Int32))]) rfl (XS.iloadN X0.here hx rfl (hb hby dB128_41) rfl (XS.iloadN X0.here hx rfl (hb hby dB128_42) rfl (XS.bipush X0.here hx rfl (hb hby dB128_43) (XS.iushr X0.here hx rfl (hb hby dB128_45) rfl kont))))) ?_
  show Go _ _ _ _ _ _ _ (s₁.setTop (mkF m 46 #[.val (.int (1 : Int32))] [(.int (((1 : Int32).toUInt32 >>> ((16 : Int32) &&& 31).toUInt32).toInt32)), (.int (1 : Int32))]))
  rw [show (((1 : Int32).toUInt32 >>> ((16 : Int32) &&& 31).toUInt32).toInt32) = (0 : Int32) from by decide]
  show Go _ _ _ _ _ _ _ (s₁.setTop (mkF m 46 #[.val (.int (1 : Int32))] [(.int (0 : Int32)), (.int (1 : Int32))]))
  refine Go.by (fun _ kont => XS.iadd X0.here hx rfl (hb hby dB128_46) rfl kont) ?_
  show Go _ _ _ _ _ _ _ (s₁.setTop (mkF m 47 #[.val (.int (1 : Int32))] [(.int ((1 : Int32) + (0 : Int32)))]))
  rw [show ((1 : Int32) + (0 : Int32)) = (1 : Int32) from by decide]
  show Go _ _ _ _ _ _ _ (s₁.setTop (mkF m 47 #[.val (.int (1 : Int32))] [(.int (1 : Int32))]))
  refine Go.by (fun _ kont => XS.istoreN X0.here hx rfl (hb hby dB128_47) rfl (l' := #[.val (.int (1 : Int32))]) rfl (XS.iloadN X0.here hx rfl (hb hby dB128_48) rfl (XS.bipush X0.here hx rfl (hb hby dB128_49) (XS.iand X0.here hx rfl (hb hby dB128_51) rfl kont)))) ?_
  show Go _ _ _ _ _ _ _ (s₁.setTop (mkF m 52 #[.val (.int (1 : Int32))] [(.int ((1 : Int32) &&& (63 : Int32)))]))
  rw [show ((1 : Int32) &&& (63 : Int32)) = (1 : Int32) from by decide]
  show Go _ _ _ _ _ _ _ (s₁.setTop (mkF m 52 #[.val (.int (1 : Int32))] [(.int (1 : Int32))]))
  refine Go.retI X0 hx hret hlk (hb hby dB128_52) ?_ (by decide) (by decide)
  show QB128 Z  h0 n0 (some (.int (1 : Int32))) s₁.heap _
  rw [e0]
  exact ⟨rfl, N0, rfl⟩

theorem dS128_0 : decode prog_67_method_4_code 0 = .ok (.aload_n 0, 1) := by decide +kernel
theorem dS128_1 : decode prog_67_method_4_code 1 = .ok (.getfield 7, 3) := by decide +kernel
theorem dS128_4 : decode prog_67_method_4_code 4 = .ok (.invokestatic 22, 3) := by decide +kernel
theorem dS128_7 : decode prog_67_method_4_code 7 = .ok (.ireturn, 1) := by decide +kernel
theorem pdS128_0 : parseMethodDescriptor "(I)I" = some ⟨[.int], some .int⟩ := by decide +kernel
theorem pnS128 : plainName "com/example/classwright/classwright/KindSet" = true := by first | (simp [plainName, overriddenIn]; done) | decide +kernel
theorem efS128 (m : MethodId) (a : Addr) : entryFrame m #[(.ref a)] 1 = mkF m 0 #[.val (.ref a)] [] := by first | (simp [entryFrame, mkF, argsToLocals, Value.category]; done) | rfl
def QS128 (Z : State) (a : Addr) (h0 : Heap) (n0 : Nat) (v : Option Value) (h : Heap) (L : List Loc) : Prop := (v = some (.int (1 : Int32)) ∧ Fr n0 L ∧ h = h0)
set_option maxRecDepth 65536 in
set_option maxHeartbeats 40000000 in
theorem rmS128 (l : Launch) (Z : State) (a0 : Array Value) (hw : ∀ d ∈ tables_1, d.before a0 Z = true) (ws : List Jvm.Cond) (a : Addr) (h0 : Heap) (n0 : Nat) (Z0 : n0 ≤ h0.size) (E0_a : Exa Z h0 a "com/example/classwright/classwright/KindSet") (F0_a_bits : Fld Z h0 a "com/example/classwright/classwright/KindSet" "bits" "I" (.int (128 : Int32))) :
    MetFree l (⟨"com/example/classwright/classwright/KindSet", "size", "()I"⟩ : MethodName) (head1 (Jvm.Cond.code (⟨"com/example/classwright/classwright/KindSet", "size", "()I"⟩ : MethodName) prog_67_method_4_code 1 (some .int) :: ws) ({ frames := 1, cells := 0, slots := 0, locals := 12 } : Room)) (fun aa_ U_ => aa_ = #[(.ref a)] ∧ Z.Warmed39 U_.vm ∧ U_.heap = h0) (fun _ _ _ _ _ => True) (fun _ U_ o_ V_ => ∃ v_ L_, o_ = .returned v_ ∧ QS128 Z a h0 n0 v_ V_.heap L_ ∧ FrameEnd U_ o_ V_ L_ ({ frames := 1, cells := 0, slots := 0, locals := 12 } : Room).cells ({ frames := 1, cells := 0, slots := 0, locals := 12 } : Room).slots) := by
  refine MetFree.of_bodySF (plainFor_of_name pnS128) hisR ?_
  intro p e s m args below meth c s₁ Bd hml0 hP hK
  obtain ⟨rfl, hZ, hh⟩ := hP
  have hx := Bd.exec
  have hby := Bd.bytes
  have hml : c.maxLocals = 1 := hml0
  have hown : s.vm.findClass "com/example/classwright/classwright/KindSet" = some m.cls := findClass_of_methodNamed Bd.named
  have hnm := (name_of_methodNamed Bd.named Bd.method).1
  have hlk : meth.locks = false := BodyLoose.notSynchronized Bd
  have hret : meth.sig.returnType = (some .int) := Bd.returns
  have X0 : Stand p l e ({ frames := 1, cells := 0, slots := 0, locals := 12 } : Room) s m #[(.ref a)] below meth c s₁ [] 0 0 := Stand.of_body Bd
  have e0 : s₁.heap = h0 := by rw [← hh, Bd.state]; rfl
  have N0 := Fr.nil n0
  show Go p e below s ({ frames := 1, cells := 0, slots := 0, locals := 12 } : Room).cells ({ frames := 1, cells := 0, slots := 0, locals := 12 } : Room).slots (QS128 Z a h0 n0) (s₁.setTop (entryFrame m #[(.ref a)] 1))
  rw [efS128]
  refine Go.by (fun _ kont => XS.aloadN X0.here hx rfl (hb hby dS128_0) rfl rfl kont) ?_
  show Go _ _ _ _ _ _ _ (s₁.setTop (mkF m 1 #[.val (.ref a)] [(.ref a)]))
  obtain ⟨T101, X101, e101, st101⟩ := getF X0 hx hZ hown (host := "") (Or.inl (hw _ (List.mem_of_getElem? (i := 37) rfl))) Via.refl e0 F0_a_bits (g := (mkF m 1 #[.val (.ref a)] [(.ref a)])) rfl rfl (hb hby dS128_1)
  refine Go.by st101 ?_
  show Go _ _ _ _ _ _ _ (T101.setTop (mkF m 4 #[.val (.ref a)] [(.int (128 : Int32))]))
  obtain ⟨_, _, ⟨T102, L102, k102, n102⟩, -, X102, ⟨Lc102, hQ102, l102, y102, z102⟩, st102⟩ := Jvm.LawKit.callS X101 hx (y := (⟨"java/lang/Integer", "bitCount", "(I)I"⟩ : MethodName)) hown (mvT hZ (hw _ (List.mem_of_getElem? (i := 57) rfl))) (mvT hZ (hw _ (List.mem_of_getElem? (i := 58) rfl))) (mvT hZ (hw _ (List.mem_of_getElem? (i := 59) rfl))) (mvT hZ (hw _ (List.mem_of_getElem? (i := 60) rfl))) (by decide) (backOf (W := 0) (rmB128 l Z a0 hw []  h0 n0 Z0 ) hZ (hw _ (List.mem_of_getElem? (i := 60) rfl)) (hw _ (List.mem_of_getElem? (i := 59) rfl)) (by decide) (by decide)) (g := (mkF m 4 #[.val (.ref a)] [(.int (128 : Int32))])) rfl (by rw [hml]; rfl) (argsL := [(.int (128 : Int32))]) (rest := []) (lenOf pdS128_0 rfl) rfl (by show 2 * 0 + _ ≤ _; exact Nat.le_of_eq rfl) (hb hby dS128_4) (fun _ _ => ⟨rfl, e101, (by decide : 0 + 0 ≤ _), (by decide : 0 + 0 ≤ _)⟩)
  dsimp only [Pt.U, Pt.locs, Pt.cells, Pt.slots] at X102 l102 y102 z102 st102 hQ102
  subst l102 y102 z102
  obtain ⟨rfl, N102q, eh102⟩ := hQ102
  have N102 := Fr.app N0 N102q
  refine Go.by st102 ?_
  show Go _ _ _ _ _ _ _ (T102.setTop (mkF m 7 #[.val (.ref a)] [(.int (1 : Int32))]))
  refine Go.retI X102 hx hret hlk (hb hby dS128_7) ?_ (by decide) (by decide)
  show QS128 Z a h0 n0 (some (.int (1 : Int32))) T102.heap _
  rw [eh102]
  exact ⟨rfl, N102, rfl⟩

theorem dC256_7_0 : decode prog_67_method_3_code 0 = .ok (.aload_n 1, 1) := by decide +kernel
theorem dC256_7_1 : decode prog_67_method_3_code 1 = .ok (.instanceof 14, 3) := by decide +kernel
theorem dC256_7_4 : decode prog_67_method_3_code 4 = .ok (.ifCond .eq 26, 3) := by decide +kernel
theorem dC256_7_7 : decode prog_67_method_3_code 7 = .ok (.aload_n 1, 1) := by decide +kernel
theorem dC256_7_8 : decode prog_67_method_3_code 8 = .ok (.checkcast 14, 3) := by decide +kernel
theorem dC256_7_11 : decode prog_67_method_3_code 11 = .ok (.astore_n 2, 1) := by decide +kernel
theorem dC256_7_12 : decode prog_67_method_3_code 12 = .ok (.aload_n 0, 1) := by decide +kernel
theorem dC256_7_13 : decode prog_67_method_3_code 13 = .ok (.getfield 7, 3) := by decide +kernel
theorem dC256_7_16 : decode prog_67_method_3_code 16 = .ok (.iconst 1, 1) := by decide +kernel
theorem dC256_7_17 : decode prog_67_method_3_code 17 = .ok (.aload_n 2, 1) := by decide +kernel
theorem dC256_7_18 : decode prog_67_method_3_code 18 = .ok (.invokevirtual 13, 3) := by decide +kernel
theorem dC256_7_21 : decode prog_67_method_3_code 21 = .ok (.ishl, 1) := by decide +kernel
theorem dC256_7_22 : decode prog_67_method_3_code 22 = .ok (.iand, 1) := by decide +kernel
theorem dC256_7_23 : decode prog_67_method_3_code 23 = .ok (.ifCond .eq 7, 3) := by decide +kernel
theorem dC256_7_30 : decode prog_67_method_3_code 30 = .ok (.iconst 0, 1) := by decide +kernel
theorem dC256_7_31 : decode prog_67_method_3_code 31 = .ok (.ireturn, 1) := by decide +kernel
theorem pdC256_7_0 : parseMethodDescriptor "()I" = some ⟨[], some .int⟩ := by decide +kernel
theorem pnC256_7 : plainName "com/example/classwright/classwright/KindSet" = true := by first | (simp [plainName, overriddenIn]; done) | decide +kernel
theorem efC256_7 (m : MethodId) (a : Addr) (k : Addr) : entryFrame m #[(.ref a), (.ref k)] 3 = mkF m 0 #[.val (.ref a), .val (.ref k), .unset] [] := by first | (simp [entryFrame, mkF, argsToLocals, Value.category]; done) | rfl
def QC256_7 (Z : State) (a : Addr) (k : Addr) (h0 : Heap) (n0 : Nat) (v : Option Value) (h : Heap) (L : List Loc) : Prop := (v = some (.int (0 : Int32)) ∧ Fr n0 L ∧ h = h0)
set_option maxRecDepth 65536 in
set_option maxHeartbeats 40000000 in
theorem rmC256_7 (l : Launch) (Z : State) (a0 : Array Value) (hw : ∀ d ∈ tables_1, d.before a0 Z = true) (ws : List Jvm.Cond) (a : Addr) (k : Addr) (h0 : Heap) (n0 : Nat) (Z0 : n0 ≤ h0.size) (E0_a : Exa Z h0 a "com/example/classwright/classwright/KindSet") (F0_a_bits : Fld Z h0 a "com/example/classwright/classwright/KindSet" "bits" "I" (.int (256 : Int32))) (E0_k : Exa Z h0 k "com/example/classwright/classwright/ConstantKind") (F0_k_ordinal : Fld Z h0 k "java/lang/Enum" "ordinal" "I" (.int (7 : Int32))) :
    MetFree l (⟨"com/example/classwright/classwright/KindSet", "contains", "(Ljava/lang/Object;)Z"⟩ : MethodName) (head1 (Jvm.Cond.code (⟨"com/example/classwright/classwright/KindSet", "contains", "(Ljava/lang/Object;)Z"⟩ : MethodName) prog_67_method_3_code 3 (some .boolean) :: ws) ({ frames := 1, cells := 0, slots := 0, locals := 14 } : Room)) (fun aa_ U_ => aa_ = #[(.ref a), (.ref k)] ∧ Z.Warmed39 U_.vm ∧ U_.heap = h0) (fun _ _ _ _ _ => True) (fun _ U_ o_ V_ => ∃ v_ L_, o_ = .returned v_ ∧ QC256_7 Z a k h0 n0 v_ V_.heap L_ ∧ FrameEnd U_ o_ V_ L_ ({ frames := 1, cells := 0, slots := 0, locals := 14 } : Room).cells ({ frames := 1, cells := 0, slots := 0, locals := 14 } : Room).slots) := by
  refine MetFree.of_bodySF (plainFor_of_name pnC256_7) hisR ?_
  intro p e s m args below meth c s₁ Bd hml0 hP hK
  obtain ⟨rfl, hZ, hh⟩ := hP
  have hx := Bd.exec
  have hby := Bd.bytes
  have hml : c.maxLocals = 3 := hml0
  have hown : s.vm.findClass "com/example/classwright/classwright/KindSet" = some m.cls := findClass_of_methodNamed Bd.named
  have hnm := (name_of_methodNamed Bd.named Bd.method).1
  have hlk : meth.locks = false := BodyLoose.notSynchronized Bd
  have hret : meth.sig.returnType = (some .boolean) := Bd.returns
  have X0 : Stand p l e ({ frames := 1, cells := 0, slots := 0, locals := 14 } : Room) s m #[(.ref a), (.ref k)] below meth c s₁ [] 0 0 := Stand.of_body Bd
  have e0 : s₁.heap = h0 := by rw [← hh, Bd.state]; rfl
  have N0 := Fr.nil n0
  show Go p e below s ({ frames := 1, cells := 0, slots := 0, locals := 14 } : Room).cells ({ frames := 1, cells := 0, slots := 0, locals := 14 } : Room).slots (QC256_7 Z a k h0 n0) (s₁.setTop (entryFrame m #[(.ref a), (.ref k)] 3))
  rw [efC256_7]
  refine Go.by (fun _ kont => XS.aloadN X0.here hx rfl (hb hby dC256_7_0) rfl rfl kont) ?_
  show Go _ _ _ _ _ _ _ (s₁.setTop (mkF m 1 #[.val (.ref a), .val (.ref k), .unset] [(.ref k)]))
  obtain ⟨T101, X101, e101, st101⟩ := instY X0 hx hZ hown (hw _ (List.mem_of_getElem? (i := 35) rfl)) e0 (Ins.self E0_k) (g := (mkF m 1 #[.val (.ref a), .val (.ref k), .unset] [(.ref k)])) rfl rfl (hb hby dC256_7_1)
  refine Go.by st101 ?_
  show Go _ _ _ _ _ _ _ (T101.setTop (mkF m 4 #[.val (.ref a), .val (.ref k), .unset] [(.int (1 : Int32))]))
  refine Go.by (fun _ kont => XS.ifNo X101.here hx rfl (hb hby dC256_7_4) rfl (by decide) (XS.aloadN X101.here hx rfl (hb hby dC256_7_7) rfl rfl kont)) ?_
  show Go _ _ _ _ _ _ _ (T101.setTop (mkF m 8 #[.val (.ref a), .val (.ref k), .unset] [(.ref k)]))
  obtain ⟨T102, X102, e102, st102⟩ := castY X101 hx hZ hown (hw _ (List.mem_of_getElem? (i := 35) rfl)) e101 (Ins.self E0_k) (g := (mkF m 8 #[.val (.ref a), .val (.ref k), .unset] [(.ref k)])) rfl rfl (hb hby dC256_7_8)
  refine Go.by st102 ?_
  show Go _ _ _ _ _ _ _ (T102.setTop (mkF m 11 #[.val (.ref a), .val (.ref k), .unset] [(.ref k)]))
  refine Go.by (fun _ kont => XS.astoreN X102.here hx rfl (hb hby dC256_7_11) rfl rfl (l' := #[.val (.ref a), .val (.ref k), .val (.ref k)]) rfl (XS.aloadN X102.here hx rfl (hb hby dC256_7_12) rfl rfl kont)) ?_
  show Go _ _ _ _ _ _ _ (T102.setTop (mkF m 13 #[.val (.ref a), .val (.ref k), .val (.ref k)] [(.ref a)]))
  obtain ⟨T103, X103, e103, st103⟩ := getF X102 hx hZ hown (host := "") (Or.inl (hw _ (List.mem_of_getElem? (i := 37) rfl))) Via.refl e102 F0_a_bits (g := (mkF m 13 #[.val (.ref a), .val (.ref k), .val (.ref k)] [(.ref a)])) rfl rfl (hb hby dC256_7_13)
  refine Go.by st103 ?_
  show Go _ _ _ _ _ _ _ (T103.setTop (mkF m 16 #[.val (.ref a), .val (.ref k), .val (.ref k)] [(.int (256 : Int32))]))
  refine Go.by (fun _ kont => XS.iconst X103.here hx rfl (hb hby dC256_7_16) (XS.aloadN X103.here hx rfl (hb hby dC256_7_17) rfl rfl kont)) ?_
  show Go _ _ _ _ _ _ _ (T103.setTop (mkF m 18 #[.val (.ref a), .val (.ref k), .val (.ref k)] [(.ref k), (.int (1 : Int32)), (.int (256 : Int32))]))
  obtain ⟨cq104, kq104, q104a, q104b, q104c⟩ := isOf hZ e103 E0_k
  obtain ⟨_, _, ⟨T104, L104, k104, n104⟩, -, X104, ⟨Lc104, hQ104, l104, y104, z104⟩, st104⟩ := X103.virtualBackUp hx (x := (⟨"com/example/classwright/classwright/ConstantKind", "ordinal", "()I"⟩ : MethodName)) (y := (⟨"java/lang/Enum", "ordinal", "()I"⟩ : MethodName)) (owner := "java/lang/Enum") hown (mvT hZ (hw _ (List.mem_of_getElem? (i := 39) rfl))) (mvT hZ (hw _ (List.mem_of_getElem? (i := 40) rfl))) (mvT hZ (hw _ (List.mem_of_getElem? (i := 41) rfl))) (by decide) (mvT hZ (hw _ (List.mem_of_getElem? (i := 43) rfl))) (mvT hZ (hw _ (List.mem_of_getElem? (i := 42) rfl))) (backOf (W := 2) (rmO l Z a0 hw [] k (7 : Int32) h0 n0 Z0 E0_k F0_k_ordinal) hZ (hw _ (List.mem_of_getElem? (i := 45) rfl)) (hw _ (List.mem_of_getElem? (i := 44) rfl)) (by decide) (by decide)) q104a q104c (g := (mkF m 18 #[.val (.ref a), .val (.ref k), .val (.ref k)] [(.ref k), (.int (1 : Int32)), (.int (256 : Int32))])) rfl (by rw [hml]; rfl) (Steps.refl _) (argsL := []) (rest := [(.int (1 : Int32)), (.int (256 : Int32))]) (lenOf pdC256_7_0 rfl) rfl (by show 2 * 0 + _ ≤ _; exact Nat.le_of_eq rfl) (hb hby dC256_7_18) (fun _ _ => ⟨rfl, e103, (by decide : 0 + 0 ≤ _), (by decide : 0 + 0 ≤ _)⟩)
  dsimp only [Pt.U, Pt.locs, Pt.cells, Pt.slots] at X104 l104 y104 z104 st104 hQ104
  subst l104 y104 z104
  obtain ⟨rfl, N104q, eh104⟩ := hQ104
  have N104 := Fr.app N0 N104q
  refine Go.tr st104 ?_
  show Go _ _ _ _ _ _ _ (T104.setTop (mkF m 21 #[.val (.ref a), .val (.ref k), .val (.ref k)] [(.int (7 : Int32)), (.int (1 : Int32)), (.int (256 : Int32))]))
  refine Go.by (fun _ kont => XS.ishl X104.here hx rfl (hb hby dC256_7_21) rfl kont) ?_
  show Go _ _ _ _ _ _ _ (T104.setTop (mkF m 22 #[.val (.ref a), .val (.ref k), .val (.ref k)] [(.int ((1 : Int32) <<< ((7 : Int32) &&& 31))), (.int (256 : Int32))]))
  rw [show ((1 : Int32) <<< ((7 : Int32) &&& 31)) = (128 : Int32) from by decide]
  show Go _ _ _ _ _ _ _ (T104.setTop (mkF m 22 #[.val (.ref a), .val (.ref k), .val (.ref k)] [(.int (128 : Int32)), (.int (256 : Int32))]))
  refine Go.by (fun _ kont => XS.iand X104.here hx rfl (hb hby dC256_7_22) rfl kont) ?_
  show Go _ _ _ _ _ _ _ (T104.setTop (mkF m 23 #[.val (.ref a), .val (.ref k), .val (.ref k)] [(.int ((256 : Int32) &&& (128 : Int32)))]))
  rw [show ((256 : Int32) &&& (128 : Int32)) = (0 : Int32) from by decide]
  show Go _ _ _ _ _ _ _ (T104.setTop (mkF m 23 #[.val (.ref a), .val (.ref k), .val (.ref k)] [(.int (0 : Int32))]))
  refine Go.by (fun _ kont => XS.ifYes X104.here hx rfl (pc0 := 23) (pc' := 30) rfl (hb hby dC256_7_23) rfl (by decide) (by decide) (by decide) (XS.iconst X104.here hx rfl (hb hby dC256_7_30) kont)) ?_
  show Go _ _ _ _ _ _ _ (T104.setTop (mkF m 31 #[.val (.ref a), .val (.ref k), .val (.ref k)] [(.int (0 : Int32))]))
  refine Go.retN X104 hx (t := .boolean) hret (by simp) hlk (hb hby dC256_7_31) ?_ (by decide) (by decide)
  show QC256_7 Z a k h0 n0 (some (.int (0 : Int32))) T104.heap _
  rw [eh104]
  exact ⟨rfl, N104, rfl⟩

theorem dC256_8_0 : decode prog_67_method_3_code 0 = .ok (.aload_n 1, 1) := by decide +kernel
theorem dC256_8_1 : decode prog_67_method_3_code 1 = .ok (.instanceof 14, 3) := by decide +kernel
theorem dC256_8_4 : decode prog_67_method_3_code 4 = .ok (.ifCond .eq 26, 3) := by decide +kernel
theorem dC256_8_7 : decode prog_67_method_3_code 7 = .ok (.aload_n 1, 1) := by decide +kernel
theorem dC256_8_8 : decode prog_67_method_3_code 8 = .ok (.checkcast 14, 3) := by decide +kernel
theorem dC256_8_11 : decode prog_67_method_3_code 11 = .ok (.astore_n 2, 1) := by decide +kernel
theorem dC256_8_12 : decode prog_67_method_3_code 12 = .ok (.aload_n 0, 1) := by decide +kernel
theorem dC256_8_13 : decode prog_67_method_3_code 13 = .ok (.getfield 7, 3) := by decide +kernel
theorem dC256_8_16 : decode prog_67_method_3_code 16 = .ok (.iconst 1, 1) := by decide +kernel
theorem dC256_8_17 : decode prog_67_method_3_code 17 = .ok (.aload_n 2, 1) := by decide +kernel
theorem dC256_8_18 : decode prog_67_method_3_code 18 = .ok (.invokevirtual 13, 3) := by decide +kernel
theorem dC256_8_21 : decode prog_67_method_3_code 21 = .ok (.ishl, 1) := by decide +kernel
theorem dC256_8_22 : decode prog_67_method_3_code 22 = .ok (.iand, 1) := by decide +kernel
theorem dC256_8_23 : decode prog_67_method_3_code 23 = .ok (.ifCond .eq 7, 3) := by decide +kernel
theorem dC256_8_26 : decode prog_67_method_3_code 26 = .ok (.iconst 1, 1) := by decide +kernel
theorem dC256_8_27 : decode prog_67_method_3_code 27 = .ok (.goto 4, 3) := by decide +kernel
theorem dC256_8_31 : decode prog_67_method_3_code 31 = .ok (.ireturn, 1) := by decide +kernel
theorem pdC256_8_0 : parseMethodDescriptor "()I" = some ⟨[], some .int⟩ := by decide +kernel
theorem pnC256_8 : plainName "com/example/classwright/classwright/KindSet" = true := by first | (simp [plainName, overriddenIn]; done) | decide +kernel
theorem efC256_8 (m : MethodId) (a : Addr) (k : Addr) : entryFrame m #[(.ref a), (.ref k)] 3 = mkF m 0 #[.val (.ref a), .val (.ref k), .unset] [] := by first | (simp [entryFrame, mkF, argsToLocals, Value.category]; done) | rfl
def QC256_8 (Z : State) (a : Addr) (k : Addr) (h0 : Heap) (n0 : Nat) (v : Option Value) (h : Heap) (L : List Loc) : Prop := (v = some (.int (1 : Int32)) ∧ Fr n0 L ∧ h = h0)
set_option maxRecDepth 65536 in
set_option maxHeartbeats 40000000 in
theorem rmC256_8 (l : Launch) (Z : State) (a0 : Array Value) (hw : ∀ d ∈ tables_1, d.before a0 Z = true) (ws : List Jvm.Cond) (a : Addr) (k : Addr) (h0 : Heap) (n0 : Nat) (Z0 : n0 ≤ h0.size) (E0_a : Exa Z h0 a "com/example/classwright/classwright/KindSet") (F0_a_bits : Fld Z h0 a "com/example/classwright/classwright/KindSet" "bits" "I" (.int (256 : Int32))) (E0_k : Exa Z h0 k "com/example/classwright/classwright/ConstantKind") (F0_k_ordinal : Fld Z h0 k "java/lang/Enum" "ordinal" "I" (.int (8 : Int32))) :
    MetFree l (⟨"com/example/classwright/classwright/KindSet", "contains", "(Ljava/lang/Object;)Z"⟩ : MethodName) (head1 (Jvm.Cond.code (⟨"com/example/classwright/classwright/KindSet", "contains", "(Ljava/lang/Object;)Z"⟩ : MethodName) prog_67_method_3_code 3 (some .boolean) :: ws) ({ frames := 1, cells := 0, slots := 0, locals := 14 } : Room)) (fun aa_ U_ => aa_ = #[(.ref a), (.ref k)] ∧ Z.Warmed39 U_.vm ∧ U_.heap = h0) (fun _ _ _ _ _ => True) (fun _ U_ o_ V_ => ∃ v_ L_, o_ = .returned v_ ∧ QC256_8 Z a k h0 n0 v_ V_.heap L_ ∧ FrameEnd U_ o_ V_ L_ ({ frames := 1, cells := 0, slots := 0, locals := 14 } : Room).cells ({ frames := 1, cells := 0, slots := 0, locals := 14 } : Room).slots) := by
  refine MetFree.of_bodySF (plainFor_of_name pnC256_8) hisR ?_
  intro p e s m args below meth c s₁ Bd hml0 hP hK
  obtain ⟨rfl, hZ, hh⟩ := hP
  have hx := Bd.exec
  have hby := Bd.bytes
  have hml : c.maxLocals = 3 := hml0
  have hown : s.vm.findClass "com/example/classwright/classwright/KindSet" = some m.cls := findClass_of_methodNamed Bd.named
  have hnm := (name_of_methodNamed Bd.named Bd.method).1
  have hlk : meth.locks = false := BodyLoose.notSynchronized Bd
  have hret : meth.sig.returnType = (some .boolean) := Bd.returns
  have X0 : Stand p l e ({ frames := 1, cells := 0, slots := 0, locals := 14 } : Room) s m #[(.ref a), (.ref k)] below meth c s₁ [] 0 0 := Stand.of_body Bd
  have e0 : s₁.heap = h0 := by rw [← hh, Bd.state]; rfl
  have N0 := Fr.nil n0
  show Go p e below s ({ frames := 1, cells := 0, slots := 0, locals := 14 } : Room).cells ({ frames := 1, cells := 0, slots := 0, locals := 14 } : Room).slots (QC256_8 Z a k h0 n0) (s₁.setTop (entryFrame m #[(.ref a), (.ref k)] 3))
  rw [efC256_8]
  refine Go.by (fun _ kont => XS.aloadN X0.here hx rfl (hb hby dC256_8_0) rfl rfl kont) ?_
  show Go _ _ _ _ _ _ _ (s₁.setTop (mkF m 1 #[.val (.ref a), .val (.ref k), .unset] [(.ref k)]))
  obtain ⟨T101, X101, e101, st101⟩ := instY X0 hx hZ hown (hw _ (List.mem_of_getElem? (i := 35) rfl)) e0 (Ins.self E0_k) (g := (mkF m 1 #[.val (.ref a), .val (.ref k), .unset] [(.ref k)])) rfl rfl (hb hby dC256_8_1)
  refine Go.by st101 ?_
  show Go _ _ _ _ _ _ _ (T101.setTop (mkF m 4 #[.val (.ref a), .val (.ref k), .unset] [(.int (1 : Int32))]))
  refine Go.by (fun _ kont => XS.ifNo X101.here hx rfl (hb hby dC256_8_4) rfl (by decide) (XS.aloadN X101.here hx rfl (hb hby dC256_8_7) rfl rfl kont)) ?_
  show Go _ _ _ _ _ _ _ (T101.setTop (mkF m 8 #[.val (.ref a), .val (.ref k), .unset] [(.ref k)]))
  obtain ⟨T102, X102, e102, st102⟩ := castY X101 hx hZ hown (hw _ (List.mem_of_getElem? (i := 35) rfl)) e101 (Ins.self E0_k) (g := (mkF m 8 #[.val (.ref a), .val (.ref k), .unset] [(.ref k)])) rfl rfl (hb hby dC256_8_8)
  refine Go.by st102 ?_
  show Go _ _ _ _ _ _ _ (T102.setTop (mkF m 11 #[.val (.ref a), .val (.ref k), .unset] [(.ref k)]))
  refine Go.by (fun _ kont => XS.astoreN X102.here hx rfl (hb hby dC256_8_11) rfl rfl (l' := #[.val (.ref a), .val (.ref k), .val (.ref k)]) rfl (XS.aloadN X102.here hx rfl (hb hby dC256_8_12) rfl rfl kont)) ?_
  show Go _ _ _ _ _ _ _ (T102.setTop (mkF m 13 #[.val (.ref a), .val (.ref k), .val (.ref k)] [(.ref a)]))
  obtain ⟨T103, X103, e103, st103⟩ := getF X102 hx hZ hown (host := "") (Or.inl (hw _ (List.mem_of_getElem? (i := 37) rfl))) Via.refl e102 F0_a_bits (g := (mkF m 13 #[.val (.ref a), .val (.ref k), .val (.ref k)] [(.ref a)])) rfl rfl (hb hby dC256_8_13)
  refine Go.by st103 ?_
  show Go _ _ _ _ _ _ _ (T103.setTop (mkF m 16 #[.val (.ref a), .val (.ref k), .val (.ref k)] [(.int (256 : Int32))]))
  refine Go.by (fun _ kont => XS.iconst X103.here hx rfl (hb hby dC256_8_16) (XS.aloadN X103.here hx rfl (hb hby dC256_8_17) rfl rfl kont)) ?_
  show Go _ _ _ _ _ _ _ (T103.setTop (mkF m 18 #[.val (.ref a), .val (.ref k), .val (.ref k)] [(.ref k), (.int (1 : Int32)), (.int (256 : Int32))]))
  obtain ⟨cq104, kq104, q104a, q104b, q104c⟩ := isOf hZ e103 E0_k
  obtain ⟨_, _, ⟨T104, L104, k104, n104⟩, -, X104, ⟨Lc104, hQ104, l104, y104, z104⟩, st104⟩ := X103.virtualBackUp hx (x := (⟨"com/example/classwright/classwright/ConstantKind", "ordinal", "()I"⟩ : MethodName)) (y := (⟨"java/lang/Enum", "ordinal", "()I"⟩ : MethodName)) (owner := "java/lang/Enum") hown (mvT hZ (hw _ (List.mem_of_getElem? (i := 39) rfl))) (mvT hZ (hw _ (List.mem_of_getElem? (i := 40) rfl))) (mvT hZ (hw _ (List.mem_of_getElem? (i := 41) rfl))) (by decide) (mvT hZ (hw _ (List.mem_of_getElem? (i := 43) rfl))) (mvT hZ (hw _ (List.mem_of_getElem? (i := 42) rfl))) (backOf (W := 2) (rmO l Z a0 hw [] k (8 : Int32) h0 n0 Z0 E0_k F0_k_ordinal) hZ (hw _ (List.mem_of_getElem? (i := 45) rfl)) (hw _ (List.mem_of_getElem? (i := 44) rfl)) (by decide) (by decide)) q104a q104c (g := (mkF m 18 #[.val (.ref a), .val (.ref k), .val (.ref k)] [(.ref k), (.int (1 : Int32)), (.int (256 : Int32))])) rfl (by rw [hml]; rfl) (Steps.refl _) (argsL := []) (rest := [(.int (1 : Int32)), (.int (256 : Int32))]) (lenOf pdC256_8_0 rfl) rfl (by show 2 * 0 + _ ≤ _; exact Nat.le_of_eq rfl) (hb hby dC256_8_18) (fun _ _ => ⟨rfl, e103, (by decide : 0 + 0 ≤ _), (by decide : 0 + 0 ≤ _)⟩)
  dsimp only [Pt.U, Pt.locs, Pt.cells, Pt.slots] at X104 l104 y104 z104 st104 hQ104
  subst l104 y104 z104
  obtain ⟨rfl, N104q, eh104⟩ := hQ104
  have N104 := Fr.app N0 N104q
  refine Go.tr st104 ?_
  show Go _ _ _ _ _ _ _ (T104.setTop (mkF m 21 #[.val (.ref a), .val (.ref k), .val (.ref k)] [(.int (8 : Int32)), (.int (1 : Int32)), (.int (256 : Int32))]))
  refine Go.by (fun _ kont => XS.ishl X104.here hx rfl (hb hby dC256_8_21) rfl kont) ?_
  show Go _ _ _ _ _ _ _ (T104.setTop (mkF m 22 #[.val (.ref a), .val (.ref k), .val (.ref k)] [(.int ((1 : Int32) <<< ((8 : Int32) &&& 31))), (.int (256 : Int32))]))
  rw [show ((1 : Int32) <<< ((8 : Int32) &&& 31)) = (256 : Int32) from by decide]
  show Go _ _ _ _ _ _ _ (T104.setTop (mkF m 22 #[.val (.ref a), .val (.ref k), .val (.ref k)] [(.int (256 : Int32)), (.int (256 : Int32))]))
  refine Go.by (fun _ kont => XS.iand X104.here hx rfl (hb hby dC256_8_22) rfl kont) ?_
  show Go _ _ _ _ _ _ _ (T104.setTop (mkF m 23 #[.val (.ref a), .val (.ref k), .val (.ref k)] [(.int ((256 : Int32) &&& (256 : Int32)))]))
  rw [show ((256 : Int32) &&& (256 : Int32)) = (256 : Int32) from by decide]
  show Go _ _ _ _ _ _ _ (T104.setTop (mkF m 23 #[.val (.ref a), .val (.ref k), .val (.ref k)] [(.int (256 : Int32))]))
  refine Go.by (fun _ kont => XS.ifNo X104.here hx rfl (hb hby dC256_8_23) rfl (by decide) (XS.iconst X104.here hx rfl (hb hby dC256_8_26) (XS.goto X104.here hx rfl (pc0 := 27) (pc' := 31) rfl (hb hby dC256_8_27) (by decide) (by decide) kont))) ?_
  show Go _ _ _ _ _ _ _ (T104.setTop (mkF m 31 #[.val (.ref a), .val (.ref k), .val (.ref k)] [(.int (1 : Int32))]))
  refine Go.retN X104 hx (t := .boolean) hret (by simp) hlk (hb hby dC256_8_31) ?_ (by decide) (by decide)
  show QC256_8 Z a k h0 n0 (some (.int (1 : Int32))) T104.heap _
  rw [eh104]
  exact ⟨rfl, N104, rfl⟩

theorem dC256_9_0 : decode prog_67_method_3_code 0 = .ok (.aload_n 1, 1) := by decide +kernel
theorem dC256_9_1 : decode prog_67_method_3_code 1 = .ok (.instanceof 14, 3) := by decide +kernel
theorem dC256_9_4 : decode prog_67_method_3_code 4 = .ok (.ifCond .eq 26, 3) := by decide +kernel
theorem dC256_9_7 : decode prog_67_method_3_code 7 = .ok (.aload_n 1, 1) := by decide +kernel
theorem dC256_9_8 : decode prog_67_method_3_code 8 = .ok (.checkcast 14, 3) := by decide +kernel
theorem dC256_9_11 : decode prog_67_method_3_code 11 = .ok (.astore_n 2, 1) := by decide +kernel
theorem dC256_9_12 : decode prog_67_method_3_code 12 = .ok (.aload_n 0, 1) := by decide +kernel
theorem dC256_9_13 : decode prog_67_method_3_code 13 = .ok (.getfield 7, 3) := by decide +kernel
theorem dC256_9_16 : decode prog_67_method_3_code 16 = .ok (.iconst 1, 1) := by decide +kernel
theorem dC256_9_17 : decode prog_67_method_3_code 17 = .ok (.aload_n 2, 1) := by decide +kernel
theorem dC256_9_18 : decode prog_67_method_3_code 18 = .ok (.invokevirtual 13, 3) := by decide +kernel
theorem dC256_9_21 : decode prog_67_method_3_code 21 = .ok (.ishl, 1) := by decide +kernel
theorem dC256_9_22 : decode prog_67_method_3_code 22 = .ok (.iand, 1) := by decide +kernel
theorem dC256_9_23 : decode prog_67_method_3_code 23 = .ok (.ifCond .eq 7, 3) := by decide +kernel
theorem dC256_9_30 : decode prog_67_method_3_code 30 = .ok (.iconst 0, 1) := by decide +kernel
theorem dC256_9_31 : decode prog_67_method_3_code 31 = .ok (.ireturn, 1) := by decide +kernel
theorem pdC256_9_0 : parseMethodDescriptor "()I" = some ⟨[], some .int⟩ := by decide +kernel
theorem pnC256_9 : plainName "com/example/classwright/classwright/KindSet" = true := by first | (simp [plainName, overriddenIn]; done) | decide +kernel
theorem efC256_9 (m : MethodId) (a : Addr) (k : Addr) : entryFrame m #[(.ref a), (.ref k)] 3 = mkF m 0 #[.val (.ref a), .val (.ref k), .unset] [] := by first | (simp [entryFrame, mkF, argsToLocals, Value.category]; done) | rfl
def QC256_9 (Z : State) (a : Addr) (k : Addr) (h0 : Heap) (n0 : Nat) (v : Option Value) (h : Heap) (L : List Loc) : Prop := (v = some (.int (0 : Int32)) ∧ Fr n0 L ∧ h = h0)
set_option maxRecDepth 65536 in
set_option maxHeartbeats 40000000 in
theorem rmC256_9 (l : Launch) (Z : State) (a0 : Array Value) (hw : ∀ d ∈ tables_1, d.before a0 Z = true) (ws : List Jvm.Cond) (a : Addr) (k : Addr) (h0 : Heap) (n0 : Nat) (Z0 : n0 ≤ h0.size) (E0_a : Exa Z h0 a "com/example/classwright/classwright/KindSet") (F0_a_bits : Fld Z h0 a "com/example/classwright/classwright/KindSet" "bits" "I" (.int (256 : Int32))) (E0_k : Exa Z h0 k "com/example/classwright/classwright/ConstantKind") (F0_k_ordinal : Fld Z h0 k "java/lang/Enum" "ordinal" "I" (.int (9 : Int32))) :
    MetFree l (⟨"com/example/classwright/classwright/KindSet", "contains", "(Ljava/lang/Object;)Z"⟩ : MethodName) (head1 (Jvm.Cond.code (⟨"com/example/classwright/classwright/KindSet", "contains", "(Ljava/lang/Object;)Z"⟩ : MethodName) prog_67_method_3_code 3 (some .boolean) :: ws) ({ frames := 1, cells := 0, slots := 0, locals := 14 } : Room)) (fun aa_ U_ => aa_ = #[(.ref a), (.ref k)] ∧ Z.Warmed39 U_.vm ∧ U_.heap = h0) (fun _ _ _ _ _ => True) (fun _ U_ o_ V_ => ∃ v_ L_, o_ = .returned v_ ∧ QC256_9 Z a k h0 n0 v_ V_.heap L_ ∧ FrameEnd U_ o_ V_ L_ ({ frames := 1, cells := 0, slots := 0, locals := 14 } : Room).cells ({ frames := 1, cells := 0, slots := 0, locals := 14 } : Room).slots) := by
  refine MetFree.of_bodySF (plainFor_of_name pnC256_9) hisR ?_
  intro p e s m args below meth c s₁ Bd hml0 hP hK
  obtain ⟨rfl, hZ, hh⟩ := hP
  have hx := Bd.exec
  have hby := Bd.bytes
  have hml : c.maxLocals = 3 := hml0
  have hown : s.vm.findClass "com/example/classwright/classwright/KindSet" = some m.cls := findClass_of_methodNamed Bd.named
  have hnm := (name_of_methodNamed Bd.named Bd.method).1
  have hlk : meth.locks = false := BodyLoose.notSynchronized Bd
  have hret : meth.sig.returnType = (some .boolean) := Bd.returns
  have X0 : Stand p l e ({ frames := 1, cells := 0, slots := 0, locals := 14 } : Room) s m #[(.ref a), (.ref k)] below meth c s₁ [] 0 0 := Stand.of_body Bd
  have e0 : s₁.heap = h0 := by rw [← hh, Bd.state]; rfl
  have N0 := Fr.nil n0
  show Go p e below s ({ frames := 1, cells := 0, slots := 0, locals := 14 } : Room).cells ({ frames := 1, cells := 0, slots := 0, locals := 14 } : Room).slots (QC256_9 Z a k h0 n0) (s₁.setTop (entryFrame m #[(.ref a), (.ref k)] 3))
  rw [efC256_9]
  refine Go.by (fun _ kont => XS.aloadN X0.here hx rfl (hb hby dC256_9_0) rfl rfl kont) ?_
  show Go _ _ _ _ _ _ _ (s₁.setTop (mkF m 1 #[.val (.ref a), .val (.ref k), .unset] [(.ref k)]))
  obtain ⟨T101, X101, e101, st101⟩ := instY X0 hx hZ hown (hw _ (List.mem_of_getElem? (i := 35) rfl)) e0 (Ins.self E0_k) (g := (mkF m 1 #[.val (.ref a), .val (.ref k), .unset] [(.ref k)])) rfl rfl (hb hby dC256_9_1)
  refine Go.by st101 ?_
  show Go _ _ _ _ _ _ _ (T101.setTop (mkF m 4 #[.val (.ref a), .val (.ref k), .unset] [(.int (1 : Int32))]))
  refine Go.by (fun _ kont => XS.ifNo X101.here hx rfl (hb hby dC256_9_4) rfl (by decide) (XS.aloadN X101.here hx rfl (hb hby dC256_9_7) rfl rfl kont)) ?_
  show Go _ _ _ _ _ _ _ (T101.setTop (mkF m 8 #[.val (.ref a), .val (.ref k), .unset] [(.ref k)]))
  obtain ⟨T102, X102, e102, st102⟩ := castY X101 hx hZ hown (hw _ (List.mem_of_getElem? (i := 35) rfl)) e101 (Ins.self E0_k) (g := (mkF m 8 #[.val (.ref a), .val (.ref k), .unset] [(.ref k)])) rfl rfl (hb hby dC256_9_8)
  refine Go.by st102 ?_
  show Go _ _ _ _ _ _ _ (T102.setTop (mkF m 11 #[.val (.ref a), .val (.ref k), .unset] [(.ref k)]))
  refine Go.by (fun _ kont => XS.astoreN X102.here hx rfl (hb hby dC256_9_11) rfl rfl (l' := #[.val (.ref a), .val (.ref k), .val (.ref k)]) rfl (XS.aloadN X102.here hx rfl (hb hby dC256_9_12) rfl rfl kont)) ?_
  show Go _ _ _ _ _ _ _ (T102.setTop (mkF m 13 #[.val (.ref a), .val (.ref k), .val (.ref k)] [(.ref a)]))
  obtain ⟨T103, X103, e103, st103⟩ := getF X102 hx hZ hown (host := "") (Or.inl (hw _ (List.mem_of_getElem? (i := 37) rfl))) Via.refl e102 F0_a_bits (g := (mkF m 13 #[.val (.ref a), .val (.ref k), .val (.ref k)] [(.ref a)])) rfl rfl (hb hby dC256_9_13)
  refine Go.by st103 ?_
  show Go _ _ _ _ _ _ _ (T103.setTop (mkF m 16 #[.val (.ref a), .val (.ref k), .val (.ref k)] [(.int (256 : Int32))]))
  refine Go.by (fun _ kont => XS.iconst X103.here hx rfl (hb hby dC256_9_16) (XS.aloadN X103.here hx rfl (hb hby dC256_9_17) rfl rfl kont)) ?_
  show Go _ _ _ _ _ _ _ (T103.setTop (mkF m 18 #[.val (.ref a), .val (.ref k), .val (.ref k)] [(.ref k), (.int (1 : Int32)), (.int (256 : Int32))]))
  obtain ⟨cq104, kq104, q104a, q104b, q104c⟩ := isOf hZ e103 E0_k
  obtain ⟨_, _, ⟨T104, L104, k104, n104⟩, -, X104, ⟨Lc104, hQ104, l104, y104, z104⟩, st104⟩ := X103.virtualBackUp hx (x := (⟨"com/example/classwright/classwright/ConstantKind", "ordinal", "()I"⟩ : MethodName)) (y := (⟨"java/lang/Enum", "ordinal", "()I"⟩ : MethodName)) (owner := "java/lang/Enum") hown (mvT hZ (hw _ (List.mem_of_getElem? (i := 39) rfl))) (mvT hZ (hw _ (List.mem_of_getElem? (i := 40) rfl))) (mvT hZ (hw _ (List.mem_of_getElem? (i := 41) rfl))) (by decide) (mvT hZ (hw _ (List.mem_of_getElem? (i := 43) rfl))) (mvT hZ (hw _ (List.mem_of_getElem? (i := 42) rfl))) (backOf (W := 2) (rmO l Z a0 hw [] k (9 : Int32) h0 n0 Z0 E0_k F0_k_ordinal) hZ (hw _ (List.mem_of_getElem? (i := 45) rfl)) (hw _ (List.mem_of_getElem? (i := 44) rfl)) (by decide) (by decide)) q104a q104c (g := (mkF m 18 #[.val (.ref a), .val (.ref k), .val (.ref k)] [(.ref k), (.int (1 : Int32)), (.int (256 : Int32))])) rfl (by rw [hml]; rfl) (Steps.refl _) (argsL := []) (rest := [(.int (1 : Int32)), (.int (256 : Int32))]) (lenOf pdC256_9_0 rfl) rfl (by show 2 * 0 + _ ≤ _; exact Nat.le_of_eq rfl) (hb hby dC256_9_18) (fun _ _ => ⟨rfl, e103, (by decide : 0 + 0 ≤ _), (by decide : 0 + 0 ≤ _)⟩)
  dsimp only [Pt.U, Pt.locs, Pt.cells, Pt.slots] at X104 l104 y104 z104 st104 hQ104
  subst l104 y104 z104
  obtain ⟨rfl, N104q, eh104⟩ := hQ104
  have N104 := Fr.app N0 N104q
  refine Go.tr st104 ?_
  show Go _ _ _ _ _ _ _ (T104.setTop (mkF m 21 #[.val (.ref a), .val (.ref k), .val (.ref k)] [(.int (9 : Int32)), (.int (1 : Int32)), (.int (256 : Int32))]))
  refine Go.by (fun _ kont => XS.ishl X104.here hx rfl (hb hby dC256_9_21) rfl kont) ?_
  show Go _ _ _ _ _ _ _ (T104.setTop (mkF m 22 #[.val (.ref a), .val (.ref k), .val (.ref k)] [(.int ((1 : Int32) <<< ((9 : Int32) &&& 31))), (.int (256 : Int32))]))
  rw [show ((1 : Int32) <<< ((9 : Int32) &&& 31)) = (512 : Int32) from by decide]
  show Go _ _ _ _ _ _ _ (T104.setTop (mkF m 22 #[.val (.ref a), .val (.ref k), .val (.ref k)] [(.int (512 : Int32)), (.int (256 : Int32))]))
  refine Go.by (fun _ kont => XS.iand X104.here hx rfl (hb hby dC256_9_22) rfl kont) ?_
  show Go _ _ _ _ _ _ _ (T104.setTop (mkF m 23 #[.val (.ref a), .val (.ref k), .val (.ref k)] [(.int ((256 : Int32) &&& (512 : Int32)))]))
  rw [show ((256 : Int32) &&& (512 : Int32)) = (0 : Int32) from by decide]
  show Go _ _ _ _ _ _ _ (T104.setTop (mkF m 23 #[.val (.ref a), .val (.ref k), .val (.ref k)] [(.int (0 : Int32))]))
  refine Go.by (fun _ kont => XS.ifYes X104.here hx rfl (pc0 := 23) (pc' := 30) rfl (hb hby dC256_9_23) rfl (by decide) (by decide) (by decide) (XS.iconst X104.here hx rfl (hb hby dC256_9_30) kont)) ?_
  show Go _ _ _ _ _ _ _ (T104.setTop (mkF m 31 #[.val (.ref a), .val (.ref k), .val (.ref k)] [(.int (0 : Int32))]))
  refine Go.retN X104 hx (t := .boolean) hret (by simp) hlk (hb hby dC256_9_31) ?_ (by decide) (by decide)
  show QC256_9 Z a k h0 n0 (some (.int (0 : Int32))) T104.heap _
  rw [eh104]
  exact ⟨rfl, N104, rfl⟩

theorem dB256_0 : decode jdk_33_method_49_code 0 = .ok (.iload_n 0, 1) := by decide +kernel
theorem dB256_1 : decode jdk_33_method_49_code 1 = .ok (.iload_n 0, 1) := by decide +kernel
theorem dB256_2 : decode jdk_33_method_49_code 2 = .ok (.iconst 1, 1) := by decide +kernel
theorem dB256_3 : decode jdk_33_method_49_code 3 = .ok (.iushr, 1) := by decide +kernel
theorem dB256_4 : decode jdk_33_method_49_code 4 = .ok (.ldc_w 265, 3) := by decide +kernel
theorem dB256_7 : decode jdk_33_method_49_code 7 = .ok (.iand, 1) := by decide +kernel
theorem dB256_8 : decode jdk_33_method_49_code 8 = .ok (.isub, 1) := by decide +kernel
theorem dB256_9 : decode jdk_33_method_49_code 9 = .ok (.istore_n 0, 1) := by decide +kernel
theorem dB256_10 : decode jdk_33_method_49_code 10 = .ok (.iload_n 0, 1) := by decide +kernel
theorem dB256_11 : decode jdk_33_method_49_code 11 = .ok (.ldc_w 266, 3) := by decide +kernel
theorem dB256_14 : decode jdk_33_method_49_code 14 = .ok (.iand, 1) := by decide +kernel
theorem dB256_15 : decode jdk_33_method_49_code 15 = .ok (.iload_n 0, 1) := by decide +kernel
theorem dB256_16 : decode jdk_33_method_49_code 16 = .ok (.iconst 2, 1) := by decide +kernel
theorem dB256_17 : decode jdk_33_method_49_code 17 = .ok (.iushr, 1) := by decide +kernel
theorem dB256_18 : decode jdk_33_method_49_code 18 = .ok (.ldc_w 266, 3) := by decide +kernel
theorem dB256_21 : decode jdk_33_method_49_code 21 = .ok (.iand, 1) := by decide +kernel
theorem dB256_22 : decode jdk_33_method_49_code 22 = .ok (.iadd, 1) := by decide +kernel
theorem dB256_23 : decode jdk_33_method_49_code 23 = .ok (.istore_n 0, 1) := by decide +kernel
theorem dB256_24 : decode jdk_33_method_49_code 24 = .ok (.iload_n 0, 1) := by decide +kernel
theorem dB256_25 : decode jdk_33_method_49_code 25 = .ok (.iload_n 0, 1) := by decide +kernel
theorem dB256_26 : decode jdk_33_method_49_code 26 = .ok (.iconst 4, 1) := by decide +kernel
theorem dB256_27 : decode jdk_33_method_49_code 27 = .ok (.iushr, 1) := by decide +kernel
theorem dB256_28 : decode jdk_33_method_49_code 28 = .ok (.iadd, 1) := by decide +kernel
theorem dB256_29 : decode jdk_33_method_49_code 29 = .ok (.ldc_w 267, 3) := by decide +kernel
theorem dB256_32 : decode jdk_33_method_49_code 32 = .ok (.iand, 1) := by decide +kernel
theorem dB256_33 : decode jdk_33_method_49_code 33 = .ok (.istore_n 0, 1) := by decide +kernel
theorem dB256_34 : decode jdk_33_method_49_code 34 = .ok (.iload_n 0, 1) := by decide +kernel
theorem dB256_35 : decode jdk_33_method_49_code 35 = .ok (.iload_n 0, 1) := by decide +kernel
theorem dB256_36 : decode jdk_33_method_49_code 36 = .ok (.bipush 8, 2) := by decide +kernel
theorem dB256_38 : decode jdk_33_method_49_code 38 = .ok (.iushr, 1) := by decide +kernel
theorem dB256_39 : decode jdk_33_method_49_code 39 = .ok (.iadd, 1) := by decide +kernel
theorem dB256_40 : decode jdk_33_method_49_code 40 = .ok (.istore_n 0, 1) := by decide +kernel
theorem dB256_41 : decode jdk_33_method_49_code 41 = .ok (.iload_n 0, 1) := by decide +kernel
theorem dB256_42 : decode jdk_33_method_49_code 42 = .ok (.iload_n 0, 1) := by decide +kernel
theorem dB256_43 : decode jdk_33_method_49_code 43 = .ok (.bipush 16, 2) := by decide +kernel
theorem dB256_45 : decode jdk_33_method_49_code 45 = .ok (.iushr, 1) := by decide +kernel
theorem dB256_46 : decode jdk_33_method_49_code 46 = .ok (.iadd, 1) := by decide +kernel
theorem dB256_47 : decode jdk_33_method_49_code 47 = .ok (.istore_n 0, 1) := by decide +kernel
theorem dB256_48 : decode jdk_33_method_49_code 48 = .ok (.iload_n 0, 1) := by decide +kernel
theorem dB256_49 : decode jdk_33_method_49_code 49 = .ok (.bipush 63, 2) := by decide +kernel
theorem dB256_51 : decode jdk_33_method_49_code 51 = .ok (.iand, 1) := by decide +kernel
theorem dB256_52 : decode jdk_33_method_49_code 52 = .ok (.ireturn, 1) := by decide +kernel
theorem pnB256 : plainName "java/lang/Integer" = true := by first | (simp [plainName, overriddenIn]; done) | decide +kernel
theorem efB256 (m : MethodId)  : entryFrame m #[(.int (256 : Int32))] 1 = mkF m 0 #[.val (.int (256 : Int32))] [] := by first | (simp [entryFrame, mkF, argsToLocals, Value.category]; done) | rfl
def QB256 (Z : State)  (h0 : Heap) (n0 : Nat) (v : Option Value) (h : Heap) (L : List Loc) : Prop := (v = some (.int (1 : Int32)) ∧ Fr n0 L ∧ h = h0)
set_option maxRecDepth 65536 in
set_option maxHeartbeats 40000000 in
theorem rmB256 (l : Launch) (Z : State) (a0 : Array Value) (hw : ∀ d ∈ tables_1, d.before a0 Z = true) (ws : List Jvm.Cond)  (h0 : Heap) (n0 : Nat) (Z0 : n0 ≤ h0.size) :
    MetFree l (⟨"java/lang/Integer", "bitCount", "(I)I"⟩ : MethodName) (head1 (Jvm.Cond.code (⟨"java/lang/Integer", "bitCount", "(I)I"⟩ : MethodName) jdk_33_method_49_code 1 (some .int) :: ws) ({ frames := 0, cells := 0, slots := 0, locals := 0 } : Room)) (fun aa_ U_ => aa_ = #[(.int (256 : Int32))] ∧ Z.Warmed39 U_.vm ∧ U_.heap = h0) (fun _ _ _ _ _ => True) (fun _ U_ o_ V_ => ∃ v_ L_, o_ = .returned v_ ∧ QB256 Z  h0 n0 v_ V_.heap L_ ∧ FrameEnd U_ o_ V_ L_ ({ frames := 0, cells := 0, slots := 0, locals := 0 } : Room).cells ({ frames := 0, cells := 0, slots := 0, locals := 0 } : Room).slots) := by
  refine MetFree.of_bodySF (plainFor_of_name pnB256) hisR ?_
  intro p e s m args below meth c s₁ Bd hml0 hP hK
  obtain ⟨rfl, hZ, hh⟩ := hP
  have hx := Bd.exec
  have hby := Bd.bytes
  have hml : c.maxLocals = 1 := hml0
  have hown : s.vm.findClass "java/lang/Integer" = some m.cls := findClass_of_methodNamed Bd.named
  have hnm := (name_of_methodNamed Bd.named Bd.method).1
  have hlk : meth.locks = false := BodyLoose.notSynchronized Bd
  have hret : meth.sig.returnType = (some .int) := Bd.returns
  have X0 : Stand p l e ({ frames := 0, cells := 0, slots := 0, locals := 0 } : Room) s m #[(.int (256 : Int32))] below meth c s₁ [] 0 0 := Stand.of_body Bd
  have e0 : s₁.heap = h0 := by rw [← hh, Bd.state]; rfl
  have N0 := Fr.nil n0
  show Go p e below s ({ frames := 0, cells := 0, slots := 0, locals := 0 } : Room).cells ({ frames := 0, cells := 0, slots := 0, locals := 0 } : Room).slots (QB256 Z  h0 n0) (s₁.setTop (entryFrame m #[(.int (256 : Int32))] 1))
  rw [efB256]
  refine Go.by (fun _ kont => XS.iloadN X0.here hx rfl (hb hby dB256_0) rfl (XS.iloadN X0.here hx rfl (hb hby dB256_1) rfl (XS.iconst X0.here hx rfl (hb hby dB256_2) (XS.iushr X0.here hx rfl (hb hby dB256_3) rfl kont)))) ?_
  show Go _ _ _ _ _ _ _ (s₁.setTop (mkF m 4 #[.val (.int (256 : Int32))] [(.int (((256 : Int32).toUInt32 >>> ((1 : Int32) &&& 31).toUInt32).toInt32)), (.int (256 : Int32))]))
  rw [show (((256 : Int32).toUInt32 >>> ((1 : Int32) &&& 31).toUInt32).toInt32) = (128 : Int32) from by decide]
  show Go _ _ _ _ _ _ _ (s₁.setTop (mkF m 4 #[.val (.int (256 : Int32))] [(.int (128 : Int32)), (.int (256 : Int32))]))
  refine Go.by (fun _ kont => X0.ldcwInt hx hown (mvT hZ (hw _ (List.mem_of_getElem? (i := 61) rfl))) (g := (mkF m 4 #[.val (.int (256 : Int32))] [(.int (128 : Int32)), (.int (256 : Int32))])) rfl (hb hby dB256_4) _ (XS.iand X0.here hx rfl (hb hby dB256_7) rfl kont)) ?_
  show Go _ _ _ _ _ _ _ (s₁.setTop (mkF m 8 #[.val (.int (256 : Int32))] [(.int ((128 : Int32) &&& (1431655765 : Int32))), (.int (256 : Int32))]))
  rw [show ((128 : Int32) &&& (1431655765 : Int32)) = (0 : Int32) from by decide]
  show Go _ _ _ _ _ _ _ (s₁.setTop (mkF m 8 #[.val (.int (256 : Int32))] [(.int (0 : Int32)), (.int (256 : Int32))]))
  refine Go.by (fun _ kont => XS.isub X0.here hx rfl (hb hby dB256_8) rfl kont) ?_
  show Go _ _ _ _ _ _ _ (s₁.setTop (mkF m 9 #[.val (.int (256 : Int32))] [(.int ((256 : Int32) - (0 : Int32)))]))
  rw [show ((256 : Int32) - (0 : Int32)) = (256 : Int32) from by decide]
  show Go _ _ _ _ _ _ _ (s₁.setTop (mkF m 9 #[.val (.int (256 : Int32))] [(.int (256 : Int32))]))
  refine Go.by (fun _ kont => XS.istoreN X0.here hx rfl (hb hby dB256_9) rfl (l' := #[.val (.int (256 : Int32))]) rfl (XS.iloadN X0.here hx rfl (hb hby dB256_10) rfl (X0.ldcwInt hx hown (mvT hZ (hw _ (List.mem_of_getElem? (i := 62) rfl))) (g := (mkF m 11 #[.val (.int (256 : Int32))] [(.int (256 : Int32))])) rfl (hb hby dB256_11) _ (XS.iand X0.here hx rfl (hb hby dB256_14) rfl kont)))) ?_
  show Go _ _ _ _ _ _ _ (s₁.setTop (mkF m 15 #[.val (.int (256 : Int32))] [(.int ((256 : Int32) &&& (858993459 : Int32)))]))
  rw [show ((256 : Int32) &&& (858993459 : Int32)) = (256 : Int32) from by decide]
  show Go _ _ _ _ _ _ _ (s₁.setTop (mkF m 15 #[.val (.int (256 : Int32))] [(.int (256 : Int32))]))
  refine Go.by (fun _ kont => XS.iloadN X0.here hx rfl (hb hby dB256_15) rfl (XS.iconst X0.here hx rfl (hb hby dB256_16) (XS.iushr X0.here hx rfl (hb hby dB256_17) rfl kont))) ?_
  show Go _ _ _ _ _ _ _ (s₁.setTop (mkF m 18 #[.val (.int (256 : Int32))] [(.int (((256 : Int32).toUInt32 >>> ((2 : Int32) &&& 31).toUInt32).toInt32)), (.int (256 : Int32))]))
  rw [show (((256 : Int32).toUInt32 >>> ((2 : Int32) &&& 31).toUInt32).toInt32) = (64 : Int32) from by decide]
  show Go _ _ _ _ _ _ _ (s₁.setTop (mkF m 18 #[.val (.int (256 : Int32))] [(.int (64 : Int32)), (.int (256 : Int32))]))
  refine Go.by (fun _ kont => X0.ldcwInt hx hown (mvT hZ (hw _ (List.mem_of_getElem? (i := 62) rfl))) (g := (mkF m 18 #[.val (.int (256 : Int32))] [(.int (64 : Int32)), (.int (256 : Int32))])) rfl (hb hby dB256_18) _ (XS.iand X0.here hx rfl (hb hby dB256_21) rfl kont)) ?_
  show Go _ _ _ _ _ _ _ (s₁.setTop (mkF m 22 #[.val (.int (256 : Int32))] [(.int ((64 : Int32) &&& (858993459 : Int32))), (.int (256 : Int32))]))
  rw [show ((64 : Int32) &&& (858993459 : Int32)) = (0 : Int32) from by decide]
  show Go _ _ _ _ _ _ _ (s₁.setTop (mkF m 22 #[.val (.int (256 : Int32))] [(.int (0 : Int32)), (.int (256 : Int32))]))
  refine Go.by (fun _ kont => XS.iadd X0.here hx rfl (hb hby dB256_22) rfl kont) ?_
  show Go _ _ _ _ _ _ _ (s₁.setTop (mkF m 23 #[.val (.int (256 : Int32))] [(.int ((256 : Int32) + (0 : Int32)))]))
  rw [show ((256 : Int32) + (0 : Int32)) = (256 : Int32) from by decide]
  show Go _ _ _ _ _ _ _ (s₁.setTop (mkF m 23 #[.val (.int (256 : Int32))] [(.int (256 : Int32))]))
  refine Go.by (fun _ kont => XS.istoreN X0.here hx rfl (hb hby dB256_23) rfl (l' := #[.val (.int (256 : Int32))]) rfl (XS.iloadN X0.here hx rfl (hb hby dB256_24) rfl (XS.iloadN X0.here hx rfl (hb hby dB256_25) rfl (XS.iconst X0.here hx rfl (hb hby dB256_26) (XS.iushr X0.here hx rfl (hb hby dB256_27) rfl kont))))) ?_
  show Go _ _ _ _ _ _ _ (s₁.setTop (mkF m 28 #[.val (.int (256 : Int32))] [(.int (((256 : Int32).toUInt32 >>> ((4 : Int32) &&& 31).toUInt32).toInt32)), (.int (256 : Int32))]))
  rw [show (((256 : Int32).toUInt32 >>> ((4 : Int32) &&& 31).toUInt32).toInt32) = (16 : Int32) from by decide]
  show Go _ _ _ _ _ _ _ (s₁.setTop (mkF m 28 #[.val (.int (256 : Int32))] [(.int (16 : Int32)), (.int (256 : Int32))]))
  refine Go.by (fun _ kont => XS.iadd X0.here hx rfl (hb hby dB256_28) rfl kont) ?_
  show Go _ _ _ _ _ _ _ (s₁.setTop (mkF m 29 #[.val (.int (256 : Int32))] [(.int ((256 : Int32) + (16 : Int32)))]))
  rw [show ((256 : Int32) + (16 : Int32)) = (272 : Int32) from by decide]
  show Go _ _ _ _ _ _ _ (s₁.setTop (mkF m 29 #[.val (.int (256 : Int32))] [(.int (272 : Int32))]))
  refine Go.by (fun _ kont => X0.ldcwInt hx hown (mvT hZ (hw _ (List.mem_of_getElem? (i := 63) rfl))) (g := (mkF m 29 #[.val (.int (256 : Int32))] [(.int (272 : Int32))])) rfl (hb hby dB256_29) _ (XS.iand X0.here hx rfl (hb hby dB256_32) rfl kont)) ?_
  show Go _ _ _ _ _ _ _ (s₁.setTop (mkF m 33 #[.val (.int (256 : Int32))] [(.int ((272 : Int32) &&& (252645135 : Int32)))]))
  rw [show ((272 : Int32) &&& (252645135 : Int32)) = (256 : Int32) from by decide]
  show Go _ _ _ _ _ _ _ (s₁.setTop (mkF m 33 #[.val (.int (256 : Int32))] [(.int (256 : Int32))]))
  refine Go.by (fun _ kont => XS.istoreN X0.here hx rfl (hb hby dB256_33) rfl (l' := #[.val (.int (256 : Int32))]) rfl (XS.iloadN X0.here hx rfl (hb hby dB256_34) rfl (XS.iloadN X0.here hx rfl (hb hby dB256_35) rfl (XS.bipush X0.here hx rfl (hb hby dB256_36) (XS.iushr X0.here hx rfl (hb hby dB256_38) rfl kont))))) ?_
  show Go _ _ _ _ _ _ _ (s₁.setTop (mkF m 39 #[.val (.int (256 : Int32))] [(.int (((256 : Int32).toUInt32 >>> ((8 : Int32) &&& 31).toUInt32).toInt32)), (.int (256 : Int32))]))
  rw [show (((256 : Int32).toUInt32 >>> ((8 : Int32) &&& 31).toUInt32).toInt32) = (1 : Int32) from by decide]
  show Go _ _ _ _ _ _ _ (s₁.setTop (mkF m 39 #[.val (.int (256 : Int32))] [(.int (1 : Int32)), (.int (256 : Int32))]))
  refine Go.by (fun _ kont => XS.iadd X0.here hx rfl (hb hby dB256_39) rfl kont) ?_
  show Go _ _ _ _ _ _ _ (s₁.setTop (mkF m 40 #[.val (.int (256 : Int32))] [(.int ((256 : Int32) + (1 : Int32)))]))
  rw [show ((256 : Int32) + (1 : Int32)) = (257 : Int32) from by decide]
  show Go _ _ _ _ _ _ _ (s₁.setTop (mkF m 40 #[.val (.int (256 : Int32))] [(.int (257 : Int32))]))
  refine Go.by (fun _ kont => XS.istoreN X0.here hx rfl (hb hby dB256_40) rfl (l' := #[.val (.int (257 : Int32))]) rfl (XS.iloadN X0.here hx rfl (hb hby dB256_41) rfl (XS.iloadN X0.here hx rfl (hb hby dB256_42) rfl (XS.bipush X0.here hx rfl (hb hby dB256_43) (XS.iushr X0.here hx rfl (hb hby dB256_45) rfl kont))))) ?_
  show Go _ _ _ _ _ _ _ (s₁.setTop (mkF m 46 #[.val (.int (257 : Int32))] [(.int (((257 : Int32).toUInt32 >>> ((16 : Int32) &&& 31).toUInt32).toInt32)), (.int (257 : Int32))]))
  rw [show (((257 : Int32).toUInt32 >>> ((16 : Int32) &&& 31).toUInt32).toInt32) = (0 : Int32) from by decide]
  show Go _ _ _ _ _ _ _ (s₁.setTop (mkF m 46 #[.val (.int (257 : Int32))] [(.int (0 : Int32)), (.int (257 : Int32))]))
  refine Go.by (fun _ kont => XS.iadd X0.here hx rfl (hb hby dB256_46) rfl kont) ?_
  show Go _ _ _ _ _ _ _ (s₁.setTop (mkF m 47 #[.val (.int (257 : Int32))] [(.int ((257 : Int32) + (0 : Int32)))]))
  rw [show ((257 : Int32) + (0 : Int32)) = (257 : Int32) from by decide]
  show Go _ _ _ _ _ _ _ (s₁.setTop (mkF m 47 #[.val (.int (257 : Int32))] [(.int (257 : Int32))]))
  refine Go.by (fun _ kont => XS.istoreN X0.here hx rfl (hb hby dB256_47) rfl (l' := #[.val (.int (257 : Int32))]) rfl (XS.iloadN X0.here hx rfl (hb hby dB256_48) rfl (XS.bipush X0.here hx rfl (hb hby dB256_49) (XS.iand X0.here hx rfl (hb hby dB256_51) rfl kont)))) ?_
  show Go _ _ _ _ _ _ _ (s₁.setTop (mkF m 52 #[.val (.int (257 : Int32))] [(.int ((257 : Int32) &&& (63 : Int32)))]))
  rw [show ((257 : Int32) &&& (63 : Int32)) = (1 : Int32) from by decide]
  show Go _ _ _ _ _ _ _ (s₁.setTop (mkF m 52 #[.val (.int (257 : Int32))] [(.int (1 : Int32))]))
  refine Go.retI X0 hx hret hlk (hb hby dB256_52) ?_ (by decide) (by decide)
  show QB256 Z  h0 n0 (some (.int (1 : Int32))) s₁.heap _
  rw [e0]
  exact ⟨rfl, N0, rfl⟩

theorem dS256_0 : decode prog_67_method_4_code 0 = .ok (.aload_n 0, 1) := by decide +kernel
theorem dS256_1 : decode prog_67_method_4_code 1 = .ok (.getfield 7, 3) := by decide +kernel
theorem dS256_4 : decode prog_67_method_4_code 4 = .ok (.invokestatic 22, 3) := by decide +kernel
theorem dS256_7 : decode prog_67_method_4_code 7 = .ok (.ireturn, 1) := by decide +kernel
theorem pdS256_0 : parseMethodDescriptor "(I)I" = some ⟨[.int], some .int⟩ := by decide +kernel
theorem pnS256 : plainName "com/example/classwright/classwright/KindSet" = true := by first | (simp [plainName, overriddenIn]; done) | decide +kernel
theorem efS256 (m : MethodId) (a : Addr) : entryFrame m #[(.ref a)] 1 = mkF m 0 #[.val (.ref a)] [] := by first | (simp [entryFrame, mkF, argsToLocals, Value.category]; done) | rfl
def QS256 (Z : State) (a : Addr) (h0 : Heap) (n0 : Nat) (v : Option Value) (h : Heap) (L : List Loc) : Prop := (v = some (.int (1 : Int32)) ∧ Fr n0 L ∧ h = h0)
set_option maxRecDepth 65536 in
set_option maxHeartbeats 40000000 in
theorem rmS256 (l : Launch) (Z : State) (a0 : Array Value) (hw : ∀ d ∈ tables_1, d.before a0 Z = true) (ws : List Jvm.Cond) (a : Addr) (h0 : Heap) (n0 : Nat) (Z0 : n0 ≤ h0.size) (E0_a : Exa Z h0 a "com/example/classwright/classwright/KindSet") (F0_a_bits : Fld Z h0 a "com/example/classwright/classwright/KindSet" "bits" "I" (.int (256 : Int32))) :
    MetFree l (⟨"com/example/classwright/classwright/KindSet", "size", "()I"⟩ : MethodName) (head1 (Jvm.Cond.code (⟨"com/example/classwright/classwright/KindSet", "size", "()I"⟩ : MethodName) prog_67_method_4_code 1 (some .int) :: ws) ({ frames := 1, cells := 0, slots := 0, locals := 12 } : Room)) (fun aa_ U_ => aa_ = #[(.ref a)] ∧ Z.Warmed39 U_.vm ∧ U_.heap = h0) (fun _ _ _ _ _ => True) (fun _ U_ o_ V_ => ∃ v_ L_, o_ = .returned v_ ∧ QS256 Z a h0 n0 v_ V_.heap L_ ∧ FrameEnd U_ o_ V_ L_ ({ frames := 1, cells := 0, slots := 0, locals := 12 } : Room).cells ({ frames := 1, cells := 0, slots := 0, locals := 12 } : Room).slots) := by
  refine MetFree.of_bodySF (plainFor_of_name pnS256) hisR ?_
  intro p e s m args below meth c s₁ Bd hml0 hP hK
  obtain ⟨rfl, hZ, hh⟩ := hP
  have hx := Bd.exec
  have hby := Bd.bytes
  have hml : c.maxLocals = 1 := hml0
  have hown : s.vm.findClass "com/example/classwright/classwright/KindSet" = some m.cls := findClass_of_methodNamed Bd.named
  have hnm := (name_of_methodNamed Bd.named Bd.method).1
  have hlk : meth.locks = false := BodyLoose.notSynchronized Bd
  have hret : meth.sig.returnType = (some .int) := Bd.returns
  have X0 : Stand p l e ({ frames := 1, cells := 0, slots := 0, locals := 12 } : Room) s m #[(.ref a)] below meth c s₁ [] 0 0 := Stand.of_body Bd
  have e0 : s₁.heap = h0 := by rw [← hh, Bd.state]; rfl
  have N0 := Fr.nil n0
  show Go p e below s ({ frames := 1, cells := 0, slots := 0, locals := 12 } : Room).cells ({ frames := 1, cells := 0, slots := 0, locals := 12 } : Room).slots (QS256 Z a h0 n0) (s₁.setTop (entryFrame m #[(.ref a)] 1))
  rw [efS256]
  refine Go.by (fun _ kont => XS.aloadN X0.here hx rfl (hb hby dS256_0) rfl rfl kont) ?_
  show Go _ _ _ _ _ _ _ (s₁.setTop (mkF m 1 #[.val (.ref a)] [(.ref a)]))
  obtain ⟨T101, X101, e101, st101⟩ := getF X0 hx hZ hown (host := "") (Or.inl (hw _ (List.mem_of_getElem? (i := 37) rfl))) Via.refl e0 F0_a_bits (g := (mkF m 1 #[.val (.ref a)] [(.ref a)])) rfl rfl (hb hby dS256_1)
  refine Go.by st101 ?_
  show Go _ _ _ _ _ _ _ (T101.setTop (mkF m 4 #[.val (.ref a)] [(.int (256 : Int32))]))
  obtain ⟨_, _, ⟨T102, L102, k102, n102⟩, -, X102, ⟨Lc102, hQ102, l102, y102, z102⟩, st102⟩ := Jvm.LawKit.callS X101 hx (y := (⟨"java/lang/Integer", "bitCount", "(I)I"⟩ : MethodName)) hown (mvT hZ (hw _ (List.mem_of_getElem? (i := 57) rfl))) (mvT hZ (hw _ (List.mem_of_getElem? (i := 58) rfl))) (mvT hZ (hw _ (List.mem_of_getElem? (i := 59) rfl))) (mvT hZ (hw _ (List.mem_of_getElem? (i := 60) rfl))) (by decide) (backOf (W := 0) (rmB256 l Z a0 hw []  h0 n0 Z0 ) hZ (hw _ (List.mem_of_getElem? (i := 60) rfl)) (hw _ (List.mem_of_getElem? (i := 59) rfl)) (by decide) (by decide)) (g := (mkF m 4 #[.val (.ref a)] [(.int (256 : Int32))])) rfl (by rw [hml]; rfl) (argsL := [(.int (256 : Int32))]) (rest := []) (lenOf pdS256_0 rfl) rfl (by show 2 * 0 + _ ≤ _; exact Nat.le_of_eq rfl) (hb hby dS256_4) (fun _ _ => ⟨rfl, e101, (by decide : 0 + 0 ≤ _), (by decide : 0 + 0 ≤ _)⟩)
  dsimp only [Pt.U, Pt.locs, Pt.cells, Pt.slots] at X102 l102 y102 z102 st102 hQ102
  subst l102 y102 z102
  obtain ⟨rfl, N102q, eh102⟩ := hQ102
  have N102 := Fr.app N0 N102q
  refine Go.by st102 ?_
  show Go _ _ _ _ _ _ _ (T102.setTop (mkF m 7 #[.val (.ref a)] [(.int (1 : Int32))]))
  refine Go.retI X102 hx hret hlk (hb hby dS256_7) ?_ (by decide) (by decide)
  show QS256 Z a h0 n0 (some (.int (1 : Int32))) T102.heap _
  rw [eh102]
  exact ⟨rfl, N102, rfl⟩

theorem dC512_7_0 : decode prog_67_method_3_code 0 = .ok (.aload_n 1, 1) := by decide +kernel
theorem dC512_7_1 : decode prog_67_method_3_code 1 = .ok (.instanceof 14, 3) := by decide +kernel
theorem dC512_7_4 : decode prog_67_method_3_code 4 = .ok (.ifCond .eq 26, 3) := by decide +kernel
theorem dC512_7_7 : decode prog_67_method_3_code 7 = .ok (.aload_n 1, 1) := by decide +kernel
theorem dC512_7_8 : decode prog_67_method_3_code 8 = .ok (.checkcast 14, 3) := by decide +kernel
theorem dC512_7_11 : decode prog_67_method_3_code 11 = .ok (.astore_n 2, 1) := by decide +kernel
theorem dC512_7_12 : decode prog_67_method_3_code 12 = .ok (.aload_n 0, 1) := by decide +kernel
theorem dC512_7_13 : decode prog_67_method_3_code 13 = .ok (.getfield 7, 3) := by decide +kernel
theorem dC512_7_16 : decode prog_67_method_3_code 16 = .ok (.iconst 1, 1) := by decide +kernel
theorem dC512_7_17 : decode prog_67_method_3_code 17 = .ok (.aload_n 2, 1) := by decide +kernel
theorem dC512_7_18 : decode prog_67_method_3_code 18 = .ok (.invokevirtual 13, 3) := by decide +kernel
theorem dC512_7_21 : decode prog_67_method_3_code 21 = .ok (.ishl, 1) := by decide +kernel
theorem dC512_7_22 : decode prog_67_method_3_code 22 = .ok (.iand, 1) := by decide +kernel
theorem dC512_7_23 : decode prog_67_method_3_code 23 = .ok (.ifCond .eq 7, 3) := by decide +kernel
theorem dC512_7_30 : decode prog_67_method_3_code 30 = .ok (.iconst 0, 1) := by decide +kernel
theorem dC512_7_31 : decode prog_67_method_3_code 31 = .ok (.ireturn, 1) := by decide +kernel
theorem pdC512_7_0 : parseMethodDescriptor "()I" = some ⟨[], some .int⟩ := by decide +kernel
theorem pnC512_7 : plainName "com/example/classwright/classwright/KindSet" = true := by first | (simp [plainName, overriddenIn]; done) | decide +kernel
theorem efC512_7 (m : MethodId) (a : Addr) (k : Addr) : entryFrame m #[(.ref a), (.ref k)] 3 = mkF m 0 #[.val (.ref a), .val (.ref k), .unset] [] := by first | (simp [entryFrame, mkF, argsToLocals, Value.category]; done) | rfl
def QC512_7 (Z : State) (a : Addr) (k : Addr) (h0 : Heap) (n0 : Nat) (v : Option Value) (h : Heap) (L : List Loc) : Prop := (v = some (.int (0 : Int32)) ∧ Fr n0 L ∧ h = h0)
set_option maxRecDepth 65536 in
set_option maxHeartbeats 40000000 in
theorem rmC512_7 (l : Launch) (Z : State) (a0 : Array Value) (hw : ∀ d ∈ tables_1, d.before a0 Z = true) (ws : List Jvm.Cond) (a : Addr) (k : Addr) (h0 : Heap) (n0 : Nat) (Z0 : n0 ≤ h0.size) (E0_a : Exa Z h0 a "com/example/classwright/classwright/KindSet") (F0_a_bits : Fld Z h0 a "com/example/classwright/classwright/KindSet" "bits" "I" (.int (512 : Int32))) (E0_k : Exa Z h0 k "com/example/classwright/classwright/ConstantKind") (F0_k_ordinal : Fld Z h0 k "java/lang/Enum" "ordinal" "I" (.int (7 : Int32))) :
    MetFree l (⟨"com/example/classwright/classwright/KindSet", "contains", "(Ljava/lang/Object;)Z"⟩ : MethodName) (head1 (Jvm.Cond.code (⟨"com/example/classwright/classwright/KindSet", "contains", "(Ljava/lang/Object;)Z"⟩ : MethodName) prog_67_method_3_code 3 (some .boolean) :: ws) ({ frames := 1, cells := 0, slots := 0, locals := 14 } : Room)) (fun aa_ U_ => aa_ = #[(.ref a), (.ref k)] ∧ Z.Warmed39 U_.vm ∧ U_.heap = h0) (fun _ _ _ _ _ => True) (fun _ U_ o_ V_ => ∃ v_ L_, o_ = .returned v_ ∧ QC512_7 Z a k h0 n0 v_ V_.heap L_ ∧ FrameEnd U_ o_ V_ L_ ({ frames := 1, cells := 0, slots := 0, locals := 14 } : Room).cells ({ frames := 1, cells := 0, slots := 0, locals := 14 } : Room).slots) := by
  refine MetFree.of_bodySF (plainFor_of_name pnC512_7) hisR ?_
  intro p e s m args below meth c s₁ Bd hml0 hP hK
  obtain ⟨rfl, hZ, hh⟩ := hP
  have hx := Bd.exec
  have hby := Bd.bytes
  have hml : c.maxLocals = 3 := hml0
  have hown : s.vm.findClass "com/example/classwright/classwright/KindSet" = some m.cls := findClass_of_methodNamed Bd.named
  have hnm := (name_of_methodNamed Bd.named Bd.method).1
  have hlk : meth.locks = false := BodyLoose.notSynchronized Bd
  have hret : meth.sig.returnType = (some .boolean) := Bd.returns
  have X0 : Stand p l e ({ frames := 1, cells := 0, slots := 0, locals := 14 } : Room) s m #[(.ref a), (.ref k)] below meth c s₁ [] 0 0 := Stand.of_body Bd
  have e0 : s₁.heap = h0 := by rw [← hh, Bd.state]; rfl
  have N0 := Fr.nil n0
  show Go p e below s ({ frames := 1, cells := 0, slots := 0, locals := 14 } : Room).cells ({ frames := 1, cells := 0, slots := 0, locals := 14 } : Room).slots (QC512_7 Z a k h0 n0) (s₁.setTop (entryFrame m #[(.ref a), (.ref k)] 3))
  rw [efC512_7]
  refine Go.by (fun _ kont => XS.aloadN X0.here hx rfl (hb hby dC512_7_0) rfl rfl kont) ?_
  show Go _ _ _ _ _ _ _ (s₁.setTop (mkF m 1 #[.val (.ref a), .val (.ref k), .unset] [(.ref k)]))
  obtain ⟨T101, X101, e101, st101⟩ := instY X0 hx hZ hown (hw _ (List.mem_of_getElem? (i := 35) rfl)) e0 (Ins.self E0_k) (g := (mkF m 1 #[.val (.ref a), .val (.ref k), .unset] [(.ref k)])) rfl rfl (hb hby dC512_7_1)
  refine Go.by st101 ?_
  show Go _ _ _ _ _ _ _ (T101.setTop (mkF m 4 #[.val (.ref a), .val (.ref k), .unset] [(.int (1 : Int32))]))
  refine Go.by (fun _ kont => XS.ifNo X101.here hx rfl (hb hby dC512_7_4) rfl (by decide) (XS.aloadN X101.here hx rfl (hb hby dC512_7_7) rfl rfl kont)) ?_
  show Go _ _ _ _ _ _ _ (T101.setTop (mkF m 8 #[.val (.ref a), .val (.ref k), .unset] [(.ref k)]))
  obtain ⟨T102, X102, e102, st102⟩ := castY X101 hx hZ hown (hw _ (List.mem_of_getElem? (i := 35) rfl)) e101 (Ins.self E0_k) (g := (mkF m 8 #[.val (.ref a), .val (.ref k), .unset] [(.ref k)])) rfl rfl (hb hby dC512_7_8)
  refine Go.by st102 ?_
  show Go _ _ _ _ _ _ _ (T102.setTop (mkF m 11 #[.val (.ref a), .val (.ref k), .unset] [(.ref k)]))
  refine Go.by (fun _ kont => XS.astoreN X102.here hx rfl (hb hby dC512_7_11) rfl rfl (l' := #[.val (.ref a), .val (.ref k), .val (.ref k)]) rfl (XS.aloadN X102.here hx rfl (hb hby dC512_7_12) rfl rfl kont)) ?_
  show Go _ _ _ _ _ _ _ (T102.setTop (mkF m 13 #[.val (.ref a), .val (.ref k), .val (.ref k)] [(.ref a)]))
  obtain ⟨T103, X103, e103, st103⟩ := getF X102 hx hZ hown (host := "") (Or.inl (hw _ (List.mem_of_getElem? (i := 37) rfl))) Via.refl e102 F0_a_bits (g := (mkF m 13 #[.val (.ref a), .val (.ref k), .val (.ref k)] [(.ref a)])) rfl rfl (hb hby dC512_7_13)
  refine Go.by st103 ?_
  show Go _ _ _ _ _ _ _ (T103.setTop (mkF m 16 #[.val (.ref a), .val (.ref k), .val (.ref k)] [(.int (512 : Int32))]))
  refine Go.by (fun _ kont => XS.iconst X103.here hx rfl (hb hby dC512_7_16) (XS.aloadN X103.here hx rfl (hb hby dC512_7_17) rfl rfl kont)) ?_
  show Go _ _ _ _ _ _ _ (T103.setTop (mkF m 18 #[.val (.ref a), .val (.ref k), .val (.ref k)] [(.ref k), (.int (1 : Int32)), (.int (512 : Int32))]))
  obtain ⟨cq104, kq104, q104a, q104b, q104c⟩ := isOf hZ e103 E0_k
  obtain ⟨_, _, ⟨T104, L104, k104, n104⟩, -, X104, ⟨Lc104, hQ104, l104, y104, z104⟩, st104⟩ := X103.virtualBackUp hx (x := (⟨"com/example/classwright/classwright/ConstantKind", "ordinal", "()I"⟩ : MethodName)) (y := (⟨"java/lang/Enum", "ordinal", "()I"⟩ : MethodName)) (owner := "java/lang/Enum") hown (mvT hZ (hw _ (List.mem_of_getElem? (i := 39) rfl))) (mvT hZ (hw _ (List.mem_of_getElem? (i := 40) rfl))) (mvT hZ (hw _ (List.mem_of_getElem? (i := 41) rfl))) (by decide) (mvT hZ (hw _ (List.mem_of_getElem? (i := 43) rfl))) (mvT hZ (hw _ (List.mem_of_getElem? (i := 42) rfl))) (backOf (W := 2) (rmO l Z a0 hw [] k (7 : Int32) h0 n0 Z0 E0_k F0_k_ordinal) hZ (hw _ (List.mem_of_getElem? (i := 45) rfl)) (hw _ (List.mem_of_getElem? (i := 44) rfl)) (by decide) (by decide)) q104a q104c (g := (mkF m 18 #[.val (.ref a), .val (.ref k), .val (.ref k)] [(.ref k), (.int (1 : Int32)), (.int (512 : Int32))])) rfl (by rw [hml]; rfl) (Steps.refl _) (argsL := []) (rest := [(.int (1 : Int32)), (.int (512 : Int32))]) (lenOf pdC512_7_0 rfl) rfl (by show 2 * 0 + _ ≤ _; exact Nat.le_of_eq rfl) (hb hby dC512_7_18) (fun _ _ => ⟨rfl, e103, (by decide : 0 + 0 ≤ _), (by decide : 0 + 0 ≤ _)⟩)
  dsimp only [Pt.U, Pt.locs, Pt.cells, Pt.slots] at X104 l104 y104 z104 st104 hQ104
  subst l104 y104 z104
  obtain ⟨rfl, N104q, eh104⟩ := hQ104
  have N104 := Fr.app N0 N104q
  refine Go.tr st104 ?_
  show Go _ _ _ _ _ _ _ (T104.setTop (mkF m 21 #[.val (.ref a), .val (.ref k), .val (.ref k)] [(.int (7 : Int32)), (.int (1 : Int32)), (.int (512 : Int32))]))
  refine Go.by (fun _ kont => XS.ishl X104.here hx rfl (hb hby dC512_7_21) rfl kont) ?_
  show Go _ _ _ _ _ _ _ (T104.setTop (mkF m 22 #[.val (.ref a), .val (.ref k), .val (.ref k)] [(.int ((1 : Int32) <<< ((7 : Int32) &&& 31))), (.int (512 : Int32))]))
  rw [show ((1 : Int32) <<< ((7 : Int32) &&& 31)) = (128 : Int32) from by decide]
  show Go _ _ _ _ _ _ _ (T104.setTop (mkF m 22 #[.val (.ref a), .val (.ref k), .val (.ref k)] [(.int (128 : Int32)), (.int (512 : Int32))]))
  refine Go.by (fun _ kont => XS.iand X104.here hx rfl (hb hby dC512_7_22) rfl kont) ?_
  show Go _ _ _ _ _ _ _ (T104.setTop (mkF m 23 #[.val (.ref a), .val (.ref k), .val (.ref k)] [(.int ((512 : Int32) &&& (128 : Int32)))]))
  rw [show ((512 : Int32) &&& (128 : Int32)) = (0 : Int32) from by decide]
  show Go _ _ _ _ _ _ _ (T104.setTop (mkF m 23 #[.val (.ref a), .val (.ref k), .val (.ref k)] [(.int (0 : Int32))]))
  refine Go.by (fun _ kont => XS.ifYes X104.here hx rfl (pc0 := 23) (pc' := 30) rfl (hb hby dC512_7_23) rfl (by decide) (by decide) (by decide) (XS.iconst X104.here hx rfl (hb hby dC512_7_30) kont)) ?_
  show Go _ _ _ _ _ _ _ (T104.setTop (mkF m 31 #[.val (.ref a), .val (.ref k), .val (.ref k)] [(.int (0 : Int32))]))
  refine Go.retN X104 hx (t := .boolean) hret (by simp) hlk (hb hby dC512_7_31) ?_ (by decide) (by decide)
  show QC512_7 Z a k h0 n0 (some (.int (0 : Int32))) T104.heap _
  rw [eh104]
  exact ⟨rfl, N104, rfl⟩

theorem dC512_8_0 : decode prog_67_method_3_code 0 = .ok (.aload_n 1, 1) := by decide +kernel
theorem dC512_8_1 : decode prog_67_method_3_code 1 = .ok (.instanceof 14, 3) := by decide +kernel
theorem dC512_8_4 : decode prog_67_method_3_code 4 = .ok (.ifCond .eq 26, 3) := by decide +kernel
theorem dC512_8_7 : decode prog_67_method_3_code 7 = .ok (.aload_n 1, 1) := by decide +kernel
theorem dC512_8_8 : decode prog_67_method_3_code 8 = .ok (.checkcast 14, 3) := by decide +kernel
theorem dC512_8_11 : decode prog_67_method_3_code 11 = .ok (.astore_n 2, 1) := by decide +kernel
theorem dC512_8_12 : decode prog_67_method_3_code 12 = .ok (.aload_n 0, 1) := by decide +kernel
theorem dC512_8_13 : decode prog_67_method_3_code 13 = .ok (.getfield 7, 3) := by decide +kernel
theorem dC512_8_16 : decode prog_67_method_3_code 16 = .ok (.iconst 1, 1) := by decide +kernel
theorem dC512_8_17 : decode prog_67_method_3_code 17 = .ok (.aload_n 2, 1) := by decide +kernel
theorem dC512_8_18 : decode prog_67_method_3_code 18 = .ok (.invokevirtual 13, 3) := by decide +kernel
theorem dC512_8_21 : decode prog_67_method_3_code 21 = .ok (.ishl, 1) := by decide +kernel
theorem dC512_8_22 : decode prog_67_method_3_code 22 = .ok (.iand, 1) := by decide +kernel
theorem dC512_8_23 : decode prog_67_method_3_code 23 = .ok (.ifCond .eq 7, 3) := by decide +kernel
theorem dC512_8_30 : decode prog_67_method_3_code 30 = .ok (.iconst 0, 1) := by decide +kernel
theorem dC512_8_31 : decode prog_67_method_3_code 31 = .ok (.ireturn, 1) := by decide +kernel
theorem pdC512_8_0 : parseMethodDescriptor "()I" = some ⟨[], some .int⟩ := by decide +kernel
theorem pnC512_8 : plainName "com/example/classwright/classwright/KindSet" = true := by first | (simp [plainName, overriddenIn]; done) | decide +kernel
theorem efC512_8 (m : MethodId) (a : Addr) (k : Addr) : entryFrame m #[(.ref a), (.ref k)] 3 = mkF m 0 #[.val (.ref a), .val (.ref k), .unset] [] := by first | (simp [entryFrame, mkF, argsToLocals, Value.category]; done) | rfl
def QC512_8 (Z : State) (a : Addr) (k : Addr) (h0 : Heap) (n0 : Nat) (v : Option Value) (h : Heap) (L : List Loc) : Prop := (v = some (.int (0 : Int32)) ∧ Fr n0 L ∧ h = h0)
set_option maxRecDepth 65536 in
set_option maxHeartbeats 40000000 in
theorem rmC512_8 (l : Launch) (Z : State) (a0 : Array Value) (hw : ∀ d ∈ tables_1, d.before a0 Z = true) (ws : List Jvm.Cond) (a : Addr) (k : Addr) (h0 : Heap) (n0 : Nat) (Z0 : n0 ≤ h0.size) (E0_a : Exa Z h0 a "com/example/classwright/classwright/KindSet") (F0_a_bits : Fld Z h0 a "com/example/classwright/classwright/KindSet" "bits" "I" (.int (512 : Int32))) (E0_k : Exa Z h0 k "com/example/classwright/classwright/ConstantKind") (F0_k_ordinal : Fld Z h0 k "java/lang/Enum" "ordinal" "I" (.int (8 : Int32))) :
    MetFree l (⟨"com/example/classwright/classwright/KindSet", "contains", "(Ljava/lang/Object;)Z"⟩ : MethodName) (head1 (Jvm.Cond.code (⟨"com/example/classwright/classwright/KindSet", "contains", "(Ljava/lang/Object;)Z"⟩ : MethodName) prog_67_method_3_code 3 (some .boolean) :: ws) ({ frames := 1, cells := 0, slots := 0, locals := 14 } : Room)) (fun aa_ U_ => aa_ = #[(.ref a), (.ref k)] ∧ Z.Warmed39 U_.vm ∧ U_.heap = h0) (fun _ _ _ _ _ => True) (fun _ U_ o_ V_ => ∃ v_ L_, o_ = .returned v_ ∧ QC512_8 Z a k h0 n0 v_ V_.heap L_ ∧ FrameEnd U_ o_ V_ L_ ({ frames := 1, cells := 0, slots := 0, locals := 14 } : Room).cells ({ frames := 1, cells := 0, slots := 0, locals := 14 } : Room).slots) := by
  refine MetFree.of_bodySF (plainFor_of_name pnC512_8) hisR ?_
  intro p e s m args below meth c s₁ Bd hml0 hP hK
  obtain ⟨rfl, hZ, hh⟩ := hP
  have hx := Bd.exec
  have hby := Bd.bytes
  have hml : c.maxLocals = 3 := hml0
  have hown : s.vm.findClass "com/example/classwright/classwright/KindSet" = some m.cls := findClass_of_methodNamed Bd.named
  have hnm := (name_of_methodNamed Bd.named Bd.method).1
  have hlk : meth.locks = false := BodyLoose.notSynchronized Bd
  have hret : meth.sig.returnType = (some .boolean) := Bd.returns
  have X0 : Stand p l e ({ frames := 1, cells := 0, slots := 0, locals := 14 } : Room) s m #[(.ref a), (.ref k)] below meth c s₁ [] 0 0 := Stand.of_body Bd
  have e0 : s₁.heap = h0 := by rw [← hh, Bd.state]; rfl
  have N0 := Fr.nil n0
  show Go p e below s ({ frames := 1, cells := 0, slots := 0, locals := 14 } : Room).cells ({ frames := 1, cells := 0, slots := 0, locals := 14 } : Room).slots (QC512_8 Z a k h0 n0) (s₁.setTop (entryFrame m #[(.ref a), (.ref k)] 3))
  rw [efC512_8]
  refine Go.by (fun _ kont => XS.aloadN X0.here hx rfl (hb hby dC512_8_0) rfl rfl kont) ?_
  show Go _ _ _ _ _ _ _ (s₁.setTop (mkF m 1 #[.val (.ref a), .val (.ref k), .unset] [(.ref k)]))
  obtain ⟨T101, X101, e101, st101⟩ := instY X0 hx hZ hown (hw _ (List.mem_of_getElem? (i := 35) rfl)) e0 (Ins.self E0_k) (g := (mkF m 1 #[.val (.ref a), .val (.ref k), .unset] [(.ref k)])) rfl rfl (hb hby dC512_8_1)
  refine Go.by st101 ?_
  show Go _ _ _ _ _ _ _ (T101.setTop (mkF m 4 #[.val (.ref a), .val (.ref k), .unset] [(.int (1 : Int32))]))
  refine Go.by (fun _ kont => XS.ifNo X101.here hx rfl (hb hby dC512_8_4) rfl (by decide) (XS.aloadN X101.here hx rfl (hb hby dC512_8_7) rfl rfl kont)) ?_
  show Go _ _ _ _ _ _ _ (T101.setTop (mkF m 8 #[.val (.ref a), .val (.ref k), .unset] [(.ref k)]))
  obtain ⟨T102, X102, e102, st102⟩ := castY X101 hx hZ hown (hw _ (List.mem_of_getElem? (i := 35) rfl)) e101 (Ins.self E0_k) (g := (mkF m 8 #[.val (.ref a), .val (.ref k), .unset] [(.ref k)])) rfl rfl (hb hby dC512_8_8)
  refine Go.by st102 ?_
  show Go _ _ _ _ _ _ _ (T102.setTop (mkF m 11 #[.val (.ref a), .val (.ref k), .unset] [(.ref k)]))
  refine Go.by (fun _ kont => XS.astoreN X102.here hx rfl (hb hby dC512_8_11) rfl rfl (l' := #[.val (.ref a), .val (.ref k), .val (.ref k)]) rfl (XS.aloadN X102.here hx rfl (hb hby dC512_8_12) rfl rfl kont)) ?_
  show Go _ _ _ _ _ _ _ (T102.setTop (mkF m 13 #[.val (.ref a), .val (.ref k), .val (.ref k)] [(.ref a)]))
  obtain ⟨T103, X103, e103, st103⟩ := getF X102 hx hZ hown (host := "") (Or.inl (hw _ (List.mem_of_getElem? (i := 37) rfl))) Via.refl e102 F0_a_bits (g := (mkF m 13 #[.val (.ref a), .val (.ref k), .val (.ref k)] [(.ref a)])) rfl rfl (hb hby dC512_8_13)
  refine Go.by st103 ?_
  show Go _ _ _ _ _ _ _ (T103.setTop (mkF m 16 #[.val (.ref a), .val (.ref k), .val (.ref k)] [(.int (512 : Int32))]))
  refine Go.by (fun _ kont => XS.iconst X103.here hx rfl (hb hby dC512_8_16) (XS.aloadN X103.here hx rfl (hb hby dC512_8_17) rfl rfl kont)) ?_
  show Go _ _ _ _ _ _ _ (T103.setTop (mkF m 18 #[.val (.ref a), .val (.ref k), .val (.ref k)] [(.ref k), (.int (1 : Int32)), (.int (512 : Int32))]))
  obtain ⟨cq104, kq104, q104a, q104b, q104c⟩ := isOf hZ e103 E0_k
  obtain ⟨_, _, ⟨T104, L104, k104, n104⟩, -, X104, ⟨Lc104, hQ104, l104, y104, z104⟩, st104⟩ := X103.virtualBackUp hx (x := (⟨"com/example/classwright/classwright/ConstantKind", "ordinal", "()I"⟩ : MethodName)) (y := (⟨"java/lang/Enum", "ordinal", "()I"⟩ : MethodName)) (owner := "java/lang/Enum") hown (mvT hZ (hw _ (List.mem_of_getElem? (i := 39) rfl))) (mvT hZ (hw _ (List.mem_of_getElem? (i := 40) rfl))) (mvT hZ (hw _ (List.mem_of_getElem? (i := 41) rfl))) (by decide) (mvT hZ (hw _ (List.mem_of_getElem? (i := 43) rfl))) (mvT hZ (hw _ (List.mem_of_getElem? (i := 42) rfl))) (backOf (W := 2) (rmO l Z a0 hw [] k (8 : Int32) h0 n0 Z0 E0_k F0_k_ordinal) hZ (hw _ (List.mem_of_getElem? (i := 45) rfl)) (hw _ (List.mem_of_getElem? (i := 44) rfl)) (by decide) (by decide)) q104a q104c (g := (mkF m 18 #[.val (.ref a), .val (.ref k), .val (.ref k)] [(.ref k), (.int (1 : Int32)), (.int (512 : Int32))])) rfl (by rw [hml]; rfl) (Steps.refl _) (argsL := []) (rest := [(.int (1 : Int32)), (.int (512 : Int32))]) (lenOf pdC512_8_0 rfl) rfl (by show 2 * 0 + _ ≤ _; exact Nat.le_of_eq rfl) (hb hby dC512_8_18) (fun _ _ => ⟨rfl, e103, (by decide : 0 + 0 ≤ _), (by decide : 0 + 0 ≤ _)⟩)
  dsimp only [Pt.U, Pt.locs, Pt.cells, Pt.slots] at X104 l104 y104 z104 st104 hQ104
  subst l104 y104 z104
  obtain ⟨rfl, N104q, eh104⟩ := hQ104
  have N104 := Fr.app N0 N104q
  refine Go.tr st104 ?_
  show Go _ _ _ _ _ _ _ (T104.setTop (mkF m 21 #[.val (.ref a), .val (.ref k), .val (.ref k)] [(.int (8 : Int32)), (.int (1 : Int32)), (.int (512 : Int32))]))
  refine Go.by (fun _ kont => XS.ishl X104.here hx rfl (hb hby dC512_8_21) rfl kont) ?_
  show Go _ _ _ _ _ _ _ (T104.setTop (mkF m 22 #[.val (.ref a), .val (.ref k), .val (.ref k)] [(.int ((1 : Int32) <<< ((8 : Int32) &&& 31))), (.int (512 : Int32))]))
  rw [show ((1 : Int32) <<< ((8 : Int32) &&& 31)) = (256 : Int32) from by decide]
  show Go _ _ _ _ _ _ _ (T104.setTop (mkF m 22 #[.val (.ref a), .val (.ref k), .val (.ref k)] [(.int (256 : Int32)), (.int (512 : Int32))]))
  refine Go.by (fun _ kont => XS.iand X104.here hx rfl (hb hby dC512_8_22) rfl kont) ?_
  show Go _ _ _ _ _ _ _ (T104.setTop (mkF m 23 #[.val (.ref a), .val (.ref k), .val (.ref k)] [(.int ((512 : Int32) &&& (256 : Int32)))]))
  rw [show ((512 : Int32) &&& (256 : Int32)) = (0 : Int32) from by decide]
  show Go _ _ _ _ _ _ _ (T104.setTop (mkF m 23 #[.val (.ref a), .val (.ref k), .val (.ref k)] [(.int (0 : Int32))]))
  refine Go.by (fun _ kont => XS.ifYes X104.here hx rfl (pc0 := 23) (pc' := 30) rfl (hb hby dC512_8_23) rfl (by decide) (by decide) (by decide) (XS.iconst X104.here hx rfl (hb hby dC512_8_30) kont)) ?_
  show Go _ _ _ _ _ _ _ (T104.setTop (mkF m 31 #[.val (.ref a), .val (.ref k), .val (.ref k)] [(.int (0 : Int32))]))
  refine Go.retN X104 hx (t := .boolean) hret (by simp) hlk (hb hby dC512_8_31) ?_ (by decide) (by decide)
  show QC512_8 Z a k h0 n0 (some (.int (0 : Int32))) T104.heap _
  rw [eh104]
  exact ⟨rfl, N104, rfl⟩

theorem dC512_9_0 : decode prog_67_method_3_code 0 = .ok (.aload_n 1, 1) := by decide +kernel
theorem dC512_9_1 : decode prog_67_method_3_code 1 = .ok (.instanceof 14, 3) := by decide +kernel
theorem dC512_9_4 : decode prog_67_method_3_code 4 = .ok (.ifCond .eq 26, 3) := by decide +kernel
theorem dC512_9_7 : decode prog_67_method_3_code 7 = .ok (.aload_n 1, 1) := by decide +kernel
theorem dC512_9_8 : decode prog_67_method_3_code 8 = .ok (.checkcast 14, 3) := by decide +kernel
theorem dC512_9_11 : decode prog_67_method_3_code 11 = .ok (.astore_n 2, 1) := by decide +kernel
theorem dC512_9_12 : decode prog_67_method_3_code 12 = .ok (.aload_n 0, 1) := by decide +kernel
theorem dC512_9_13 : decode prog_67_method_3_code 13 = .ok (.getfield 7, 3) := by decide +kernel
theorem dC512_9_16 : decode prog_67_method_3_code 16 = .ok (.iconst 1, 1) := by decide +kernel
theorem dC512_9_17 : decode prog_67_method_3_code 17 = .ok (.aload_n 2, 1) := by decide +kernel
theorem dC512_9_18 : decode prog_67_method_3_code 18 = .ok (.invokevirtual 13, 3) := by decide +kernel
theorem dC512_9_21 : decode prog_67_method_3_code 21 = .ok (.ishl, 1) := by decide +kernel
theorem dC512_9_22 : decode prog_67_method_3_code 22 = .ok (.iand, 1) := by decide +kernel
theorem dC512_9_23 : decode prog_67_method_3_code 23 = .ok (.ifCond .eq 7, 3) := by decide +kernel
theorem dC512_9_26 : decode prog_67_method_3_code 26 = .ok (.iconst 1, 1) := by decide +kernel
theorem dC512_9_27 : decode prog_67_method_3_code 27 = .ok (.goto 4, 3) := by decide +kernel
theorem dC512_9_31 : decode prog_67_method_3_code 31 = .ok (.ireturn, 1) := by decide +kernel
theorem pdC512_9_0 : parseMethodDescriptor "()I" = some ⟨[], some .int⟩ := by decide +kernel
theorem pnC512_9 : plainName "com/example/classwright/classwright/KindSet" = true := by first | (simp [plainName, overriddenIn]; done) | decide +kernel
theorem efC512_9 (m : MethodId) (a : Addr) (k : Addr) : entryFrame m #[(.ref a), (.ref k)] 3 = mkF m 0 #[.val (.ref a), .val (.ref k), .unset] [] := by first | (simp [entryFrame, mkF, argsToLocals, Value.category]; done) | rfl
def QC512_9 (Z : State) (a : Addr) (k : Addr) (h0 : Heap) (n0 : Nat) (v : Option Value) (h : Heap) (L : List Loc) : Prop := (v = some (.int (1 : Int32)) ∧ Fr n0 L ∧ h = h0)
set_option maxRecDepth 65536 in
set_option maxHeartbeats 40000000 in
theorem rmC512_9 (l : Launch) (Z : State) (a0 : Array Value) (hw : ∀ d ∈ tables_1, d.before a0 Z = true) (ws : List Jvm.Cond) (a : Addr) (k : Addr) (h0 : Heap) (n0 : Nat) (Z0 : n0 ≤ h0.size) (E0_a : Exa Z h0 a "com/example/classwright/classwright/KindSet") (F0_a_bits : Fld Z h0 a "com/example/classwright/classwright/KindSet" "bits" "I" (.int (512 : Int32))) (E0_k : Exa Z h0 k "com/example/classwright/classwright/ConstantKind") (F0_k_ordinal : Fld Z h0 k "java/lang/Enum" "ordinal" "I" (.int (9 : Int32))) :
    MetFree l (⟨"com/example/classwright/classwright/KindSet", "contains", "(Ljava/lang/Object;)Z"⟩ : MethodName) (head1 (Jvm.Cond.code (⟨"com/example/classwright/classwright/KindSet", "contains", "(Ljava/lang/Object;)Z"⟩ : MethodName) prog_67_method_3_code 3 (some .boolean) :: ws) ({ frames := 1, cells := 0, slots := 0, locals := 14 } : Room)) (fun aa_ U_ => aa_ = #[(.ref a), (.ref k)] ∧ Z.Warmed39 U_.vm ∧ U_.heap = h0) (fun _ _ _ _ _ => True) (fun _ U_ o_ V_ => ∃ v_ L_, o_ = .returned v_ ∧ QC512_9 Z a k h0 n0 v_ V_.heap L_ ∧ FrameEnd U_ o_ V_ L_ ({ frames := 1, cells := 0, slots := 0, locals := 14 } : Room).cells ({ frames := 1, cells := 0, slots := 0, locals := 14 } : Room).slots) := by
  refine MetFree.of_bodySF (plainFor_of_name pnC512_9) hisR ?_
  intro p e s m args below meth c s₁ Bd hml0 hP hK
  obtain ⟨rfl, hZ, hh⟩ := hP
  have hx := Bd.exec
  have hby := Bd.bytes
  have hml : c.maxLocals = 3 := hml0
  have hown : s.vm.findClass "com/example/classwright/classwright/KindSet" = some m.cls := findClass_of_methodNamed Bd.named
  have hnm := (name_of_methodNamed Bd.named Bd.method).1
  have hlk : meth.locks = false := BodyLoose.notSynchronized Bd
  have hret : meth.sig.returnType = (some .boolean) := Bd.returns
  have X0 : Stand p l e ({ frames := 1, cells := 0, slots := 0, locals := 14 } : Room) s m #[(.ref a), (.ref k)] below meth c s₁ [] 0 0 := Stand.of_body Bd
  have e0 : s₁.heap = h0 := by rw [← hh, Bd.state]; rfl
  have N0 := Fr.nil n0
  show Go p e below s ({ frames := 1, cells := 0, slots := 0, locals := 14 } : Room).cells ({ frames := 1, cells := 0, slots := 0, locals := 14 } : Room).slots (QC512_9 Z a k h0 n0) (s₁.setTop (entryFrame m #[(.ref a), (.ref k)] 3))
  rw [efC512_9]
  refine Go.by (fun _ kont => XS.aloadN X0.here hx rfl (hb hby dC512_9_0) rfl rfl kont) ?_
  show Go _ _ _ _ _ _ _ (s₁.setTop (mkF m 1 #[.val (.ref a), .val (.ref k), .unset] [(.ref k)]))
  obtain ⟨T101, X101, e101, st101⟩ := instY X0 hx hZ hown (hw _ (List.mem_of_getElem? (i := 35) rfl)) e0 (Ins.self E0_k) (g := (mkF m 1 #[.val (.ref a), .val (.ref k), .unset] [(.ref k)])) rfl rfl (hb hby dC512_9_1)
  refine Go.by st101 ?_
  show Go _ _ _ _ _ _ _ (T101.setTop (mkF m 4 #[.val (.ref a), .val (.ref k), .unset] [(.int (1 : Int32))]))
  refine Go.by (fun _ kont => XS.ifNo X101.here hx rfl (hb hby dC512_9_4) rfl (by decide) (XS.aloadN X101.here hx rfl (hb hby dC512_9_7) rfl rfl kont)) ?_
  show Go _ _ _ _ _ _ _ (T101.setTop (mkF m 8 #[.val (.ref a), .val (.ref k), .unset] [(.ref k)]))
  obtain ⟨T102, X102, e102, st102⟩ := castY X101 hx hZ hown (hw _ (List.mem_of_getElem? (i := 35) rfl)) e101 (Ins.self E0_k) (g := (mkF m 8 #[.val (.ref a), .val (.ref k), .unset] [(.ref k)])) rfl rfl (hb hby dC512_9_8)
  refine Go.by st102 ?_
  show Go _ _ _ _ _ _ _ (T102.setTop (mkF m 11 #[.val (.ref a), .val (.ref k), .unset] [(.ref k)]))
  refine Go.by (fun _ kont => XS.astoreN X102.here hx rfl (hb hby dC512_9_11) rfl rfl (l' := #[.val (.ref a), .val (.ref k), .val (.ref k)]) rfl (XS.aloadN X102.here hx rfl (hb hby dC512_9_12) rfl rfl kont)) ?_
  show Go _ _ _ _ _ _ _ (T102.setTop (mkF m 13 #[.val (.ref a), .val (.ref k), .val (.ref k)] [(.ref a)]))
  obtain ⟨T103, X103, e103, st103⟩ := getF X102 hx hZ hown (host := "") (Or.inl (hw _ (List.mem_of_getElem? (i := 37) rfl))) Via.refl e102 F0_a_bits (g := (mkF m 13 #[.val (.ref a), .val (.ref k), .val (.ref k)] [(.ref a)])) rfl rfl (hb hby dC512_9_13)
  refine Go.by st103 ?_
  show Go _ _ _ _ _ _ _ (T103.setTop (mkF m 16 #[.val (.ref a), .val (.ref k), .val (.ref k)] [(.int (512 : Int32))]))
  refine Go.by (fun _ kont => XS.iconst X103.here hx rfl (hb hby dC512_9_16) (XS.aloadN X103.here hx rfl (hb hby dC512_9_17) rfl rfl kont)) ?_
  show Go _ _ _ _ _ _ _ (T103.setTop (mkF m 18 #[.val (.ref a), .val (.ref k), .val (.ref k)] [(.ref k), (.int (1 : Int32)), (.int (512 : Int32))]))
  obtain ⟨cq104, kq104, q104a, q104b, q104c⟩ := isOf hZ e103 E0_k
  obtain ⟨_, _, ⟨T104, L104, k104, n104⟩, -, X104, ⟨Lc104, hQ104, l104, y104, z104⟩, st104⟩ := X103.virtualBackUp hx (x := (⟨"com/example/classwright/classwright/ConstantKind", "ordinal", "()I"⟩ : MethodName)) (y := (⟨"java/lang/Enum", "ordinal", "()I"⟩ : MethodName)) (owner := "java/lang/Enum") hown (mvT hZ (hw _ (List.mem_of_getElem? (i := 39) rfl))) (mvT hZ (hw _ (List.mem_of_getElem? (i := 40) rfl))) (mvT hZ (hw _ (List.mem_of_getElem? (i := 41) rfl))) (by decide) (mvT hZ (hw _ (List.mem_of_getElem? (i := 43) rfl))) (mvT hZ (hw _ (List.mem_of_getElem? (i := 42) rfl))) (backOf (W := 2) (rmO l Z a0 hw [] k (9 : Int32) h0 n0 Z0 E0_k F0_k_ordinal) hZ (hw _ (List.mem_of_getElem? (i := 45) rfl)) (hw _ (List.mem_of_getElem? (i := 44) rfl)) (by decide) (by decide)) q104a q104c (g := (mkF m 18 #[.val (.ref a), .val (.ref k), .val (.ref k)] [(.ref k), (.int (1 : Int32)), (.int (512 : Int32))])) rfl (by rw [hml]; rfl) (Steps.refl _) (argsL := []) (rest := [(.int (1 : Int32)), (.int (512 : Int32))]) (lenOf pdC512_9_0 rfl) rfl (by show 2 * 0 + _ ≤ _; exact Nat.le_of_eq rfl) (hb hby dC512_9_18) (fun _ _ => ⟨rfl, e103, (by decide : 0 + 0 ≤ _), (by decide : 0 + 0 ≤ _)⟩)
  dsimp only [Pt.U, Pt.locs, Pt.cells, Pt.slots] at X104 l104 y104 z104 st104 hQ104
  subst l104 y104 z104
  obtain ⟨rfl, N104q, eh104⟩ := hQ104
  have N104 := Fr.app N0 N104q
  refine Go.tr st104 ?_
  show Go _ _ _ _ _ _ _ (T104.setTop (mkF m 21 #[.val (.ref a), .val (.ref k), .val (.ref k)] [(.int (9 : Int32)), (.int (1 : Int32)), (.int (512 : Int32))]))
  refine Go.by (fun _ kont => XS.ishl X104.here hx rfl (hb hby dC512_9_21) rfl kont) ?_
  show Go _ _ _ _ _ _ _ (T104.setTop (mkF m 22 #[.val (.ref a), .val (.ref k), .val (.ref k)] [(.int ((1 : Int32) <<< ((9 : Int32) &&& 31))), (.int (512 : Int32))]))
  rw [show ((1 : Int32) <<< ((9 : Int32) &&& 31)) = (512 : Int32) from by decide]
  show Go _ _ _ _ _ _ _ (T104.setTop (mkF m 22 #[.val (.ref a), .val (.ref k), .val (.ref k)] [(.int (512 : Int32)), (.int (512 : Int32))]))
  refine Go.by (fun _ kont => XS.iand X104.here hx rfl (hb hby dC512_9_22) rfl kont) ?_
  show Go _ _ _ _ _ _ _ (T104.setTop (mkF m 23 #[.val (.ref a), .val (.ref k), .val (.ref k)] [(.int ((512 : Int32) &&& (512 : Int32)))]))
  rw [show ((512 : Int32) &&& (512 : Int32)) = (512 : Int32) from by decide]
  show Go _ _ _ _ _ _ _ (T104.setTop (mkF m 23 #[.val (.ref a), .val (.ref k), .val (.ref k)] [(.int (512 : Int32))]))
  refine Go.by (fun _ kont => XS.ifNo X104.here hx rfl (hb hby dC512_9_23) rfl (by decide) (XS.iconst X104.here hx rfl (hb hby dC512_9_26) (XS.goto X104.here hx rfl (pc0 := 27) (pc' := 31) rfl (hb hby dC512_9_27) (by decide) (by decide) kont))) ?_
  show Go _ _ _ _ _ _ _ (T104.setTop (mkF m 31 #[.val (.ref a), .val (.ref k), .val (.ref k)] [(.int (1 : Int32))]))
  refine Go.retN X104 hx (t := .boolean) hret (by simp) hlk (hb hby dC512_9_31) ?_ (by decide) (by decide)
  show QC512_9 Z a k h0 n0 (some (.int (1 : Int32))) T104.heap _
  rw [eh104]
  exact ⟨rfl, N104, rfl⟩

theorem dB512_0 : decode jdk_33_method_49_code 0 = .ok (.iload_n 0, 1) := by decide +kernel
theorem dB512_1 : decode jdk_33_method_49_code 1 = .ok (.iload_n 0, 1) := by decide +kernel
theorem dB512_2 : decode jdk_33_method_49_code 2 = .ok (.iconst 1, 1) := by decide +kernel
theorem dB512_3 : decode jdk_33_method_49_code 3 = .ok (.iushr, 1) := by decide +kernel
theorem dB512_4 : decode jdk_33_method_49_code 4 = .ok (.ldc_w 265, 3) := by decide +kernel
theorem dB512_7 : decode jdk_33_method_49_code 7 = .ok (.iand, 1) := by decide +kernel
theorem dB512_8 : decode jdk_33_method_49_code 8 = .ok (.isub, 1) := by decide +kernel
theorem dB512_9 : decode jdk_33_method_49_code 9 = .ok (.istore_n 0, 1) := by decide +kernel
theorem dB512_10 : decode jdk_33_method_49_code 10 = .ok (.iload_n 0, 1) := by decide +kernel
theorem dB512_11 : decode jdk_33_method_49_code 11 = .ok (.ldc_w 266, 3) := by decide +kernel
theorem dB512_14 : decode jdk_33_method_49_code 14 = .ok (.iand, 1) := by decide +kernel
theorem dB512_15 : decode jdk_33_method_49_code 15 = .ok (.iload_n 0, 1) := by decide +kernel
theorem dB512_16 : decode jdk_33_method_49_code 16 = .ok (.iconst 2, 1) := by decide +kernel
theorem dB512_17 : decode jdk_33_method_49_code 17 = .ok (.iushr, 1) := by decide +kernel
theorem dB512_18 : decode jdk_33_method_49_code 18 = .ok (.ldc_w 266, 3) := by decide +kernel
theorem dB512_21 : decode jdk_33_method_49_code 21 = .ok (.iand, 1) := by decide +kernel
theorem dB512_22 : decode jdk_33_method_49_code 22 = .ok (.iadd, 1) := by decide +kernel
theorem dB512_23 : decode jdk_33_method_49_code 23 = .ok (.istore_n 0, 1) := by decide +kernel
theorem dB512_24 : decode jdk_33_method_49_code 24 = .ok (.iload_n 0, 1) := by decide +kernel
theorem dB512_25 : decode jdk_33_method_49_code 25 = .ok (.iload_n 0, 1) := by decide +kernel
theorem dB512_26 : decode jdk_33_method_49_code 26 = .ok (.iconst 4, 1) := by decide +kernel
theorem dB512_27 : decode jdk_33_method_49_code 27 = .ok (.iushr, 1) := by decide +kernel
theorem dB512_28 : decode jdk_33_method_49_code 28 = .ok (.iadd, 1) := by decide +kernel
theorem dB512_29 : decode jdk_33_method_49_code 29 = .ok (.ldc_w 267, 3) := by decide +kernel
theorem dB512_32 : decode jdk_33_method_49_code 32 = .ok (.iand, 1) := by decide +kernel
theorem dB512_33 : decode jdk_33_method_49_code 33 = .ok (.istore_n 0, 1) := by decide +kernel
theorem dB512_34 : decode jdk_33_method_49_code 34 = .ok (.iload_n 0, 1) := by decide +kernel
theorem dB512_35 : decode jdk_33_method_49_code 35 = .ok (.iload_n 0, 1) := by decide +kernel
theorem dB512_36 : decode jdk_33_method_49_code 36 = .ok (.bipush 8, 2) := by decide +kernel
theorem dB512_38 : decode jdk_33_method_49_code 38 = .ok (.iushr, 1) := by decide +kernel
theorem dB512_39 : decode jdk_33_method_49_code 39 = .ok (.iadd, 1) := by decide +kernel
theorem dB512_40 : decode jdk_33_method_49_code 40 = .ok (.istore_n 0, 1) := by decide +kernel
theorem dB512_41 : decode jdk_33_method_49_code 41 = .ok (.iload_n 0, 1) := by decide +kernel
theorem dB512_42 : decode jdk_33_method_49_code 42 = .ok (.iload_n 0, 1) := by decide +kernel
theorem dB512_43 : decode jdk_33_method_49_code 43 = .ok (.bipush 16, 2) := by decide +kernel
theorem dB512_45 : decode jdk_33_method_49_code 45 = .ok (.iushr, 1) := by decide +kernel
theorem dB512_46 : decode jdk_33_method_49_code 46 = .ok (.iadd, 1) := by decide +kernel
theorem dB512_47 : decode jdk_33_method_49_code 47 = .ok (.istore_n 0, 1) := by decide +kernel
theorem dB512_48 : decode jdk_33_method_49_code 48 = .ok (.iload_n 0, 1) := by decide +kernel
theorem dB512_49 : decode jdk_33_method_49_code 49 = .ok (.bipush 63, 2) := by decide +kernel
theorem dB512_51 : decode jdk_33_method_49_code 51 = .ok (.iand, 1) := by decide +kernel
theorem dB512_52 : decode jdk_33_method_49_code 52 = .ok (.ireturn, 1) := by decide +kernel
theorem pnB512 : plainName "java/lang/Integer" = true := by first | (simp [plainName, overriddenIn]; done) | decide +kernel
theorem efB512 (m : MethodId)  : entryFrame m #[(.int (512 : Int32))] 1 = mkF m 0 #[.val (.int (512 : Int32))] [] := by first | (simp [entryFrame, mkF, argsToLocals, Value.category]; done) | rfl
def QB512 (Z : State)  (h0 : Heap) (n0 : Nat) (v : Option Value) (h : Heap) (L : List Loc) : Prop := (v = some (.int (1 : Int32)) ∧ Fr n0 L ∧ h = h0)
set_option maxRecDepth 65536 in
set_option maxHeartbeats 40000000 in
theorem rmB512 (l : Launch) (Z : State) (a0 : Array Value) (hw : ∀ d ∈ tables_1, d.before a0 Z = true) (ws : List Jvm.Cond)  (h0 : Heap) (n0 : Nat) (Z0 : n0 ≤ h0.size) :
    MetFree l (⟨"java/lang/Integer", "bitCount", "(I)I"⟩ : MethodName) (head1 (Jvm.Cond.code (⟨"java/lang/Integer", "bitCount", "(I)I"⟩ : MethodName) jdk_33_method_49_code 1 (some .int) :: ws) ({ frames := 0, cells := 0, slots := 0, locals := 0 } : Room)) (fun aa_ U_ => aa_ = #[(.int (512 : Int32))] ∧ Z.Warmed39 U_.vm ∧ U_.heap = h0) (fun _ _ _ _ _ => True) (fun _ U_ o_ V_ => ∃ v_ L_, o_ = .returned v_ ∧ QB512 Z  h0 n0 v_ V_.heap L_ ∧ FrameEnd U_ o_ V_ L_ ({ frames := 0, cells := 0, slots := 0, locals := 0 } : Room).cells ({ frames := 0, cells := 0, slots := 0, locals := 0 } : Room).slots) := by
  refine MetFree.of_bodySF (plainFor_of_name pnB512) hisR ?_
  intro p e s m args below meth c s₁ Bd hml0 hP hK
  obtain ⟨rfl, hZ, hh⟩ := hP
  have hx := Bd.exec
  have hby := Bd.bytes
  have hml : c.maxLocals = 1 := hml0
  have hown : s.vm.findClass "java/lang/Integer" = some m.cls := findClass_of_methodNamed Bd.named
  have hnm := (name_of_methodNamed Bd.named Bd.method).1
  have hlk : meth.locks = false := BodyLoose.notSynchronized Bd
  have hret : meth.sig.returnType = (some .int) := Bd.returns
  have X0 : Stand p l e ({ frames := 0, cells := 0, slots := 0, locals := 0 } : Room) s m #[(.int (512 : Int32))] below meth c s₁ [] 0 0 := Stand.of_body Bd
  have e0 : s₁.heap = h0 := by rw [← hh, Bd.state]; rfl
  have N0 := Fr.nil n0
  show Go p e below s ({ frames := 0, cells := 0, slots := 0, locals := 0 } : Room).cells ({ frames := 0, cells := 0, slots := 0, locals := 0 } : Room).slots (QB512 Z  h0 n0) (s₁.setTop (entryFrame m #[(.int (512 : Int32))] 1))
  rw [efB512]
  refine Go.by (fun _ kont => XS.iloadN X0.here hx rfl (hb hby dB512_0) rfl (XS.iloadN X0.here hx rfl (hb hby dB512_1) rfl (XS.iconst X0.here hx rfl (hb hby dB512_2) (XS.iushr X0.here hx rfl (hb hby dB512_3) rfl kont)))) ?_
  show Go _ _ _ _ _ _ _ (s₁.setTop (mkF m 4 #[.val (.int (512 : Int32))] [(.int (((512 : Int32).toUInt32 >>> ((1 : Int32) &&& 31).toUInt32).toInt32)), (.int (512 : Int32))]))
  rw [show (((512 : Int32).toUInt32 >>> ((1 : Int32) &&& 31).toUInt32).toInt32) = (256 : Int32) from by decide]
  show Go _ _ _ _ _ _ _ (s₁.setTop (mkF m 4 #[.val (.int (512 : Int32))] [(.int (256 : Int32)), (.int (512 : Int32))]))
  refine Go.by (fun _ kont => X0.ldcwInt hx hown (mvT hZ (hw _ (List.mem_of_getElem? (i := 61) rfl))) (g := (mkF m 4 #[.val (.int (512 : Int32))] [(.int (256 : Int32)), (.int (512 : Int32))])) rfl (hb hby dB512_4) _ (XS.iand X0.here hx rfl (hb hby dB512_7) rfl kont)) ?_
  show Go _ _ _ _ _ _ _ (s₁.setTop (mkF m 8 #[.val (.int (512 : Int32))] [(.int ((256 : Int32) &&& (1431655765 : Int32))), (.int (512 : Int32))]))
  rw [show ((256 : Int32) &&& (1431655765 : Int32)) = (256 : Int32) from by decide]
  show Go _ _ _ _ _ _ _ (s₁.setTop (mkF m 8 #[.val (.int (512 : Int32))] [(.int (256 : Int32)), (.int (512 : Int32))]))
  refine Go.by (fun _ kont => XS.isub X0.here hx rfl (hb hby dB512_8) rfl kont) ?_
  show Go _ _ _ _ _ _ _ (s₁.setTop (mkF m 9 #[.val (.int (512 : Int32))] [(.int ((512 : Int32) - (256 : Int32)))]))
  rw [show ((512 : Int32) - (256 : Int32)) = (256 : Int32) from by decide]
  show Go _ _ _ _ _ _ _ (s₁.setTop (mkF m 9 #[.val (.int (512 : Int32))] [(.int (256 : Int32))]))
  refine Go.by (fun _ kont => XS.istoreN X0.here hx rfl (hb hby dB512_9) rfl (l' := #[.val (.int (256 : Int32))]) rfl (XS.iloadN X0.here hx rfl (hb hby dB512_10) rfl (X0.ldcwInt hx hown (mvT hZ (hw _ (List.mem_of_getElem? (i := 62) rfl))) (g := (mkF m 11 #[.val (.int (256 : Int32))] [(.int (256 : Int32))])) rfl (hb hby dB512_11) _ (XS.iand X0.here hx rfl (hb hby dB512_14) rfl kont)))) ?_
  show Go _ _ _ _ _ _ _ (s₁.setTop (mkF m 15 #[.val (.int (256 : Int32))] [(.int ((256 : Int32) &&& (858993459 : Int32)))]))
  rw [show ((256 : Int32) &&& (858993459 : Int32)) = (256 : Int32) from by decide]
  show Go _ _ _ _ _ _ _ (s₁.setTop (mkF m 15 #[.val (.int (256 : Int32))] [(.int (256 : Int32))]))
  refine Go.by (fun _ kont => XS.iloadN X0.here hx rfl (hb hby dB512_15) rfl (XS.iconst X0.here hx rfl (hb hby dB512_16) (XS.iushr X0.here hx rfl (hb hby dB512_17) rfl kont))) ?_
  show Go _ _ _ _ _ _ _ (s₁.setTop (mkF m 18 #[.val (.int (256 : Int32))] [(.int (((256 : Int32).toUInt32 >>> ((2 : Int32) &&& 31).toUInt32).toInt32)), (.int (256 : Int32))]))
  rw [show (((256 : Int32).toUInt32 >>> ((2 : Int32) &&& 31).toUInt32).toInt32) = (64 : Int32) from by decide]
  show Go _ _ _ _ _ _ _ (s₁.setTop (mkF m 18 #[.val (.int (256 : Int32))] [(.int (64 : Int32)), (.int (256 : Int32))]))
  refine Go.by (fun _ kont => X0.ldcwInt hx hown (mvT hZ (hw _ (List.mem_of_getElem? (i := 62) rfl))) (g := (mkF m 18 #[.val (.int (256 : Int32))] [(.int (64 : Int32)), (.int (256 : Int32))])) rfl (hb hby dB512_18) _ (XS.iand X0.here hx rfl (hb hby dB512_21) rfl kont)) ?_
  show Go _ _ _ _ _ _ _ (s₁.setTop (mkF m 22 #[.val (.int (256 : Int32))] [(.int ((64 : Int32) &&& (858993459 : Int32))), (.int (256 : Int32))]))
  rw [show ((64 : Int32) &&& (858993459 : Int32)) = (0 : Int32) from by decide]
  show Go _ _ _ _ _ _ _ (s₁.setTop (mkF m 22 #[.val (.int (256 : Int32))] [(.int (0 : Int32)), (.int (256 : Int32))]))
  refine Go.by (fun _ kont => XS.iadd X0.here hx rfl (hb hby dB512_22) rfl kont) ?_
  show Go _ _ _ _ _ _ _ (s₁.setTop (mkF m 23 #[.val (.int (256 : Int32))] [(.int ((256 : Int32) + (0 : Int32)))]))
  rw [show ((256 : Int32) + (0 : Int32)) = (256 : Int32) from by decide]
  show Go _ _ _ _ _ _ _ (s₁.setTop (mkF m 23 #[.val (.int (256 : Int32))] [(.int (256 : Int32))]))
  refine Go.by (fun _ kont => XS.istoreN X0.here hx rfl (hb hby dB512_23) rfl (l' := #[.val (.int (256 : Int32))]) rfl (XS.iloadN X0.here hx rfl (hb hby dB512_24) rfl (XS.iloadN X0.here hx rfl (hb hby dB512_25) rfl (XS.iconst X0.here hx rfl (hb hby dB512_26) (XS.iushr X0.here hx rfl (hb hby dB512_27) rfl kont))))) ?_
  show Go _ _ _ _ _ _ _ (s₁.setTop (mkF m 28 #[.val (.int (256 : Int32))] [(.int (((256 : Int32).toUInt32 >>> ((4 : Int32) &&& 31).toUInt32).toInt32)), (.int (256 : Int32))]))
  rw [show (((256 : Int32).toUInt32 >>> ((4 : Int32) &&& 31).toUInt32).toInt32) = (16 : Int32) from by decide]
  show Go _ _ _ _ _ _ _ (s₁.setTop (mkF m 28 #[.val (.int (256 : Int32))] [(.int (16 : Int32)), (.int (256 : Int32))]))
  refine Go.by (fun _ kont => XS.iadd X0.here hx rfl (hb hby dB512_28) rfl kont) ?_
  show Go _ _ _ _ _ _ _ (s₁.setTop (mkF m 29 #[.val (.int (256 : Int32))] [(.int ((256 : Int32) + (16 : Int32)))]))
  rw [show ((256 : Int32) + (16 : Int32)) = (272 : Int32) from by decide]
  show Go _ _ _ _ _ _ _ (s₁.setTop (mkF m 29 #[.val (.int (256 : Int32))] [(.int (272 : Int32))]))
  refine Go.by (fun _ kont => X0.ldcwInt hx hown (mvT hZ (hw _ (List.mem_of_getElem? (i := 63) rfl))) (g := (mkF m 29 #[.val (.int (256 : Int32))] [(.int (272 : Int32))])) rfl (hb hby dB512_29) _ (XS.iand X0.here hx rfl (hb hby dB512_32) rfl kont)) ?_
  show Go _ _ _ _ _ _ _ (s₁.setTop (mkF m 33 #[.val (.int (256 : Int32))] [(.int ((272 : Int32) &&& (252645135 : Int32)))]))
  rw [show ((272 : Int32) &&& (252645135 : Int32)) = (256 : Int32) from by decide]
  show Go _ _ _ _ _ _ _ (s₁.setTop (mkF m 33 #[.val (.int (256 : Int32))] [(.int (256 : Int32))]))
  refine Go.by (fun _ kont => XS.istoreN X0.here hx rfl (hb hby dB512_33) rfl (l' := #[.val (.int (256 : Int32))]) rfl (XS.iloadN X0.here hx rfl (hb hby dB512_34) rfl (XS.iloadN X0.here hx rfl (hb hby dB512_35) rfl (XS.bipush X0.here hx rfl (hb hby dB512_36) (XS.iushr X0.here hx rfl (hb hby dB512_38) rfl kont))))) ?_
  show Go _ _ _ _ _ _ _ (s₁.setTop (mkF m 39 #[.val (.int (256 : Int32))] [(.int (((256 : Int32).toUInt32 >>> ((8 : Int32) &&& 31).toUInt32).toInt32)), (.int (256 : Int32))]))
  rw [show (((256 : Int32).toUInt32 >>> ((8 : Int32) &&& 31).toUInt32).toInt32) = (1 : Int32) from by decide]
  show Go _ _ _ _ _ _ _ (s₁.setTop (mkF m 39 #[.val (.int (256 : Int32))] [(.int (1 : Int32)), (.int (256 : Int32))]))
  refine Go.by (fun _ kont => XS.iadd X0.here hx rfl (hb hby dB512_39) rfl kont) ?_
  show Go _ _ _ _ _ _ _ (s₁.setTop (mkF m 40 #[.val (.int (256 : Int32))] [(.int ((256 : Int32) + (1 : Int32)))]))
  rw [show ((256 : Int32) + (1 : Int32)) = (257 : Int32) from by decide]
  show Go _ _ _ _ _ _ _ (s₁.setTop (mkF m 40 #[.val (.int (256 : Int32))] [(.int (257 : Int32))]))
  refine Go.by (fun _ kont => XS.istoreN X0.here hx rfl (hb hby dB512_40) rfl (l' := #[.val (.int (257 : Int32))]) rfl (XS.iloadN X0.here hx rfl (hb hby dB512_41) rfl (XS.iloadN X0.here hx rfl (hb hby dB512_42) rfl (XS.bipush X0.here hx rfl (hb hby dB512_43) (XS.iushr X0.here hx rfl (hb hby dB512_45) rfl kont))))) ?_
  show Go _ _ _ _ _ _ _ (s₁.setTop (mkF m 46 #[.val (.int (257 : Int32))] [(.int (((257 : Int32).toUInt32 >>> ((16 : Int32) &&& 31).toUInt32).toInt32)), (.int (257 : Int32))]))
  rw [show (((257 : Int32).toUInt32 >>> ((16 : Int32) &&& 31).toUInt32).toInt32) = (0 : Int32) from by decide]
  show Go _ _ _ _ _ _ _ (s₁.setTop (mkF m 46 #[.val (.int (257 : Int32))] [(.int (0 : Int32)), (.int (257 : Int32))]))
  refine Go.by (fun _ kont => XS.iadd X0.here hx rfl (hb hby dB512_46) rfl kont) ?_
  show Go _ _ _ _ _ _ _ (s₁.setTop (mkF m 47 #[.val (.int (257 : Int32))] [(.int ((257 : Int32) + (0 : Int32)))]))
  rw [show ((257 : Int32) + (0 : Int32)) = (257 : Int32) from by decide]
  show Go _ _ _ _ _ _ _ (s₁.setTop (mkF m 47 #[.val (.int (257 : Int32))] [(.int (257 : Int32))]))
  refine Go.by (fun _ kont => XS.istoreN X0.here hx rfl (hb hby dB512_47) rfl (l' := #[.val (.int (257 : Int32))]) rfl (XS.iloadN X0.here hx rfl (hb hby dB512_48) rfl (XS.bipush X0.here hx rfl (hb hby dB512_49) (XS.iand X0.here hx rfl (hb hby dB512_51) rfl kont)))) ?_
  show Go _ _ _ _ _ _ _ (s₁.setTop (mkF m 52 #[.val (.int (257 : Int32))] [(.int ((257 : Int32) &&& (63 : Int32)))]))
  rw [show ((257 : Int32) &&& (63 : Int32)) = (1 : Int32) from by decide]
  show Go _ _ _ _ _ _ _ (s₁.setTop (mkF m 52 #[.val (.int (257 : Int32))] [(.int (1 : Int32))]))
  refine Go.retI X0 hx hret hlk (hb hby dB512_52) ?_ (by decide) (by decide)
  show QB512 Z  h0 n0 (some (.int (1 : Int32))) s₁.heap _
  rw [e0]
  exact ⟨rfl, N0, rfl⟩

theorem dS512_0 : decode prog_67_method_4_code 0 = .ok (.aload_n 0, 1) := by decide +kernel
theorem dS512_1 : decode prog_67_method_4_code 1 = .ok (.getfield 7, 3) := by decide +kernel
theorem dS512_4 : decode prog_67_method_4_code 4 = .ok (.invokestatic 22, 3) := by decide +kernel
theorem dS512_7 : decode prog_67_method_4_code 7 = .ok (.ireturn, 1) := by decide +kernel
theorem pdS512_0 : parseMethodDescriptor "(I)I" = some ⟨[.int], some .int⟩ := by decide +kernel
theorem pnS512 : plainName "com/example/classwright/classwright/KindSet" = true := by first | (simp [plainName, overriddenIn]; done) | decide +kernel
theorem efS512 (m : MethodId) (a : Addr) : entryFrame m #[(.ref a)] 1 = mkF m 0 #[.val (.ref a)] [] := by first | (simp [entryFrame, mkF, argsToLocals, Value.category]; done) | rfl
def QS512 (Z : State) (a : Addr) (h0 : Heap) (n0 : Nat) (v : Option Value) (h : Heap) (L : List Loc) : Prop := (v = some (.int (1 : Int32)) ∧ Fr n0 L ∧ h = h0)
set_option maxRecDepth 65536 in
set_option maxHeartbeats 40000000 in
theorem rmS512 (l : Launch) (Z : State) (a0 : Array Value) (hw : ∀ d ∈ tables_1, d.before a0 Z = true) (ws : List Jvm.Cond) (a : Addr) (h0 : Heap) (n0 : Nat) (Z0 : n0 ≤ h0.size) (E0_a : Exa Z h0 a "com/example/classwright/classwright/KindSet") (F0_a_bits : Fld Z h0 a "com/example/classwright/classwright/KindSet" "bits" "I" (.int (512 : Int32))) :
    MetFree l (⟨"com/example/classwright/classwright/KindSet", "size", "()I"⟩ : MethodName) (head1 (Jvm.Cond.code (⟨"com/example/classwright/classwright/KindSet", "size", "()I"⟩ : MethodName) prog_67_method_4_code 1 (some .int) :: ws) ({ frames := 1, cells := 0, slots := 0, locals := 12 } : Room)) (fun aa_ U_ => aa_ = #[(.ref a)] ∧ Z.Warmed39 U_.vm ∧ U_.heap = h0) (fun _ _ _ _ _ => True) (fun _ U_ o_ V_ => ∃ v_ L_, o_ = .returned v_ ∧ QS512 Z a h0 n0 v_ V_.heap L_ ∧ FrameEnd U_ o_ V_ L_ ({ frames := 1, cells := 0, slots := 0, locals := 12 } : Room).cells ({ frames := 1, cells := 0, slots := 0, locals := 12 } : Room).slots) := by
  refine MetFree.of_bodySF (plainFor_of_name pnS512) hisR ?_
  intro p e s m args below meth c s₁ Bd hml0 hP hK
  obtain ⟨rfl, hZ, hh⟩ := hP
  have hx := Bd.exec
  have hby := Bd.bytes
  have hml : c.maxLocals = 1 := hml0
  have hown : s.vm.findClass "com/example/classwright/classwright/KindSet" = some m.cls := findClass_of_methodNamed Bd.named
  have hnm := (name_of_methodNamed Bd.named Bd.method).1
  have hlk : meth.locks = false := BodyLoose.notSynchronized Bd
  have hret : meth.sig.returnType = (some .int) := Bd.returns
  have X0 : Stand p l e ({ frames := 1, cells := 0, slots := 0, locals := 12 } : Room) s m #[(.ref a)] below meth c s₁ [] 0 0 := Stand.of_body Bd
  have e0 : s₁.heap = h0 := by rw [← hh, Bd.state]; rfl
  have N0 := Fr.nil n0
  show Go p e below s ({ frames := 1, cells := 0, slots := 0, locals := 12 } : Room).cells ({ frames := 1, cells := 0, slots := 0, locals := 12 } : Room).slots (QS512 Z a h0 n0) (s₁.setTop (entryFrame m #[(.ref a)] 1))
  rw [efS512]
  refine Go.by (fun _ kont => XS.aloadN X0.here hx rfl (hb hby dS512_0) rfl rfl kont) ?_
  show Go _ _ _ _ _ _ _ (s₁.setTop (mkF m 1 #[.val (.ref a)] [(.ref a)]))
  obtain ⟨T101, X101, e101, st101⟩ := getF X0 hx hZ hown (host := "") (Or.inl (hw _ (List.mem_of_getElem? (i := 37) rfl))) Via.refl e0 F0_a_bits (g := (mkF m 1 #[.val (.ref a)] [(.ref a)])) rfl rfl (hb hby dS512_1)
  refine Go.by st101 ?_
  show Go _ _ _ _ _ _ _ (T101.setTop (mkF m 4 #[.val (.ref a)] [(.int (512 : Int32))]))
  obtain ⟨_, _, ⟨T102, L102, k102, n102⟩, -, X102, ⟨Lc102, hQ102, l102, y102, z102⟩, st102⟩ := Jvm.LawKit.callS X101 hx (y := (⟨"java/lang/Integer", "bitCount", "(I)I"⟩ : MethodName)) hown (mvT hZ (hw _ (List.mem_of_getElem? (i := 57) rfl))) (mvT hZ (hw _ (List.mem_of_getElem? (i := 58) rfl))) (mvT hZ (hw _ (List.mem_of_getElem? (i := 59) rfl))) (mvT hZ (hw _ (List.mem_of_getElem? (i := 60) rfl))) (by decide) (backOf (W := 0) (rmB512 l Z a0 hw []  h0 n0 Z0 ) hZ (hw _ (List.mem_of_getElem? (i := 60) rfl)) (hw _ (List.mem_of_getElem? (i := 59) rfl)) (by decide) (by decide)) (g := (mkF m 4 #[.val (.ref a)] [(.int (512 : Int32))])) rfl (by rw [hml]; rfl) (argsL := [(.int (512 : Int32))]) (rest := []) (lenOf pdS512_0 rfl) rfl (by show 2 * 0 + _ ≤ _; exact Nat.le_of_eq rfl) (hb hby dS512_4) (fun _ _ => ⟨rfl, e101, (by decide : 0 + 0 ≤ _), (by decide : 0 + 0 ≤ _)⟩)
  dsimp only [Pt.U, Pt.locs, Pt.cells, Pt.slots] at X102 l102 y102 z102 st102 hQ102
  subst l102 y102 z102
  obtain ⟨rfl, N102q, eh102⟩ := hQ102
  have N102 := Fr.app N0 N102q
  refine Go.by st102 ?_
  show Go _ _ _ _ _ _ _ (T102.setTop (mkF m 7 #[.val (.ref a)] [(.int (1 : Int32))]))
  refine Go.retI X102 hx hret hlk (hb hby dS512_7) ?_ (by decide) (by decide)
  show QS512 Z a h0 n0 (some (.int (1 : Int32))) T102.heap _
  rw [eh102]
  exact ⟨rfl, N102, rfl⟩

theorem dC768_7_0 : decode prog_67_method_3_code 0 = .ok (.aload_n 1, 1) := by decide +kernel
theorem dC768_7_1 : decode prog_67_method_3_code 1 = .ok (.instanceof 14, 3) := by decide +kernel
theorem dC768_7_4 : decode prog_67_method_3_code 4 = .ok (.ifCond .eq 26, 3) := by decide +kernel
theorem dC768_7_7 : decode prog_67_method_3_code 7 = .ok (.aload_n 1, 1) := by decide +kernel
theorem dC768_7_8 : decode prog_67_method_3_code 8 = .ok (.checkcast 14, 3) := by decide +kernel
theorem dC768_7_11 : decode prog_67_method_3_code 11 = .ok (.astore_n 2, 1) := by decide +kernel
theorem dC768_7_12 : decode prog_67_method_3_code 12 = .ok (.aload_n 0, 1) := by decide +kernel
theorem dC768_7_13 : decode prog_67_method_3_code 13 = .ok (.getfield 7, 3) := by decide +kernel
theorem dC768_7_16 : decode prog_67_method_3_code 16 = .ok (.iconst 1, 1) := by decide +kernel
theorem dC768_7_17 : decode prog_67_method_3_code 17 = .ok (.aload_n 2, 1) := by decide +kernel
theorem dC768_7_18 : decode prog_67_method_3_code 18 = .ok (.invokevirtual 13, 3) := by decide +kernel
theorem dC768_7_21 : decode prog_67_method_3_code 21 = .ok (.ishl, 1) := by decide +kernel
theorem dC768_7_22 : decode prog_67_method_3_code 22 = .ok (.iand, 1) := by decide +kernel
theorem dC768_7_23 : decode prog_67_method_3_code 23 = .ok (.ifCond .eq 7, 3) := by decide +kernel
theorem dC768_7_30 : decode prog_67_method_3_code 30 = .ok (.iconst 0, 1) := by decide +kernel
theorem dC768_7_31 : decode prog_67_method_3_code 31 = .ok (.ireturn, 1) := by decide +kernel
theorem pdC768_7_0 : parseMethodDescriptor "()I" = some ⟨[], some .int⟩ := by decide +kernel
theorem pnC768_7 : plainName "com/example/classwright/classwright/KindSet" = true := by first | (simp [plainName, overriddenIn]; done) | decide +kernel
theorem efC768_7 (m : MethodId) (a : Addr) (k : Addr) : entryFrame m #[(.ref a), (.ref k)] 3 = mkF m 0 #[.val (.ref a), .val (.ref k), .unset] [] := by first | (simp [entryFrame, mkF, argsToLocals, Value.category]; done) | rfl
def QC768_7 (Z : State) (a : Addr) (k : Addr) (h0 : Heap) (n0 : Nat) (v : Option Value) (h : Heap) (L : List Loc) : Prop := (v = some (.int (0 : Int32)) ∧ Fr n0 L ∧ h = h0)
set_option maxRecDepth 65536 in
set_option maxHeartbeats 40000000 in
theorem rmC768_7 (l : Launch) (Z : State) (a0 : Array Value) (hw : ∀ d ∈ tables_1, d.before a0 Z = true) (ws : List Jvm.Cond) (a : Addr) (k : Addr) (h0 : Heap) (n0 : Nat) (Z0 : n0 ≤ h0.size) (E0_a : Exa Z h0 a "com/example/classwright/classwright/KindSet") (F0_a_bits : Fld Z h0 a "com/example/classwright/classwright/KindSet" "bits" "I" (.int (768 : Int32))) (E0_k : Exa Z h0 k "com/example/classwright/classwright/ConstantKind") (F0_k_ordinal : Fld Z h0 k "java/lang/Enum" "ordinal" "I" (.int (7 : Int32))) :
    MetFree l (⟨"com/example/classwright/classwright/KindSet", "contains", "(Ljava/lang/Object;)Z"⟩ : MethodName) (head1 (Jvm.Cond.code (⟨"com/example/classwright/classwright/KindSet", "contains", "(Ljava/lang/Object;)Z"⟩ : MethodName) prog_67_method_3_code 3 (some .boolean) :: ws) ({ frames := 1, cells := 0, slots := 0, locals := 14 } : Room)) (fun aa_ U_ => aa_ = #[(.ref a), (.ref k)] ∧ Z.Warmed39 U_.vm ∧ U_.heap = h0) (fun _ _ _ _ _ => True) (fun _ U_ o_ V_ => ∃ v_ L_, o_ = .returned v_ ∧ QC768_7 Z a k h0 n0 v_ V_.heap L_ ∧ FrameEnd U_ o_ V_ L_ ({ frames := 1, cells := 0, slots := 0, locals := 14 } : Room).cells ({ frames := 1, cells := 0, slots := 0, locals := 14 } : Room).slots) := by
  refine MetFree.of_bodySF (plainFor_of_name pnC768_7) hisR ?_
  intro p e s m args below meth c s₁ Bd hml0 hP hK
  obtain ⟨rfl, hZ, hh⟩ := hP
  have hx := Bd.exec
  have hby := Bd.bytes
  have hml : c.maxLocals = 3 := hml0
  have hown : s.vm.findClass "com/example/classwright/classwright/KindSet" = some m.cls := findClass_of_methodNamed Bd.named
  have hnm := (name_of_methodNamed Bd.named Bd.method).1
  have hlk : meth.locks = false := BodyLoose.notSynchronized Bd
  have hret : meth.sig.returnType = (some .boolean) := Bd.returns
  have X0 : Stand p l e ({ frames := 1, cells := 0, slots := 0, locals := 14 } : Room) s m #[(.ref a), (.ref k)] below meth c s₁ [] 0 0 := Stand.of_body Bd
  have e0 : s₁.heap = h0 := by rw [← hh, Bd.state]; rfl
  have N0 := Fr.nil n0
  show Go p e below s ({ frames := 1, cells := 0, slots := 0, locals := 14 } : Room).cells ({ frames := 1, cells := 0, slots := 0, locals := 14 } : Room).slots (QC768_7 Z a k h0 n0) (s₁.setTop (entryFrame m #[(.ref a), (.ref k)] 3))
  rw [efC768_7]
  refine Go.by (fun _ kont => XS.aloadN X0.here hx rfl (hb hby dC768_7_0) rfl rfl kont) ?_
  show Go _ _ _ _ _ _ _ (s₁.setTop (mkF m 1 #[.val (.ref a), .val (.ref k), .unset] [(.ref k)]))
  obtain ⟨T101, X101, e101, st101⟩ := instY X0 hx hZ hown (hw _ (List.mem_of_getElem? (i := 35) rfl)) e0 (Ins.self E0_k) (g := (mkF m 1 #[.val (.ref a), .val (.ref k), .unset] [(.ref k)])) rfl rfl (hb hby dC768_7_1)
  refine Go.by st101 ?_
  show Go _ _ _ _ _ _ _ (T101.setTop (mkF m 4 #[.val (.ref a), .val (.ref k), .unset] [(.int (1 : Int32))]))
  refine Go.by (fun _ kont => XS.ifNo X101.here hx rfl (hb hby dC768_7_4) rfl (by decide) (XS.aloadN X101.here hx rfl (hb hby dC768_7_7) rfl rfl kont)) ?_
  show Go _ _ _ _ _ _ _ (T101.setTop (mkF m 8 #[.val (.ref a), .val (.ref k), .unset] [(.ref k)]))
  obtain ⟨T102, X102, e102, st102⟩ := castY X101 hx hZ hown (hw _ (List.mem_of_getElem? (i := 35) rfl)) e101 (Ins.self E0_k) (g := (mkF m 8 #[.val (.ref a), .val (.ref k), .unset] [(.ref k)])) rfl rfl (hb hby dC768_7_8)
  refine Go.by st102 ?_
  show Go _ _ _ _ _ _ _ (T102.setTop (mkF m 11 #[.val (.ref a), .val (.ref k), .unset] [(.ref k)]))
  refine Go.by (fun _ kont => XS.astoreN X102.here hx rfl (hb hby dC768_7_11) rfl rfl (l' := #[.val (.ref a), .val (.ref k), .val (.ref k)]) rfl (XS.aloadN X102.here hx rfl (hb hby dC768_7_12) rfl rfl kont)) ?_
  show Go _ _ _ _ _ _ _ (T102.setTop (mkF m 13 #[.val (.ref a), .val (.ref k), .val (.ref k)] [(.ref a)]))
  obtain ⟨T103, X103, e103, st103⟩ := getF X102 hx hZ hown (host := "") (Or.inl (hw _ (List.mem_of_getElem? (i := 37) rfl))) Via.refl e102 F0_a_bits (g := (mkF m 13 #[.val (.ref a), .val (.ref k), .val (.ref k)] [(.ref a)])) rfl rfl (hb hby dC768_7_13)
  refine Go.by st103 ?_
  show Go _ _ _ _ _ _ _ (T103.setTop (mkF m 16 #[.val (.ref a), .val (.ref k), .val (.ref k)] [(.int (768 : Int32))]))
  refine Go.by (fun _ kont => XS.iconst X103.here hx rfl (hb hby dC768_7_16) (XS.aloadN X103.here hx rfl (hb hby dC768_7_17) rfl rfl kont)) ?_
  show Go _ _ _ _ _ _ _ (T103.setTop (mkF m 18 #[.val (.ref a), .val (.ref k), .val (.ref k)] [(.ref k), (.int (1 : Int32)), (.int (768 : Int32))]))
  obtain ⟨cq104, kq104, q104a, q104b, q104c⟩ := isOf hZ e103 E0_k
  obtain ⟨_, _, ⟨T104, L104, k104, n104⟩, -, X104, ⟨Lc104, hQ104, l104, y104, z104⟩, st104⟩ := X103.virtualBackUp hx (x := (⟨"com/example/classwright/classwright/ConstantKind", "ordinal", "()I"⟩ : MethodName)) (y := (⟨"java/lang/Enum", "ordinal", "()I"⟩ : MethodName)) (owner := "java/lang/Enum") hown (mvT hZ (hw _ (List.mem_of_getElem? (i := 39) rfl))) (mvT hZ (hw _ (List.mem_of_getElem? (i := 40) rfl))) (mvT hZ (hw _ (List.mem_of_getElem? (i := 41) rfl))) (by decide) (mvT hZ (hw _ (List.mem_of_getElem? (i := 43) rfl))) (mvT hZ (hw _ (List.mem_of_getElem? (i := 42) rfl))) (backOf (W := 2) (rmO l Z a0 hw [] k (7 : Int32) h0 n0 Z0 E0_k F0_k_ordinal) hZ (hw _ (List.mem_of_getElem? (i := 45) rfl)) (hw _ (List.mem_of_getElem? (i := 44) rfl)) (by decide) (by decide)) q104a q104c (g := (mkF m 18 #[.val (.ref a), .val (.ref k), .val (.ref k)] [(.ref k), (.int (1 : Int32)), (.int (768 : Int32))])) rfl (by rw [hml]; rfl) (Steps.refl _) (argsL := []) (rest := [(.int (1 : Int32)), (.int (768 : Int32))]) (lenOf pdC768_7_0 rfl) rfl (by show 2 * 0 + _ ≤ _; exact Nat.le_of_eq rfl) (hb hby dC768_7_18) (fun _ _ => ⟨rfl, e103, (by decide : 0 + 0 ≤ _), (by decide : 0 + 0 ≤ _)⟩)
  dsimp only [Pt.U, Pt.locs, Pt.cells, Pt.slots] at X104 l104 y104 z104 st104 hQ104
  subst l104 y104 z104
  obtain ⟨rfl, N104q, eh104⟩ := hQ104
  have N104 := Fr.app N0 N104q
  refine Go.tr st104 ?_
  show Go _ _ _ _ _ _ _ (T104.setTop (mkF m 21 #[.val (.ref a), .val (.ref k), .val (.ref k)] [(.int (7 : Int32)), (.int (1 : Int32)), (.int (768 : Int32))]))
  refine Go.by (fun _ kont => XS.ishl X104.here hx rfl (hb hby dC768_7_21) rfl kont) ?_
  show Go _ _ _ _ _ _ _ (T104.setTop (mkF m 22 #[.val (.ref a), .val (.ref k), .val (.ref k)] [(.int ((1 : Int32) <<< ((7 : Int32) &&& 31))), (.int (768 : Int32))]))
  rw [show ((1 : Int32) <<< ((7 : Int32) &&& 31)) = (128 : Int32) from by decide]
  show Go _ _ _ _ _ _ _ (T104.setTop (mkF m 22 #[.val (.ref a), .val (.ref k), .val (.ref k)] [(.int (128 : Int32)), (.int (768 : Int32))]))
  refine Go.by (fun _ kont => XS.iand X104.here hx rfl (hb hby dC768_7_22) rfl kont) ?_
  show Go _ _ _ _ _ _ _ (T104.setTop (mkF m 23 #[.val (.ref a), .val (.ref k), .val (.ref k)] [(.int ((768 : Int32) &&& (128 : Int32)))]))
  rw [show ((768 : Int32) &&& (128 : Int32)) = (0 : Int32) from by decide]
  show Go _ _ _ _ _ _ _ (T104.setTop (mkF m 23 #[.val (.ref a), .val (.ref k), .val (.ref k)] [(.int (0 : Int32))]))
  refine Go.by (fun _ kont => XS.ifYes X104.here hx rfl (pc0 := 23) (pc' := 30) rfl (hb hby dC768_7_23) rfl (by decide) (by decide) (by decide) (XS.iconst X104.here hx rfl (hb hby dC768_7_30) kont)) ?_
  show Go _ _ _ _ _ _ _ (T104.setTop (mkF m 31 #[.val (.ref a), .val (.ref k), .val (.ref k)] [(.int (0 : Int32))]))
  refine Go.retN X104 hx (t := .boolean) hret (by simp) hlk (hb hby dC768_7_31) ?_ (by decide) (by decide)
  show QC768_7 Z a k h0 n0 (some (.int (0 : Int32))) T104.heap _
  rw [eh104]
  exact ⟨rfl, N104, rfl⟩

theorem dC768_8_0 : decode prog_67_method_3_code 0 = .ok (.aload_n 1, 1) := by decide +kernel
theorem dC768_8_1 : decode prog_67_method_3_code 1 = .ok (.instanceof 14, 3) := by decide +kernel
theorem dC768_8_4 : decode prog_67_method_3_code 4 = .ok (.ifCond .eq 26, 3) := by decide +kernel
theorem dC768_8_7 : decode prog_67_method_3_code 7 = .ok (.aload_n 1, 1) := by decide +kernel
theorem dC768_8_8 : decode prog_67_method_3_code 8 = .ok (.checkcast 14, 3) := by decide +kernel
theorem dC768_8_11 : decode prog_67_method_3_code 11 = .ok (.astore_n 2, 1) := by decide +kernel
theorem dC768_8_12 : decode prog_67_method_3_code 12 = .ok (.aload_n 0, 1) := by decide +kernel
theorem dC768_8_13 : decode prog_67_method_3_code 13 = .ok (.getfield 7, 3) := by decide +kernel
theorem dC768_8_16 : decode prog_67_method_3_code 16 = .ok (.iconst 1, 1) := by decide +kernel
theorem dC768_8_17 : decode prog_67_method_3_code 17 = .ok (.aload_n 2, 1) := by decide +kernel
theorem dC768_8_18 : decode prog_67_method_3_code 18 = .ok (.invokevirtual 13, 3) := by decide +kernel
theorem dC768_8_21 : decode prog_67_method_3_code 21 = .ok (.ishl, 1) := by decide +kernel
theorem dC768_8_22 : decode prog_67_method_3_code 22 = .ok (.iand, 1) := by decide +kernel
theorem dC768_8_23 : decode prog_67_method_3_code 23 = .ok (.ifCond .eq 7, 3) := by decide +kernel
theorem dC768_8_26 : decode prog_67_method_3_code 26 = .ok (.iconst 1, 1) := by decide +kernel
theorem dC768_8_27 : decode prog_67_method_3_code 27 = .ok (.goto 4, 3) := by decide +kernel
theorem dC768_8_31 : decode prog_67_method_3_code 31 = .ok (.ireturn, 1) := by decide +kernel
theorem pdC768_8_0 : parseMethodDescriptor "()I" = some ⟨[], some .int⟩ := by decide +kernel
theorem pnC768_8 : plainName "com/example/classwright/classwright/KindSet" = true := by first | (simp [plainName, overriddenIn]; done) | decide +kernel
theorem efC768_8 (m : MethodId) (a : Addr) (k : Addr) : entryFrame m #[(.ref a), (.ref k)] 3 = mkF m 0 #[.val (.ref a), .val (.ref k), .unset] [] := by first | (simp [entryFrame, mkF, argsToLocals, Value.category]; done) | rfl
def QC768_8 (Z : State) (a : Addr) (k : Addr) (h0 : Heap) (n0 : Nat) (v : Option Value) (h : Heap) (L : List Loc) : Prop := (v = some (.int (1 : Int32)) ∧ Fr n0 L ∧ h = h0)
set_option maxRecDepth 65536 in
set_option maxHeartbeats 40000000 in
theorem rmC768_8 (l : Launch) (Z : State) (a0 : Array Value) (hw : ∀ d ∈ tables_1, d.before a0 Z = true) (ws : List Jvm.Cond) (a : Addr) (k : Addr) (h0 : Heap) (n0 : Nat) (Z0 : n0 ≤ h0.size) (E0_a : Exa Z h0 a "com/example/classwright/classwright/KindSet") (F0_a_bits : Fld Z h0 a "com/example/classwright/classwright/KindSet" "bits" "I" (.int (768 : Int32))) (E0_k : Exa Z h0 k "com/example/classwright/classwright/ConstantKind") (F0_k_ordinal : Fld Z h0 k "java/lang/Enum" "ordinal" "I" (.int (8 : Int32))) :
    MetFree l (⟨"com/example/classwright/classwright/KindSet", "contains", "(Ljava/lang/Object;)Z"⟩ : MethodName) (head1 (Jvm.Cond.code (⟨"com/example/classwright/classwright/KindSet", "contains", "(Ljava/lang/Object;)Z"⟩ : MethodName) prog_67_method_3_code 3 (some .boolean) :: ws) ({ frames := 1, cells := 0, slots := 0, locals := 14 } : Room)) (fun aa_ U_ => aa_ = #[(.ref a), (.ref k)] ∧ Z.Warmed39 U_.vm ∧ U_.heap = h0) (fun _ _ _ _ _ => True) (fun _ U_ o_ V_ => ∃ v_ L_, o_ = .returned v_ ∧ QC768_8 Z a k h0 n0 v_ V_.heap L_ ∧ FrameEnd U_ o_ V_ L_ ({ frames := 1, cells := 0, slots := 0, locals := 14 } : Room).cells ({ frames := 1, cells := 0, slots := 0, locals := 14 } : Room).slots) := by
  refine MetFree.of_bodySF (plainFor_of_name pnC768_8) hisR ?_
  intro p e s m args below meth c s₁ Bd hml0 hP hK
  obtain ⟨rfl, hZ, hh⟩ := hP
  have hx := Bd.exec
  have hby := Bd.bytes
  have hml : c.maxLocals = 3 := hml0
  have hown : s.vm.findClass "com/example/classwright/classwright/KindSet" = some m.cls := findClass_of_methodNamed Bd.named
  have hnm := (name_of_methodNamed Bd.named Bd.method).1
  have hlk : meth.locks = false := BodyLoose.notSynchronized Bd
  have hret : meth.sig.returnType = (some .boolean) := Bd.returns
  have X0 : Stand p l e ({ frames := 1, cells := 0, slots := 0, locals := 14 } : Room) s m #[(.ref a), (.ref k)] below meth c s₁ [] 0 0 := Stand.of_body Bd
  have e0 : s₁.heap = h0 := by rw [← hh, Bd.state]; rfl
  have N0 := Fr.nil n0
  show Go p e below s ({ frames := 1, cells := 0, slots := 0, locals := 14 } : Room).cells ({ frames := 1, cells := 0, slots := 0, locals := 14 } : Room).slots (QC768_8 Z a k h0 n0) (s₁.setTop (entryFrame m #[(.ref a), (.ref k)] 3))
  rw [efC768_8]
  refine Go.by (fun _ kont => XS.aloadN X0.here hx rfl (hb hby dC768_8_0) rfl rfl kont) ?_
  show Go _ _ _ _ _ _ _ (s₁.setTop (mkF m 1 #[.val (.ref a), .val (.ref k), .unset] [(.ref k)]))
  obtain ⟨T101, X101, e101, st101⟩ := instY X0 hx hZ hown (hw _ (List.mem_of_getElem? (i := 35) rfl)) e0 (Ins.self E0_k) (g := (mkF m 1 #[.val (.ref a), .val (.ref k), .unset] [(.ref k)])) rfl rfl (hb hby dC768_8_1)
  refine Go.by st101 ?_
  show Go _ _ _ _ _ _ _ (T101.setTop (mkF m 4 #[.val (.ref a), .val (.ref k), .unset] [(.int (1 : Int32))]))
  refine Go.by (fun _ kont => XS.ifNo X101.here hx rfl (hb hby dC768_8_4) rfl (by decide) (XS.aloadN X101.here hx rfl (hb hby dC768_8_7) rfl rfl kont)) ?_
  show Go _ _ _ _ _ _ _ (T101.setTop (mkF m 8 #[.val (.ref a), .val (.ref k), .unset] [(.ref k)]))
  obtain ⟨T102, X102, e102, st102⟩ := castY X101 hx hZ hown (hw _ (List.mem_of_getElem? (i := 35) rfl)) e101 (Ins.self E0_k) (g := (mkF m 8 #[.val (.ref a), .val (.ref k), .unset] [(.ref k)])) rfl rfl (hb hby dC768_8_8)
  refine Go.by st102 ?_
  show Go _ _ _ _ _ _ _ (T102.setTop (mkF m 11 #[.val (.ref a), .val (.ref k), .unset] [(.ref k)]))
  refine Go.by (fun _ kont => XS.astoreN X102.here hx rfl (hb hby dC768_8_11) rfl rfl (l' := #[.val (.ref a), .val (.ref k), .val (.ref k)]) rfl (XS.aloadN X102.here hx rfl (hb hby dC768_8_12) rfl rfl kont)) ?_
  show Go _ _ _ _ _ _ _ (T102.setTop (mkF m 13 #[.val (.ref a), .val (.ref k), .val (.ref k)] [(.ref a)]))
  obtain ⟨T103, X103, e103, st103⟩ := getF X102 hx hZ hown (host := "") (Or.inl (hw _ (List.mem_of_getElem? (i := 37) rfl))) Via.refl e102 F0_a_bits (g := (mkF m 13 #[.val (.ref a), .val (.ref k), .val (.ref k)] [(.ref a)])) rfl rfl (hb hby dC768_8_13)
  refine Go.by st103 ?_
  show Go _ _ _ _ _ _ _ (T103.setTop (mkF m 16 #[.val (.ref a), .val (.ref k), .val (.ref k)] [(.int (768 : Int32))]))
  refine Go.by (fun _ kont => XS.iconst X103.here hx rfl (hb hby dC768_8_16) (XS.aloadN X103.here hx rfl (hb hby dC768_8_17) rfl rfl kont)) ?_
  show Go _ _ _ _ _ _ _ (T103.setTop (mkF m 18 #[.val (.ref a), .val (.ref k), .val (.ref k)] [(.ref k), (.int (1 : Int32)), (.int (768 : Int32))]))
  obtain ⟨cq104, kq104, q104a, q104b, q104c⟩ := isOf hZ e103 E0_k
  obtain ⟨_, _, ⟨T104, L104, k104, n104⟩, -, X104, ⟨Lc104, hQ104, l104, y104, z104⟩, st104⟩ := X103.virtualBackUp hx (x := (⟨"com/example/classwright/classwright/ConstantKind", "ordinal", "()I"⟩ : MethodName)) (y := (⟨"java/lang/Enum", "ordinal", "()I"⟩ : MethodName)) (owner := "java/lang/Enum") hown (mvT hZ (hw _ (List.mem_of_getElem? (i := 39) rfl))) (mvT hZ (hw _ (List.mem_of_getElem? (i := 40) rfl))) (mvT hZ (hw _ (List.mem_of_getElem? (i := 41) rfl))) (by decide) (mvT hZ (hw _ (List.mem_of_getElem? (i := 43) rfl))) (mvT hZ (hw _ (List.mem_of_getElem? (i := 42) rfl))) (backOf (W := 2) (rmO l Z a0 hw [] k (8 : Int32) h0 n0 Z0 E0_k F0_k_ordinal) hZ (hw _ (List.mem_of_getElem? (i := 45) rfl)) (hw _ (List.mem_of_getElem? (i := 44) rfl)) (by decide) (by decide)) q104a q104c (g := (mkF m 18 #[.val (.ref a), .val (.ref k), .val (.ref k)] [(.ref k), (.int (1 : Int32)), (.int (768 : Int32))])) rfl (by rw [hml]; rfl) (Steps.refl _) (argsL := []) (rest := [(.int (1 : Int32)), (.int (768 : Int32))]) (lenOf pdC768_8_0 rfl) rfl (by show 2 * 0 + _ ≤ _; exact Nat.le_of_eq rfl) (hb hby dC768_8_18) (fun _ _ => ⟨rfl, e103, (by decide : 0 + 0 ≤ _), (by decide : 0 + 0 ≤ _)⟩)
  dsimp only [Pt.U, Pt.locs, Pt.cells, Pt.slots] at X104 l104 y104 z104 st104 hQ104
  subst l104 y104 z104
  obtain ⟨rfl, N104q, eh104⟩ := hQ104
  have N104 := Fr.app N0 N104q
  refine Go.tr st104 ?_
  show Go _ _ _ _ _ _ _ (T104.setTop (mkF m 21 #[.val (.ref a), .val (.ref k), .val (.ref k)] [(.int (8 : Int32)), (.int (1 : Int32)), (.int (768 : Int32))]))
  refine Go.by (fun _ kont => XS.ishl X104.here hx rfl (hb hby dC768_8_21) rfl kont) ?_
  show Go _ _ _ _ _ _ _ (T104.setTop (mkF m 22 #[.val (.ref a), .val (.ref k), .val (.ref k)] [(.int ((1 : Int32) <<< ((8 : Int32) &&& 31))), (.int (768 : Int32))]))
  rw [show ((1 : Int32) <<< ((8 : Int32) &&& 31)) = (256 : Int32) from by decide]
  show Go _ _ _ _ _ _ _ (T104.setTop (mkF m 22 #[.val (.ref a), .val (.ref k), .val (.ref k)] [(.int (256 : Int32)), (.int (768 : Int32))]))
  refine Go.by (fun _ kont => XS.iand X104.here hx rfl (hb hby dC768_8_22) rfl kont) ?_
  show Go _ _ _ _ _ _ _ (T104.setTop (mkF m 23 #[.val (.ref a), .val (.ref k), .val (.ref k)] [(.int ((768 : Int32) &&& (256 : Int32)))]))
  rw [show ((768 : Int32) &&& (256 : Int32)) = (256 : Int32) from by decide]
  show Go _ _ _ _ _ _ _ (T104.setTop (mkF m 23 #[.val (.ref a), .val (.ref k), .val (.ref k)] [(.int (256 : Int32))]))
  refine Go.by (fun _ kont => XS.ifNo X104.here hx rfl (hb hby dC768_8_23) rfl (by decide) (XS.iconst X104.here hx rfl (hb hby dC768_8_26) (XS.goto X104.here hx rfl (pc0 := 27) (pc' := 31) rfl (hb hby dC768_8_27) (by decide) (by decide) kont))) ?_
  show Go _ _ _ _ _ _ _ (T104.setTop (mkF m 31 #[.val (.ref a), .val (.ref k), .val (.ref k)] [(.int (1 : Int32))]))
  refine Go.retN X104 hx (t := .boolean) hret (by simp) hlk (hb hby dC768_8_31) ?_ (by decide) (by decide)
  show QC768_8 Z a k h0 n0 (some (.int (1 : Int32))) T104.heap _
  rw [eh104]
  exact ⟨rfl, N104, rfl⟩

theorem dC768_9_0 : decode prog_67_method_3_code 0 = .ok (.aload_n 1, 1) := by decide +kernel
theorem dC768_9_1 : decode prog_67_method_3_code 1 = .ok (.instanceof 14, 3) := by decide +kernel
theorem dC768_9_4 : decode prog_67_method_3_code 4 = .ok (.ifCond .eq 26, 3) := by decide +kernel
theorem dC768_9_7 : decode prog_67_method_3_code 7 = .ok (.aload_n 1, 1) := by decide +kernel
theorem dC768_9_8 : decode prog_67_method_3_code 8 = .ok (.checkcast 14, 3) := by decide +kernel
theorem dC768_9_11 : decode prog_67_method_3_code 11 = .ok (.astore_n 2, 1) := by decide +kernel
theorem dC768_9_12 : decode prog_67_method_3_code 12 = .ok (.aload_n 0, 1) := by decide +kernel
theorem dC768_9_13 : decode prog_67_method_3_code 13 = .ok (.getfield 7, 3) := by decide +kernel
theorem dC768_9_16 : decode prog_67_method_3_code 16 = .ok (.iconst 1, 1) := by decide +kernel
theorem dC768_9_17 : decode prog_67_method_3_code 17 = .ok (.aload_n 2, 1) := by decide +kernel
theorem dC768_9_18 : decode prog_67_method_3_code 18 = .ok (.invokevirtual 13, 3) := by decide +kernel
theorem dC768_9_21 : decode prog_67_method_3_code 21 = .ok (.ishl, 1) := by decide +kernel
theorem dC768_9_22 : decode prog_67_method_3_code 22 = .ok (.iand, 1) := by decide +kernel
theorem dC768_9_23 : decode prog_67_method_3_code 23 = .ok (.ifCond .eq 7, 3) := by decide +kernel
theorem dC768_9_26 : decode prog_67_method_3_code 26 = .ok (.iconst 1, 1) := by decide +kernel
theorem dC768_9_27 : decode prog_67_method_3_code 27 = .ok (.goto 4, 3) := by decide +kernel
theorem dC768_9_31 : decode prog_67_method_3_code 31 = .ok (.ireturn, 1) := by decide +kernel
theorem pdC768_9_0 : parseMethodDescriptor "()I" = some ⟨[], some .int⟩ := by decide +kernel
theorem pnC768_9 : plainName "com/example/classwright/classwright/KindSet" = true := by first | (simp [plainName, overriddenIn]; done) | decide +kernel
theorem efC768_9 (m : MethodId) (a : Addr) (k : Addr) : entryFrame m #[(.ref a), (.ref k)] 3 = mkF m 0 #[.val (.ref a), .val (.ref k), .unset] [] := by first | (simp [entryFrame, mkF, argsToLocals, Value.category]; done) | rfl
def QC768_9 (Z : State) (a : Addr) (k : Addr) (h0 : Heap) (n0 : Nat) (v : Option Value) (h : Heap) (L : List Loc) : Prop := (v = some (.int (1 : Int32)) ∧ Fr n0 L ∧ h = h0)
set_option maxRecDepth 65536 in
set_option maxHeartbeats 40000000 in
theorem rmC768_9 (l : Launch) (Z : State) (a0 : Array Value) (hw : ∀ d ∈ tables_1, d.before a0 Z = true) (ws : List Jvm.Cond) (a : Addr) (k : Addr) (h0 : Heap) (n0 : Nat) (Z0 : n0 ≤ h0.size) (E0_a : Exa Z h0 a "com/example/classwright/classwright/KindSet") (F0_a_bits : Fld Z h0 a "com/example/classwright/classwright/KindSet" "bits" "I" (.int (768 : Int32))) (E0_k : Exa Z h0 k "com/example/classwright/classwright/ConstantKind") (F0_k_ordinal : Fld Z h0 k "java/lang/Enum" "ordinal" "I" (.int (9 : Int32))) :
    MetFree l (⟨"com/example/classwright/classwright/KindSet", "contains", "(Ljava/lang/Object;)Z"⟩ : MethodName) (head1 (Jvm.Cond.code (⟨"com/example/classwright/classwright/KindSet", "contains", "(Ljava/lang/Object;)Z"⟩ : MethodName) prog_67_method_3_code 3 (some .boolean) :: ws) ({ frames := 1, cells := 0, slots := 0, locals := 14 } : Room)) (fun aa_ U_ => aa_ = #[(.ref a), (.ref k)] ∧ Z.Warmed39 U_.vm ∧ U_.heap = h0) (fun _ _ _ _ _ => True) (fun _ U_ o_ V_ => ∃ v_ L_, o_ = .returned v_ ∧ QC768_9 Z a k h0 n0 v_ V_.heap L_ ∧ FrameEnd U_ o_ V_ L_ ({ frames := 1, cells := 0, slots := 0, locals := 14 } : Room).cells ({ frames := 1, cells := 0, slots := 0, locals := 14 } : Room).slots) := by
  refine MetFree.of_bodySF (plainFor_of_name pnC768_9) hisR ?_
  intro p e s m args below meth c s₁ Bd hml0 hP hK
  obtain ⟨rfl, hZ, hh⟩ := hP
  have hx := Bd.exec
  have hby := Bd.bytes
  have hml : c.maxLocals = 3 := hml0
  have hown : s.vm.findClass "com/example/classwright/classwright/KindSet" = some m.cls := findClass_of_methodNamed Bd.named
  have hnm := (name_of_methodNamed Bd.named Bd.method).1
  have hlk : meth.locks = false := BodyLoose.notSynchronized Bd
  have hret : meth.sig.returnType = (some .boolean) := Bd.returns
  have X0 : Stand p l e ({ frames := 1, cells := 0, slots := 0, locals := 14 } : Room) s m #[(.ref a), (.ref k)] below meth c s₁ [] 0 0 := Stand.of_body Bd
  have e0 : s₁.heap = h0 := by rw [← hh, Bd.state]; rfl
  have N0 := Fr.nil n0
  show Go p e below s ({ frames := 1, cells := 0, slots := 0, locals := 14 } : Room).cells ({ frames := 1, cells := 0, slots := 0, locals := 14 } : Room).slots (QC768_9 Z a k h0 n0) (s₁.setTop (entryFrame m #[(.ref a), (.ref k)] 3))
  rw [efC768_9]
  refine Go.by (fun _ kont => XS.aloadN X0.here hx rfl (hb hby dC768_9_0) rfl rfl kont) ?_
  show Go _ _ _ _ _ _ _ (s₁.setTop (mkF m 1 #[.val (.ref a), .val (.ref k), .unset] [(.ref k)]))
  obtain ⟨T101, X101, e101, st101⟩ := instY X0 hx hZ hown (hw _ (List.mem_of_getElem? (i := 35) rfl)) e0 (Ins.self E0_k) (g := (mkF m 1 #[.val (.ref a), .val (.ref k), .unset] [(.ref k)])) rfl rfl (hb hby dC768_9_1)
  refine Go.by st101 ?_
  show Go _ _ _ _ _ _ _ (T101.setTop (mkF m 4 #[.val (.ref a), .val (.ref k), .unset] [(.int (1 : Int32))]))
  refine Go.by (fun _ kont => XS.ifNo X101.here hx rfl (hb hby dC768_9_4) rfl (by decide) (XS.aloadN X101.here hx rfl (hb hby dC768_9_7) rfl rfl kont)) ?_
  show Go _ _ _ _ _ _ _ (T101.setTop (mkF m 8 #[.val (.ref a), .val (.ref k), .unset] [(.ref k)]))
  obtain ⟨T102, X102, e102, st102⟩ := castY X101 hx hZ hown (hw _ (List.mem_of_getElem? (i := 35) rfl)) e101 (Ins.self E0_k) (g := (mkF m 8 #[.val (.ref a), .val (.ref k), .unset] [(.ref k)])) rfl rfl (hb hby dC768_9_8)
  refine Go.by st102 ?_
  show Go _ _ _ _ _ _ _ (T102.setTop (mkF m 11 #[.val (.ref a), .val (.ref k), .unset] [(.ref k)]))
  refine Go.by (fun _ kont => XS.astoreN X102.here hx rfl (hb hby dC768_9_11) rfl rfl (l' := #[.val (.ref a), .val (.ref k), .val (.ref k)]) rfl (XS.aloadN X102.here hx rfl (hb hby dC768_9_12) rfl rfl kont)) ?_
  show Go _ _ _ _ _ _ _ (T102.setTop (mkF m 13 #[.val (.ref a), .val (.ref k), .val (.ref k)] [(.ref a)]))
  obtain ⟨T103, X103, e103, st103⟩ := getF X102 hx hZ hown (host := "") (Or.inl (hw _ (List.mem_of_getElem? (i := 37) rfl))) Via.refl e102 F0_a_bits (g := (mkF m 13 #[.val (.ref a), .val (.ref k), .val (.ref k)] [(.ref a)])) rfl rfl (hb hby dC768_9_13)
  refine Go.by st103 ?_
  show Go _ _ _ _ _ _ _ (T103.setTop (mkF m 16 #[.val (.ref a), .val (.ref k), .val (.ref k)] [(.int (768 : Int32))]))
  refine Go.by (fun _ kont => XS.iconst X103.here hx rfl (hb hby dC768_9_16) (XS.aloadN X103.here hx rfl (hb hby dC768_9_17) rfl rfl kont)) ?_
  show Go _ _ _ _ _ _ _ (T103.setTop (mkF m 18 #[.val (.ref a), .val (.ref k), .val (.ref k)] [(.ref k), (.int (1 : Int32)), (.int (768 : Int32))]))
  obtain ⟨cq104, kq104, q104a, q104b, q104c⟩ := isOf hZ e103 E0_k
  obtain ⟨_, _, ⟨T104, L104, k104, n104⟩, -, X104, ⟨Lc104, hQ104, l104, y104, z104⟩, st104⟩ := X103.virtualBackUp hx (x := (⟨"com/example/classwright/classwright/ConstantKind", "ordinal", "()I"⟩ : MethodName)) (y := (⟨"java/lang/Enum", "ordinal", "()I"⟩ : MethodName)) (owner := "java/lang/Enum") hown (mvT hZ (hw _ (List.mem_of_getElem? (i := 39) rfl))) (mvT hZ (hw _ (List.mem_of_getElem? (i := 40) rfl))) (mvT hZ (hw _ (List.mem_of_getElem? (i := 41) rfl))) (by decide) (mvT hZ (hw _ (List.mem_of_getElem? (i := 43) rfl))) (mvT hZ (hw _ (List.mem_of_getElem? (i := 42) rfl))) (backOf (W := 2) (rmO l Z a0 hw [] k (9 : Int32) h0 n0 Z0 E0_k F0_k_ordinal) hZ (hw _ (List.mem_of_getElem? (i := 45) rfl)) (hw _ (List.mem_of_getElem? (i := 44) rfl)) (by decide) (by decide)) q104a q104c (g := (mkF m 18 #[.val (.ref a), .val (.ref k), .val (.ref k)] [(.ref k), (.int (1 : Int32)), (.int (768 : Int32))])) rfl (by rw [hml]; rfl) (Steps.refl _) (argsL := []) (rest := [(.int (1 : Int32)), (.int (768 : Int32))]) (lenOf pdC768_9_0 rfl) rfl (by show 2 * 0 + _ ≤ _; exact Nat.le_of_eq rfl) (hb hby dC768_9_18) (fun _ _ => ⟨rfl, e103, (by decide : 0 + 0 ≤ _), (by decide : 0 + 0 ≤ _)⟩)
  dsimp only [Pt.U, Pt.locs, Pt.cells, Pt.slots] at X104 l104 y104 z104 st104 hQ104
  subst l104 y104 z104
  obtain ⟨rfl, N104q, eh104⟩ := hQ104
  have N104 := Fr.app N0 N104q
  refine Go.tr st104 ?_
  show Go _ _ _ _ _ _ _ (T104.setTop (mkF m 21 #[.val (.ref a), .val (.ref k), .val (.ref k)] [(.int (9 : Int32)), (.int (1 : Int32)), (.int (768 : Int32))]))
  refine Go.by (fun _ kont => XS.ishl X104.here hx rfl (hb hby dC768_9_21) rfl kont) ?_
  show Go _ _ _ _ _ _ _ (T104.setTop (mkF m 22 #[.val (.ref a), .val (.ref k), .val (.ref k)] [(.int ((1 : Int32) <<< ((9 : Int32) &&& 31))), (.int (768 : Int32))]))
  rw [show ((1 : Int32) <<< ((9 : Int32) &&& 31)) = (512 : Int32) from by decide]
  show Go _ _ _ _ _ _ _ (T104.setTop (mkF m 22 #[.val (.ref a), .val (.ref k), .val (.ref k)] [(.int (512 : Int32)), (.int (768 : Int32))]))
  refine Go.by (fun _ kont => XS.iand X104.here hx rfl (hb hby dC768_9_22) rfl kont) ?_
  show Go _ _ _ _ _ _ _ (T104.setTop (mkF m 23 #[.val (.ref a), .val (.ref k), .val (.ref k)] [(.int ((768 : Int32) &&& (512 : Int32)))]))
  rw [show ((768 : Int32) &&& (512 : Int32)) = (512 : Int32) from by decide]
  show Go _ _ _ _ _ _ _ (T104.setTop (mkF m 23 #[.val (.ref a), .val (.ref k), .val (.ref k)] [(.int (512 : Int32))]))
  refine Go.by (fun _ kont => XS.ifNo X104.here hx rfl (hb hby dC768_9_23) rfl (by decide) (XS.iconst X104.here hx rfl (hb hby dC768_9_26) (XS.goto X104.here hx rfl (pc0 := 27) (pc' := 31) rfl (hb hby dC768_9_27) (by decide) (by decide) kont))) ?_
  show Go _ _ _ _ _ _ _ (T104.setTop (mkF m 31 #[.val (.ref a), .val (.ref k), .val (.ref k)] [(.int (1 : Int32))]))
  refine Go.retN X104 hx (t := .boolean) hret (by simp) hlk (hb hby dC768_9_31) ?_ (by decide) (by decide)
  show QC768_9 Z a k h0 n0 (some (.int (1 : Int32))) T104.heap _
  rw [eh104]
  exact ⟨rfl, N104, rfl⟩

theorem dB768_0 : decode jdk_33_method_49_code 0 = .ok (.iload_n 0, 1) := by decide +kernel
theorem dB768_1 : decode jdk_33_method_49_code 1 = .ok (.iload_n 0, 1) := by decide +kernel
theorem dB768_2 : decode jdk_33_method_49_code 2 = .ok (.iconst 1, 1) := by decide +kernel
theorem dB768_3 : decode jdk_33_method_49_code 3 = .ok (.iushr, 1) := by decide +kernel
theorem dB768_4 : decode jdk_33_method_49_code 4 = .ok (.ldc_w 265, 3) := by decide +kernel
theorem dB768_7 : decode jdk_33_method_49_code 7 = .ok (.iand, 1) := by decide +kernel
theorem dB768_8 : decode jdk_33_method_49_code 8 = .ok (.isub, 1) := by decide +kernel
theorem dB768_9 : decode jdk_33_method_49_code 9 = .ok (.istore_n 0, 1) := by decide +kernel
theorem dB768_10 : decode jdk_33_method_49_code 10 = .ok (.iload_n 0, 1) := by decide +kernel
theorem dB768_11 : decode jdk_33_method_49_code 11 = .ok (.ldc_w 266, 3) := by decide +kernel
theorem dB768_14 : decode jdk_33_method_49_code 14 = .ok (.iand, 1) := by decide +kernel
theorem dB768_15 : decode jdk_33_method_49_code 15 = .ok (.iload_n 0, 1) := by decide +kernel
theorem dB768_16 : decode jdk_33_method_49_code 16 = .ok (.iconst 2, 1) := by decide +kernel
theorem dB768_17 : decode jdk_33_method_49_code 17 = .ok (.iushr, 1) := by decide +kernel
theorem dB768_18 : decode jdk_33_method_49_code 18 = .ok (.ldc_w 266, 3) := by decide +kernel
theorem dB768_21 : decode jdk_33_method_49_code 21 = .ok (.iand, 1) := by decide +kernel
theorem dB768_22 : decode jdk_33_method_49_code 22 = .ok (.iadd, 1) := by decide +kernel
theorem dB768_23 : decode jdk_33_method_49_code 23 = .ok (.istore_n 0, 1) := by decide +kernel
theorem dB768_24 : decode jdk_33_method_49_code 24 = .ok (.iload_n 0, 1) := by decide +kernel
theorem dB768_25 : decode jdk_33_method_49_code 25 = .ok (.iload_n 0, 1) := by decide +kernel
theorem dB768_26 : decode jdk_33_method_49_code 26 = .ok (.iconst 4, 1) := by decide +kernel
theorem dB768_27 : decode jdk_33_method_49_code 27 = .ok (.iushr, 1) := by decide +kernel
theorem dB768_28 : decode jdk_33_method_49_code 28 = .ok (.iadd, 1) := by decide +kernel
theorem dB768_29 : decode jdk_33_method_49_code 29 = .ok (.ldc_w 267, 3) := by decide +kernel
theorem dB768_32 : decode jdk_33_method_49_code 32 = .ok (.iand, 1) := by decide +kernel
theorem dB768_33 : decode jdk_33_method_49_code 33 = .ok (.istore_n 0, 1) := by decide +kernel
theorem dB768_34 : decode jdk_33_method_49_code 34 = .ok (.iload_n 0, 1) := by decide +kernel
theorem dB768_35 : decode jdk_33_method_49_code 35 = .ok (.iload_n 0, 1) := by decide +kernel
theorem dB768_36 : decode jdk_33_method_49_code 36 = .ok (.bipush 8, 2) := by decide +kernel
theorem dB768_38 : decode jdk_33_method_49_code 38 = .ok (.iushr, 1) := by decide +kernel
theorem dB768_39 : decode jdk_33_method_49_code 39 = .ok (.iadd, 1) := by decide +kernel
theorem dB768_40 : decode jdk_33_method_49_code 40 = .ok (.istore_n 0, 1) := by decide +kernel
theorem dB768_41 : decode jdk_33_method_49_code 41 = .ok (.iload_n 0, 1) := by decide +kernel
theorem dB768_42 : decode jdk_33_method_49_code 42 = .ok (.iload_n 0, 1) := by decide +kernel
theorem dB768_43 : decode jdk_33_method_49_code 43 = .ok (.bipush 16, 2) := by decide +kernel
theorem dB768_45 : decode jdk_33_method_49_code 45 = .ok (.iushr, 1) := by decide +kernel
theorem dB768_46 : decode jdk_33_method_49_code 46 = .ok (.iadd, 1) := by decide +kernel
theorem dB768_47 : decode jdk_33_method_49_code 47 = .ok (.istore_n 0, 1) := by decide +kernel
theorem dB768_48 : decode jdk_33_method_49_code 48 = .ok (.iload_n 0, 1) := by decide +kernel
theorem dB768_49 : decode jdk_33_method_49_code 49 = .ok (.bipush 63, 2) := by decide +kernel
theorem dB768_51 : decode jdk_33_method_49_code 51 = .ok (.iand, 1) := by decide +kernel
theorem dB768_52 : decode jdk_33_method_49_code 52 = .ok (.ireturn, 1) := by decide +kernel
theorem pnB768 : plainName "java/lang/Integer" = true := by first | (simp [plainName, overriddenIn]; done) | decide +kernel
theorem efB768 (m : MethodId)  : entryFrame m #[(.int (768 : Int32))] 1 = mkF m 0 #[.val (.int (768 : Int32))] [] := by first | (simp [entryFrame, mkF, argsToLocals, Value.category]; done) | rfl
def QB768 (Z : State)  (h0 : Heap) (n0 : Nat) (v : Option Value) (h : Heap) (L : List Loc) : Prop := (v = some (.int (2 : Int32)) ∧ Fr n0 L ∧ h = h0)
set_option maxRecDepth 65536 in
set_option maxHeartbeats 40000000 in
theorem rmB768 (l : Launch) (Z : State) (a0 : Array Value) (hw : ∀ d ∈ tables_1, d.before a0 Z = true) (ws : List Jvm.Cond)  (h0 : Heap) (n0 : Nat) (Z0 : n0 ≤ h0.size) :
    MetFree l (⟨"java/lang/Integer", "bitCount", "(I)I"⟩ : MethodName) (head1 (Jvm.Cond.code (⟨"java/lang/Integer", "bitCount", "(I)I"⟩ : MethodName) jdk_33_method_49_code 1 (some .int) :: ws) ({ frames := 0, cells := 0, slots := 0, locals := 0 } : Room)) (fun aa_ U_ => aa_ = #[(.int (768 : Int32))] ∧ Z.Warmed39 U_.vm ∧ U_.heap = h0) (fun _ _ _ _ _ => True) (fun _ U_ o_ V_ => ∃ v_ L_, o_ = .returned v_ ∧ QB768 Z  h0 n0 v_ V_.heap L_ ∧ FrameEnd U_ o_ V_ L_ ({ frames := 0, cells := 0, slots := 0, locals := 0 } : Room).cells ({ frames := 0, cells := 0, slots := 0, locals := 0 } : Room).slots) := by
  refine MetFree.of_bodySF (plainFor_of_name pnB768) hisR ?_
  intro p e s m args below meth c s₁ Bd hml0 hP hK
  obtain ⟨rfl, hZ, hh⟩ := hP
  have hx := Bd.exec
  have hby := Bd.bytes
  have hml : c.maxLocals = 1 := hml0
  have hown : s.vm.findClass "java/lang/Integer" = some m.cls := findClass_of_methodNamed Bd.named
  have hnm := (name_of_methodNamed Bd.named Bd.method).1
  have hlk : meth.locks = false := BodyLoose.notSynchronized Bd
  have hret : meth.sig.returnType = (some .int) := Bd.returns
  have X0 : Stand p l e ({ frames := 0, cells := 0, slots := 0, locals := 0 } : Room) s m #[(.int (768 : Int32))] below meth c s₁ [] 0 0 := Stand.of_body Bd
  have e0 : s₁.heap = h0 := by rw [← hh, Bd.state]; rfl
  have N0 := Fr.nil n0
  show Go p e below s ({ frames := 0, cells := 0, slots := 0, locals := 0 } : Room).cells ({ frames := 0, cells := 0, slots := 0, locals := 0 } : Room).slots (QB768 Z  h0 n0) (s₁.setTop (entryFrame m #[(.int (768 : Int32))] 1))
  rw [efB768]
  refine Go.by (fun _ kont => XS.iloadN X0.here hx rfl (hb hby dB768_0) rfl (XS.iloadN X0.here hx rfl (hb hby dB768_1) rfl (XS.iconst X0.here hx rfl (hb hby dB768_2) (XS.iushr X0.here hx rfl (hb hby dB768_3) rfl kont)))) ?_
  show Go _ _ _ _ _ _ _ (s₁.setTop (mkF m 4 #[.val (.int (768 : Int32))] [(.int (((768 : Int32).toUInt32 >>> ((1 : Int32) &&& 31).toUInt32).toInt32)), (.int (768 : Int32))]))
  rw [show (((768 : Int32).toUInt32 >>> ((1 : Int32) &&& 31).toUInt32).toInt32) = (384 : Int32) from by decide]
  show Go _ _ _ _ _ _ _ (s₁.setTop (mkF m 4 #[.val (.int (768 : Int32))] [(.int (384 : Int32)), (.int (768 : Int32))]))
  refine Go.by (fun _ kont => X0.ldcwInt hx hown (mvT hZ (hw _ (List.mem_of_getElem? (i := 61) rfl))) (g := (mkF m 4 #[.val (.int (768 : Int32))] [(.int (384 : Int32)), (.int (768 : Int32))])) rfl (hb hby dB768_4) _ (XS.iand X0.here hx rfl (hb hby dB768_7) rfl kont)) ?_
  show Go _ _ _ _ _ _ _ (s₁.setTop (mkF m 8 #[.val (.int (768 : Int32))] [(.int ((384 : Int32) &&& (1431655765 : Int32))), (.int (768 : Int32))]))
  rw [show ((384 : Int32) &&& (1431655765 : Int32)) = (256 : Int32) from by decide]
  show Go _ _ _ _ _ _ _ (s₁.setTop (mkF m 8 #[.val (.int (768 : Int32))] [(.int (256 : Int32)), (.int (768 : Int32))]))
  refine Go.by (fun _ kont => XS.isub X0.here hx rfl (hb hby dB768_8) rfl kont) ?_
  show Go _ _ _ _ _ _ _ (s₁.setTop (mkF m 9 #[.val (.int (768 : Int32))] [(.int ((768 : Int32) - (256 : Int32)))]))
  rw [show ((768 : Int32) - (256 : Int32)) = (512 : Int32) from by decide]
  show Go _ _ _ _ _ _ _ (s₁.setTop (mkF m 9 #[.val (.int (768 : Int32))] [(.int (512 : Int32))]))
  refine Go.by (fun _ kont => XS.istoreN X0.here hx rfl (hb hby dB768_9) rfl (l' := #[.val (.int (512 : Int32))]) rfl (XS.iloadN X0.here hx rfl (hb hby dB768_10) rfl (X0.ldcwInt hx hown (mvT hZ (hw _ (List.mem_of_getElem? (i := 62) rfl))) (g := (mkF m 11 #[.val (.int (512 : Int32))] [(.int (512 : Int32))])) rfl (hb hby dB768_11) _ (XS.iand X0.here hx rfl (hb hby dB768_14) rfl kont)))) ?_
  show Go _ _ _ _ _ _ _ (s₁.setTop (mkF m 15 #[.val (.int (512 : Int32))] [(.int ((512 : Int32) &&& (858993459 : Int32)))]))
  rw [show ((512 : Int32) &&& (858993459 : Int32)) = (512 : Int32) from by decide]
  show Go _ _ _ _ _ _ _ (s₁.setTop (mkF m 15 #[.val (.int (512 : Int32))] [(.int (512 : Int32))]))
  refine Go.by (fun _ kont => XS.iloadN X0.here hx rfl (hb hby dB768_15) rfl (XS.iconst X0.here hx rfl (hb hby dB768_16) (XS.iushr X0.here hx rfl (hb hby dB768_17) rfl kont))) ?_
  show Go _ _ _ _ _ _ _ (s₁.setTop (mkF m 18 #[.val (.int (512 : Int32))] [(.int (((512 : Int32).toUInt32 >>> ((2 : Int32) &&& 31).toUInt32).toInt32)), (.int (512 : Int32))]))
  rw [show (((512 : Int32).toUInt32 >>> ((2 : Int32) &&& 31).toUInt32).toInt32) = (128 : Int32) from by decide]
  show Go _ _ _ _ _ _ _ (s₁.setTop (mkF m 18 #[.val (.int (512 : Int32))] [(.int (128 : Int32)), (.int (512 : Int32))]))
  refine Go.by (fun _ kont => X0.ldcwInt hx hown (mvT hZ (hw _ (List.mem_of_getElem? (i := 62) rfl))) (g := (mkF m 18 #[.val (.int (512 : Int32))] [(.int (128 : Int32)), (.int (512 : Int32))])) rfl (hb hby dB768_18) _ (XS.iand X0.here hx rfl (hb hby dB768_21) rfl kont)) ?_
  show Go _ _ _ _ _ _ _ (s₁.setTop (mkF m 22 #[.val (.int (512 : Int32))] [(.int ((128 : Int32) &&& (858993459 : Int32))), (.int (512 : Int32))]))
  rw [show ((128 : Int32) &&& (858993459 : Int32)) = (0 : Int32) from by decide]
  show Go _ _ _ _ _ _ _ (s₁.setTop (mkF m 22 #[.val (.int (512 : Int32))] [(.int (0 : Int32)), (.int (512 : Int32))]))
  refine Go.by (fun _ kont => XS.iadd X0.here hx rfl (hb hby dB768_22) rfl kont) ?_
  show Go _ _ _ _ _ _ _ (s₁.setTop (mkF m 23 #[.val (.int (512 : Int32))] [(.int ((512 : Int32) + (0 : Int32)))]))
  rw [show ((512 : Int32) + (0 : Int32)) = (512 : Int32) from by decide]
  show Go _ _ _ _ _ _ _ (s₁.setTop (mkF m 23 #[.val (.int (512 : Int32))] [(.int (512 : Int32))]))
  refine Go.by (fun _ kont => XS.istoreN X0.here hx rfl (hb hby dB768_23) rfl (l' := #[.val (.int (512 : Int32))]) rfl (XS.iloadN X0.here hx rfl (hb hby dB768_24) rfl (XS.iloadN X0.here hx rfl (hb hby dB768_25) rfl (XS.iconst X0.here hx rfl (hb hby dB768_26) (XS.iushr X0.here hx rfl (hb hby dB768_27) rfl kont))))) ?_
  show Go _ _ _ _ _ _ _ (s₁.setTop (mkF m 28 #[.val (.int (512 : Int32))] [(.int (((512 : Int32).toUInt32 >>> ((4 : Int32) &&& 31).toUInt32).toInt32)), (.int (512 : Int32))]))
  rw [show (((512 : Int32).toUInt32 >>> ((4 : Int32) &&& 31).toUInt32).toInt32) = (32 : Int32) from by decide]
  show Go _ _ _ _ _ _ _ (s₁.setTop (mkF m 28 #[.val (.int (512 : Int32))] [(.int (32 : Int32)), (.int (512 : Int32))]))
  refine Go.by (fun _ kont => XS.iadd X0.here hx rfl (hb hby dB768_28) rfl kont) ?_
  show Go _ _ _ _ _ _ _ (s₁.setTop (mkF m 29 #[.val (.int (512 : Int32))] [(.int ((512 : Int32) + (32 : Int32)))]))
  rw [show ((512 : Int32) + (32 : Int32)) = (544 : Int32) from by decide]
  show Go _ _ _ _ _ _ _ (s₁.setTop (mkF m 29 #[.val (.int (512 : Int32))] [(.int (544 : Int32))]))
  refine Go.by (fun _ kont => X0.ldcwInt hx hown (mvT hZ (hw _ (List.mem_of_getElem? (i := 63) rfl))) (g := (mkF m 29 #[.val (.int (512 : Int32))] [(.int (544 : Int32))])) rfl (hb hby dB768_29) _ (XS.iand X0.here hx rfl (hb hby dB768_32) rfl kont)) ?_
  show Go _ _ _ _ _ _ _ (s₁.setTop (mkF m 33 #[.val (.int (512 : Int32))] [(.int ((544 : Int32) &&& (252645135 : Int32)))]))
  rw [show ((544 : Int32) &&& (252645135 : Int32)) = (512 : Int32) from by decide]
  show Go _ _ _ _ _ _ _ (s₁.setTop (mkF m 33 #[.val (.int (512 : Int32))] [(.int (512 : Int32))]))
  refine Go.by (fun _ kont => XS.istoreN X0.here hx rfl (hb hby dB768_33) rfl (l' := #[.val (.int (512 : Int32))]) rfl (XS.iloadN X0.here hx rfl (hb hby dB768_34) rfl (XS.iloadN X0.here hx rfl (hb hby dB768_35) rfl (XS.bipush X0.here hx rfl (hb hby dB768_36) (XS.iushr X0.here hx rfl (hb hby dB768_38) rfl kont))))) ?_
  show Go _ _ _ _ _ _ _ (s₁.setTop (mkF m 39 #[.val (.int (512 : Int32))] [(.int (((512 : Int32).toUInt32 >>> ((8 : Int32) &&& 31).toUInt32).toInt32)), (.int (512 : Int32))]))
  rw [show (((512 : Int32).toUInt32 >>> ((8 : Int32) &&& 31).toUInt32).toInt32) = (2 : Int32) from by decide]
  show Go _ _ _ _ _ _ _ (s₁.setTop (mkF m 39 #[.val (.int (512 : Int32))] [(.int (2 : Int32)), (.int (512 : Int32))]))
  refine Go.by (fun _ kont => XS.iadd X0.here hx rfl (hb hby dB768_39) rfl kont) ?_
  show Go _ _ _ _ _ _ _ (s₁.setTop (mkF m 40 #[.val (.int (512 : Int32))] [(.int ((512 : Int32) + (2 : Int32)))]))
  rw [show ((512 : Int32) + (2 : Int32)) = (514 : Int32) from by decide]
  show Go _ _ _ _ _ _ _ (s₁.setTop (mkF m 40 #[.val (.int (512 : Int32))] [(.int (514 : Int32))]))
  refine Go.by (fun _ kont => XS.istoreN X0.here hx rfl (hb hby dB768_40) rfl (l' := #[.val (.int (514 : Int32))]) rfl (XS.iloadN X0.here hx rfl (hb hby dB768_41) rfl (XS.iloadN X0.here hx rfl (hb hby dB768_42) rfl (XS.bipush X0.here hx rfl (hb hby dB768_43) (XS.iushr X0.here hx rfl (hb hby dB768_45) rfl kont))))) ?_
  show Go _ _ _ _ _ _ _ (s₁.setTop (mkF m 46 #[.val (.int (514 : Int32))] [(.int (((514 : Int32).toUInt32 >>> ((16 : Int32) &&& 31).toUInt32).toInt32)), (.int (514 : Int32))]))
  rw [show (((514 : Int32).toUInt32 >>> ((16 : Int32) &&& 31).toUInt32).toInt32) = (0 : Int32) from by decide]
  show Go _ _ _ _ _ _ _ (s₁.setTop (mkF m 46 #[.val (.int (514 : Int32))] [(.int (0 : Int32)), (.int (514 : Int32))]))
  refine Go.by (fun _ kont => XS.iadd X0.here hx rfl (hb hby dB768_46) rfl kont) ?_
  show Go _ _ _ _ _ _ _ (s₁.setTop (mkF m 47 #[.val (.int (514 : Int32))] [(.int ((514 : Int32) + (0 : Int32)))]))
  rw [show ((514 : Int32) + (0 : Int32)) = (514 : Int32) from by decide]
  show Go _ _ _ _ _ _ _ (s₁.setTop (mkF m 47 #[.val (.int (514 : Int32))] [(.int (514 : Int32))]))
  refine Go.by (fun _ kont => XS.istoreN X0.here hx rfl (hb hby dB768_47) rfl (l' := #[.val (.int (514 : Int32))]) rfl (XS.iloadN X0.here hx rfl (hb hby dB768_48) rfl (XS.bipush X0.here hx rfl (hb hby dB768_49) (XS.iand X0.here hx rfl (hb hby dB768_51) rfl kont)))) ?_
  show Go _ _ _ _ _ _ _ (s₁.setTop (mkF m 52 #[.val (.int (514 : Int32))] [(.int ((514 : Int32) &&& (63 : Int32)))]))
  rw [show ((514 : Int32) &&& (63 : Int32)) = (2 : Int32) from by decide]
  show Go _ _ _ _ _ _ _ (s₁.setTop (mkF m 52 #[.val (.int (514 : Int32))] [(.int (2 : Int32))]))
  refine Go.retI X0 hx hret hlk (hb hby dB768_52) ?_ (by decide) (by decide)
  show QB768 Z  h0 n0 (some (.int (2 : Int32))) s₁.heap _
  rw [e0]
  exact ⟨rfl, N0, rfl⟩

theorem dS768_0 : decode prog_67_method_4_code 0 = .ok (.aload_n 0, 1) := by decide +kernel
theorem dS768_1 : decode prog_67_method_4_code 1 = .ok (.getfield 7, 3) := by decide +kernel
theorem dS768_4 : decode prog_67_method_4_code 4 = .ok (.invokestatic 22, 3) := by decide +kernel
theorem dS768_7 : decode prog_67_method_4_code 7 = .ok (.ireturn, 1) := by decide +kernel
theorem pdS768_0 : parseMethodDescriptor "(I)I" = some ⟨[.int], some .int⟩ := by decide +kernel
theorem pnS768 : plainName "com/example/classwright/classwright/KindSet" = true := by first | (simp [plainName, overriddenIn]; done) | decide +kernel
theorem efS768 (m : MethodId) (a : Addr) : entryFrame m #[(.ref a)] 1 = mkF m 0 #[.val (.ref a)] [] := by first | (simp [entryFrame, mkF, argsToLocals, Value.category]; done) | rfl
def QS768 (Z : State) (a : Addr) (h0 : Heap) (n0 : Nat) (v : Option Value) (h : Heap) (L : List Loc) : Prop := (v = some (.int (2 : Int32)) ∧ Fr n0 L ∧ h = h0)
set_option maxRecDepth 65536 in
set_option maxHeartbeats 40000000 in
theorem rmS768 (l : Launch) (Z : State) (a0 : Array Value) (hw : ∀ d ∈ tables_1, d.before a0 Z = true) (ws : List Jvm.Cond) (a : Addr) (h0 : Heap) (n0 : Nat) (Z0 : n0 ≤ h0.size) (E0_a : Exa Z h0 a "com/example/classwright/classwright/KindSet") (F0_a_bits : Fld Z h0 a "com/example/classwright/classwright/KindSet" "bits" "I" (.int (768 : Int32))) :
    MetFree l (⟨"com/example/classwright/classwright/KindSet", "size", "()I"⟩ : MethodName) (head1 (Jvm.Cond.code (⟨"com/example/classwright/classwright/KindSet", "size", "()I"⟩ : MethodName) prog_67_method_4_code 1 (some .int) :: ws) ({ frames := 1, cells := 0, slots := 0, locals := 12 } : Room)) (fun aa_ U_ => aa_ = #[(.ref a)] ∧ Z.Warmed39 U_.vm ∧ U_.heap = h0) (fun _ _ _ _ _ => True) (fun _ U_ o_ V_ => ∃ v_ L_, o_ = .returned v_ ∧ QS768 Z a h0 n0 v_ V_.heap L_ ∧ FrameEnd U_ o_ V_ L_ ({ frames := 1, cells := 0, slots := 0, locals := 12 } : Room).cells ({ frames := 1, cells := 0, slots := 0, locals := 12 } : Room).slots) := by
  refine MetFree.of_bodySF (plainFor_of_name pnS768) hisR ?_
  intro p e s m args below meth c s₁ Bd hml0 hP hK
  obtain ⟨rfl, hZ, hh⟩ := hP
  have hx := Bd.exec
  have hby := Bd.bytes
  have hml : c.maxLocals = 1 := hml0
  have hown : s.vm.findClass "com/example/classwright/classwright/KindSet" = some m.cls := findClass_of_methodNamed Bd.named
  have hnm := (name_of_methodNamed Bd.named Bd.method).1
  have hlk : meth.locks = false := BodyLoose.notSynchronized Bd
  have hret : meth.sig.returnType = (some .int) := Bd.returns
  have X0 : Stand p l e ({ frames := 1, cells := 0, slots := 0, locals := 12 } : Room) s m #[(.ref a)] below meth c s₁ [] 0 0 := Stand.of_body Bd
  have e0 : s₁.heap = h0 := by rw [← hh, Bd.state]; rfl
  have N0 := Fr.nil n0
  show Go p e below s ({ frames := 1, cells := 0, slots := 0, locals := 12 } : Room).cells ({ frames := 1, cells := 0, slots := 0, locals := 12 } : Room).slots (QS768 Z a h0 n0) (s₁.setTop (entryFrame m #[(.ref a)] 1))
  rw [efS768]
  refine Go.by (fun _ kont => XS.aloadN X0.here hx rfl (hb hby dS768_0) rfl rfl kont) ?_
  show Go _ _ _ _ _ _ _ (s₁.setTop (mkF m 1 #[.val (.ref a)] [(.ref a)]))
  obtain ⟨T101, X101, e101, st101⟩ := getF X0 hx hZ hown (host := "") (Or.inl (hw _ (List.mem_of_getElem? (i := 37) rfl))) Via.refl e0 F0_a_bits (g := (mkF m 1 #[.val (.ref a)] [(.ref a)])) rfl rfl (hb hby dS768_1)
  refine Go.by st101 ?_
  show Go _ _ _ _ _ _ _ (T101.setTop (mkF m 4 #[.val (.ref a)] [(.int (768 : Int32))]))
  obtain ⟨_, _, ⟨T102, L102, k102, n102⟩, -, X102, ⟨Lc102, hQ102, l102, y102, z102⟩, st102⟩ := Jvm.LawKit.callS X101 hx (y := (⟨"java/lang/Integer", "bitCount", "(I)I"⟩ : MethodName)) hown (mvT hZ (hw _ (List.mem_of_getElem? (i := 57) rfl))) (mvT hZ (hw _ (List.mem_of_getElem? (i := 58) rfl))) (mvT hZ (hw _ (List.mem_of_getElem? (i := 59) rfl))) (mvT hZ (hw _ (List.mem_of_getElem? (i := 60) rfl))) (by decide) (backOf (W := 0) (rmB768 l Z a0 hw []  h0 n0 Z0 ) hZ (hw _ (List.mem_of_getElem? (i := 60) rfl)) (hw _ (List.mem_of_getElem? (i := 59) rfl)) (by decide) (by decide)) (g := (mkF m 4 #[.val (.ref a)] [(.int (768 : Int32))])) rfl (by rw [hml]; rfl) (argsL := [(.int (768 : Int32))]) (rest := []) (lenOf pdS768_0 rfl) rfl (by show 2 * 0 + _ ≤ _; exact Nat.le_of_eq rfl) (hb hby dS768_4) (fun _ _ => ⟨rfl, e101, (by decide : 0 + 0 ≤ _), (by decide : 0 + 0 ≤ _)⟩)
  dsimp only [Pt.U, Pt.locs, Pt.cells, Pt.slots] at X102 l102 y102 z102 st102 hQ102
  subst l102 y102 z102
  obtain ⟨rfl, N102q, eh102⟩ := hQ102
  have N102 := Fr.app N0 N102q
  refine Go.by st102 ?_
  show Go _ _ _ _ _ _ _ (T102.setTop (mkF m 7 #[.val (.ref a)] [(.int (2 : Int32))]))
  refine Go.retI X102 hx hret hlk (hb hby dS768_7) ?_ (by decide) (by decide)
  show QS768 Z a h0 n0 (some (.int (2 : Int32))) T102.heap _
  rw [eh102]
  exact ⟨rfl, N102, rfl⟩

theorem pd0_0 : parseMethodDescriptor "(I)Lcom/example/classwright/classwright/ReferenceKind;" = some ⟨[.int], some (.object "com/example/classwright/classwright/ReferenceKind")⟩ := by decide +kernel
theorem pd0_1 : parseMethodDescriptor "()I" = some ⟨[], some .int⟩ := by decide +kernel
theorem pd0_2 : parseMethodDescriptor "(I)Lcom/example/classwright/classwright/KindSet;" = some ⟨[.int], some (.object "com/example/classwright/classwright/KindSet")⟩ := by decide +kernel
theorem pd0_3 : parseMethodDescriptor "(Ljava/lang/Object;)Z" = some ⟨[(.object "java/lang/Object")], some .boolean⟩ := by decide +kernel
theorem pn0 : plainName "com/example/classwright/classwright/ReferenceKindTargetKindsPinLaw" = true := by first | (simp [plainName, overriddenIn]; done) | decide +kernel
theorem ef0 (m : MethodId) (k0 : Int32) (mv : Int32) : entryFrame m #[(.int k0), (.int mv)] maxLocals = mkF m 0 #[.val (.int k0), .val (.int mv), .unset, .unset, .unset, .unset, .unset, .unset, .unset, .unset] [] := by first | (simp [entryFrame, mkF, argsToLocals, Value.category, maxLocals]; done) | rfl
def Q0 (Z : State) (h0 : Heap) (n0 : Nat) (v : Option Value) (h : Heap) (L : List Loc) : Prop := v = some (.int 1) ∧ Fr n0 L
set_option maxRecDepth 65536 in
set_option maxHeartbeats 40000000 in
theorem rm0 (l : Launch) (Z : State) (a0 : Array Value) (hw : ∀ d ∈ tables_1, d.before a0 Z = true) (ws : List Jvm.Cond) (k0 : Int32) (mv : Int32) (s_BY_VALUE : Addr) (s_GET_FIELD : Addr) (s_INVOKE_STATIC : Addr) (s_INVOKE_SPECIAL : Addr) (s_FIELDREF : Addr) (s_METHODREF : Addr) (s_INTERFACE_METHODREF : Addr) (s_METHODREF_ : Addr) (s_INVOKE_VIRTUAL : Addr) (s_GET_STATIC : Addr) (s_INVOKE_INTERFACE : Addr) (s_PUT_STATIC : Addr) (s_PUT_FIELD : Addr) (s_NEW_INVOKE_SPECIAL : Addr) (s_GET_FIELD_targets : Addr) (s_INVOKE_STATIC_targets : Addr) (s_INVOKE_VIRTUAL_targets : Addr) (s_GET_STATIC_targets : Addr) (s_INVOKE_SPECIAL_targets : Addr) (s_INVOKE_INTERFACE_targets : Addr) (s_PUT_STATIC_targets : Addr) (s_PUT_FIELD_targets : Addr) (s_NEW_INVOKE_SPECIAL_targets : Addr) (kc_s_BY_VALUE : ClassId) (h0 : Heap) (n0 : Nat) (Z0 : n0 ≤ h0.size) (S_BY_VALUE : Sta Z h0 "com/example/classwright/classwright/ReferenceKind" "BY_VALUE" "[Lcom/example/classwright/classwright/ReferenceKind;" (.ref s_BY_VALUE)) (S_GET_FIELD : Sta Z h0 "com/example/classwright/classwright/ReferenceKind" "GET_FIELD" "Lcom/example/classwright/classwright/ReferenceKind;" (.ref s_GET_FIELD)) (S_INVOKE_STATIC : Sta Z h0 "com/example/classwright/classwright/ReferenceKind" "INVOKE_STATIC" "Lcom/example/classwright/classwright/ReferenceKind;" (.ref s_INVOKE_STATIC)) (S_INVOKE_SPECIAL : Sta Z h0 "com/example/classwright/classwright/ReferenceKind" "INVOKE_SPECIAL" "Lcom/example/classwright/classwright/ReferenceKind;" (.ref s_INVOKE_SPECIAL)) (S_FIELDREF : Sta Z h0 "com/example/classwright/classwright/ConstantKind" "FIELDREF" "Lcom/example/classwright/classwright/ConstantKind;" (.ref s_FIELDREF)) (S_METHODREF : Sta Z h0 "com/example/classwright/classwright/ConstantKind" "METHODREF" "Lcom/example/classwright/classwright/ConstantKind;" (.ref s_METHODREF)) (S_INTERFACE_METHODREF : Sta Z h0 "com/example/classwright/classwright/ConstantKind" "INTERFACE_METHODREF" "Lcom/example/classwright/classwright/ConstantKind;" (.ref s_INTERFACE_METHODREF)) (S_METHODREF_ : Sta Z h0 "com/example/classwright/classwright/ReferenceKind" "METHODREF" "Lcom/example/classwright/classwright/KindSet;" (.ref s_METHODREF_)) (S_INVOKE_VIRTUAL : Sta Z h0 "com/example/classwright/classwright/ReferenceKind" "INVOKE_VIRTUAL" "Lcom/example/classwright/classwright/ReferenceKind;" (.ref s_INVOKE_VIRTUAL)) (S_GET_STATIC : Sta Z h0 "com/example/classwright/classwright/ReferenceKind" "GET_STATIC" "Lcom/example/classwright/classwright/ReferenceKind;" (.ref s_GET_STATIC)) (S_INVOKE_INTERFACE : Sta Z h0 "com/example/classwright/classwright/ReferenceKind" "INVOKE_INTERFACE" "Lcom/example/classwright/classwright/ReferenceKind;" (.ref s_INVOKE_INTERFACE)) (S_PUT_STATIC : Sta Z h0 "com/example/classwright/classwright/ReferenceKind" "PUT_STATIC" "Lcom/example/classwright/classwright/ReferenceKind;" (.ref s_PUT_STATIC)) (S_PUT_FIELD : Sta Z h0 "com/example/classwright/classwright/ReferenceKind" "PUT_FIELD" "Lcom/example/classwright/classwright/ReferenceKind;" (.ref s_PUT_FIELD)) (S_NEW_INVOKE_SPECIAL : Sta Z h0 "com/example/classwright/classwright/ReferenceKind" "NEW_INVOKE_SPECIAL" "Lcom/example/classwright/classwright/ReferenceKind;" (.ref s_NEW_INVOKE_SPECIAL)) (E_s_GET_FIELD : Exa Z h0 s_GET_FIELD "com/example/classwright/classwright/ReferenceKind") (E_s_GET_FIELD_targets : Exa Z h0 s_GET_FIELD_targets "com/example/classwright/classwright/KindSet") (E_s_INVOKE_STATIC : Exa Z h0 s_INVOKE_STATIC "com/example/classwright/classwright/ReferenceKind") (E_s_INVOKE_SPECIAL : Exa Z h0 s_INVOKE_SPECIAL "com/example/classwright/classwright/ReferenceKind") (E_s_FIELDREF : Exa Z h0 s_FIELDREF "com/example/classwright/classwright/ConstantKind") (E_s_METHODREF : Exa Z h0 s_METHODREF "com/example/classwright/classwright/ConstantKind") (E_s_INTERFACE_METHODREF : Exa Z h0 s_INTERFACE_METHODREF "com/example/classwright/classwright/ConstantKind") (E_s_INVOKE_STATIC_targets : Exa Z h0 s_INVOKE_STATIC_targets "com/example/classwright/classwright/KindSet") (E_s_METHODREF_ : Exa Z h0 s_METHODREF_ "com/example/classwright/classwright/KindSet") (E_s_INVOKE_VIRTUAL : Exa Z h0 s_INVOKE_VIRTUAL "com/example/classwright/classwright/ReferenceKind") (E_s_INVOKE_VIRTUAL_targets : Exa Z h0 s_INVOKE_VIRTUAL_targets "com/example/classwright/classwright/KindSet") (E_s_GET_STATIC : Exa Z h0 s_GET_STATIC "com/example/classwright/classwright/ReferenceKind") (E_s_GET_STATIC_targets : Exa Z h0 s_GET_STATIC_targets "com/example/classwright/classwright/KindSet") (E_s_INVOKE_SPECIAL_targets : Exa Z h0 s_INVOKE_SPECIAL_targets "com/example/classwright/classwright/KindSet") (E_s_INVOKE_INTERFACE : Exa Z h0 s_INVOKE_INTERFACE "com/example/classwright/classwright/ReferenceKind") (E_s_INVOKE_INTERFACE_targets : Exa Z h0 s_INVOKE_INTERFACE_targets "com/example/classwright/classwright/KindSet") (E_s_PUT_STATIC : Exa Z h0 s_PUT_STATIC "com/example/classwright/classwright/ReferenceKind") (E_s_PUT_STATIC_targets : Exa Z h0 s_PUT_STATIC_targets "com/example/classwright/classwright/KindSet") (E_s_PUT_FIELD : Exa Z h0 s_PUT_FIELD "com/example/classwright/classwright/ReferenceKind") (E_s_PUT_FIELD_targets : Exa Z h0 s_PUT_FIELD_targets "com/example/classwright/classwright/KindSet") (E_s_NEW_INVOKE_SPECIAL : Exa Z h0 s_NEW_INVOKE_SPECIAL "com/example/classwright/classwright/ReferenceKind") (E_s_NEW_INVOKE_SPECIAL_targets : Exa Z h0 s_NEW_INVOKE_SPECIAL_targets "com/example/classwright/classwright/KindSet") (F_s_GET_FIELD_value : Fld Z h0 s_GET_FIELD "com/example/classwright/classwright/ReferenceKind" "value" "I" (.int (1 : Int32))) (F_s_GET_FIELD_targets : Fld Z h0 s_GET_FIELD "com/example/classwright/classwright/ReferenceKind" "targets" "Lcom/example/classwright/classwright/KindSet;" (.ref s_GET_FIELD_targets)) (F_s_GET_FIELD_ordinal : Fld Z h0 s_GET_FIELD "java/lang/Enum" "ordinal" "I" (.int (0 : Int32))) (F_s_INVOKE_STATIC_ordinal : Fld Z h0 s_INVOKE_STATIC "java/lang/Enum" "ordinal" "I" (.int (5 : Int32))) (F_s_INVOKE_SPECIAL_ordinal : Fld Z h0 s_INVOKE_SPECIAL "java/lang/Enum" "ordinal" "I" (.int (6 : Int32))) (F_s_GET_FIELD_targets_bits : Fld Z h0 s_GET_FIELD_targets "com/example/classwright/classwright/KindSet" "bits" "I" (.int (128 : Int32))) (F_s_FIELDREF_ordinal : Fld Z h0 s_FIELDREF "java/lang/Enum" "ordinal" "I" (.int (7 : Int32))) (F_s_METHODREF_ordinal : Fld Z h0 s_METHODREF "java/lang/Enum" "ordinal" "I" (.int (8 : Int32))) (F_s_INTERFACE_METHODREF_ordinal : Fld Z h0 s_INTERFACE_METHODREF "java/lang/Enum" "ordinal" "I" (.int (9 : Int32))) (F_s_INVOKE_STATIC_value : Fld Z h0 s_INVOKE_STATIC "com/example/classwright/classwright/ReferenceKind" "value" "I" (.int (6 : Int32))) (F_s_INVOKE_STATIC_targets : Fld Z h0 s_INVOKE_STATIC "com/example/classwright/classwright/ReferenceKind" "targets" "Lcom/example/classwright/classwright/KindSet;" (.ref s_INVOKE_STATIC_targets)) (F_s_METHODREF__bits : Fld Z h0 s_METHODREF_ "com/example/classwright/classwright/KindSet" "bits" "I" (.int (256 : Int32))) (F_s_INVOKE_VIRTUAL_value : Fld Z h0 s_INVOKE_VIRTUAL "com/example/classwright/classwright/ReferenceKind" "value" "I" (.int (5 : Int32))) (F_s_INVOKE_VIRTUAL_targets : Fld Z h0 s_INVOKE_VIRTUAL "com/example/classwright/classwright/ReferenceKind" "targets" "Lcom/example/classwright/classwright/KindSet;" (.ref s_INVOKE_VIRTUAL_targets)) (F_s_INVOKE_VIRTUAL_ordinal : Fld Z h0 s_INVOKE_VIRTUAL "java/lang/Enum" "ordinal" "I" (.int (4 : Int32))) (F_s_INVOKE_VIRTUAL_targets_bits : Fld Z h0 s_INVOKE_VIRTUAL_targets "com/example/classwright/classwright/KindSet" "bits" "I" (.int (256 : Int32))) (F_s_GET_STATIC_value : Fld Z h0 s_GET_STATIC "com/example/classwright/classwright/ReferenceKind" "value" "I" (.int (2 : Int32))) (F_s_GET_STATIC_targets : Fld Z h0 s_GET_STATIC "com/example/classwright/classwright/ReferenceKind" "targets" "Lcom/example/classwright/classwright/KindSet;" (.ref s_GET_STATIC_targets)) (F_s_GET_STATIC_ordinal : Fld Z h0 s_GET_STATIC "java/lang/Enum" "ordinal" "I" (.int (1 : Int32))) (F_s_GET_STATIC_targets_bits : Fld Z h0 s_GET_STATIC_targets "com/example/classwright/classwright/KindSet" "bits" "I" (.int (128 : Int32))) (F_s_INVOKE_SPECIAL_value : Fld Z h0 s_INVOKE_SPECIAL "com/example/classwright/classwright/ReferenceKind" "value" "I" (.int (7 : Int32))) (F_s_INVOKE_SPECIAL_targets : Fld Z h0 s_INVOKE_SPECIAL "com/example/classwright/classwright/ReferenceKind" "targets" "Lcom/example/classwright/classwright/KindSet;" (.ref s_INVOKE_SPECIAL_targets)) (F_s_INVOKE_INTERFACE_value : Fld Z h0 s_INVOKE_INTERFACE "com/example/classwright/classwright/ReferenceKind" "value" "I" (.int (9 : Int32))) (F_s_INVOKE_INTERFACE_targets : Fld Z h0 s_INVOKE_INTERFACE "com/example/classwright/classwright/ReferenceKind" "targets" "Lcom/example/classwright/classwright/KindSet;" (.ref s_INVOKE_INTERFACE_targets)) (F_s_INVOKE_INTERFACE_targets_bits : Fld Z h0 s_INVOKE_INTERFACE_targets "com/example/classwright/classwright/KindSet" "bits" "I" (.int (512 : Int32))) (F_s_PUT_STATIC_value : Fld Z h0 s_PUT_STATIC "com/example/classwright/classwright/ReferenceKind" "value" "I" (.int (4 : Int32))) (F_s_PUT_STATIC_targets : Fld Z h0 s_PUT_STATIC "com/example/classwright/classwright/ReferenceKind" "targets" "Lcom/example/classwright/classwright/KindSet;" (.ref s_PUT_STATIC_targets)) (F_s_PUT_STATIC_ordinal : Fld Z h0 s_PUT_STATIC "java/lang/Enum" "ordinal" "I" (.int (3 : Int32))) (F_s_PUT_STATIC_targets_bits : Fld Z h0 s_PUT_STATIC_targets "com/example/classwright/classwright/KindSet" "bits" "I" (.int (128 : Int32))) (F_s_PUT_FIELD_value : Fld Z h0 s_PUT_FIELD "com/example/classwright/classwright/ReferenceKind" "value" "I" (.int (3 : Int32))) (F_s_PUT_FIELD_targets : Fld Z h0 s_PUT_FIELD "com/example/classwright/classwright/ReferenceKind" "targets" "Lcom/example/classwright/classwright/KindSet;" (.ref s_PUT_FIELD_targets)) (F_s_PUT_FIELD_targets_bits : Fld Z h0 s_PUT_FIELD_targets "com/example/classwright/classwright/KindSet" "bits" "I" (.int (128 : Int32))) (F_s_INVOKE_INTERFACE_ordinal : Fld Z h0 s_INVOKE_INTERFACE "java/lang/Enum" "ordinal" "I" (.int (8 : Int32))) (F_s_INVOKE_SPECIAL_targets_bits : Fld Z h0 s_INVOKE_SPECIAL_targets "com/example/classwright/classwright/KindSet" "bits" "I" (.int (768 : Int32))) (F_s_PUT_FIELD_ordinal : Fld Z h0 s_PUT_FIELD "java/lang/Enum" "ordinal" "I" (.int (2 : Int32))) (F_s_NEW_INVOKE_SPECIAL_value : Fld Z h0 s_NEW_INVOKE_SPECIAL "com/example/classwright/classwright/ReferenceKind" "value" "I" (.int (8 : Int32))) (F_s_NEW_INVOKE_SPECIAL_targets : Fld Z h0 s_NEW_INVOKE_SPECIAL "com/example/classwright/classwright/ReferenceKind" "targets" "Lcom/example/classwright/classwright/KindSet;" (.ref s_NEW_INVOKE_SPECIAL_targets)) (F_s_NEW_INVOKE_SPECIAL_targets_bits : Fld Z h0 s_NEW_INVOKE_SPECIAL_targets "com/example/classwright/classwright/KindSet" "bits" "I" (.int (256 : Int32))) (F_s_INVOKE_STATIC_targets_bits : Fld Z h0 s_INVOKE_STATIC_targets "com/example/classwright/classwright/KindSet" "bits" "I" (.int (768 : Int32))) (F_s_NEW_INVOKE_SPECIAL_ordinal : Fld Z h0 s_NEW_INVOKE_SPECIAL "java/lang/Enum" "ordinal" "I" (.int (7 : Int32))) (V_s_BY_VALUE : Arv Z h0 s_BY_VALUE kc_s_BY_VALUE (.object "com/example/classwright/classwright/ReferenceKind") (9 : Int32) [(.ref s_GET_FIELD), (.ref s_GET_STATIC), (.ref s_PUT_FIELD), (.ref s_PUT_STATIC), (.ref s_INVOKE_VIRTUAL), (.ref s_INVOKE_STATIC), (.ref s_INVOKE_SPECIAL), (.ref s_NEW_INVOKE_SPECIAL), (.ref s_INVOKE_INTERFACE)] .null) :
    MetFree l x (head1 (Jvm.Cond.code x code maxLocals ret :: ws) room_1) (fun aa_ U_ => aa_ = #[(.int k0), (.int mv)] ∧ Z.Warmed39 U_.vm ∧ U_.heap = h0) (fun _ _ _ _ _ => True) (fun _ U_ o_ V_ => ∃ v_ L_, o_ = .returned v_ ∧ Q0 Z h0 n0 v_ V_.heap L_ ∧ FrameEnd U_ o_ V_ L_ 0 0) := by
  refine MetFree.of_bodySF (plainFor_of_name pn0) hisR ?_
  intro p e s m args below meth c s₁ Bd hml0 hP hK
  obtain ⟨rfl, hZ, hh⟩ := hP
  have hx := Bd.exec
  have hby := Bd.bytes
  have hml : c.maxLocals = 10 := hml0
  have hown : s.vm.findClass "com/example/classwright/classwright/ReferenceKindTargetKindsPinLaw" = some m.cls := findClass_of_methodNamed Bd.named
  have hnm := (name_of_methodNamed Bd.named Bd.method).1
  have hlk : meth.locks = false := BodyLoose.notSynchronized Bd
  have hret : meth.sig.returnType = (some .boolean) := Bd.returns
  have X0 : Stand p l e room_1 s m #[(.int k0), (.int mv)] below meth c s₁ [] 0 0 := Stand.of_body Bd
  have e0 : s₁.heap = h0 := by rw [← hh, Bd.state]; rfl
  have N0 := Fr.nil n0
  show Go p e below s 0 0 (Q0 Z h0 n0) (s₁.setTop (entryFrame m #[(.int k0), (.int mv)] maxLocals))
  rw [ef0]
  have ne_s_GET_FIELD_s_INVOKE_STATIC : s_GET_FIELD ≠ s_INVOKE_STATIC := Fld.ne F_s_GET_FIELD_ordinal F_s_INVOKE_STATIC_ordinal (by decide)
  have ne_s_GET_FIELD_s_INVOKE_SPECIAL : s_GET_FIELD ≠ s_INVOKE_SPECIAL := Fld.ne F_s_GET_FIELD_ordinal F_s_INVOKE_SPECIAL_ordinal (by decide)
  have ne_s_GET_STATIC_s_INVOKE_STATIC : s_GET_STATIC ≠ s_INVOKE_STATIC := Fld.ne F_s_GET_STATIC_ordinal F_s_INVOKE_STATIC_ordinal (by decide)
  have ne_s_GET_STATIC_s_INVOKE_SPECIAL : s_GET_STATIC ≠ s_INVOKE_SPECIAL := Fld.ne F_s_GET_STATIC_ordinal F_s_INVOKE_SPECIAL_ordinal (by decide)
  have ne_s_PUT_FIELD_s_INVOKE_STATIC : s_PUT_FIELD ≠ s_INVOKE_STATIC := Fld.ne F_s_PUT_FIELD_ordinal F_s_INVOKE_STATIC_ordinal (by decide)
  have ne_s_PUT_FIELD_s_INVOKE_SPECIAL : s_PUT_FIELD ≠ s_INVOKE_SPECIAL := Fld.ne F_s_PUT_FIELD_ordinal F_s_INVOKE_SPECIAL_ordinal (by decide)
  have ne_s_PUT_STATIC_s_INVOKE_STATIC : s_PUT_STATIC ≠ s_INVOKE_STATIC := Fld.ne F_s_PUT_STATIC_ordinal F_s_INVOKE_STATIC_ordinal (by decide)
  have ne_s_PUT_STATIC_s_INVOKE_SPECIAL : s_PUT_STATIC ≠ s_INVOKE_SPECIAL := Fld.ne F_s_PUT_STATIC_ordinal F_s_INVOKE_SPECIAL_ordinal (by decide)
  have ne_s_INVOKE_VIRTUAL_s_INVOKE_STATIC : s_INVOKE_VIRTUAL ≠ s_INVOKE_STATIC := Fld.ne F_s_INVOKE_VIRTUAL_ordinal F_s_INVOKE_STATIC_ordinal (by decide)
  have ne_s_INVOKE_VIRTUAL_s_INVOKE_SPECIAL : s_INVOKE_VIRTUAL ≠ s_INVOKE_SPECIAL := Fld.ne F_s_INVOKE_VIRTUAL_ordinal F_s_INVOKE_SPECIAL_ordinal (by decide)
  have ne_s_INVOKE_STATIC_s_INVOKE_SPECIAL : s_INVOKE_STATIC ≠ s_INVOKE_SPECIAL := Fld.ne F_s_INVOKE_STATIC_ordinal F_s_INVOKE_SPECIAL_ordinal (by decide)
  have ne_s_NEW_INVOKE_SPECIAL_s_INVOKE_STATIC : s_NEW_INVOKE_SPECIAL ≠ s_INVOKE_STATIC := Fld.ne F_s_NEW_INVOKE_SPECIAL_ordinal F_s_INVOKE_STATIC_ordinal (by decide)
  have ne_s_NEW_INVOKE_SPECIAL_s_INVOKE_SPECIAL : s_NEW_INVOKE_SPECIAL ≠ s_INVOKE_SPECIAL := Fld.ne F_s_NEW_INVOKE_SPECIAL_ordinal F_s_INVOKE_SPECIAL_ordinal (by decide)
  have ne_s_INVOKE_INTERFACE_s_INVOKE_STATIC : s_INVOKE_INTERFACE ≠ s_INVOKE_STATIC := Fld.ne F_s_INVOKE_INTERFACE_ordinal F_s_INVOKE_STATIC_ordinal (by decide)
  have ne_s_INVOKE_INTERFACE_s_INVOKE_SPECIAL : s_INVOKE_INTERFACE ≠ s_INVOKE_SPECIAL := Fld.ne F_s_INVOKE_INTERFACE_ordinal F_s_INVOKE_SPECIAL_ordinal (by decide)
  refine Go.by (fun _ kont => XS.iloadN X0.here hx rfl (hb hby at_0) rfl (X0.ldcInt hx hown (mvT hZ (hw _ (List.mem_of_getElem? (i := 0) rfl))) (g := (mkF m 1 #[.val (.int k0), .val (.int mv), .unset, .unset, .unset, .unset, .unset, .unset, .unset, .unset] [(.int k0)])) rfl (hb hby at_1) _ (XS.iand X0.here hx rfl (hb hby at_3) rfl (XS.bipush X0.here hx rfl (hb hby at_4) (iremM X0 hx rfl (hb hby at_6) rfl (by decide) (XS.iconst X0.here hx rfl (hb hby at_7) (XS.iadd X0.here hx rfl (hb hby at_8) rfl (XS.istoreN X0.here hx rfl (hb hby at_9) rfl (l' := #[.val (.int k0), .val (.int mv), .val (.int (((k0 &&& (2147483647 : Int32)) % (9 : Int32)) + (1 : Int32))), .unset, .unset, .unset, .unset, .unset, .unset, .unset]) rfl kont)))))))) ?_
  show Go _ _ _ _ _ _ _ (s₁.setTop (mkF m 10 #[.val (.int k0), .val (.int mv), .val (.int (((k0 &&& (2147483647 : Int32)) % (9 : Int32)) + (1 : Int32))), .unset, .unset, .unset, .unset, .unset, .unset, .unset] []))
  have C_vv := own_m9 k0
  generalize hg_vv : (((k0 &&& (2147483647 : Int32)) % (9 : Int32)) + (1 : Int32)) = vv at C_vv ⊢
  rcases C_vv with rfl | rfl | rfl | rfl | rfl | rfl | rfl | rfl | rfl
  · show Go _ _ _ _ _ _ _ (s₁.setTop (mkF m 10 #[.val (.int k0), .val (.int mv), .val (.int (1 : Int32)), .unset, .unset, .unset, .unset, .unset, .unset, .unset] []))
    refine Go.by (fun _ kont => XS.iloadN X0.here hx rfl (hb hby at_10) rfl kont) ?_
    show Go _ _ _ _ _ _ _ (s₁.setTop (mkF m 11 #[.val (.int k0), .val (.int mv), .val (.int (1 : Int32)), .unset, .unset, .unset, .unset, .unset, .unset, .unset] [(.int (1 : Int32))]))
    obtain ⟨_, _, ⟨T101, L101, k101, n101⟩, -, X101, ⟨Lc101, hQ101, l101, y101, z101⟩, st101⟩ := Jvm.LawKit.callS X0 hx (y := (⟨"com/example/classwright/classwright/ReferenceKind", "forByte", "(I)Lcom/example/classwright/classwright/ReferenceKind;"⟩ : MethodName)) hown (mvT hZ (hw _ (List.mem_of_getElem? (i := 1) rfl))) (mvT hZ (hw _ (List.mem_of_getElem? (i := 2) rfl))) (mvT hZ (hw _ (List.mem_of_getElem? (i := 3) rfl))) (mvT hZ (hw _ (List.mem_of_getElem? (i := 4) rfl))) (by decide) (backOf (W := 0) (rmF1 l Z a0 hw [] s_BY_VALUE kc_s_BY_VALUE s_GET_FIELD s_GET_STATIC s_PUT_FIELD s_PUT_STATIC s_INVOKE_VIRTUAL s_INVOKE_STATIC s_INVOKE_SPECIAL s_NEW_INVOKE_SPECIAL s_INVOKE_INTERFACE h0 n0 Z0 V_s_BY_VALUE S_BY_VALUE) hZ (hw _ (List.mem_of_getElem? (i := 4) rfl)) (hw _ (List.mem_of_getElem? (i := 3) rfl)) (by decide) (by decide)) (g := (mkF m 11 #[.val (.int k0), .val (.int mv), .val (.int (1 : Int32)), .unset, .unset, .unset, .unset, .unset, .unset, .unset] [(.int (1 : Int32))])) rfl (by rw [hml]; rfl) (argsL := [(.int (1 : Int32))]) (rest := []) (lenOf pd0_0 rfl) rfl (by show 2 * 0 + _ ≤ _; exact Nat.le_of_eq rfl) (hb hby at_11) (fun _ _ => ⟨rfl, e0, (by decide : 0 + 0 ≤ _), (by decide : 0 + 0 ≤ _)⟩)
    dsimp only [Pt.U, Pt.locs, Pt.cells, Pt.slots] at X101 l101 y101 z101 st101 hQ101
    subst l101 y101 z101
    obtain ⟨rfl, N101q, eh101⟩ := hQ101
    have N101 := Fr.app N0 N101q
    refine Go.by st101 ?_
    show Go _ _ _ _ _ _ _ (T101.setTop (mkF m 14 #[.val (.int k0), .val (.int mv), .val (.int (1 : Int32)), .unset, .unset, .unset, .unset, .unset, .unset, .unset] [(.ref s_GET_FIELD)]))
    refine Go.by (fun _ kont => XS.astoreN X101.here hx rfl (hb hby at_14) rfl rfl (l' := #[.val (.int k0), .val (.int mv), .val (.int (1 : Int32)), .val (.ref s_GET_FIELD), .unset, .unset, .unset, .unset, .unset, .unset]) rfl (XS.aloadN X101.here hx rfl (hb hby at_15) rfl rfl (XS.ifnullNo X101.here hx rfl (hb hby at_16) rfl (XS.aloadN X101.here hx rfl (hb hby at_19) rfl rfl kont)))) ?_
    show Go _ _ _ _ _ _ _ (T101.setTop (mkF m 20 #[.val (.int k0), .val (.int mv), .val (.int (1 : Int32)), .val (.ref s_GET_FIELD), .unset, .unset, .unset, .unset, .unset, .unset] [(.ref s_GET_FIELD)]))
    obtain ⟨cq102, kq102, q102a, q102b, q102c⟩ := isOf hZ eh101 E_s_GET_FIELD
    obtain ⟨_, _, ⟨T102, L102, k102, n102⟩, -, X102, ⟨Lc102, hQ102, l102, y102, z102⟩, st102⟩ := X101.virtualBack hx (y := (⟨"com/example/classwright/classwright/ReferenceKind", "value", "()I"⟩ : MethodName)) (z := (⟨"com/example/classwright/classwright/ReferenceKind", "value", "()I"⟩ : MethodName)) hown (mvT hZ (hw _ (List.mem_of_getElem? (i := 8) rfl))) (mvT hZ (hw _ (List.mem_of_getElem? (i := 9) rfl))) (notFace_of_selects (args := #[]) (mvT hZ (hw _ (List.mem_of_getElem? (i := 11) rfl)))) (mvT hZ (hw _ (List.mem_of_getElem? (i := 11) rfl))) (mvT hZ (hw _ (List.mem_of_getElem? (i := 10) rfl))) (by decide) (backOf (W := 0) (rmV l Z a0 hw [] s_GET_FIELD (1 : Int32) h0 n0 Z0 E_s_GET_FIELD F_s_GET_FIELD_value) hZ (hw _ (List.mem_of_getElem? (i := 12) rfl)) (hw _ (List.mem_of_getElem? (i := 3) rfl)) (by decide) (by decide)) q102a q102c (g := (mkF m 20 #[.val (.int k0), .val (.int mv), .val (.int (1 : Int32)), .val (.ref s_GET_FIELD), .unset, .unset, .unset, .unset, .unset, .unset] [(.ref s_GET_FIELD)])) rfl (by rw [hml]; rfl) (Steps.refl _) (argsL := []) (rest := []) (lenOf pd0_1 rfl) rfl (by show 2 * 0 + _ ≤ _; exact Nat.le_of_eq rfl) (hb hby at_20) (fun _ _ => ⟨rfl, eh101, (by decide : 0 + 0 ≤ _), (by decide : 0 + 0 ≤ _)⟩)
    dsimp only [Pt.U, Pt.locs, Pt.cells, Pt.slots] at X102 l102 y102 z102 st102 hQ102
    subst l102 y102 z102
    obtain ⟨rfl, N102q, eh102⟩ := hQ102
    have N102 := Fr.app N101 N102q
    refine Go.tr st102 ?_
    show Go _ _ _ _ _ _ _ (T102.setTop (mkF m 23 #[.val (.int k0), .val (.int mv), .val (.int (1 : Int32)), .val (.ref s_GET_FIELD), .unset, .unset, .unset, .unset, .unset, .unset] [(.int (1 : Int32))]))
    refine Go.by (fun _ kont => XS.iloadN X102.here hx rfl (hb hby at_23) rfl (XS.icmpYes X102.here hx rfl (pc0 := 24) (pc' := 29) rfl (hb hby at_24) rfl (by decide) (by decide) (by decide) kont)) ?_
    show Go _ _ _ _ _ _ _ (T102.setTop (mkF m 29 #[.val (.int k0), .val (.int mv), .val (.int (1 : Int32)), .val (.ref s_GET_FIELD), .unset, .unset, .unset, .unset, .unset, .unset] []))
    by_cases hmv : mv < (52 : Int32)
    · show Go _ _ _ _ _ _ _ (T102.setTop (mkF m 29 #[.val (.int k0), .val (.int mv), .val (.int (1 : Int32)), .val (.ref s_GET_FIELD), .unset, .unset, .unset, .unset, .unset, .unset] []))
      refine Go.by (fun _ kont => XS.aloadN X102.here hx rfl (hb hby at_29) rfl rfl (XS.iloadN X102.here hx rfl (hb hby at_30) rfl kont)) ?_
      show Go _ _ _ _ _ _ _ (T102.setTop (mkF m 31 #[.val (.int k0), .val (.int mv), .val (.int (1 : Int32)), .val (.ref s_GET_FIELD), .unset, .unset, .unset, .unset, .unset, .unset] [(.int mv), (.ref s_GET_FIELD)]))
      obtain ⟨cq103, kq103, q103a, q103b, q103c⟩ := isOf hZ eh102 E_s_GET_FIELD
      obtain ⟨_, _, ⟨T103, L103, k103, n103⟩, -, X103, ⟨Lc103, hQ103, l103, y103, z103⟩, st103⟩ := X102.virtualBack hx (y := (⟨"com/example/classwright/classwright/ReferenceKind", "targetKinds", "(I)Lcom/example/classwright/classwright/KindSet;"⟩ : MethodName)) (z := (⟨"com/example/classwright/classwright/ReferenceKind", "targetKinds", "(I)Lcom/example/classwright/classwright/KindSet;"⟩ : MethodName)) hown (mvT hZ (hw _ (List.mem_of_getElem? (i := 15) rfl))) (mvT hZ (hw _ (List.mem_of_getElem? (i := 16) rfl))) (notFace_of_selects (args := #[]) (mvT hZ (hw _ (List.mem_of_getElem? (i := 18) rfl)))) (mvT hZ (hw _ (List.mem_of_getElem? (i := 18) rfl))) (mvT hZ (hw _ (List.mem_of_getElem? (i := 17) rfl))) (by decide) (backOf (W := 0) (rmTe l Z a0 hw [] s_GET_FIELD mv s_GET_FIELD_targets s_INVOKE_STATIC s_INVOKE_SPECIAL s_METHODREF_ h0 n0 Z0 E_s_GET_FIELD F_s_GET_FIELD_targets ne_s_GET_FIELD_s_INVOKE_STATIC ne_s_GET_FIELD_s_INVOKE_SPECIAL S_INVOKE_STATIC S_INVOKE_SPECIAL S_METHODREF_ hmv) hZ (hw _ (List.mem_of_getElem? (i := 19) rfl)) (hw _ (List.mem_of_getElem? (i := 3) rfl)) (by decide) (by decide)) q103a q103c (g := (mkF m 31 #[.val (.int k0), .val (.int mv), .val (.int (1 : Int32)), .val (.ref s_GET_FIELD), .unset, .unset, .unset, .unset, .unset, .unset] [(.int mv), (.ref s_GET_FIELD)])) rfl (by rw [hml]; rfl) (Steps.refl _) (argsL := [(.int mv)]) (rest := []) (lenOf pd0_2 rfl) rfl (by show 2 * 0 + _ ≤ _; exact Nat.le_of_eq rfl) (hb hby at_31) (fun _ _ => ⟨rfl, eh102, (by decide : 0 + 0 ≤ _), (by decide : 0 + 0 ≤ _)⟩)
      dsimp only [Pt.U, Pt.locs, Pt.cells, Pt.slots] at X103 l103 y103 z103 st103 hQ103
      subst l103 y103 z103
      obtain ⟨rfl, N103q, eh103⟩ := hQ103
      have N103 := Fr.app N102 N103q
      refine Go.tr st103 ?_
      show Go _ _ _ _ _ _ _ (T103.setTop (mkF m 34 #[.val (.int k0), .val (.int mv), .val (.int (1 : Int32)), .val (.ref s_GET_FIELD), .unset, .unset, .unset, .unset, .unset, .unset] [(.ref s_GET_FIELD_targets)]))
      refine Go.by (fun _ kont => XS.astore X103.here hx rfl (hb hby at_34) rfl rfl (l' := #[.val (.int k0), .val (.int mv), .val (.int (1 : Int32)), .val (.ref s_GET_FIELD), .val (.ref s_GET_FIELD_targets), .unset, .unset, .unset, .unset, .unset]) rfl (XS.iloadN X103.here hx rfl (hb hby at_36) rfl (XS.bipush X103.here hx rfl (hb hby at_37) kont))) ?_
      show Go _ _ _ _ _ _ _ (T103.setTop (mkF m 39 #[.val (.int k0), .val (.int mv), .val (.int (1 : Int32)), .val (.ref s_GET_FIELD), .val (.ref s_GET_FIELD_targets), .unset, .unset, .unset, .unset, .unset] [(.int (52 : Int32)), (.int mv)]))
      refine Go.by (fun _ kont => XS.icmpYes X103.here hx rfl (pc0 := 39) (pc' := 46) rfl (hb hby at_39) rfl (tlt hmv).1 (by decide) (by decide) kont) ?_
      show Go _ _ _ _ _ _ _ (T103.setTop (mkF m 46 #[.val (.int k0), .val (.int mv), .val (.int (1 : Int32)), .val (.ref s_GET_FIELD), .val (.ref s_GET_FIELD_targets), .unset, .unset, .unset, .unset, .unset] []))
      refine Go.by (fun _ kont => XS.iconst X103.here hx rfl (hb hby at_46) (XS.istore X103.here hx rfl (hb hby at_47) rfl (l' := #[.val (.int k0), .val (.int mv), .val (.int (1 : Int32)), .val (.ref s_GET_FIELD), .val (.ref s_GET_FIELD_targets), .val (.int (0 : Int32)), .unset, .unset, .unset, .unset]) rfl (XS.iloadN X103.here hx rfl (hb hby at_49) rfl (XS.iconst X103.here hx rfl (hb hby at_50) (XS.icmpNo X103.here hx rfl (hb hby at_51) rfl (by decide) (XS.iconst X103.here hx rfl (hb hby at_54) (XS.goto X103.here hx rfl (pc0 := 55) (pc' := 59) rfl (hb hby at_55) (by decide) (by decide) (XS.istore X103.here hx rfl (hb hby at_59) rfl (l' := #[.val (.int k0), .val (.int mv), .val (.int (1 : Int32)), .val (.ref s_GET_FIELD), .val (.ref s_GET_FIELD_targets), .val (.int (0 : Int32)), .val (.int (1 : Int32)), .unset, .unset, .unset]) rfl (XS.iloadN X103.here hx rfl (hb hby at_61) rfl (XS.iconst X103.here hx rfl (hb hby at_62) (XS.icmpYes X103.here hx rfl (pc0 := 63) (pc' := 76) rfl (hb hby at_63) rfl (by decide) (by decide) (by decide) (XS.iconst X103.here hx rfl (hb hby at_76) kont)))))))))))) ?_
      show Go _ _ _ _ _ _ _ (T103.setTop (mkF m 77 #[.val (.int k0), .val (.int mv), .val (.int (1 : Int32)), .val (.ref s_GET_FIELD), .val (.ref s_GET_FIELD_targets), .val (.int (0 : Int32)), .val (.int (1 : Int32)), .unset, .unset, .unset] [(.int (0 : Int32))]))
      refine Go.by (fun _ kont => XS.istore X103.here hx rfl (hb hby at_77) rfl (l' := #[.val (.int k0), .val (.int mv), .val (.int (1 : Int32)), .val (.ref s_GET_FIELD), .val (.ref s_GET_FIELD_targets), .val (.int (0 : Int32)), .val (.int (1 : Int32)), .val (.int (0 : Int32)), .unset, .unset]) rfl (XS.iloadN X103.here hx rfl (hb hby at_79) rfl (XS.bipush X103.here hx rfl (hb hby at_80) (XS.icmpNo X103.here hx rfl (hb hby at_82) rfl (by decide) (XS.iloadN X103.here hx rfl (hb hby at_85) rfl (XS.bipush X103.here hx rfl (hb hby at_86) (XS.icmpNo X103.here hx rfl (hb hby at_88) rfl (by decide) (XS.iloadN X103.here hx rfl (hb hby at_91) rfl (XS.bipush X103.here hx rfl (hb hby at_92) (XS.icmpYes X103.here hx rfl (pc0 := 94) (pc' := 106) rfl (hb hby at_94) rfl (by decide) (by decide) (by decide) (XS.iconst X103.here hx rfl (hb hby at_106) (XS.istore X103.here hx rfl (hb hby at_107) rfl (l' := #[.val (.int k0), .val (.int mv), .val (.int (1 : Int32)), .val (.ref s_GET_FIELD), .val (.ref s_GET_FIELD_targets), .val (.int (0 : Int32)), .val (.int (1 : Int32)), .val (.int (0 : Int32)), .val (.int (0 : Int32)), .unset]) rfl kont)))))))))))) ?_
      show Go _ _ _ _ _ _ _ (T103.setTop (mkF m 109 #[.val (.int k0), .val (.int mv), .val (.int (1 : Int32)), .val (.ref s_GET_FIELD), .val (.ref s_GET_FIELD_targets), .val (.int (0 : Int32)), .val (.int (1 : Int32)), .val (.int (0 : Int32)), .val (.int (0 : Int32)), .unset] []))
      refine Go.by (fun _ kont => XS.iload X103.here hx rfl (hb hby at_109) rfl (XS.ifNo X103.here hx rfl (hb hby at_111) rfl (by decide) (XS.iconst X103.here hx rfl (hb hby at_114) (XS.goto X103.here hx rfl (pc0 := 115) (pc' := 119) rfl (hb hby at_115) (by decide) (by decide) (XS.iload X103.here hx rfl (hb hby at_119) rfl (XS.ifYes X103.here hx rfl (pc0 := 121) (pc' := 128) rfl (hb hby at_121) rfl (by decide) (by decide) (by decide) (XS.iconst X103.here hx rfl (hb hby at_128) (XS.iadd X103.here hx rfl (hb hby at_129) rfl kont)))))))) ?_
      show Go _ _ _ _ _ _ _ (T103.setTop (mkF m 130 #[.val (.int k0), .val (.int mv), .val (.int (1 : Int32)), .val (.ref s_GET_FIELD), .val (.ref s_GET_FIELD_targets), .val (.int (0 : Int32)), .val (.int (1 : Int32)), .val (.int (0 : Int32)), .val (.int (0 : Int32)), .unset] [(.int ((1 : Int32) + (0 : Int32)))]))
      rw [show ((1 : Int32) + (0 : Int32)) = (1 : Int32) from by decide]
      show Go _ _ _ _ _ _ _ (T103.setTop (mkF m 130 #[.val (.int k0), .val (.int mv), .val (.int (1 : Int32)), .val (.ref s_GET_FIELD), .val (.ref s_GET_FIELD_targets), .val (.int (0 : Int32)), .val (.int (1 : Int32)), .val (.int (0 : Int32)), .val (.int (0 : Int32)), .unset] [(.int (1 : Int32))]))
      refine Go.by (fun _ kont => XS.iload X103.here hx rfl (hb hby at_130) rfl (XS.ifYes X103.here hx rfl (pc0 := 132) (pc' := 139) rfl (hb hby at_132) rfl (by decide) (by decide) (by decide) (XS.iconst X103.here hx rfl (hb hby at_139) (XS.iadd X103.here hx rfl (hb hby at_140) rfl kont)))) ?_
      show Go _ _ _ _ _ _ _ (T103.setTop (mkF m 141 #[.val (.int k0), .val (.int mv), .val (.int (1 : Int32)), .val (.ref s_GET_FIELD), .val (.ref s_GET_FIELD_targets), .val (.int (0 : Int32)), .val (.int (1 : Int32)), .val (.int (0 : Int32)), .val (.int (0 : Int32)), .unset] [(.int ((1 : Int32) + (0 : Int32)))]))
      rw [show ((1 : Int32) + (0 : Int32)) = (1 : Int32) from by decide]
      show Go _ _ _ _ _ _ _ (T103.setTop (mkF m 141 #[.val (.int k0), .val (.int mv), .val (.int (1 : Int32)), .val (.ref s_GET_FIELD), .val (.ref s_GET_FIELD_targets), .val (.int (0 : Int32)), .val (.int (1 : Int32)), .val (.int (0 : Int32)), .val (.int (0 : Int32)), .unset] [(.int (1 : Int32))]))
      refine Go.by (fun _ kont => XS.istore X103.here hx rfl (hb hby at_141) rfl (l' := #[.val (.int k0), .val (.int mv), .val (.int (1 : Int32)), .val (.ref s_GET_FIELD), .val (.ref s_GET_FIELD_targets), .val (.int (0 : Int32)), .val (.int (1 : Int32)), .val (.int (0 : Int32)), .val (.int (0 : Int32)), .val (.int (1 : Int32))]) rfl (XS.aload X103.here hx rfl (hb hby at_143) rfl rfl kont)) ?_
      show Go _ _ _ _ _ _ _ (T103.setTop (mkF m 145 #[.val (.int k0), .val (.int mv), .val (.int (1 : Int32)), .val (.ref s_GET_FIELD), .val (.ref s_GET_FIELD_targets), .val (.int (0 : Int32)), .val (.int (1 : Int32)), .val (.int (0 : Int32)), .val (.int (0 : Int32)), .val (.int (1 : Int32))] [(.ref s_GET_FIELD_targets)]))
      obtain ⟨T104, X104, e104, st104⟩ := getS2 X103 hx hZ hown (host := "") (Or.inl (hw _ (List.mem_of_getElem? (i := 26) rfl))) Via.refl eh103 S_FIELDREF (g := (mkF m 145 #[.val (.int k0), .val (.int mv), .val (.int (1 : Int32)), .val (.ref s_GET_FIELD), .val (.ref s_GET_FIELD_targets), .val (.int (0 : Int32)), .val (.int (1 : Int32)), .val (.int (0 : Int32)), .val (.int (0 : Int32)), .val (.int (1 : Int32))] [(.ref s_GET_FIELD_targets)])) rfl (hb hby at_145)
      refine Go.by st104 ?_
      show Go _ _ _ _ _ _ _ (T104.setTop (mkF m 148 #[.val (.int k0), .val (.int mv), .val (.int (1 : Int32)), .val (.ref s_GET_FIELD), .val (.ref s_GET_FIELD_targets), .val (.int (0 : Int32)), .val (.int (1 : Int32)), .val (.int (0 : Int32)), .val (.int (0 : Int32)), .val (.int (1 : Int32))] [(.ref s_FIELDREF), (.ref s_GET_FIELD_targets)]))
      obtain ⟨cq105, kq105, q105a, q105b, q105c⟩ := isOf hZ e104 E_s_GET_FIELD_targets
      obtain ⟨_, _, ⟨T105, L105, k105, n105⟩, -, X105, ⟨Lc105, hQ105, l105, y105, z105⟩, st105⟩ := X104.virtualBack hx (y := (⟨"com/example/classwright/classwright/KindSet", "contains", "(Ljava/lang/Object;)Z"⟩ : MethodName)) (z := (⟨"com/example/classwright/classwright/KindSet", "contains", "(Ljava/lang/Object;)Z"⟩ : MethodName)) hown (mvT hZ (hw _ (List.mem_of_getElem? (i := 29) rfl))) (mvT hZ (hw _ (List.mem_of_getElem? (i := 30) rfl))) (notFace_of_selects (args := #[]) (mvT hZ (hw _ (List.mem_of_getElem? (i := 32) rfl)))) (mvT hZ (hw _ (List.mem_of_getElem? (i := 32) rfl))) (mvT hZ (hw _ (List.mem_of_getElem? (i := 31) rfl))) (by decide) (backOf (W := 0) (rmC128_7 l Z a0 hw [] s_GET_FIELD_targets s_FIELDREF h0 n0 Z0 E_s_GET_FIELD_targets F_s_GET_FIELD_targets_bits E_s_FIELDREF F_s_FIELDREF_ordinal) hZ (hw _ (List.mem_of_getElem? (i := 34) rfl)) (hw _ (List.mem_of_getElem? (i := 33) rfl)) (by decide) (by decide)) q105a q105c (g := (mkF m 148 #[.val (.int k0), .val (.int mv), .val (.int (1 : Int32)), .val (.ref s_GET_FIELD), .val (.ref s_GET_FIELD_targets), .val (.int (0 : Int32)), .val (.int (1 : Int32)), .val (.int (0 : Int32)), .val (.int (0 : Int32)), .val (.int (1 : Int32))] [(.ref s_FIELDREF), (.ref s_GET_FIELD_targets)])) rfl (by rw [hml]; rfl) (Steps.refl _) (argsL := [(.ref s_FIELDREF)]) (rest := []) (lenOf pd0_3 rfl) rfl (by show 2 * 0 + _ ≤ _; exact Nat.le_of_eq rfl) (hb hby at_148) (fun _ _ => ⟨rfl, e104, (by decide : 0 + 0 ≤ _), (by decide : 0 + 0 ≤ _)⟩)
      dsimp only [Pt.U, Pt.locs, Pt.cells, Pt.slots] at X105 l105 y105 z105 st105 hQ105
      subst l105 y105 z105
      obtain ⟨rfl, N105q, eh105⟩ := hQ105
      have N105 := Fr.app N103 N105q
      refine Go.tr st105 ?_
      show Go _ _ _ _ _ _ _ (T105.setTop (mkF m 151 #[.val (.int k0), .val (.int mv), .val (.int (1 : Int32)), .val (.ref s_GET_FIELD), .val (.ref s_GET_FIELD_targets), .val (.int (0 : Int32)), .val (.int (1 : Int32)), .val (.int (0 : Int32)), .val (.int (0 : Int32)), .val (.int (1 : Int32))] [(.int (1 : Int32))]))
      refine Go.by (fun _ kont => XS.iload X105.here hx rfl (hb hby at_151) rfl (XS.icmpNo X105.here hx rfl (hb hby at_153) rfl (by decide) (XS.aload X105.here hx rfl (hb hby at_156) rfl rfl kont))) ?_
      show Go _ _ _ _ _ _ _ (T105.setTop (mkF m 158 #[.val (.int k0), .val (.int mv), .val (.int (1 : Int32)), .val (.ref s_GET_FIELD), .val (.ref s_GET_FIELD_targets), .val (.int (0 : Int32)), .val (.int (1 : Int32)), .val (.int (0 : Int32)), .val (.int (0 : Int32)), .val (.int (1 : Int32))] [(.ref s_GET_FIELD_targets)]))
      obtain ⟨T106, X106, e106, st106⟩ := getS2 X105 hx hZ hown (host := "") (Or.inl (hw _ (List.mem_of_getElem? (i := 48) rfl))) Via.refl eh105 S_METHODREF (g := (mkF m 158 #[.val (.int k0), .val (.int mv), .val (.int (1 : Int32)), .val (.ref s_GET_FIELD), .val (.ref s_GET_FIELD_targets), .val (.int (0 : Int32)), .val (.int (1 : Int32)), .val (.int (0 : Int32)), .val (.int (0 : Int32)), .val (.int (1 : Int32))] [(.ref s_GET_FIELD_targets)])) rfl (hb hby at_158)
      refine Go.by st106 ?_
      show Go _ _ _ _ _ _ _ (T106.setTop (mkF m 161 #[.val (.int k0), .val (.int mv), .val (.int (1 : Int32)), .val (.ref s_GET_FIELD), .val (.ref s_GET_FIELD_targets), .val (.int (0 : Int32)), .val (.int (1 : Int32)), .val (.int (0 : Int32)), .val (.int (0 : Int32)), .val (.int (1 : Int32))] [(.ref s_METHODREF), (.ref s_GET_FIELD_targets)]))
      obtain ⟨cq107, kq107, q107a, q107b, q107c⟩ := isOf hZ e106 E_s_GET_FIELD_targets
      obtain ⟨_, _, ⟨T107, L107, k107, n107⟩, -, X107, ⟨Lc107, hQ107, l107, y107, z107⟩, st107⟩ := X106.virtualBack hx (y := (⟨"com/example/classwright/classwright/KindSet", "contains", "(Ljava/lang/Object;)Z"⟩ : MethodName)) (z := (⟨"com/example/classwright/classwright/KindSet", "contains", "(Ljava/lang/Object;)Z"⟩ : MethodName)) hown (mvT hZ (hw _ (List.mem_of_getElem? (i := 29) rfl))) (mvT hZ (hw _ (List.mem_of_getElem? (i := 30) rfl))) (notFace_of_selects (args := #[]) (mvT hZ (hw _ (List.mem_of_getElem? (i := 32) rfl)))) (mvT hZ (hw _ (List.mem_of_getElem? (i := 32) rfl))) (mvT hZ (hw _ (List.mem_of_getElem? (i := 31) rfl))) (by decide) (backOf (W := 0) (rmC128_8 l Z a0 hw [] s_GET_FIELD_targets s_METHODREF h0 n0 Z0 E_s_GET_FIELD_targets F_s_GET_FIELD_targets_bits E_s_METHODREF F_s_METHODREF_ordinal) hZ (hw _ (List.mem_of_getElem? (i := 34) rfl)) (hw _ (List.mem_of_getElem? (i := 33) rfl)) (by decide) (by decide)) q107a q107c (g := (mkF m 161 #[.val (.int k0), .val (.int mv), .val (.int (1 : Int32)), .val (.ref s_GET_FIELD), .val (.ref s_GET_FIELD_targets), .val (.int (0 : Int32)), .val (.int (1 : Int32)), .val (.int (0 : Int32)), .val (.int (0 : Int32)), .val (.int (1 : Int32))] [(.ref s_METHODREF), (.ref s_GET_FIELD_targets)])) rfl (by rw [hml]; rfl) (Steps.refl _) (argsL := [(.ref s_METHODREF)]) (rest := []) (lenOf pd0_3 rfl) rfl (by show 2 * 0 + _ ≤ _; exact Nat.le_of_eq rfl) (hb hby at_161) (fun _ _ => ⟨rfl, e106, (by decide : 0 + 0 ≤ _), (by decide : 0 + 0 ≤ _)⟩)
      dsimp only [Pt.U, Pt.locs, Pt.cells, Pt.slots] at X107 l107 y107 z107 st107 hQ107
      subst l107 y107 z107
      obtain ⟨rfl, N107q, eh107⟩ := hQ107
      have N107 := Fr.app N105 N107q
      refine Go.tr st107 ?_
      show Go _ _ _ _ _ _ _ (T107.setTop (mkF m 164 #[.val (.int k0), .val (.int mv), .val (.int (1 : Int32)), .val (.ref s_GET_FIELD), .val (.ref s_GET_FIELD_targets), .val (.int (0 : Int32)), .val (.int (1 : Int32)), .val (.int (0 : Int32)), .val (.int (0 : Int32)), .val (.int (1 : Int32))] [(.int (0 : Int32))]))
      refine Go.by (fun _ kont => XS.iload X107.here hx rfl (hb hby at_164) rfl (XS.icmpNo X107.here hx rfl (hb hby at_166) rfl (by decide) (XS.aload X107.here hx rfl (hb hby at_169) rfl rfl kont))) ?_
      show Go _ _ _ _ _ _ _ (T107.setTop (mkF m 171 #[.val (.int k0), .val (.int mv), .val (.int (1 : Int32)), .val (.ref s_GET_FIELD), .val (.ref s_GET_FIELD_targets), .val (.int (0 : Int32)), .val (.int (1 : Int32)), .val (.int (0 : Int32)), .val (.int (0 : Int32)), .val (.int (1 : Int32))] [(.ref s_GET_FIELD_targets)]))
      obtain ⟨T108, X108, e108, st108⟩ := getS2 X107 hx hZ hown (host := "") (Or.inl (hw _ (List.mem_of_getElem? (i := 50) rfl))) Via.refl eh107 S_INTERFACE_METHODREF (g := (mkF m 171 #[.val (.int k0), .val (.int mv), .val (.int (1 : Int32)), .val (.ref s_GET_FIELD), .val (.ref s_GET_FIELD_targets), .val (.int (0 : Int32)), .val (.int (1 : Int32)), .val (.int (0 : Int32)), .val (.int (0 : Int32)), .val (.int (1 : Int32))] [(.ref s_GET_FIELD_targets)])) rfl (hb hby at_171)
      refine Go.by st108 ?_
      show Go _ _ _ _ _ _ _ (T108.setTop (mkF m 174 #[.val (.int k0), .val (.int mv), .val (.int (1 : Int32)), .val (.ref s_GET_FIELD), .val (.ref s_GET_FIELD_targets), .val (.int (0 : Int32)), .val (.int (1 : Int32)), .val (.int (0 : Int32)), .val (.int (0 : Int32)), .val (.int (1 : Int32))] [(.ref s_INTERFACE_METHODREF), (.ref s_GET_FIELD_targets)]))
      obtain ⟨cq109, kq109, q109a, q109b, q109c⟩ := isOf hZ e108 E_s_GET_FIELD_targets
      obtain ⟨_, _, ⟨T109, L109, k109, n109⟩, -, X109, ⟨Lc109, hQ109, l109, y109, z109⟩, st109⟩ := X108.virtualBack hx (y := (⟨"com/example/classwright/classwright/KindSet", "contains", "(Ljava/lang/Object;)Z"⟩ : MethodName)) (z := (⟨"com/example/classwright/classwright/KindSet", "contains", "(Ljava/lang/Object;)Z"⟩ : MethodName)) hown (mvT hZ (hw _ (List.mem_of_getElem? (i := 29) rfl))) (mvT hZ (hw _ (List.mem_of_getElem? (i := 30) rfl))) (notFace_of_selects (args := #[]) (mvT hZ (hw _ (List.mem_of_getElem? (i := 32) rfl)))) (mvT hZ (hw _ (List.mem_of_getElem? (i := 32) rfl))) (mvT hZ (hw _ (List.mem_of_getElem? (i := 31) rfl))) (by decide) (backOf (W := 0) (rmC128_9 l Z a0 hw [] s_GET_FIELD_targets s_INTERFACE_METHODREF h0 n0 Z0 E_s_GET_FIELD_targets F_s_GET_FIELD_targets_bits E_s_INTERFACE_METHODREF F_s_INTERFACE_METHODREF_ordinal) hZ (hw _ (List.mem_of_getElem? (i := 34) rfl)) (hw _ (List.mem_of_getElem? (i := 33) rfl)) (by decide) (by decide)) q109a q109c (g := (mkF m 174 #[.val (.int k0), .val (.int mv), .val (.int (1 : Int32)), .val (.ref s_GET_FIELD), .val (.ref s_GET_FIELD_targets), .val (.int (0 : Int32)), .val (.int (1 : Int32)), .val (.int (0 : Int32)), .val (.int (0 : Int32)), .val (.int (1 : Int32))] [(.ref s_INTERFACE_METHODREF), (.ref s_GET_FIELD_targets)])) rfl (by rw [hml]; rfl) (Steps.refl _) (argsL := [(.ref s_INTERFACE_METHODREF)]) (rest := []) (lenOf pd0_3 rfl) rfl (by show 2 * 0 + _ ≤ _; exact Nat.le_of_eq rfl) (hb hby at_174) (fun _ _ => ⟨rfl, e108, (by decide : 0 + 0 ≤ _), (by decide : 0 + 0 ≤ _)⟩)
      dsimp only [Pt.U, Pt.locs, Pt.cells, Pt.slots] at X109 l109 y109 z109 st109 hQ109
      subst l109 y109 z109
      obtain ⟨rfl, N109q, eh109⟩ := hQ109
      have N109 := Fr.app N107 N109q
      refine Go.tr st109 ?_
      show Go _ _ _ _ _ _ _ (T109.setTop (mkF m 177 #[.val (.int k0), .val (.int mv), .val (.int (1 : Int32)), .val (.ref s_GET_FIELD), .val (.ref s_GET_FIELD_targets), .val (.int (0 : Int32)), .val (.int (1 : Int32)), .val (.int (0 : Int32)), .val (.int (0 : Int32)), .val (.int (1 : Int32))] [(.int (0 : Int32))]))
      refine Go.by (fun _ kont => XS.iload X109.here hx rfl (hb hby at_177) rfl (XS.icmpNo X109.here hx rfl (hb hby at_179) rfl (by decide) (XS.aload X109.here hx rfl (hb hby at_182) rfl rfl kont))) ?_
      show Go _ _ _ _ _ _ _ (T109.setTop (mkF m 184 #[.val (.int k0), .val (.int mv), .val (.int (1 : Int32)), .val (.ref s_GET_FIELD), .val (.ref s_GET_FIELD_targets), .val (.int (0 : Int32)), .val (.int (1 : Int32)), .val (.int (0 : Int32)), .val (.int (0 : Int32)), .val (.int (1 : Int32))] [(.ref s_GET_FIELD_targets)]))
      obtain ⟨cq110, kq110, q110a, q110b, q110c⟩ := isOf hZ eh109 E_s_GET_FIELD_targets
      obtain ⟨_, _, ⟨T110, L110, k110, n110⟩, -, X110, ⟨Lc110, hQ110, l110, y110, z110⟩, st110⟩ := X109.virtualBack hx (y := (⟨"com/example/classwright/classwright/KindSet", "size", "()I"⟩ : MethodName)) (z := (⟨"com/example/classwright/classwright/KindSet", "size", "()I"⟩ : MethodName)) hown (mvT hZ (hw _ (List.mem_of_getElem? (i := 52) rfl))) (mvT hZ (hw _ (List.mem_of_getElem? (i := 53) rfl))) (notFace_of_selects (args := #[]) (mvT hZ (hw _ (List.mem_of_getElem? (i := 55) rfl)))) (mvT hZ (hw _ (List.mem_of_getElem? (i := 55) rfl))) (mvT hZ (hw _ (List.mem_of_getElem? (i := 54) rfl))) (by decide) (backOf (W := 0) (rmS128 l Z a0 hw [] s_GET_FIELD_targets h0 n0 Z0 E_s_GET_FIELD_targets F_s_GET_FIELD_targets_bits) hZ (hw _ (List.mem_of_getElem? (i := 56) rfl)) (hw _ (List.mem_of_getElem? (i := 33) rfl)) (by decide) (by decide)) q110a q110c (g := (mkF m 184 #[.val (.int k0), .val (.int mv), .val (.int (1 : Int32)), .val (.ref s_GET_FIELD), .val (.ref s_GET_FIELD_targets), .val (.int (0 : Int32)), .val (.int (1 : Int32)), .val (.int (0 : Int32)), .val (.int (0 : Int32)), .val (.int (1 : Int32))] [(.ref s_GET_FIELD_targets)])) rfl (by rw [hml]; rfl) (Steps.refl _) (argsL := []) (rest := []) (lenOf pd0_1 rfl) rfl (by show 2 * 0 + _ ≤ _; exact Nat.le_of_eq rfl) (hb hby at_184) (fun _ _ => ⟨rfl, eh109, (by decide : 0 + 0 ≤ _), (by decide : 0 + 0 ≤ _)⟩)
      dsimp only [Pt.U, Pt.locs, Pt.cells, Pt.slots] at X110 l110 y110 z110 st110 hQ110
      subst l110 y110 z110
      obtain ⟨rfl, N110q, eh110⟩ := hQ110
      have N110 := Fr.app N109 N110q
      refine Go.tr st110 ?_
      show Go _ _ _ _ _ _ _ (T110.setTop (mkF m 187 #[.val (.int k0), .val (.int mv), .val (.int (1 : Int32)), .val (.ref s_GET_FIELD), .val (.ref s_GET_FIELD_targets), .val (.int (0 : Int32)), .val (.int (1 : Int32)), .val (.int (0 : Int32)), .val (.int (0 : Int32)), .val (.int (1 : Int32))] [(.int (1 : Int32))]))
      refine Go.by (fun _ kont => XS.iload X110.here hx rfl (hb hby at_187) rfl (XS.icmpNo X110.here hx rfl (hb hby at_189) rfl (by decide) (XS.iconst X110.here hx rfl (hb hby at_192) (XS.goto X110.here hx rfl (pc0 := 193) (pc' := 197) rfl (hb hby at_193) (by decide) (by decide) kont)))) ?_
      show Go _ _ _ _ _ _ _ (T110.setTop (mkF m 197 #[.val (.int k0), .val (.int mv), .val (.int (1 : Int32)), .val (.ref s_GET_FIELD), .val (.ref s_GET_FIELD_targets), .val (.int (0 : Int32)), .val (.int (1 : Int32)), .val (.int (0 : Int32)), .val (.int (0 : Int32)), .val (.int (1 : Int32))] [(.int (1 : Int32))]))
      refine Go.retN X110 hx (t := .boolean) hret (by simp) hlk (hb hby at_197) ?_ (by decide) (by decide)
      show Q0 Z h0 n0 (some (.int (1 : Int32))) T110.heap _
      rw [eh110]
      exact ⟨rfl, N110⟩
    · show Go _ _ _ _ _ _ _ (T102.setTop (mkF m 29 #[.val (.int k0), .val (.int mv), .val (.int (1 : Int32)), .val (.ref s_GET_FIELD), .unset, .unset, .unset, .unset, .unset, .unset] []))
      refine Go.by (fun _ kont => XS.aloadN X102.here hx rfl (hb hby at_29) rfl rfl (XS.iloadN X102.here hx rfl (hb hby at_30) rfl kont)) ?_
      show Go _ _ _ _ _ _ _ (T102.setTop (mkF m 31 #[.val (.int k0), .val (.int mv), .val (.int (1 : Int32)), .val (.ref s_GET_FIELD), .unset, .unset, .unset, .unset, .unset, .unset] [(.int mv), (.ref s_GET_FIELD)]))
      obtain ⟨cq111, kq111, q111a, q111b, q111c⟩ := isOf hZ eh102 E_s_GET_FIELD
      obtain ⟨_, _, ⟨T111, L111, k111, n111⟩, -, X111, ⟨Lc111, hQ111, l111, y111, z111⟩, st111⟩ := X102.virtualBack hx (y := (⟨"com/example/classwright/classwright/ReferenceKind", "targetKinds", "(I)Lcom/example/classwright/classwright/KindSet;"⟩ : MethodName)) (z := (⟨"com/example/classwright/classwright/ReferenceKind", "targetKinds", "(I)Lcom/example/classwright/classwright/KindSet;"⟩ : MethodName)) hown (mvT hZ (hw _ (List.mem_of_getElem? (i := 15) rfl))) (mvT hZ (hw _ (List.mem_of_getElem? (i := 16) rfl))) (notFace_of_selects (args := #[]) (mvT hZ (hw _ (List.mem_of_getElem? (i := 18) rfl)))) (mvT hZ (hw _ (List.mem_of_getElem? (i := 18) rfl))) (mvT hZ (hw _ (List.mem_of_getElem? (i := 17) rfl))) (by decide) (backOf (W := 0) (rmTm l Z a0 hw [] s_GET_FIELD mv s_GET_FIELD_targets h0 n0 Z0 E_s_GET_FIELD F_s_GET_FIELD_targets hmv) hZ (hw _ (List.mem_of_getElem? (i := 19) rfl)) (hw _ (List.mem_of_getElem? (i := 3) rfl)) (by decide) (by decide)) q111a q111c (g := (mkF m 31 #[.val (.int k0), .val (.int mv), .val (.int (1 : Int32)), .val (.ref s_GET_FIELD), .unset, .unset, .unset, .unset, .unset, .unset] [(.int mv), (.ref s_GET_FIELD)])) rfl (by rw [hml]; rfl) (Steps.refl _) (argsL := [(.int mv)]) (rest := []) (lenOf pd0_2 rfl) rfl (by show 2 * 0 + _ ≤ _; exact Nat.le_of_eq rfl) (hb hby at_31) (fun _ _ => ⟨rfl, eh102, (by decide : 0 + 0 ≤ _), (by decide : 0 + 0 ≤ _)⟩)
      dsimp only [Pt.U, Pt.locs, Pt.cells, Pt.slots] at X111 l111 y111 z111 st111 hQ111
      subst l111 y111 z111
      obtain ⟨rfl, N111q, eh111⟩ := hQ111
      have N111 := Fr.app N102 N111q
      refine Go.tr st111 ?_
      show Go _ _ _ _ _ _ _ (T111.setTop (mkF m 34 #[.val (.int k0), .val (.int mv), .val (.int (1 : Int32)), .val (.ref s_GET_FIELD), .unset, .unset, .unset, .unset, .unset, .unset] [(.ref s_GET_FIELD_targets)]))
      refine Go.by (fun _ kont => XS.astore X111.here hx rfl (hb hby at_34) rfl rfl (l' := #[.val (.int k0), .val (.int mv), .val (.int (1 : Int32)), .val (.ref s_GET_FIELD), .val (.ref s_GET_FIELD_targets), .unset, .unset, .unset, .unset, .unset]) rfl (XS.iloadN X111.here hx rfl (hb hby at_36) rfl (XS.bipush X111.here hx rfl (hb hby at_37) kont))) ?_
      show Go _ _ _ _ _ _ _ (T111.setTop (mkF m 39 #[.val (.int k0), .val (.int mv), .val (.int (1 : Int32)), .val (.ref s_GET_FIELD), .val (.ref s_GET_FIELD_targets), .unset, .unset, .unset, .unset, .unset] [(.int (52 : Int32)), (.int mv)]))
      refine Go.by (fun _ kont => XS.icmpNo X111.here hx rfl (hb hby at_39) rfl (flt hmv).1 kont) ?_
      show Go _ _ _ _ _ _ _ (T111.setTop (mkF m 42 #[.val (.int k0), .val (.int mv), .val (.int (1 : Int32)), .val (.ref s_GET_FIELD), .val (.ref s_GET_FIELD_targets), .unset, .unset, .unset, .unset, .unset] []))
      refine Go.by (fun _ kont => XS.iconst X111.here hx rfl (hb hby at_42) (XS.goto X111.here hx rfl (pc0 := 43) (pc' := 47) rfl (hb hby at_43) (by decide) (by decide) (XS.istore X111.here hx rfl (hb hby at_47) rfl (l' := #[.val (.int k0), .val (.int mv), .val (.int (1 : Int32)), .val (.ref s_GET_FIELD), .val (.ref s_GET_FIELD_targets), .val (.int (1 : Int32)), .unset, .unset, .unset, .unset]) rfl (XS.iloadN X111.here hx rfl (hb hby at_49) rfl (XS.iconst X111.here hx rfl (hb hby at_50) (XS.icmpNo X111.here hx rfl (hb hby at_51) rfl (by decide) (XS.iconst X111.here hx rfl (hb hby at_54) (XS.goto X111.here hx rfl (pc0 := 55) (pc' := 59) rfl (hb hby at_55) (by decide) (by decide) (XS.istore X111.here hx rfl (hb hby at_59) rfl (l' := #[.val (.int k0), .val (.int mv), .val (.int (1 : Int32)), .val (.ref s_GET_FIELD), .val (.ref s_GET_FIELD_targets), .val (.int (1 : Int32)), .val (.int (1 : Int32)), .unset, .unset, .unset]) rfl (XS.iloadN X111.here hx rfl (hb hby at_61) rfl (XS.iconst X111.here hx rfl (hb hby at_62) (XS.icmpYes X111.here hx rfl (pc0 := 63) (pc' := 76) rfl (hb hby at_63) rfl (by decide) (by decide) (by decide) kont)))))))))))) ?_
      show Go _ _ _ _ _ _ _ (T111.setTop (mkF m 76 #[.val (.int k0), .val (.int mv), .val (.int (1 : Int32)), .val (.ref s_GET_FIELD), .val (.ref s_GET_FIELD_targets), .val (.int (1 : Int32)), .val (.int (1 : Int32)), .unset, .unset, .unset] []))
      refine Go.by (fun _ kont => XS.iconst X111.here hx rfl (hb hby at_76) (XS.istore X111.here hx rfl (hb hby at_77) rfl (l' := #[.val (.int k0), .val (.int mv), .val (.int (1 : Int32)), .val (.ref s_GET_FIELD), .val (.ref s_GET_FIELD_targets), .val (.int (1 : Int32)), .val (.int (1 : Int32)), .val (.int (0 : Int32)), .unset, .unset]) rfl (XS.iloadN X111.here hx rfl (hb hby at_79) rfl (XS.bipush X111.here hx rfl (hb hby at_80) (XS.icmpNo X111.here hx rfl (hb hby at_82) rfl (by decide) (XS.iloadN X111.here hx rfl (hb hby at_85) rfl (XS.bipush X111.here hx rfl (hb hby at_86) (XS.icmpNo X111.here hx rfl (hb hby at_88) rfl (by decide) (XS.iloadN X111.here hx rfl (hb hby at_91) rfl (XS.bipush X111.here hx rfl (hb hby at_92) (XS.icmpYes X111.here hx rfl (pc0 := 94) (pc' := 106) rfl (hb hby at_94) rfl (by decide) (by decide) (by decide) (XS.iconst X111.here hx rfl (hb hby at_106) kont)))))))))))) ?_
      show Go _ _ _ _ _ _ _ (T111.setTop (mkF m 107 #[.val (.int k0), .val (.int mv), .val (.int (1 : Int32)), .val (.ref s_GET_FIELD), .val (.ref s_GET_FIELD_targets), .val (.int (1 : Int32)), .val (.int (1 : Int32)), .val (.int (0 : Int32)), .unset, .unset] [(.int (0 : Int32))]))
      refine Go.by (fun _ kont => XS.istore X111.here hx rfl (hb hby at_107) rfl (l' := #[.val (.int k0), .val (.int mv), .val (.int (1 : Int32)), .val (.ref s_GET_FIELD), .val (.ref s_GET_FIELD_targets), .val (.int (1 : Int32)), .val (.int (1 : Int32)), .val (.int (0 : Int32)), .val (.int (0 : Int32)), .unset]) rfl (XS.iload X111.here hx rfl (hb hby at_109) rfl (XS.ifNo X111.here hx rfl (hb hby at_111) rfl (by decide) (XS.iconst X111.here hx rfl (hb hby at_114) (XS.goto X111.here hx rfl (pc0 := 115) (pc' := 119) rfl (hb hby at_115) (by decide) (by decide) (XS.iload X111.here hx rfl (hb hby at_119) rfl (XS.ifYes X111.here hx rfl (pc0 := 121) (pc' := 128) rfl (hb hby at_121) rfl (by decide) (by decide) (by decide) (XS.iconst X111.here hx rfl (hb hby at_128) (XS.iadd X111.here hx rfl (hb hby at_129) rfl kont))))))))) ?_
      show Go _ _ _ _ _ _ _ (T111.setTop (mkF m 130 #[.val (.int k0), .val (.int mv), .val (.int (1 : Int32)), .val (.ref s_GET_FIELD), .val (.ref s_GET_FIELD_targets), .val (.int (1 : Int32)), .val (.int (1 : Int32)), .val (.int (0 : Int32)), .val (.int (0 : Int32)), .unset] [(.int ((1 : Int32) + (0 : Int32)))]))
      rw [show ((1 : Int32) + (0 : Int32)) = (1 : Int32) from by decide]
      show Go _ _ _ _ _ _ _ (T111.setTop (mkF m 130 #[.val (.int k0), .val (.int mv), .val (.int (1 : Int32)), .val (.ref s_GET_FIELD), .val (.ref s_GET_FIELD_targets), .val (.int (1 : Int32)), .val (.int (1 : Int32)), .val (.int (0 : Int32)), .val (.int (0 : Int32)), .unset] [(.int (1 : Int32))]))
      refine Go.by (fun _ kont => XS.iload X111.here hx rfl (hb hby at_130) rfl (XS.ifYes X111.here hx rfl (pc0 := 132) (pc' := 139) rfl (hb hby at_132) rfl (by decide) (by decide) (by decide) (XS.iconst X111.here hx rfl (hb hby at_139) (XS.iadd X111.here hx rfl (hb hby at_140) rfl kont)))) ?_
      show Go _ _ _ _ _ _ _ (T111.setTop (mkF m 141 #[.val (.int k0), .val (.int mv), .val (.int (1 : Int32)), .val (.ref s_GET_FIELD), .val (.ref s_GET_FIELD_targets), .val (.int (1 : Int32)), .val (.int (1 : Int32)), .val (.int (0 : Int32)), .val (.int (0 : Int32)), .unset] [(.int ((1 : Int32) + (0 : Int32)))]))
      rw [show ((1 : Int32) + (0 : Int32)) = (1 : Int32) from by decide]
      show Go _ _ _ _ _ _ _ (T111.setTop (mkF m 141 #[.val (.int k0), .val (.int mv), .val (.int (1 : Int32)), .val (.ref s_GET_FIELD), .val (.ref s_GET_FIELD_targets), .val (.int (1 : Int32)), .val (.int (1 : Int32)), .val (.int (0 : Int32)), .val (.int (0 : Int32)), .unset] [(.int (1 : Int32))]))
      refine Go.by (fun _ kont => XS.istore X111.here hx rfl (hb hby at_141) rfl (l' := #[.val (.int k0), .val (.int mv), .val (.int (1 : Int32)), .val (.ref s_GET_FIELD), .val (.ref s_GET_FIELD_targets), .val (.int (1 : Int32)), .val (.int (1 : Int32)), .val (.int (0 : Int32)), .val (.int (0 : Int32)), .val (.int (1 : Int32))]) rfl (XS.aload X111.here hx rfl (hb hby at_143) rfl rfl kont)) ?_
      show Go _ _ _ _ _ _ _ (T111.setTop (mkF m 145 #[.val (.int k0), .val (.int mv), .val (.int (1 : Int32)), .val (.ref s_GET_FIELD), .val (.ref s_GET_FIELD_targets), .val (.int (1 : Int32)), .val (.int (1 : Int32)), .val (.int (0 : Int32)), .val (.int (0 : Int32)), .val (.int (1 : Int32))] [(.ref s_GET_FIELD_targets)]))
      obtain ⟨T112, X112, e112, st112⟩ := getS2 X111 hx hZ hown (host := "") (Or.inl (hw _ (List.mem_of_getElem? (i := 26) rfl))) Via.refl eh111 S_FIELDREF (g := (mkF m 145 #[.val (.int k0), .val (.int mv), .val (.int (1 : Int32)), .val (.ref s_GET_FIELD), .val (.ref s_GET_FIELD_targets), .val (.int (1 : Int32)), .val (.int (1 : Int32)), .val (.int (0 : Int32)), .val (.int (0 : Int32)), .val (.int (1 : Int32))] [(.ref s_GET_FIELD_targets)])) rfl (hb hby at_145)
      refine Go.by st112 ?_
      show Go _ _ _ _ _ _ _ (T112.setTop (mkF m 148 #[.val (.int k0), .val (.int mv), .val (.int (1 : Int32)), .val (.ref s_GET_FIELD), .val (.ref s_GET_FIELD_targets), .val (.int (1 : Int32)), .val (.int (1 : Int32)), .val (.int (0 : Int32)), .val (.int (0 : Int32)), .val (.int (1 : Int32))] [(.ref s_FIELDREF), (.ref s_GET_FIELD_targets)]))
      obtain ⟨cq113, kq113, q113a, q113b, q113c⟩ := isOf hZ e112 E_s_GET_FIELD_targets
      obtain ⟨_, _, ⟨T113, L113, k113, n113⟩, -, X113, ⟨Lc113, hQ113, l113, y113, z113⟩, st113⟩ := X112.virtualBack hx (y := (⟨"com/example/classwright/classwright/KindSet", "contains", "(Ljava/lang/Object;)Z"⟩ : MethodName)) (z := (⟨"com/example/classwright/classwright/KindSet", "contains", "(Ljava/lang/Object;)Z"⟩ : MethodName)) hown (mvT hZ (hw _ (List.mem_of_getElem? (i := 29) rfl))) (mvT hZ (hw _ (List.mem_of_getElem? (i := 30) rfl))) (notFace_of_selects (args := #[]) (mvT hZ (hw _ (List.mem_of_getElem? (i := 32) rfl)))) (mvT hZ (hw _ (List.mem_of_getElem? (i := 32) rfl))) (mvT hZ (hw _ (List.mem_of_getElem? (i := 31) rfl))) (by decide) (backOf (W := 0) (rmC128_7 l Z a0 hw [] s_GET_FIELD_targets s_FIELDREF h0 n0 Z0 E_s_GET_FIELD_targets F_s_GET_FIELD_targets_bits E_s_FIELDREF F_s_FIELDREF_ordinal) hZ (hw _ (List.mem_of_getElem? (i := 34) rfl)) (hw _ (List.mem_of_getElem? (i := 33) rfl)) (by decide) (by decide)) q113a q113c (g := (mkF m 148 #[.val (.int k0), .val (.int mv), .val (.int (1 : Int32)), .val (.ref s_GET_FIELD), .val (.ref s_GET_FIELD_targets), .val (.int (1 : Int32)), .val (.int (1 : Int32)), .val (.int (0 : Int32)), .val (.int (0 : Int32)), .val (.int (1 : Int32))] [(.ref s_FIELDREF), (.ref s_GET_FIELD_targets)])) rfl (by rw [hml]; rfl) (Steps.refl _) (argsL := [(.ref s_FIELDREF)]) (rest := []) (lenOf pd0_3 rfl) rfl (by show 2 * 0 + _ ≤ _; exact Nat.le_of_eq rfl) (hb hby at_148) (fun _ _ => ⟨rfl, e112, (by decide : 0 + 0 ≤ _), (by decide : 0 + 0 ≤ _)⟩)
      dsimp only [Pt.U, Pt.locs, Pt.cells, Pt.slots] at X113 l113 y113 z113 st113 hQ113
      subst l113 y113 z113
      obtain ⟨rfl, N113q, eh113⟩ := hQ113
      have N113 := Fr.app N111 N113q
      refine Go.tr st113 ?_
      show Go _ _ _ _ _ _ _ (T113.setTop (mkF m 151 #[.val (.int k0), .val (.int mv), .val (.int (1 : Int32)), .val (.ref s_GET_FIELD), .val (.ref s_GET_FIELD_targets), .val (.int (1 : Int32)), .val (.int (1 : Int32)), .val (.int (0 : Int32)), .val (.int (0 : Int32)), .val (.int (1 : Int32))] [(.int (1 : Int32))]))
      refine Go.by (fun _ kont => XS.iload X113.here hx rfl (hb hby at_151) rfl (XS.icmpNo X113.here hx rfl (hb hby at_153) rfl (by decide) (XS.aload X113.here hx rfl (hb hby at_156) rfl rfl kont))) ?_
      show Go _ _ _ _ _ _ _ (T113.setTop (mkF m 158 #[.val (.int k0), .val (.int mv), .val (.int (1 : Int32)), .val (.ref s_GET_FIELD), .val (.ref s_GET_FIELD_targets), .val (.int (1 : Int32)), .val (.int (1 : Int32)), .val (.int (0 : Int32)), .val (.int (0 : Int32)), .val (.int (1 : Int32))] [(.ref s_GET_FIELD_targets)]))
      obtain ⟨T114, X114, e114, st114⟩ := getS2 X113 hx hZ hown (host := "") (Or.inl (hw _ (List.mem_of_getElem? (i := 48) rfl))) Via.refl eh113 S_METHODREF (g := (mkF m 158 #[.val (.int k0), .val (.int mv), .val (.int (1 : Int32)), .val (.ref s_GET_FIELD), .val (.ref s_GET_FIELD_targets), .val (.int (1 : Int32)), .val (.int (1 : Int32)), .val (.int (0 : Int32)), .val (.int (0 : Int32)), .val (.int (1 : Int32))] [(.ref s_GET_FIELD_targets)])) rfl (hb hby at_158)
      refine Go.by st114 ?_
      show Go _ _ _ _ _ _ _ (T114.setTop (mkF m 161 #[.val (.int k0), .val (.int mv), .val (.int (1 : Int32)), .val (.ref s_GET_FIELD), .val (.ref s_GET_FIELD_targets), .val (.int (1 : Int32)), .val (.int (1 : Int32)), .val (.int (0 : Int32)), .val (.int (0 : Int32)), .val (.int (1 : Int32))] [(.ref s_METHODREF), (.ref s_GET_FIELD_targets)]))
      obtain ⟨cq115, kq115, q115a, q115b, q115c⟩ := isOf hZ e114 E_s_GET_FIELD_targets
      obtain ⟨_, _, ⟨T115, L115, k115, n115⟩, -, X115, ⟨Lc115, hQ115, l115, y115, z115⟩, st115⟩ := X114.virtualBack hx (y := (⟨"com/example/classwright/classwright/KindSet", "contains", "(Ljava/lang/Object;)Z"⟩ : MethodName)) (z := (⟨"com/example/classwright/classwright/KindSet", "contains", "(Ljava/lang/Object;)Z"⟩ : MethodName)) hown (mvT hZ (hw _ (List.mem_of_getElem? (i := 29) rfl))) (mvT hZ (hw _ (List.mem_of_getElem? (i := 30) rfl))) (notFace_of_selects (args := #[]) (mvT hZ (hw _ (List.mem_of_getElem? (i := 32) rfl)))) (mvT hZ (hw _ (List.mem_of_getElem? (i := 32) rfl))) (mvT hZ (hw _ (List.mem_of_getElem? (i := 31) rfl))) (by decide) (backOf (W := 0) (rmC128_8 l Z a0 hw [] s_GET_FIELD_targets s_METHODREF h0 n0 Z0 E_s_GET_FIELD_targets F_s_GET_FIELD_targets_bits E_s_METHODREF F_s_METHODREF_ordinal) hZ (hw _ (List.mem_of_getElem? (i := 34) rfl)) (hw _ (List.mem_of_getElem? (i := 33) rfl)) (by decide) (by decide)) q115a q115c (g := (mkF m 161 #[.val (.int k0), .val (.int mv), .val (.int (1 : Int32)), .val (.ref s_GET_FIELD), .val (.ref s_GET_FIELD_targets), .val (.int (1 : Int32)), .val (.int (1 : Int32)), .val (.int (0 : Int32)), .val (.int (0 : Int32)), .val (.int (1 : Int32))] [(.ref s_METHODREF), (.ref s_GET_FIELD_targets)])) rfl (by rw [hml]; rfl) (Steps.refl _) (argsL := [(.ref s_METHODREF)]) (rest := []) (lenOf pd0_3 rfl) rfl (by show 2 * 0 + _ ≤ _; exact Nat.le_of_eq rfl) (hb hby at_161) (fun _ _ => ⟨rfl, e114, (by decide : 0 + 0 ≤ _), (by decide : 0 + 0 ≤ _)⟩)
      dsimp only [Pt.U, Pt.locs, Pt.cells, Pt.slots] at X115 l115 y115 z115 st115 hQ115
      subst l115 y115 z115
      obtain ⟨rfl, N115q, eh115⟩ := hQ115
      have N115 := Fr.app N113 N115q
      refine Go.tr st115 ?_
      show Go _ _ _ _ _ _ _ (T115.setTop (mkF m 164 #[.val (.int k0), .val (.int mv), .val (.int (1 : Int32)), .val (.ref s_GET_FIELD), .val (.ref s_GET_FIELD_targets), .val (.int (1 : Int32)), .val (.int (1 : Int32)), .val (.int (0 : Int32)), .val (.int (0 : Int32)), .val (.int (1 : Int32))] [(.int (0 : Int32))]))
      refine Go.by (fun _ kont => XS.iload X115.here hx rfl (hb hby at_164) rfl (XS.icmpNo X115.here hx rfl (hb hby at_166) rfl (by decide) (XS.aload X115.here hx rfl (hb hby at_169) rfl rfl kont))) ?_
      show Go _ _ _ _ _ _ _ (T115.setTop (mkF m 171 #[.val (.int k0), .val (.int mv), .val (.int (1 : Int32)), .val (.ref s_GET_FIELD), .val (.ref s_GET_FIELD_targets), .val (.int (1 : Int32)), .val (.int (1 : Int32)), .val (.int (0 : Int32)), .val (.int (0 : Int32)), .val (.int (1 : Int32))] [(.ref s_GET_FIELD_targets)]))
      obtain ⟨T116, X116, e116, st116⟩ := getS2 X115 hx hZ hown (host := "") (Or.inl (hw _ (List.mem_of_getElem? (i := 50) rfl))) Via.refl eh115 S_INTERFACE_METHODREF (g := (mkF m 171 #[.val (.int k0), .val (.int mv), .val (.int (1 : Int32)), .val (.ref s_GET_FIELD), .val (.ref s_GET_FIELD_targets), .val (.int (1 : Int32)), .val (.int (1 : Int32)), .val (.int (0 : Int32)), .val (.int (0 : Int32)), .val (.int (1 : Int32))] [(.ref s_GET_FIELD_targets)])) rfl (hb hby at_171)
      refine Go.by st116 ?_
      show Go _ _ _ _ _ _ _ (T116.setTop (mkF m 174 #[.val (.int k0), .val (.int mv), .val (.int (1 : Int32)), .val (.ref s_GET_FIELD), .val (.ref s_GET_FIELD_targets), .val (.int (1 : Int32)), .val (.int (1 : Int32)), .val (.int (0 : Int32)), .val (.int (0 : Int32)), .val (.int (1 : Int32))] [(.ref s_INTERFACE_METHODREF), (.ref s_GET_FIELD_targets)]))
      obtain ⟨cq117, kq117, q117a, q117b, q117c⟩ := isOf hZ e116 E_s_GET_FIELD_targets
      obtain ⟨_, _, ⟨T117, L117, k117, n117⟩, -, X117, ⟨Lc117, hQ117, l117, y117, z117⟩, st117⟩ := X116.virtualBack hx (y := (⟨"com/example/classwright/classwright/KindSet", "contains", "(Ljava/lang/Object;)Z"⟩ : MethodName)) (z := (⟨"com/example/classwright/classwright/KindSet", "contains", "(Ljava/lang/Object;)Z"⟩ : MethodName)) hown (mvT hZ (hw _ (List.mem_of_getElem? (i := 29) rfl))) (mvT hZ (hw _ (List.mem_of_getElem? (i := 30) rfl))) (notFace_of_selects (args := #[]) (mvT hZ (hw _ (List.mem_of_getElem? (i := 32) rfl)))) (mvT hZ (hw _ (List.mem_of_getElem? (i := 32) rfl))) (mvT hZ (hw _ (List.mem_of_getElem? (i := 31) rfl))) (by decide) (backOf (W := 0) (rmC128_9 l Z a0 hw [] s_GET_FIELD_targets s_INTERFACE_METHODREF h0 n0 Z0 E_s_GET_FIELD_targets F_s_GET_FIELD_targets_bits E_s_INTERFACE_METHODREF F_s_INTERFACE_METHODREF_ordinal) hZ (hw _ (List.mem_of_getElem? (i := 34) rfl)) (hw _ (List.mem_of_getElem? (i := 33) rfl)) (by decide) (by decide)) q117a q117c (g := (mkF m 174 #[.val (.int k0), .val (.int mv), .val (.int (1 : Int32)), .val (.ref s_GET_FIELD), .val (.ref s_GET_FIELD_targets), .val (.int (1 : Int32)), .val (.int (1 : Int32)), .val (.int (0 : Int32)), .val (.int (0 : Int32)), .val (.int (1 : Int32))] [(.ref s_INTERFACE_METHODREF), (.ref s_GET_FIELD_targets)])) rfl (by rw [hml]; rfl) (Steps.refl _) (argsL := [(.ref s_INTERFACE_METHODREF)]) (rest := []) (lenOf pd0_3 rfl) rfl (by show 2 * 0 + _ ≤ _; exact Nat.le_of_eq rfl) (hb hby at_174) (fun _ _ => ⟨rfl, e116, (by decide : 0 + 0 ≤ _), (by decide : 0 + 0 ≤ _)⟩)
      dsimp only [Pt.U, Pt.locs, Pt.cells, Pt.slots] at X117 l117 y117 z117 st117 hQ117
      subst l117 y117 z117
      obtain ⟨rfl, N117q, eh117⟩ := hQ117
      have N117 := Fr.app N115 N117q
      refine Go.tr st117 ?_
      show Go _ _ _ _ _ _ _ (T117.setTop (mkF m 177 #[.val (.int k0), .val (.int mv), .val (.int (1 : Int32)), .val (.ref s_GET_FIELD), .val (.ref s_GET_FIELD_targets), .val (.int (1 : Int32)), .val (.int (1 : Int32)), .val (.int (0 : Int32)), .val (.int (0 : Int32)), .val (.int (1 : Int32))] [(.int (0 : Int32))]))
      refine Go.by (fun _ kont => XS.iload X117.here hx rfl (hb hby at_177) rfl (XS.icmpNo X117.here hx rfl (hb hby at_179) rfl (by decide) (XS.aload X117.here hx rfl (hb hby at_182) rfl rfl kont))) ?_
      show Go _ _ _ _ _ _ _ (T117.setTop (mkF m 184 #[.val (.int k0), .val (.int mv), .val (.int (1 : Int32)), .val (.ref s_GET_FIELD), .val (.ref s_GET_FIELD_targets), .val (.int (1 : Int32)), .val (.int (1 : Int32)), .val (.int (0 : Int32)), .val (.int (0 : Int32)), .val (.int (1 : Int32))] [(.ref s_GET_FIELD_targets)]))
      obtain ⟨cq118, kq118, q118a, q118b, q118c⟩ := isOf hZ eh117 E_s_GET_FIELD_targets
      obtain ⟨_, _, ⟨T118, L118, k118, n118⟩, -, X118, ⟨Lc118, hQ118, l118, y118, z118⟩, st118⟩ := X117.virtualBack hx (y := (⟨"com/example/classwright/classwright/KindSet", "size", "()I"⟩ : MethodName)) (z := (⟨"com/example/classwright/classwright/KindSet", "size", "()I"⟩ : MethodName)) hown (mvT hZ (hw _ (List.mem_of_getElem? (i := 52) rfl))) (mvT hZ (hw _ (List.mem_of_getElem? (i := 53) rfl))) (notFace_of_selects (args := #[]) (mvT hZ (hw _ (List.mem_of_getElem? (i := 55) rfl)))) (mvT hZ (hw _ (List.mem_of_getElem? (i := 55) rfl))) (mvT hZ (hw _ (List.mem_of_getElem? (i := 54) rfl))) (by decide) (backOf (W := 0) (rmS128 l Z a0 hw [] s_GET_FIELD_targets h0 n0 Z0 E_s_GET_FIELD_targets F_s_GET_FIELD_targets_bits) hZ (hw _ (List.mem_of_getElem? (i := 56) rfl)) (hw _ (List.mem_of_getElem? (i := 33) rfl)) (by decide) (by decide)) q118a q118c (g := (mkF m 184 #[.val (.int k0), .val (.int mv), .val (.int (1 : Int32)), .val (.ref s_GET_FIELD), .val (.ref s_GET_FIELD_targets), .val (.int (1 : Int32)), .val (.int (1 : Int32)), .val (.int (0 : Int32)), .val (.int (0 : Int32)), .val (.int (1 : Int32))] [(.ref s_GET_FIELD_targets)])) rfl (by rw [hml]; rfl) (Steps.refl _) (argsL := []) (rest := []) (lenOf pd0_1 rfl) rfl (by show 2 * 0 + _ ≤ _; exact Nat.le_of_eq rfl) (hb hby at_184) (fun _ _ => ⟨rfl, eh117, (by decide : 0 + 0 ≤ _), (by decide : 0 + 0 ≤ _)⟩)
      dsimp only [Pt.U, Pt.locs, Pt.cells, Pt.slots] at X118 l118 y118 z118 st118 hQ118
      subst l118 y118 z118
      obtain ⟨rfl, N118q, eh118⟩ := hQ118
      have N118 := Fr.app N117 N118q
      refine Go.tr st118 ?_
      show Go _ _ _ _ _ _ _ (T118.setTop (mkF m 187 #[.val (.int k0), .val (.int mv), .val (.int (1 : Int32)), .val (.ref s_GET_FIELD), .val (.ref s_GET_FIELD_targets), .val (.int (1 : Int32)), .val (.int (1 : Int32)), .val (.int (0 : Int32)), .val (.int (0 : Int32)), .val (.int (1 : Int32))] [(.int (1 : Int32))]))
      refine Go.by (fun _ kont => XS.iload X118.here hx rfl (hb hby at_187) rfl (XS.icmpNo X118.here hx rfl (hb hby at_189) rfl (by decide) (XS.iconst X118.here hx rfl (hb hby at_192) (XS.goto X118.here hx rfl (pc0 := 193) (pc' := 197) rfl (hb hby at_193) (by decide) (by decide) kont)))) ?_
      show Go _ _ _ _ _ _ _ (T118.setTop (mkF m 197 #[.val (.int k0), .val (.int mv), .val (.int (1 : Int32)), .val (.ref s_GET_FIELD), .val (.ref s_GET_FIELD_targets), .val (.int (1 : Int32)), .val (.int (1 : Int32)), .val (.int (0 : Int32)), .val (.int (0 : Int32)), .val (.int (1 : Int32))] [(.int (1 : Int32))]))
      refine Go.retN X118 hx (t := .boolean) hret (by simp) hlk (hb hby at_197) ?_ (by decide) (by decide)
      show Q0 Z h0 n0 (some (.int (1 : Int32))) T118.heap _
      rw [eh118]
      exact ⟨rfl, N118⟩
  · show Go _ _ _ _ _ _ _ (s₁.setTop (mkF m 10 #[.val (.int k0), .val (.int mv), .val (.int (2 : Int32)), .unset, .unset, .unset, .unset, .unset, .unset, .unset] []))
    refine Go.by (fun _ kont => XS.iloadN X0.here hx rfl (hb hby at_10) rfl kont) ?_
    show Go _ _ _ _ _ _ _ (s₁.setTop (mkF m 11 #[.val (.int k0), .val (.int mv), .val (.int (2 : Int32)), .unset, .unset, .unset, .unset, .unset, .unset, .unset] [(.int (2 : Int32))]))
    obtain ⟨_, _, ⟨T119, L119, k119, n119⟩, -, X119, ⟨Lc119, hQ119, l119, y119, z119⟩, st119⟩ := Jvm.LawKit.callS X0 hx (y := (⟨"com/example/classwright/classwright/ReferenceKind", "forByte", "(I)Lcom/example/classwright/classwright/ReferenceKind;"⟩ : MethodName)) hown (mvT hZ (hw _ (List.mem_of_getElem? (i := 1) rfl))) (mvT hZ (hw _ (List.mem_of_getElem? (i := 2) rfl))) (mvT hZ (hw _ (List.mem_of_getElem? (i := 3) rfl))) (mvT hZ (hw _ (List.mem_of_getElem? (i := 4) rfl))) (by decide) (backOf (W := 0) (rmF2 l Z a0 hw [] s_BY_VALUE kc_s_BY_VALUE s_GET_FIELD s_GET_STATIC s_PUT_FIELD s_PUT_STATIC s_INVOKE_VIRTUAL s_INVOKE_STATIC s_INVOKE_SPECIAL s_NEW_INVOKE_SPECIAL s_INVOKE_INTERFACE h0 n0 Z0 V_s_BY_VALUE S_BY_VALUE) hZ (hw _ (List.mem_of_getElem? (i := 4) rfl)) (hw _ (List.mem_of_getElem? (i := 3) rfl)) (by decide) (by decide)) (g := (mkF m 11 #[.val (.int k0), .val (.int mv), .val (.int (2 : Int32)), .unset, .unset, .unset, .unset, .unset, .unset, .unset] [(.int (2 : Int32))])) rfl (by rw [hml]; rfl) (argsL := [(.int (2 : Int32))]) (rest := []) (lenOf pd0_0 rfl) rfl (by show 2 * 0 + _ ≤ _; exact Nat.le_of_eq rfl) (hb hby at_11) (fun _ _ => ⟨rfl, e0, (by decide : 0 + 0 ≤ _), (by decide : 0 + 0 ≤ _)⟩)
    dsimp only [Pt.U, Pt.locs, Pt.cells, Pt.slots] at X119 l119 y119 z119 st119 hQ119
    subst l119 y119 z119
    obtain ⟨rfl, N119q, eh119⟩ := hQ119
    have N119 := Fr.app N0 N119q
    refine Go.by st119 ?_
    show Go _ _ _ _ _ _ _ (T119.setTop (mkF m 14 #[.val (.int k0), .val (.int mv), .val (.int (2 : Int32)), .unset, .unset, .unset, .unset, .unset, .unset, .unset] [(.ref s_GET_STATIC)]))
    refine Go.by (fun _ kont => XS.astoreN X119.here hx rfl (hb hby at_14) rfl rfl (l' := #[.val (.int k0), .val (.int mv), .val (.int (2 : Int32)), .val (.ref s_GET_STATIC), .unset, .unset, .unset, .unset, .unset, .unset]) rfl (XS.aloadN X119.here hx rfl (hb hby at_15) rfl rfl (XS.ifnullNo X119.here hx rfl (hb hby at_16) rfl (XS.aloadN X119.here hx rfl (hb hby at_19) rfl rfl kont)))) ?_
    show Go _ _ _ _ _ _ _ (T119.setTop (mkF m 20 #[.val (.int k0), .val (.int mv), .val (.int (2 : Int32)), .val (.ref s_GET_STATIC), .unset, .unset, .unset, .unset, .unset, .unset] [(.ref s_GET_STATIC)]))
    obtain ⟨cq120, kq120, q120a, q120b, q120c⟩ := isOf hZ eh119 E_s_GET_STATIC
    obtain ⟨_, _, ⟨T120, L120, k120, n120⟩, -, X120, ⟨Lc120, hQ120, l120, y120, z120⟩, st120⟩ := X119.virtualBack hx (y := (⟨"com/example/classwright/classwright/ReferenceKind", "value", "()I"⟩ : MethodName)) (z := (⟨"com/example/classwright/classwright/ReferenceKind", "value", "()I"⟩ : MethodName)) hown (mvT hZ (hw _ (List.mem_of_getElem? (i := 8) rfl))) (mvT hZ (hw _ (List.mem_of_getElem? (i := 9) rfl))) (notFace_of_selects (args := #[]) (mvT hZ (hw _ (List.mem_of_getElem? (i := 11) rfl)))) (mvT hZ (hw _ (List.mem_of_getElem? (i := 11) rfl))) (mvT hZ (hw _ (List.mem_of_getElem? (i := 10) rfl))) (by decide) (backOf (W := 0) (rmV l Z a0 hw [] s_GET_STATIC (2 : Int32) h0 n0 Z0 E_s_GET_STATIC F_s_GET_STATIC_value) hZ (hw _ (List.mem_of_getElem? (i := 12) rfl)) (hw _ (List.mem_of_getElem? (i := 3) rfl)) (by decide) (by decide)) q120a q120c (g := (mkF m 20 #[.val (.int k0), .val (.int mv), .val (.int (2 : Int32)), .val (.ref s_GET_STATIC), .unset, .unset, .unset, .unset, .unset, .unset] [(.ref s_GET_STATIC)])) rfl (by rw [hml]; rfl) (Steps.refl _) (argsL := []) (rest := []) (lenOf pd0_1 rfl) rfl (by show 2 * 0 + _ ≤ _; exact Nat.le_of_eq rfl) (hb hby at_20) (fun _ _ => ⟨rfl, eh119, (by decide : 0 + 0 ≤ _), (by decide : 0 + 0 ≤ _)⟩)
    dsimp only [Pt.U, Pt.locs, Pt.cells, Pt.slots] at X120 l120 y120 z120 st120 hQ120
    subst l120 y120 z120
    obtain ⟨rfl, N120q, eh120⟩ := hQ120
    have N120 := Fr.app N119 N120q
    refine Go.tr st120 ?_
    show Go _ _ _ _ _ _ _ (T120.setTop (mkF m 23 #[.val (.int k0), .val (.int mv), .val (.int (2 : Int32)), .val (.ref s_GET_STATIC), .unset, .unset, .unset, .unset, .unset, .unset] [(.int (2 : Int32))]))
    refine Go.by (fun _ kont => XS.iloadN X120.here hx rfl (hb hby at_23) rfl (XS.icmpYes X120.here hx rfl (pc0 := 24) (pc' := 29) rfl (hb hby at_24) rfl (by decide) (by decide) (by decide) kont)) ?_
    show Go _ _ _ _ _ _ _ (T120.setTop (mkF m 29 #[.val (.int k0), .val (.int mv), .val (.int (2 : Int32)), .val (.ref s_GET_STATIC), .unset, .unset, .unset, .unset, .unset, .unset] []))
    by_cases hmv : mv < (52 : Int32)
    · show Go _ _ _ _ _ _ _ (T120.setTop (mkF m 29 #[.val (.int k0), .val (.int mv), .val (.int (2 : Int32)), .val (.ref s_GET_STATIC), .unset, .unset, .unset, .unset, .unset, .unset] []))
      refine Go.by (fun _ kont => XS.aloadN X120.here hx rfl (hb hby at_29) rfl rfl (XS.iloadN X120.here hx rfl (hb hby at_30) rfl kont)) ?_
      show Go _ _ _ _ _ _ _ (T120.setTop (mkF m 31 #[.val (.int k0), .val (.int mv), .val (.int (2 : Int32)), .val (.ref s_GET_STATIC), .unset, .unset, .unset, .unset, .unset, .unset] [(.int mv), (.ref s_GET_STATIC)]))
      obtain ⟨cq121, kq121, q121a, q121b, q121c⟩ := isOf hZ eh120 E_s_GET_STATIC
      obtain ⟨_, _, ⟨T121, L121, k121, n121⟩, -, X121, ⟨Lc121, hQ121, l121, y121, z121⟩, st121⟩ := X120.virtualBack hx (y := (⟨"com/example/classwright/classwright/ReferenceKind", "targetKinds", "(I)Lcom/example/classwright/classwright/KindSet;"⟩ : MethodName)) (z := (⟨"com/example/classwright/classwright/ReferenceKind", "targetKinds", "(I)Lcom/example/classwright/classwright/KindSet;"⟩ : MethodName)) hown (mvT hZ (hw _ (List.mem_of_getElem? (i := 15) rfl))) (mvT hZ (hw _ (List.mem_of_getElem? (i := 16) rfl))) (notFace_of_selects (args := #[]) (mvT hZ (hw _ (List.mem_of_getElem? (i := 18) rfl)))) (mvT hZ (hw _ (List.mem_of_getElem? (i := 18) rfl))) (mvT hZ (hw _ (List.mem_of_getElem? (i := 17) rfl))) (by decide) (backOf (W := 0) (rmTe l Z a0 hw [] s_GET_STATIC mv s_GET_STATIC_targets s_INVOKE_STATIC s_INVOKE_SPECIAL s_METHODREF_ h0 n0 Z0 E_s_GET_STATIC F_s_GET_STATIC_targets ne_s_GET_STATIC_s_INVOKE_STATIC ne_s_GET_STATIC_s_INVOKE_SPECIAL S_INVOKE_STATIC S_INVOKE_SPECIAL S_METHODREF_ hmv) hZ (hw _ (List.mem_of_getElem? (i := 19) rfl)) (hw _ (List.mem_of_getElem? (i := 3) rfl)) (by decide) (by decide)) q121a q121c (g := (mkF m 31 #[.val (.int k0), .val (.int mv), .val (.int (2 : Int32)), .val (.ref s_GET_STATIC), .unset, .unset, .unset, .unset, .unset, .unset] [(.int mv), (.ref s_GET_STATIC)])) rfl (by rw [hml]; rfl) (Steps.refl _) (argsL := [(.int mv)]) (rest := []) (lenOf pd0_2 rfl) rfl (by show 2 * 0 + _ ≤ _; exact Nat.le_of_eq rfl) (hb hby at_31) (fun _ _ => ⟨rfl, eh120, (by decide : 0 + 0 ≤ _), (by decide : 0 + 0 ≤ _)⟩)
      dsimp only [Pt.U, Pt.locs, Pt.cells, Pt.slots] at X121 l121 y121 z121 st121 hQ121
      subst l121 y121 z121
      obtain ⟨rfl, N121q, eh121⟩ := hQ121
      have N121 := Fr.app N120 N121q
      refine Go.tr st121 ?_
      show Go _ _ _ _ _ _ _ (T121.setTop (mkF m 34 #[.val (.int k0), .val (.int mv), .val (.int (2 : Int32)), .val (.ref s_GET_STATIC), .unset, .unset, .unset, .unset, .unset, .unset] [(.ref s_GET_STATIC_targets)]))
      refine Go.by (fun _ kont => XS.astore X121.here hx rfl (hb hby at_34) rfl rfl (l' := #[.val (.int k0), .val (.int mv), .val (.int (2 : Int32)), .val (.ref s_GET_STATIC), .val (.ref s_GET_STATIC_targets), .unset, .unset, .unset, .unset, .unset]) rfl (XS.iloadN X121.here hx rfl (hb hby at_36) rfl (XS.bipush X121.here hx rfl (hb hby at_37) kont))) ?_
      show Go _ _ _ _ _ _ _ (T121.setTop (mkF m 39 #[.val (.int k0), .val (.int mv), .val (.int (2 : Int32)), .val (.ref s_GET_STATIC), .val (.ref s_GET_STATIC_targets), .unset, .unset, .unset, .unset, .unset] [(.int (52 : Int32)), (.int mv)]))
      refine Go.by (fun _ kont => XS.icmpYes X121.here hx rfl (pc0 := 39) (pc' := 46) rfl (hb hby at_39) rfl (tlt hmv).1 (by decide) (by decide) kont) ?_
      show Go _ _ _ _ _ _ _ (T121.setTop (mkF m 46 #[.val (.int k0), .val (.int mv), .val (.int (2 : Int32)), .val (.ref s_GET_STATIC), .val (.ref s_GET_STATIC_targets), .unset, .unset, .unset, .unset, .unset] []))
      refine Go.by (fun _ kont => XS.iconst X121.here hx rfl (hb hby at_46) (XS.istore X121.here hx rfl (hb hby at_47) rfl (l' := #[.val (.int k0), .val (.int mv), .val (.int (2 : Int32)), .val (.ref s_GET_STATIC), .val (.ref s_GET_STATIC_targets), .val (.int (0 : Int32)), .unset, .unset, .unset, .unset]) rfl (XS.iloadN X121.here hx rfl (hb hby at_49) rfl (XS.iconst X121.here hx rfl (hb hby at_50) (XS.icmpNo X121.here hx rfl (hb hby at_51) rfl (by decide) (XS.iconst X121.here hx rfl (hb hby at_54) (XS.goto X121.here hx rfl (pc0 := 55) (pc' := 59) rfl (hb hby at_55) (by decide) (by decide) (XS.istore X121.here hx rfl (hb hby at_59) rfl (l' := #[.val (.int k0), .val (.int mv), .val (.int (2 : Int32)), .val (.ref s_GET_STATIC), .val (.ref s_GET_STATIC_targets), .val (.int (0 : Int32)), .val (.int (1 : Int32)), .unset, .unset, .unset]) rfl (XS.iloadN X121.here hx rfl (hb hby at_61) rfl (XS.iconst X121.here hx rfl (hb hby at_62) (XS.icmpYes X121.here hx rfl (pc0 := 63) (pc' := 76) rfl (hb hby at_63) rfl (by decide) (by decide) (by decide) (XS.iconst X121.here hx rfl (hb hby at_76) kont)))))))))))) ?_
      show Go _ _ _ _ _ _ _ (T121.setTop (mkF m 77 #[.val (.int k0), .val (.int mv), .val (.int (2 : Int32)), .val (.ref s_GET_STATIC), .val (.ref s_GET_STATIC_targets), .val (.int (0 : Int32)), .val (.int (1 : Int32)), .unset, .unset, .unset] [(.int (0 : Int32))]))
      refine Go.by (fun _ kont => XS.istore X121.here hx rfl (hb hby at_77) rfl (l' := #[.val (.int k0), .val (.int mv), .val (.int (2 : Int32)), .val (.ref s_GET_STATIC), .val (.ref s_GET_STATIC_targets), .val (.int (0 : Int32)), .val (.int (1 : Int32)), .val (.int (0 : Int32)), .unset, .unset]) rfl (XS.iloadN X121.here hx rfl (hb hby at_79) rfl (XS.bipush X121.here hx rfl (hb hby at_80) (XS.icmpNo X121.here hx rfl (hb hby at_82) rfl (by decide) (XS.iloadN X121.here hx rfl (hb hby at_85) rfl (XS.bipush X121.here hx rfl (hb hby at_86) (XS.icmpNo X121.here hx rfl (hb hby at_88) rfl (by decide) (XS.iloadN X121.here hx rfl (hb hby at_91) rfl (XS.bipush X121.here hx rfl (hb hby at_92) (XS.icmpYes X121.here hx rfl (pc0 := 94) (pc' := 106) rfl (hb hby at_94) rfl (by decide) (by decide) (by decide) (XS.iconst X121.here hx rfl (hb hby at_106) (XS.istore X121.here hx rfl (hb hby at_107) rfl (l' := #[.val (.int k0), .val (.int mv), .val (.int (2 : Int32)), .val (.ref s_GET_STATIC), .val (.ref s_GET_STATIC_targets), .val (.int (0 : Int32)), .val (.int (1 : Int32)), .val (.int (0 : Int32)), .val (.int (0 : Int32)), .unset]) rfl kont)))))))))))) ?_
      show Go _ _ _ _ _ _ _ (T121.setTop (mkF m 109 #[.val (.int k0), .val (.int mv), .val (.int (2 : Int32)), .val (.ref s_GET_STATIC), .val (.ref s_GET_STATIC_targets), .val (.int (0 : Int32)), .val (.int (1 : Int32)), .val (.int (0 : Int32)), .val (.int (0 : Int32)), .unset] []))
      refine Go.by (fun _ kont => XS.iload X121.here hx rfl (hb hby at_109) rfl (XS.ifNo X121.here hx rfl (hb hby at_111) rfl (by decide) (XS.iconst X121.here hx rfl (hb hby at_114) (XS.goto X121.here hx rfl (pc0 := 115) (pc' := 119) rfl (hb hby at_115) (by decide) (by decide) (XS.iload X121.here hx rfl (hb hby at_119) rfl (XS.ifYes X121.here hx rfl (pc0 := 121) (pc' := 128) rfl (hb hby at_121) rfl (by decide) (by decide) (by decide) (XS.iconst X121.here hx rfl (hb hby at_128) (XS.iadd X121.here hx rfl (hb hby at_129) rfl kont)))))))) ?_
      show Go _ _ _ _ _ _ _ (T121.setTop (mkF m 130 #[.val (.int k0), .val (.int mv), .val (.int (2 : Int32)), .val (.ref s_GET_STATIC), .val (.ref s_GET_STATIC_targets), .val (.int (0 : Int32)), .val (.int (1 : Int32)), .val (.int (0 : Int32)), .val (.int (0 : Int32)), .unset] [(.int ((1 : Int32) + (0 : Int32)))]))
      rw [show ((1 : Int32) + (0 : Int32)) = (1 : Int32) from by decide]
      show Go _ _ _ _ _ _ _ (T121.setTop (mkF m 130 #[.val (.int k0), .val (.int mv), .val (.int (2 : Int32)), .val (.ref s_GET_STATIC), .val (.ref s_GET_STATIC_targets), .val (.int (0 : Int32)), .val (.int (1 : Int32)), .val (.int (0 : Int32)), .val (.int (0 : Int32)), .unset] [(.int (1 : Int32))]))
      refine Go.by (fun _ kont => XS.iload X121.here hx rfl (hb hby at_130) rfl (XS.ifYes X121.here hx rfl (pc0 := 132) (pc' := 139) rfl (hb hby at_132) rfl (by decide) (by decide) (by decide) (XS.iconst X121.here hx rfl (hb hby at_139) (XS.iadd X121.here hx rfl (hb hby at_140) rfl kont)))) ?_
      show Go _ _ _ _ _ _ _ (T121.setTop (mkF m 141 #[.val (.int k0), .val (.int mv), .val (.int (2 : Int32)), .val (.ref s_GET_STATIC), .val (.ref s_GET_STATIC_targets), .val (.int (0 : Int32)), .val (.int (1 : Int32)), .val (.int (0 : Int32)), .val (.int (0 : Int32)), .unset] [(.int ((1 : Int32) + (0 : Int32)))]))
      rw [show ((1 : Int32) + (0 : Int32)) = (1 : Int32) from by decide]
      show Go _ _ _ _ _ _ _ (T121.setTop (mkF m 141 #[.val (.int k0), .val (.int mv), .val (.int (2 : Int32)), .val (.ref s_GET_STATIC), .val (.ref s_GET_STATIC_targets), .val (.int (0 : Int32)), .val (.int (1 : Int32)), .val (.int (0 : Int32)), .val (.int (0 : Int32)), .unset] [(.int (1 : Int32))]))
      refine Go.by (fun _ kont => XS.istore X121.here hx rfl (hb hby at_141) rfl (l' := #[.val (.int k0), .val (.int mv), .val (.int (2 : Int32)), .val (.ref s_GET_STATIC), .val (.ref s_GET_STATIC_targets), .val (.int (0 : Int32)), .val (.int (1 : Int32)), .val (.int (0 : Int32)), .val (.int (0 : Int32)), .val (.int (1 : Int32))]) rfl (XS.aload X121.here hx rfl (hb hby at_143) rfl rfl kont)) ?_
      show Go _ _ _ _ _ _ _ (T121.setTop (mkF m 145 #[.val (.int k0), .val (.int mv), .val (.int (2 : Int32)), .val (.ref s_GET_STATIC), .val (.ref s_GET_STATIC_targets), .val (.int (0 : Int32)), .val (.int (1 : Int32)), .val (.int (0 : Int32)), .val (.int (0 : Int32)), .val (.int (1 : Int32))] [(.ref s_GET_STATIC_targets)]))
      obtain ⟨T122, X122, e122, st122⟩ := getS2 X121 hx hZ hown (host := "") (Or.inl (hw _ (List.mem_of_getElem? (i := 26) rfl))) Via.refl eh121 S_FIELDREF (g := (mkF m 145 #[.val (.int k0), .val (.int mv), .val (.int (2 : Int32)), .val (.ref s_GET_STATIC), .val (.ref s_GET_STATIC_targets), .val (.int (0 : Int32)), .val (.int (1 : Int32)), .val (.int (0 : Int32)), .val (.int (0 : Int32)), .val (.int (1 : Int32))] [(.ref s_GET_STATIC_targets)])) rfl (hb hby at_145)
      refine Go.by st122 ?_
      show Go _ _ _ _ _ _ _ (T122.setTop (mkF m 148 #[.val (.int k0), .val (.int mv), .val (.int (2 : Int32)), .val (.ref s_GET_STATIC), .val (.ref s_GET_STATIC_targets), .val (.int (0 : Int32)), .val (.int (1 : Int32)), .val (.int (0 : Int32)), .val (.int (0 : Int32)), .val (.int (1 : Int32))] [(.ref s_FIELDREF), (.ref s_GET_STATIC_targets)]))
      obtain ⟨cq123, kq123, q123a, q123b, q123c⟩ := isOf hZ e122 E_s_GET_STATIC_targets
      obtain ⟨_, _, ⟨T123, L123, k123, n123⟩, -, X123, ⟨Lc123, hQ123, l123, y123, z123⟩, st123⟩ := X122.virtualBack hx (y := (⟨"com/example/classwright/classwright/KindSet", "contains", "(Ljava/lang/Object;)Z"⟩ : MethodName)) (z := (⟨"com/example/classwright/classwright/KindSet", "contains", "(Ljava/lang/Object;)Z"⟩ : MethodName)) hown (mvT hZ (hw _ (List.mem_of_getElem? (i := 29) rfl))) (mvT hZ (hw _ (List.mem_of_getElem? (i := 30) rfl))) (notFace_of_selects (args := #[]) (mvT hZ (hw _ (List.mem_of_getElem? (i := 32) rfl)))) (mvT hZ (hw _ (List.mem_of_getElem? (i := 32) rfl))) (mvT hZ (hw _ (List.mem_of_getElem? (i := 31) rfl))) (by decide) (backOf (W := 0) (rmC128_7 l Z a0 hw [] s_GET_STATIC_targets s_FIELDREF h0 n0 Z0 E_s_GET_STATIC_targets F_s_GET_STATIC_targets_bits E_s_FIELDREF F_s_FIELDREF_ordinal) hZ (hw _ (List.mem_of_getElem? (i := 34) rfl)) (hw _ (List.mem_of_getElem? (i := 33) rfl)) (by decide) (by decide)) q123a q123c (g := (mkF m 148 #[.val (.int k0), .val (.int mv), .val (.int (2 : Int32)), .val (.ref s_GET_STATIC), .val (.ref s_GET_STATIC_targets), .val (.int (0 : Int32)), .val (.int (1 : Int32)), .val (.int (0 : Int32)), .val (.int (0 : Int32)), .val (.int (1 : Int32))] [(.ref s_FIELDREF), (.ref s_GET_STATIC_targets)])) rfl (by rw [hml]; rfl) (Steps.refl _) (argsL := [(.ref s_FIELDREF)]) (rest := []) (lenOf pd0_3 rfl) rfl (by show 2 * 0 + _ ≤ _; exact Nat.le_of_eq rfl) (hb hby at_148) (fun _ _ => ⟨rfl, e122, (by decide : 0 + 0 ≤ _), (by decide : 0 + 0 ≤ _)⟩)
      dsimp only [Pt.U, Pt.locs, Pt.cells, Pt.slots] at X123 l123 y123 z123 st123 hQ123
      subst l123 y123 z123
      obtain ⟨rfl, N123q, eh123⟩ := hQ123
      have N123 := Fr.app N121 N123q
      refine Go.tr st123 ?_
      show Go _ _ _ _ _ _ _ (T123.setTop (mkF m 151 #[.val (.int k0), .val (.int mv), .val (.int (2 : Int32)), .val (.ref s_GET_STATIC), .val (.ref s_GET_STATIC_targets), .val (.int (0 : Int32)), .val (.int (1 : Int32)), .val (.int (0 : Int32)), .val (.int (0 : Int32)), .val (.int (1 : Int32))] [(.int (1 : Int32))]))
      refine Go.by (fun _ kont => XS.iload X123.here hx rfl (hb hby at_151) rfl (XS.icmpNo X123.here hx rfl (hb hby at_153) rfl (by decide) (XS.aload X123.here hx rfl (hb hby at_156) rfl rfl kont))) ?_
      show Go _ _ _ _ _ _ _ (T123.setTop (mkF m 158 #[.val (.int k0), .val (.int mv), .val (.int (2 : Int32)), .val (.ref s_GET_STATIC), .val (.ref s_GET_STATIC_targets), .val (.int (0 : Int32)), .val (.int (1 : Int32)), .val (.int (0 : Int32)), .val (.int (0 : Int32)), .val (.int (1 : Int32))] [(.ref s_GET_STATIC_targets)]))
      obtain ⟨T124, X124, e124, st124⟩ := getS2 X123 hx hZ hown (host := "") (Or.inl (hw _ (List.mem_of_getElem? (i := 48) rfl))) Via.refl eh123 S_METHODREF (g := (mkF m 158 #[.val (.int k0), .val (.int mv), .val (.int (2 : Int32)), .val (.ref s_GET_STATIC), .val (.ref s_GET_STATIC_targets), .val (.int (0 : Int32)), .val (.int (1 : Int32)), .val (.int (0 : Int32)), .val (.int (0 : Int32)), .val (.int (1 : Int32))] [(.ref s_GET_STATIC_targets)])) rfl (hb hby at_158)
      refine Go.by st124 ?_
      show Go _ _ _ _ _ _ _ (T124.setTop (mkF m 161 #[.val (.int k0), .val (.int mv), .val (.int (2 : Int32)), .val (.ref s_GET_STATIC), .val (.ref s_GET_STATIC_targets), .val (.int (0 : Int32)), .val (.int (1 : Int32)), .val (.int (0 : Int32)), .val (.int (0 : Int32)), .val (.int (1 : Int32))] [(.ref s_METHODREF), (.ref s_GET_STATIC_targets)]))
      obtain ⟨cq125, kq125, q125a, q125b, q125c⟩ := isOf hZ e124 E_s_GET_STATIC_targets
      obtain ⟨_, _, ⟨T125, L125, k125, n125⟩, -, X125, ⟨Lc125, hQ125, l125, y125, z125⟩, st125⟩ := X124.virtualBack hx (y := (⟨"com/example/classwright/classwright/KindSet", "contains", "(Ljava/lang/Object;)Z"⟩ : MethodName)) (z := (⟨"com/example/classwright/classwright/KindSet", "contains", "(Ljava/lang/Object;)Z"⟩ : MethodName)) hown (mvT hZ (hw _ (List.mem_of_getElem? (i := 29) rfl))) (mvT hZ (hw _ (List.mem_of_getElem? (i := 30) rfl))) (notFace_of_selects (args := #[]) (mvT hZ (hw _ (List.mem_of_getElem? (i := 32) rfl)))) (mvT hZ (hw _ (List.mem_of_getElem? (i := 32) rfl))) (mvT hZ (hw _ (List.mem_of_getElem? (i := 31) rfl))) (by decide) (backOf (W := 0) (rmC128_8 l Z a0 hw [] s_GET_STATIC_targets s_METHODREF h0 n0 Z0 E_s_GET_STATIC_targets F_s_GET_STATIC_targets_bits E_s_METHODREF F_s_METHODREF_ordinal) hZ (hw _ (List.mem_of_getElem? (i := 34) rfl)) (hw _ (List.mem_of_getElem? (i := 33) rfl)) (by decide) (by decide)) q125a q125c (g := (mkF m 161 #[.val (.int k0), .val (.int mv), .val (.int (2 : Int32)), .val (.ref s_GET_STATIC), .val (.ref s_GET_STATIC_targets), .val (.int (0 : Int32)), .val (.int (1 : Int32)), .val (.int (0 : Int32)), .val (.int (0 : Int32)), .val (.int (1 : Int32))] [(.ref s_METHODREF), (.ref s_GET_STATIC_targets)])) rfl (by rw [hml]; rfl) (Steps.refl _) (argsL := [(.ref s_METHODREF)]) (rest := []) (lenOf pd0_3 rfl) rfl (by show 2 * 0 + _ ≤ _; exact Nat.le_of_eq rfl) (hb hby at_161) (fun _ _ => ⟨rfl, e124, (by decide : 0 + 0 ≤ _), (by decide : 0 + 0 ≤ _)⟩)
      dsimp only [Pt.U, Pt.locs, Pt.cells, Pt.slots] at X125 l125 y125 z125 st125 hQ125
      subst l125 y125 z125
      obtain ⟨rfl, N125q, eh125⟩ := hQ125
      have N125 := Fr.app N123 N125q
      refine Go.tr st125 ?_
      show Go _ _ _ _ _ _ _ (T125.setTop (mkF m 164 #[.val (.int k0), .val (.int mv), .val (.int (2 : Int32)), .val (.ref s_GET_STATIC), .val (.ref s_GET_STATIC_targets), .val (.int (0 : Int32)), .val (.int (1 : Int32)), .val (.int (0 : Int32)), .val (.int (0 : Int32)), .val (.int (1 : Int32))] [(.int (0 : Int32))]))
      refine Go.by (fun _ kont => XS.iload X125.here hx rfl (hb hby at_164) rfl (XS.icmpNo X125.here hx rfl (hb hby at_166) rfl (by decide) (XS.aload X125.here hx rfl (hb hby at_169) rfl rfl kont))) ?_
      show Go _ _ _ _ _ _ _ (T125.setTop (mkF m 171 #[.val (.int k0), .val (.int mv), .val (.int (2 : Int32)), .val (.ref s_GET_STATIC), .val (.ref s_GET_STATIC_targets), .val (.int (0 : Int32)), .val (.int (1 : Int32)), .val (.int (0 : Int32)), .val (.int (0 : Int32)), .val (.int (1 : Int32))] [(.ref s_GET_STATIC_targets)]))
      obtain ⟨T126, X126, e126, st126⟩ := getS2 X125 hx hZ hown (host := "") (Or.inl (hw _ (List.mem_of_getElem? (i := 50) rfl))) Via.refl eh125 S_INTERFACE_METHODREF (g := (mkF m 171 #[.val (.int k0), .val (.int mv), .val (.int (2 : Int32)), .val (.ref s_GET_STATIC), .val (.ref s_GET_STATIC_targets), .val (.int (0 : Int32)), .val (.int (1 : Int32)), .val (.int (0 : Int32)), .val (.int (0 : Int32)), .val (.int (1 : Int32))] [(.ref s_GET_STATIC_targets)])) rfl (hb hby at_171)
      refine Go.by st126 ?_
      show Go _ _ _ _ _ _ _ (T126.setTop (mkF m 174 #[.val (.int k0), .val (.int mv), .val (.int (2 : Int32)), .val (.ref s_GET_STATIC), .val (.ref s_GET_STATIC_targets), .val (.int (0 : Int32)), .val (.int (1 : Int32)), .val (.int (0 : Int32)), .val (.int (0 : Int32)), .val (.int (1 : Int32))] [(.ref s_INTERFACE_METHODREF), (.ref s_GET_STATIC_targets)]))
      obtain ⟨cq127, kq127, q127a, q127b, q127c⟩ := isOf hZ e126 E_s_GET_STATIC_targets
      obtain ⟨_, _, ⟨T127, L127, k127, n127⟩, -, X127, ⟨Lc127, hQ127, l127, y127, z127⟩, st127⟩ := X126.virtualBack hx (y := (⟨"com/example/classwright/classwright/KindSet", "contains", "(Ljava/lang/Object;)Z"⟩ : MethodName)) (z := (⟨"com/example/classwright/classwright/KindSet", "contains", "(Ljava/lang/Object;)Z"⟩ : MethodName)) hown (mvT hZ (hw _ (List.mem_of_getElem? (i := 29) rfl))) (mvT hZ (hw _ (List.mem_of_getElem? (i := 30) rfl))) (notFace_of_selects (args := #[]) (mvT hZ (hw _ (List.mem_of_getElem? (i := 32) rfl)))) (mvT hZ (hw _ (List.mem_of_getElem? (i := 32) rfl))) (mvT hZ (hw _ (List.mem_of_getElem? (i := 31) rfl))) (by decide) (backOf (W := 0) (rmC128_9 l Z a0 hw [] s_GET_STATIC_targets s_INTERFACE_METHODREF h0 n0 Z0 E_s_GET_STATIC_targets F_s_GET_STATIC_targets_bits E_s_INTERFACE_METHODREF F_s_INTERFACE_METHODREF_ordinal) hZ (hw _ (List.mem_of_getElem? (i := 34) rfl)) (hw _ (List.mem_of_getElem? (i := 33) rfl)) (by decide) (by decide)) q127a q127c (g := (mkF m 174 #[.val (.int k0), .val (.int mv), .val (.int (2 : Int32)), .val (.ref s_GET_STATIC), .val (.ref s_GET_STATIC_targets), .val (.int (0 : Int32)), .val (.int (1 : Int32)), .val (.int (0 : Int32)), .val (.int (0 : Int32)), .val (.int (1 : Int32))] [(.ref s_INTERFACE_METHODREF), (.ref s_GET_STATIC_targets)])) rfl (by rw [hml]; rfl) (Steps.refl _) (argsL := [(.ref s_INTERFACE_METHODREF)]) (rest := []) (lenOf pd0_3 rfl) rfl (by show 2 * 0 + _ ≤ _; exact Nat.le_of_eq rfl) (hb hby at_174) (fun _ _ => ⟨rfl, e126, (by decide : 0 + 0 ≤ _), (by decide : 0 + 0 ≤ _)⟩)
      dsimp only [Pt.U, Pt.locs, Pt.cells, Pt.slots] at X127 l127 y127 z127 st127 hQ127
      subst l127 y127 z127
      obtain ⟨rfl, N127q, eh127⟩ := hQ127
      have N127 := Fr.app N125 N127q
      refine Go.tr st127 ?_
      show Go _ _ _ _ _ _ _ (T127.setTop (mkF m 177 #[.val (.int k0), .val (.int mv), .val (.int (2 : Int32)), .val (.ref s_GET_STATIC), .val (.ref s_GET_STATIC_targets), .val (.int (0 : Int32)), .val (.int (1 : Int32)), .val (.int (0 : Int32)), .val (.int (0 : Int32)), .val (.int (1 : Int32))] [(.int (0 : Int32))]))
      refine Go.by (fun _ kont => XS.iload X127.here hx rfl (hb hby at_177) rfl (XS.icmpNo X127.here hx rfl (hb hby at_179) rfl (by decide) (XS.aload X127.here hx rfl (hb hby at_182) rfl rfl kont))) ?_
      show Go _ _ _ _ _ _ _ (T127.setTop (mkF m 184 #[.val (.int k0), .val (.int mv), .val (.int (2 : Int32)), .val (.ref s_GET_STATIC), .val (.ref s_GET_STATIC_targets), .val (.int (0 : Int32)), .val (.int (1 : Int32)), .val (.int (0 : Int32)), .val (.int (0 : Int32)), .val (.int (1 : Int32))] [(.ref s_GET_STATIC_targets)]))
      obtain ⟨cq128, kq128, q128a, q128b, q128c⟩ := isOf hZ eh127 E_s_GET_STATIC_targets
      obtain ⟨_, _, ⟨T128, L128, k128, n128⟩, -, X128, ⟨Lc128, hQ128, l128, y128, z128⟩, st128⟩ := X127.virtualBack hx (y := (⟨"com/example/classwright/classwright/KindSet", "size", "()I"⟩ : MethodName)) (z := (⟨"com/example/classwright/classwright/KindSet", "size", "()I"⟩ : MethodName)) hown (mvT hZ (hw _ (List.mem_of_getElem? (i := 52) rfl))) (mvT hZ (hw _ (List.mem_of_getElem? (i := 53) rfl))) (notFace_of_selects (args := #[]) (mvT hZ (hw _ (List.mem_of_getElem? (i := 55) rfl)))) (mvT hZ (hw _ (List.mem_of_getElem? (i := 55) rfl))) (mvT hZ (hw _ (List.mem_of_getElem? (i := 54) rfl))) (by decide) (backOf (W := 0) (rmS128 l Z a0 hw [] s_GET_STATIC_targets h0 n0 Z0 E_s_GET_STATIC_targets F_s_GET_STATIC_targets_bits) hZ (hw _ (List.mem_of_getElem? (i := 56) rfl)) (hw _ (List.mem_of_getElem? (i := 33) rfl)) (by decide) (by decide)) q128a q128c (g := (mkF m 184 #[.val (.int k0), .val (.int mv), .val (.int (2 : Int32)), .val (.ref s_GET_STATIC), .val (.ref s_GET_STATIC_targets), .val (.int (0 : Int32)), .val (.int (1 : Int32)), .val (.int (0 : Int32)), .val (.int (0 : Int32)), .val (.int (1 : Int32))] [(.ref s_GET_STATIC_targets)])) rfl (by rw [hml]; rfl) (Steps.refl _) (argsL := []) (rest := []) (lenOf pd0_1 rfl) rfl (by show 2 * 0 + _ ≤ _; exact Nat.le_of_eq rfl) (hb hby at_184) (fun _ _ => ⟨rfl, eh127, (by decide : 0 + 0 ≤ _), (by decide : 0 + 0 ≤ _)⟩)
      dsimp only [Pt.U, Pt.locs, Pt.cells, Pt.slots] at X128 l128 y128 z128 st128 hQ128
      subst l128 y128 z128
      obtain ⟨rfl, N128q, eh128⟩ := hQ128
      have N128 := Fr.app N127 N128q
      refine Go.tr st128 ?_
      show Go _ _ _ _ _ _ _ (T128.setTop (mkF m 187 #[.val (.int k0), .val (.int mv), .val (.int (2 : Int32)), .val (.ref s_GET_STATIC), .val (.ref s_GET_STATIC_targets), .val (.int (0 : Int32)), .val (.int (1 : Int32)), .val (.int (0 : Int32)), .val (.int (0 : Int32)), .val (.int (1 : Int32))] [(.int (1 : Int32))]))
      refine Go.by (fun _ kont => XS.iload X128.here hx rfl (hb hby at_187) rfl (XS.icmpNo X128.here hx rfl (hb hby at_189) rfl (by decide) (XS.iconst X128.here hx rfl (hb hby at_192) (XS.goto X128.here hx rfl (pc0 := 193) (pc' := 197) rfl (hb hby at_193) (by decide) (by decide) kont)))) ?_
      show Go _ _ _ _ _ _ _ (T128.setTop (mkF m 197 #[.val (.int k0), .val (.int mv), .val (.int (2 : Int32)), .val (.ref s_GET_STATIC), .val (.ref s_GET_STATIC_targets), .val (.int (0 : Int32)), .val (.int (1 : Int32)), .val (.int (0 : Int32)), .val (.int (0 : Int32)), .val (.int (1 : Int32))] [(.int (1 : Int32))]))
      refine Go.retN X128 hx (t := .boolean) hret (by simp) hlk (hb hby at_197) ?_ (by decide) (by decide)
      show Q0 Z h0 n0 (some (.int (1 : Int32))) T128.heap _
      rw [eh128]
      exact ⟨rfl, N128⟩
    · show Go _ _ _ _ _ _ _ (T120.setTop (mkF m 29 #[.val (.int k0), .val (.int mv), .val (.int (2 : Int32)), .val (.ref s_GET_STATIC), .unset, .unset, .unset, .unset, .unset, .unset] []))
      refine Go.by (fun _ kont => XS.aloadN X120.here hx rfl (hb hby at_29) rfl rfl (XS.iloadN X120.here hx rfl (hb hby at_30) rfl kont)) ?_
      show Go _ _ _ _ _ _ _ (T120.setTop (mkF m 31 #[.val (.int k0), .val (.int mv), .val (.int (2 : Int32)), .val (.ref s_GET_STATIC), .unset, .unset, .unset, .unset, .unset, .unset] [(.int mv), (.ref s_GET_STATIC)]))
      obtain ⟨cq129, kq129, q129a, q129b, q129c⟩ := isOf hZ eh120 E_s_GET_STATIC
      obtain ⟨_, _, ⟨T129, L129, k129, n129⟩, -, X129, ⟨Lc129, hQ129, l129, y129, z129⟩, st129⟩ := X120.virtualBack hx (y := (⟨"com/example/classwright/classwright/ReferenceKind", "targetKinds", "(I)Lcom/example/classwright/classwright/KindSet;"⟩ : MethodName)) (z := (⟨"com/example/classwright/classwright/ReferenceKind", "targetKinds", "(I)Lcom/example/classwright/classwright/KindSet;"⟩ : MethodName)) hown (mvT hZ (hw _ (List.mem_of_getElem? (i := 15) rfl))) (mvT hZ (hw _ (List.mem_of_getElem? (i := 16) rfl))) (notFace_of_selects (args := #[]) (mvT hZ (hw _ (List.mem_of_getElem? (i := 18) rfl)))) (mvT hZ (hw _ (List.mem_of_getElem? (i := 18) rfl))) (mvT hZ (hw _ (List.mem_of_getElem? (i := 17) rfl))) (by decide) (backOf (W := 0) (rmTm l Z a0 hw [] s_GET_STATIC mv s_GET_STATIC_targets h0 n0 Z0 E_s_GET_STATIC F_s_GET_STATIC_targets hmv) hZ (hw _ (List.mem_of_getElem? (i := 19) rfl)) (hw _ (List.mem_of_getElem? (i := 3) rfl)) (by decide) (by decide)) q129a q129c (g := (mkF m 31 #[.val (.int k0), .val (.int mv), .val (.int (2 : Int32)), .val (.ref s_GET_STATIC), .unset, .unset, .unset, .unset, .unset, .unset] [(.int mv), (.ref s_GET_STATIC)])) rfl (by rw [hml]; rfl) (Steps.refl _) (argsL := [(.int mv)]) (rest := []) (lenOf pd0_2 rfl) rfl (by show 2 * 0 + _ ≤ _; exact Nat.le_of_eq rfl) (hb hby at_31) (fun _ _ => ⟨rfl, eh120, (by decide : 0 + 0 ≤ _), (by decide : 0 + 0 ≤ _)⟩)
      dsimp only [Pt.U, Pt.locs, Pt.cells, Pt.slots] at X129 l129 y129 z129 st129 hQ129
      subst l129 y129 z129
      obtain ⟨rfl, N129q, eh129⟩ := hQ129
      have N129 := Fr.app N120 N129q
      refine Go.tr st129 ?_
      show Go _ _ _ _ _ _ _ (T129.setTop (mkF m 34 #[.val (.int k0), .val (.int mv), .val (.int (2 : Int32)), .val (.ref s_GET_STATIC), .unset, .unset, .unset, .unset, .unset, .unset] [(.ref s_GET_STATIC_targets)]))
      refine Go.by (fun _ kont => XS.astore X129.here hx rfl (hb hby at_34) rfl rfl (l' := #[.val (.int k0), .val (.int mv), .val (.int (2 : Int32)), .val (.ref s_GET_STATIC), .val (.ref s_GET_STATIC_targets), .unset, .unset, .unset, .unset, .unset]) rfl (XS.iloadN X129.here hx rfl (hb hby at_36) rfl (XS.bipush X129.here hx rfl (hb hby at_37) kont))) ?_
      show Go _ _ _ _ _ _ _ (T129.setTop (mkF m 39 #[.val (.int k0), .val (.int mv), .val (.int (2 : Int32)), .val (.ref s_GET_STATIC), .val (.ref s_GET_STATIC_targets), .unset, .unset, .unset, .unset, .unset] [(.int (52 : Int32)), (.int mv)]))
      refine Go.by (fun _ kont => XS.icmpNo X129.here hx rfl (hb hby at_39) rfl (flt hmv).1 kont) ?_
      show Go _ _ _ _ _ _ _ (T129.setTop (mkF m 42 #[.val (.int k0), .val (.int mv), .val (.int (2 : Int32)), .val (.ref s_GET_STATIC), .val (.ref s_GET_STATIC_targets), .unset, .unset, .unset, .unset, .unset] []))
      refine Go.by (fun _ kont => XS.iconst X129.here hx rfl (hb hby at_42) (XS.goto X129.here hx rfl (pc0 := 43) (pc' := 47) rfl (hb hby at_43) (by decide) (by decide) (XS.istore X129.here hx rfl (hb hby at_47) rfl (l' := #[.val (.int k0), .val (.int mv), .val (.int (2 : Int32)), .val (.ref s_GET_STATIC), .val (.ref s_GET_STATIC_targets), .val (.int (1 : Int32)), .unset, .unset, .unset, .unset]) rfl (XS.iloadN X129.here hx rfl (hb hby at_49) rfl (XS.iconst X129.here hx rfl (hb hby at_50) (XS.icmpNo X129.here hx rfl (hb hby at_51) rfl (by decide) (XS.iconst X129.here hx rfl (hb hby at_54) (XS.goto X129.here hx rfl (pc0 := 55) (pc' := 59) rfl (hb hby at_55) (by decide) (by decide) (XS.istore X129.here hx rfl (hb hby at_59) rfl (l' := #[.val (.int k0), .val (.int mv), .val (.int (2 : Int32)), .val (.ref s_GET_STATIC), .val (.ref s_GET_STATIC_targets), .val (.int (1 : Int32)), .val (.int (1 : Int32)), .unset, .unset, .unset]) rfl (XS.iloadN X129.here hx rfl (hb hby at_61) rfl (XS.iconst X129.here hx rfl (hb hby at_62) (XS.icmpYes X129.here hx rfl (pc0 := 63) (pc' := 76) rfl (hb hby at_63) rfl (by decide) (by decide) (by decide) kont)))))))))))) ?_
      show Go _ _ _ _ _ _ _ (T129.setTop (mkF m 76 #[.val (.int k0), .val (.int mv), .val (.int (2 : Int32)), .val (.ref s_GET_STATIC), .val (.ref s_GET_STATIC_targets), .val (.int (1 : Int32)), .val (.int (1 : Int32)), .unset, .unset, .unset] []))
      refine Go.by (fun _ kont => XS.iconst X129.here hx rfl (hb hby at_76) (XS.istore X129.here hx rfl (hb hby at_77) rfl (l' := #[.val (.int k0), .val (.int mv), .val (.int (2 : Int32)), .val (.ref s_GET_STATIC), .val (.ref s_GET_STATIC_targets), .val (.int (1 : Int32)), .val (.int (1 : Int32)), .val (.int (0 : Int32)), .unset, .unset]) rfl (XS.iloadN X129.here hx rfl (hb hby at_79) rfl (XS.bipush X129.here hx rfl (hb hby at_80) (XS.icmpNo X129.here hx rfl (hb hby at_82) rfl (by decide) (XS.iloadN X129.here hx rfl (hb hby at_85) rfl (XS.bipush X129.here hx rfl (hb hby at_86) (XS.icmpNo X129.here hx rfl (hb hby at_88) rfl (by decide) (XS.iloadN X129.here hx rfl (hb hby at_91) rfl (XS.bipush X129.here hx rfl (hb hby at_92) (XS.icmpYes X129.here hx rfl (pc0 := 94) (pc' := 106) rfl (hb hby at_94) rfl (by decide) (by decide) (by decide) (XS.iconst X129.here hx rfl (hb hby at_106) kont)))))))))))) ?_
      show Go _ _ _ _ _ _ _ (T129.setTop (mkF m 107 #[.val (.int k0), .val (.int mv), .val (.int (2 : Int32)), .val (.ref s_GET_STATIC), .val (.ref s_GET_STATIC_targets), .val (.int (1 : Int32)), .val (.int (1 : Int32)), .val (.int (0 : Int32)), .unset, .unset] [(.int (0 : Int32))]))
      refine Go.by (fun _ kont => XS.istore X129.here hx rfl (hb hby at_107) rfl (l' := #[.val (.int k0), .val (.int mv), .val (.int (2 : Int32)), .val (.ref s_GET_STATIC), .val (.ref s_GET_STATIC_targets), .val (.int (1 : Int32)), .val (.int (1 : Int32)), .val (.int (0 : Int32)), .val (.int (0 : Int32)), .unset]) rfl (XS.iload X129.here hx rfl (hb hby at_109) rfl (XS.ifNo X129.here hx rfl (hb hby at_111) rfl (by decide) (XS.iconst X129.here hx rfl (hb hby at_114) (XS.goto X129.here hx rfl (pc0 := 115) (pc' := 119) rfl (hb hby at_115) (by decide) (by decide) (XS.iload X129.here hx rfl (hb hby at_119) rfl (XS.ifYes X129.here hx rfl (pc0 := 121) (pc' := 128) rfl (hb hby at_121) rfl (by decide) (by decide) (by decide) (XS.iconst X129.here hx rfl (hb hby at_128) (XS.iadd X129.here hx rfl (hb hby at_129) rfl kont))))))))) ?_
      show Go _ _ _ _ _ _ _ (T129.setTop (mkF m 130 #[.val (.int k0), .val (.int mv), .val (.int (2 : Int32)), .val (.ref s_GET_STATIC), .val (.ref s_GET_STATIC_targets), .val (.int (1 : Int32)), .val (.int (1 : Int32)), .val (.int (0 : Int32)), .val (.int (0 : Int32)), .unset] [(.int ((1 : Int32) + (0 : Int32)))]))
      rw [show ((1 : Int32) + (0 : Int32)) = (1 : Int32) from by decide]
      show Go _ _ _ _ _ _ _ (T129.setTop (mkF m 130 #[.val (.int k0), .val (.int mv), .val (.int (2 : Int32)), .val (.ref s_GET_STATIC), .val (.ref s_GET_STATIC_targets), .val (.int (1 : Int32)), .val (.int (1 : Int32)), .val (.int (0 : Int32)), .val (.int (0 : Int32)), .unset] [(.int (1 : Int32))]))
      refine Go.by (fun _ kont => XS.iload X129.here hx rfl (hb hby at_130) rfl (XS.ifYes X129.here hx rfl (pc0 := 132) (pc' := 139) rfl (hb hby at_132) rfl (by decide) (by decide) (by decide) (XS.iconst X129.here hx rfl (hb hby at_139) (XS.iadd X129.here hx rfl (hb hby at_140) rfl kont)))) ?_
      show Go _ _ _ _ _ _ _ (T129.setTop (mkF m 141 #[.val (.int k0), .val (.int mv), .val (.int (2 : Int32)), .val (.ref s_GET_STATIC), .val (.ref s_GET_STATIC_targets), .val (.int (1 : Int32)), .val (.int (1 : Int32)), .val (.int (0 : Int32)), .val (.int (0 : Int32)), .unset] [(.int ((1 : Int32) + (0 : Int32)))]))
      rw [show ((1 : Int32) + (0 : Int32)) = (1 : Int32) from by decide]
      show Go _ _ _ _ _ _ _ (T129.setTop (mkF m 141 #[.val (.int k0), .val (.int mv), .val (.int (2 : Int32)), .val (.ref s_GET_STATIC), .val (.ref s_GET_STATIC_targets), .val (.int (1 : Int32)), .val (.int (1 : Int32)), .val (.int (0 : Int32)), .val (.int (0 : Int32)), .unset] [(.int (1 : Int32))]))
      refine Go.by (fun _ kont => XS.istore X129.here hx rfl (hb hby at_141) rfl (l' := #[.val (.int k0), .val (.int mv), .val (.int (2 : Int32)), .val (.ref s_GET_STATIC), .val (.ref s_GET_STATIC_targets), .val (.int (1 : Int32)), .val (.int (1 : Int32)), .val (.int (0 : Int32)), .val (.int (0 : Int32)), .val (.int (1 : Int32))]) rfl (XS.aload X129.here hx rfl (hb hby at_143) rfl rfl kont)) ?_
      show Go _ _ _ _ _ _ _ (T129.setTop (mkF m 145 #[.val (.int k0), .val (.int mv), .val (.int (2 : Int32)), .val (.ref s_GET_STATIC), .val (.ref s_GET_STATIC_targets), .val (.int (1 : Int32)), .val (.int (1 : Int32)), .val (.int (0 : Int32)), .val (.int (0 : Int32)), .val (.int (1 : Int32))] [(.ref s_GET_STATIC_targets)]))
      obtain ⟨T130, X130, e130, st130⟩ := getS2 X129 hx hZ hown (host := "") (Or.inl (hw _ (List.mem_of_getElem? (i := 26) rfl))) Via.refl eh129 S_FIELDREF (g := (mkF m 145 #[.val (.int k0), .val (.int mv), .val (.int (2 : Int32)), .val (.ref s_GET_STATIC), .val (.ref s_GET_STATIC_targets), .val (.int (1 : Int32)), .val (.int (1 : Int32)), .val (.int (0 : Int32)), .val (.int (0 : Int32)), .val (.int (1 : Int32))] [(.ref s_GET_STATIC_targets)])) rfl (hb hby at_145)
      refine Go.by st130 ?_
      show Go _ _ _ _ _ _ _ (T130.setTop (mkF m 148 #[.val (.int k0), .val (.int mv), .val (.int (2 : Int32)), .val (.ref s_GET_STATIC), .val (.ref s_GET_STATIC_targets), .val (.int (1 : Int32)), .val (.int (1 : Int32)), .val (.int (0 : Int32)), .val (.int (0 : Int32)), .val (.int (1 : Int32))] [(.ref s_FIELDREF), (.ref s_GET_STATIC_targets)]))
      obtain ⟨cq131, kq131, q131a, q131b, q131c⟩ := isOf hZ e130 E_s_GET_STATIC_targets
      obtain ⟨_, _, ⟨T131, L131, k131, n131⟩, -, X131, ⟨Lc131, hQ131, l131, y131, z131⟩, st131⟩ := X130.virtualBack hx (y := (⟨"com/example/classwright/classwright/KindSet", "contains", "(Ljava/lang/Object;)Z"⟩ : MethodName)) (z := (⟨"com/example/classwright/classwright/KindSet", "contains", "(Ljava/lang/Object;)Z"⟩ : MethodName)) hown (mvT hZ (hw _ (List.mem_of_getElem? (i := 29) rfl))) (mvT hZ (hw _ (List.mem_of_getElem? (i := 30) rfl))) (notFace_of_selects (args := #[]) (mvT hZ (hw _ (List.mem_of_getElem? (i := 32) rfl)))) (mvT hZ (hw _ (List.mem_of_getElem? (i := 32) rfl))) (mvT hZ (hw _ (List.mem_of_getElem? (i := 31) rfl))) (by decide) (backOf (W := 0) (rmC128_7 l Z a0 hw [] s_GET_STATIC_targets s_FIELDREF h0 n0 Z0 E_s_GET_STATIC_targets F_s_GET_STATIC_targets_bits E_s_FIELDREF F_s_FIELDREF_ordinal) hZ (hw _ (List.mem_of_getElem? (i := 34) rfl)) (hw _ (List.mem_of_getElem? (i := 33) rfl)) (by decide) (by decide)) q131a q131c (g := (mkF m 148 #[.val (.int k0), .val (.int mv), .val (.int (2 : Int32)), .val (.ref s_GET_STATIC), .val (.ref s_GET_STATIC_targets), .val (.int (1 : Int32)), .val (.int (1 : Int32)), .val (.int (0 : Int32)), .val (.int (0 : Int32)), .val (.int (1 : Int32))] [(.ref s_FIELDREF), (.ref s_GET_STATIC_targets)])) rfl (by rw [hml]; rfl) (Steps.refl _) (argsL := [(.ref s_FIELDREF)]) (rest := []) (lenOf pd0_3 rfl) rfl (by show 2 * 0 + _ ≤ _; exact Nat.le_of_eq rfl) (hb hby at_148) (fun _ _ => ⟨rfl, e130, (by decide : 0 + 0 ≤ _), (by decide : 0 + 0 ≤ _)⟩)
      dsimp only [Pt.U, Pt.locs, Pt.cells, Pt.slots] at X131 l131 y131 z131 st131 hQ131
      subst l131 y131 z131
      obtain ⟨rfl, N131q, eh131⟩ := hQ131
      have N131 := Fr.app N129 N131q
      refine Go.tr st131 ?_
      show Go _ _ _ _ _ _ _ (T131.setTop (mkF m 151 #[.val (.int k0), .val (.int mv), .val (.int (2 : Int32)), .val (.ref s_GET_STATIC), .val (.ref s_GET_STATIC_targets), .val (.int (1 : Int32)), .val (.int (1 : Int32)), .val (.int (0 : Int32)), .val (.int (0 : Int32)), .val (.int (1 : Int32))] [(.int (1 : Int32))]))
      refine Go.by (fun _ kont => XS.iload X131.here hx rfl (hb hby at_151) rfl (XS.icmpNo X131.here hx rfl (hb hby at_153) rfl (by decide) (XS.aload X131.here hx rfl (hb hby at_156) rfl rfl kont))) ?_
      show Go _ _ _ _ _ _ _ (T131.setTop (mkF m 158 #[.val (.int k0), .val (.int mv), .val (.int (2 : Int32)), .val (.ref s_GET_STATIC), .val (.ref s_GET_STATIC_targets), .val (.int (1 : Int32)), .val (.int (1 : Int32)), .val (.int (0 : Int32)), .val (.int (0 : Int32)), .val (.int (1 : Int32))] [(.ref s_GET_STATIC_targets)]))
      obtain ⟨T132, X132, e132, st132⟩ := getS2 X131 hx hZ hown (host := "") (Or.inl (hw _ (List.mem_of_getElem? (i := 48) rfl))) Via.refl eh131 S_METHODREF (g := (mkF m 158 #[.val (.int k0), .val (.int mv), .val (.int (2 : Int32)), .val (.ref s_GET_STATIC), .val (.ref s_GET_STATIC_targets), .val (.int (1 : Int32)), .val (.int (1 : Int32)), .val (.int (0 : Int32)), .val (.int (0 : Int32)), .val (.int (1 : Int32))] [(.ref s_GET_STATIC_targets)])) rfl (hb hby at_158)
      refine Go.by st132 ?_
      show Go _ _ _ _ _ _ _ (T132.setTop (mkF m 161 #[.val (.int k0), .val (.int mv), .val (.int (2 : Int32)), .val (.ref s_GET_STATIC), .val (.ref s_GET_STATIC_targets), .val (.int (1 : Int32)), .val (.int (1 : Int32)), .val (.int (0 : Int32)), .val (.int (0 : Int32)), .val (.int (1 : Int32))] [(.ref s_METHODREF), (.ref s_GET_STATIC_targets)]))
      obtain ⟨cq133, kq133, q133a, q133b, q133c⟩ := isOf hZ e132 E_s_GET_STATIC_targets
      obtain ⟨_, _, ⟨T133, L133, k133, n133⟩, -, X133, ⟨Lc133, hQ133, l133, y133, z133⟩, st133⟩ := X132.virtualBack hx (y := (⟨"com/example/classwright/classwright/KindSet", "contains", "(Ljava/lang/Object;)Z"⟩ : MethodName)) (z := (⟨"com/example/classwright/classwright/KindSet", "contains", "(Ljava/lang/Object;)Z"⟩ : MethodName)) hown (mvT hZ (hw _ (List.mem_of_getElem? (i := 29) rfl))) (mvT hZ (hw _ (List.mem_of_getElem? (i := 30) rfl))) (notFace_of_selects (args := #[]) (mvT hZ (hw _ (List.mem_of_getElem? (i := 32) rfl)))) (mvT hZ (hw _ (List.mem_of_getElem? (i := 32) rfl))) (mvT hZ (hw _ (List.mem_of_getElem? (i := 31) rfl))) (by decide) (backOf (W := 0) (rmC128_8 l Z a0 hw [] s_GET_STATIC_targets s_METHODREF h0 n0 Z0 E_s_GET_STATIC_targets F_s_GET_STATIC_targets_bits E_s_METHODREF F_s_METHODREF_ordinal) hZ (hw _ (List.mem_of_getElem? (i := 34) rfl)) (hw _ (List.mem_of_getElem? (i := 33) rfl)) (by decide) (by decide)) q133a q133c (g := (mkF m 161 #[.val (.int k0), .val (.int mv), .val (.int (2 : Int32)), .val (.ref s_GET_STATIC), .val (.ref s_GET_STATIC_targets), .val (.int (1 : Int32)), .val (.int (1 : Int32)), .val (.int (0 : Int32)), .val (.int (0 : Int32)), .val (.int (1 : Int32))] [(.ref s_METHODREF), (.ref s_GET_STATIC_targets)])) rfl (by rw [hml]; rfl) (Steps.refl _) (argsL := [(.ref s_METHODREF)]) (rest := []) (lenOf pd0_3 rfl) rfl (by show 2 * 0 + _ ≤ _; exact Nat.le_of_eq rfl) (hb hby at_161) (fun _ _ => ⟨rfl, e132, (by decide : 0 + 0 ≤ _), (by decide : 0 + 0 ≤ _)⟩)
      dsimp only [Pt.U, Pt.locs, Pt.cells, Pt.slots] at X133 l133 y133 z133 st133 hQ133
      subst l133 y133 z133
      obtain ⟨rfl, N133q, eh133⟩ := hQ133
      have N133 := Fr.app N131 N133q
      refine Go.tr st133 ?_
      show Go _ _ _ _ _ _ _ (T133.setTop (mkF m 164 #[.val (.int k0), .val (.int mv), .val (.int (2 : Int32)), .val (.ref s_GET_STATIC), .val (.ref s_GET_STATIC_targets), .val (.int (1 : Int32)), .val (.int (1 : Int32)), .val (.int (0 : Int32)), .val (.int (0 : Int32)), .val (.int (1 : Int32))] [(.int (0 : Int32))]))
      refine Go.by (fun _ kont => XS.iload X133.here hx rfl (hb hby at_164) rfl (XS.icmpNo X133.here hx rfl (hb hby at_166) rfl (by decide) (XS.aload X133.here hx rfl (hb hby at_169) rfl rfl kont))) ?_
      show Go _ _ _ _ _ _ _ (T133.setTop (mkF m 171 #[.val (.int k0), .val (.int mv), .val (.int (2 : Int32)), .val (.ref s_GET_STATIC), .val (.ref s_GET_STATIC_targets), .val (.int (1 : Int32)), .val (.int (1 : Int32)), .val (.int (0 : Int32)), .val (.int (0 : Int32)), .val (.int (1 : Int32))] [(.ref s_GET_STATIC_targets)]))
      obtain ⟨T134, X134, e134, st134⟩ := getS2 X133 hx hZ hown (host := "") (Or.inl (hw _ (List.mem_of_getElem? (i := 50) rfl))) Via.refl eh133 S_INTERFACE_METHODREF (g := (mkF m 171 #[.val (.int k0), .val (.int mv), .val (.int (2 : Int32)), .val (.ref s_GET_STATIC), .val (.ref s_GET_STATIC_targets), .val (.int (1 : Int32)), .val (.int (1 : Int32)), .val (.int (0 : Int32)), .val (.int (0 : Int32)), .val (.int (1 : Int32))] [(.ref s_GET_STATIC_targets)])) rfl (hb hby at_171)
      refine Go.by st134 ?_
      show Go _ _ _ _ _ _ _ (T134.setTop (mkF m 174 #[.val (.int k0), .val (.int mv), .val (.int (2 : Int32)), .val (.ref s_GET_STATIC), .val (.ref s_GET_STATIC_targets), .val (.int (1 : Int32)), .val (.int (1 : Int32)), .val (.int (0 : Int32)), .val (.int (0 : Int32)), .val (.int (1 : Int32))] [(.ref s_INTERFACE_METHODREF), (.ref s_GET_STATIC_targets)]))
      obtain ⟨cq135, kq135, q135a, q135b, q135c⟩ := isOf hZ e134 E_s_GET_STATIC_targets
      obtain ⟨_, _, ⟨T135, L135, k135, n135⟩, -, X135, ⟨Lc135, hQ135, l135, y135, z135⟩, st135⟩ := X134.virtualBack hx (y := (⟨"com/example/classwright/classwright/KindSet", "contains", "(Ljava/lang/Object;)Z"⟩ : MethodName)) (z := (⟨"com/example/classwright/classwright/KindSet", "contains", "(Ljava/lang/Object;)Z"⟩ : MethodName)) hown (mvT hZ (hw _ (List.mem_of_getElem? (i := 29) rfl))) (mvT hZ (hw _ (List.mem_of_getElem? (i := 30) rfl))) (notFace_of_selects (args := #[]) (mvT hZ (hw _ (List.mem_of_getElem? (i := 32) rfl)))) (mvT hZ (hw _ (List.mem_of_getElem? (i := 32) rfl))) (mvT hZ (hw _ (List.mem_of_getElem? (i := 31) rfl))) (by decide) (backOf (W := 0) (rmC128_9 l Z a0 hw [] s_GET_STATIC_targets s_INTERFACE_METHODREF h0 n0 Z0 E_s_GET_STATIC_targets F_s_GET_STATIC_targets_bits E_s_INTERFACE_METHODREF F_s_INTERFACE_METHODREF_ordinal) hZ (hw _ (List.mem_of_getElem? (i := 34) rfl)) (hw _ (List.mem_of_getElem? (i := 33) rfl)) (by decide) (by decide)) q135a q135c (g := (mkF m 174 #[.val (.int k0), .val (.int mv), .val (.int (2 : Int32)), .val (.ref s_GET_STATIC), .val (.ref s_GET_STATIC_targets), .val (.int (1 : Int32)), .val (.int (1 : Int32)), .val (.int (0 : Int32)), .val (.int (0 : Int32)), .val (.int (1 : Int32))] [(.ref s_INTERFACE_METHODREF), (.ref s_GET_STATIC_targets)])) rfl (by rw [hml]; rfl) (Steps.refl _) (argsL := [(.ref s_INTERFACE_METHODREF)]) (rest := []) (lenOf pd0_3 rfl) rfl (by show 2 * 0 + _ ≤ _; exact Nat.le_of_eq rfl) (hb hby at_174) (fun _ _ => ⟨rfl, e134, (by decide : 0 + 0 ≤ _), (by decide : 0 + 0 ≤ _)⟩)
      dsimp only [Pt.U, Pt.locs, Pt.cells, Pt.slots] at X135 l135 y135 z135 st135 hQ135
      subst l135 y135 z135
      obtain ⟨rfl, N135q, eh135⟩ := hQ135
      have N135 := Fr.app N133 N135q
      refine Go.tr st135 ?_
      show Go _ _ _ _ _ _ _ (T135.setTop (mkF m 177 #[.val (.int k0), .val (.int mv), .val (.int (2 : Int32)), .val (.ref s_GET_STATIC), .val (.ref s_GET_STATIC_targets), .val (.int (1 : Int32)), .val (.int (1 : Int32)), .val (.int (0 : Int32)), .val (.int (0 : Int32)), .val (.int (1 : Int32))] [(.int (0 : Int32))]))
      refine Go.by (fun _ kont => XS.iload X135.here hx rfl (hb hby at_177) rfl (XS.icmpNo X135.here hx rfl (hb hby at_179) rfl (by decide) (XS.aload X135.here hx rfl (hb hby at_182) rfl rfl kont))) ?_
      show Go _ _ _ _ _ _ _ (T135.setTop (mkF m 184 #[.val (.int k0), .val (.int mv), .val (.int (2 : Int32)), .val (.ref s_GET_STATIC), .val (.ref s_GET_STATIC_targets), .val (.int (1 : Int32)), .val (.int (1 : Int32)), .val (.int (0 : Int32)), .val (.int (0 : Int32)), .val (.int (1 : Int32))] [(.ref s_GET_STATIC_targets)]))
      obtain ⟨cq136, kq136, q136a, q136b, q136c⟩ := isOf hZ eh135 E_s_GET_STATIC_targets
      obtain ⟨_, _, ⟨T136, L136, k136, n136⟩, -, X136, ⟨Lc136, hQ136, l136, y136, z136⟩, st136⟩ := X135.virtualBack hx (y := (⟨"com/example/classwright/classwright/KindSet", "size", "()I"⟩ : MethodName)) (z := (⟨"com/example/classwright/classwright/KindSet", "size", "()I"⟩ : MethodName)) hown (mvT hZ (hw _ (List.mem_of_getElem? (i := 52) rfl))) (mvT hZ (hw _ (List.mem_of_getElem? (i := 53) rfl))) (notFace_of_selects (args := #[]) (mvT hZ (hw _ (List.mem_of_getElem? (i := 55) rfl)))) (mvT hZ (hw _ (List.mem_of_getElem? (i := 55) rfl))) (mvT hZ (hw _ (List.mem_of_getElem? (i := 54) rfl))) (by decide) (backOf (W := 0) (rmS128 l Z a0 hw [] s_GET_STATIC_targets h0 n0 Z0 E_s_GET_STATIC_targets F_s_GET_STATIC_targets_bits) hZ (hw _ (List.mem_of_getElem? (i := 56) rfl)) (hw _ (List.mem_of_getElem? (i := 33) rfl)) (by decide) (by decide)) q136a q136c (g := (mkF m 184 #[.val (.int k0), .val (.int mv), .val (.int (2 : Int32)), .val (.ref s_GET_STATIC), .val (.ref s_GET_STATIC_targets), .val (.int (1 : Int32)), .val (.int (1 : Int32)), .val (.int (0 : Int32)), .val (.int (0 : Int32)), .val (.int (1 : Int32))] [(.ref s_GET_STATIC_targets)])) rfl (by rw [hml]; rfl) (Steps.refl _) (argsL := []) (rest := []) (lenOf pd0_1 rfl) rfl (by show 2 * 0 + _ ≤ _; exact Nat.le_of_eq rfl) (hb hby at_184) (fun _ _ => ⟨rfl, eh135, (by decide : 0 + 0 ≤ _), (by decide : 0 + 0 ≤ _)⟩)
      dsimp only [Pt.U, Pt.locs, Pt.cells, Pt.slots] at X136 l136 y136 z136 st136 hQ136
      subst l136 y136 z136
      obtain ⟨rfl, N136q, eh136⟩ := hQ136
      have N136 := Fr.app N135 N136q
      refine Go.tr st136 ?_
      show Go _ _ _ _ _ _ _ (T136.setTop (mkF m 187 #[.val (.int k0), .val (.int mv), .val (.int (2 : Int32)), .val (.ref s_GET_STATIC), .val (.ref s_GET_STATIC_targets), .val (.int (1 : Int32)), .val (.int (1 : Int32)), .val (.int (0 : Int32)), .val (.int (0 : Int32)), .val (.int (1 : Int32))] [(.int (1 : Int32))]))
      refine Go.by (fun _ kont => XS.iload X136.here hx rfl (hb hby at_187) rfl (XS.icmpNo X136.here hx rfl (hb hby at_189) rfl (by decide) (XS.iconst X136.here hx rfl (hb hby at_192) (XS.goto X136.here hx rfl (pc0 := 193) (pc' := 197) rfl (hb hby at_193) (by decide) (by decide) kont)))) ?_
      show Go _ _ _ _ _ _ _ (T136.setTop (mkF m 197 #[.val (.int k0), .val (.int mv), .val (.int (2 : Int32)), .val (.ref s_GET_STATIC), .val (.ref s_GET_STATIC_targets), .val (.int (1 : Int32)), .val (.int (1 : Int32)), .val (.int (0 : Int32)), .val (.int (0 : Int32)), .val (.int (1 : Int32))] [(.int (1 : Int32))]))
      refine Go.retN X136 hx (t := .boolean) hret (by simp) hlk (hb hby at_197) ?_ (by decide) (by decide)
      show Q0 Z h0 n0 (some (.int (1 : Int32))) T136.heap _
      rw [eh136]
      exact ⟨rfl, N136⟩
  · show Go _ _ _ _ _ _ _ (s₁.setTop (mkF m 10 #[.val (.int k0), .val (.int mv), .val (.int (3 : Int32)), .unset, .unset, .unset, .unset, .unset, .unset, .unset] []))
    refine Go.by (fun _ kont => XS.iloadN X0.here hx rfl (hb hby at_10) rfl kont) ?_
    show Go _ _ _ _ _ _ _ (s₁.setTop (mkF m 11 #[.val (.int k0), .val (.int mv), .val (.int (3 : Int32)), .unset, .unset, .unset, .unset, .unset, .unset, .unset] [(.int (3 : Int32))]))
    obtain ⟨_, _, ⟨T137, L137, k137, n137⟩, -, X137, ⟨Lc137, hQ137, l137, y137, z137⟩, st137⟩ := Jvm.LawKit.callS X0 hx (y := (⟨"com/example/classwright/classwright/ReferenceKind", "forByte", "(I)Lcom/example/classwright/classwright/ReferenceKind;"⟩ : MethodName)) hown (mvT hZ (hw _ (List.mem_of_getElem? (i := 1) rfl))) (mvT hZ (hw _ (List.mem_of_getElem? (i := 2) rfl))) (mvT hZ (hw _ (List.mem_of_getElem? (i := 3) rfl))) (mvT hZ (hw _ (List.mem_of_getElem? (i := 4) rfl))) (by decide) (backOf (W := 0) (rmF3 l Z a0 hw [] s_BY_VALUE kc_s_BY_VALUE s_GET_FIELD s_GET_STATIC s_PUT_FIELD s_PUT_STATIC s_INVOKE_VIRTUAL s_INVOKE_STATIC s_INVOKE_SPECIAL s_NEW_INVOKE_SPECIAL s_INVOKE_INTERFACE h0 n0 Z0 V_s_BY_VALUE S_BY_VALUE) hZ (hw _ (List.mem_of_getElem? (i := 4) rfl)) (hw _ (List.mem_of_getElem? (i := 3) rfl)) (by decide) (by decide)) (g := (mkF m 11 #[.val (.int k0), .val (.int mv), .val (.int (3 : Int32)), .unset, .unset, .unset, .unset, .unset, .unset, .unset] [(.int (3 : Int32))])) rfl (by rw [hml]; rfl) (argsL := [(.int (3 : Int32))]) (rest := []) (lenOf pd0_0 rfl) rfl (by show 2 * 0 + _ ≤ _; exact Nat.le_of_eq rfl) (hb hby at_11) (fun _ _ => ⟨rfl, e0, (by decide : 0 + 0 ≤ _), (by decide : 0 + 0 ≤ _)⟩)
    dsimp only [Pt.U, Pt.locs, Pt.cells, Pt.slots] at X137 l137 y137 z137 st137 hQ137
    subst l137 y137 z137
    obtain ⟨rfl, N137q, eh137⟩ := hQ137
    have N137 := Fr.app N0 N137q
    refine Go.by st137 ?_
    show Go _ _ _ _ _ _ _ (T137.setTop (mkF m 14 #[.val (.int k0), .val (.int mv), .val (.int (3 : Int32)), .unset, .unset, .unset, .unset, .unset, .unset, .unset] [(.ref s_PUT_FIELD)]))
    refine Go.by (fun _ kont => XS.astoreN X137.here hx rfl (hb hby at_14) rfl rfl (l' := #[.val (.int k0), .val (.int mv), .val (.int (3 : Int32)), .val (.ref s_PUT_FIELD), .unset, .unset, .unset, .unset, .unset, .unset]) rfl (XS.aloadN X137.here hx rfl (hb hby at_15) rfl rfl (XS.ifnullNo X137.here hx rfl (hb hby at_16) rfl (XS.aloadN X137.here hx rfl (hb hby at_19) rfl rfl kont)))) ?_
    show Go _ _ _ _ _ _ _ (T137.setTop (mkF m 20 #[.val (.int k0), .val (.int mv), .val (.int (3 : Int32)), .val (.ref s_PUT_FIELD), .unset, .unset, .unset, .unset, .unset, .unset] [(.ref s_PUT_FIELD)]))
    obtain ⟨cq138, kq138, q138a, q138b, q138c⟩ := isOf hZ eh137 E_s_PUT_FIELD
    obtain ⟨_, _, ⟨T138, L138, k138, n138⟩, -, X138, ⟨Lc138, hQ138, l138, y138, z138⟩, st138⟩ := X137.virtualBack hx (y := (⟨"com/example/classwright/classwright/ReferenceKind", "value", "()I"⟩ : MethodName)) (z := (⟨"com/example/classwright/classwright/ReferenceKind", "value", "()I"⟩ : MethodName)) hown (mvT hZ (hw _ (List.mem_of_getElem? (i := 8) rfl))) (mvT hZ (hw _ (List.mem_of_getElem? (i := 9) rfl))) (notFace_of_selects (args := #[]) (mvT hZ (hw _ (List.mem_of_getElem? (i := 11) rfl)))) (mvT hZ (hw _ (List.mem_of_getElem? (i := 11) rfl))) (mvT hZ (hw _ (List.mem_of_getElem? (i := 10) rfl))) (by decide) (backOf (W := 0) (rmV l Z a0 hw [] s_PUT_FIELD (3 : Int32) h0 n0 Z0 E_s_PUT_FIELD F_s_PUT_FIELD_value) hZ (hw _ (List.mem_of_getElem? (i := 12) rfl)) (hw _ (List.mem_of_getElem? (i := 3) rfl)) (by decide) (by decide)) q138a q138c (g := (mkF m 20 #[.val (.int k0), .val (.int mv), .val (.int (3 : Int32)), .val (.ref s_PUT_FIELD), .unset, .unset, .unset, .unset, .unset, .unset] [(.ref s_PUT_FIELD)])) rfl (by rw [hml]; rfl) (Steps.refl _) (argsL := []) (rest := []) (lenOf pd0_1 rfl) rfl (by show 2 * 0 + _ ≤ _; exact Nat.le_of_eq rfl) (hb hby at_20) (fun _ _ => ⟨rfl, eh137, (by decide : 0 + 0 ≤ _), (by decide : 0 + 0 ≤ _)⟩)
    dsimp only [Pt.U, Pt.locs, Pt.cells, Pt.slots] at X138 l138 y138 z138 st138 hQ138
    subst l138 y138 z138
    obtain ⟨rfl, N138q, eh138⟩ := hQ138
    have N138 := Fr.app N137 N138q
    refine Go.tr st138 ?_
    show Go _ _ _ _ _ _ _ (T138.setTop (mkF m 23 #[.val (.int k0), .val (.int mv), .val (.int (3 : Int32)), .val (.ref s_PUT_FIELD), .unset, .unset, .unset, .unset, .unset, .unset] [(.int (3 : Int32))]))
    refine Go.by (fun _ kont => XS.iloadN X138.here hx rfl (hb hby at_23) rfl (XS.icmpYes X138.here hx rfl (pc0 := 24) (pc' := 29) rfl (hb hby at_24) rfl (by decide) (by decide) (by decide) kont)) ?_
    show Go _ _ _ _ _ _ _ (T138.setTop (mkF m 29 #[.val (.int k0), .val (.int mv), .val (.int (3 : Int32)), .val (.ref s_PUT_FIELD), .unset, .unset, .unset, .unset, .unset, .unset] []))
    by_cases hmv : mv < (52 : Int32)
    · show Go _ _ _ _ _ _ _ (T138.setTop (mkF m 29 #[.val (.int k0), .val (.int mv), .val (.int (3 : Int32)), .val (.ref s_PUT_FIELD), .unset, .unset, .unset, .unset, .unset, .unset] []))
      refine Go.by (fun _ kont => XS.aloadN X138.here hx rfl (hb hby at_29) rfl rfl (XS.iloadN X138.here hx rfl (hb hby at_30) rfl kont)) ?_
      show Go _ _ _ _ _ _ _ (T138.setTop (mkF m 31 #[.val (.int k0), .val (.int mv), .val (.int (3 : Int32)), .val (.ref s_PUT_FIELD), .unset, .unset, .unset, .unset, .unset, .unset] [(.int mv), (.ref s_PUT_FIELD)]))
      obtain ⟨cq139, kq139, q139a, q139b, q139c⟩ := isOf hZ eh138 E_s_PUT_FIELD
      obtain ⟨_, _, ⟨T139, L139, k139, n139⟩, -, X139, ⟨Lc139, hQ139, l139, y139, z139⟩, st139⟩ := X138.virtualBack hx (y := (⟨"com/example/classwright/classwright/ReferenceKind", "targetKinds", "(I)Lcom/example/classwright/classwright/KindSet;"⟩ : MethodName)) (z := (⟨"com/example/classwright/classwright/ReferenceKind", "targetKinds", "(I)Lcom/example/classwright/classwright/KindSet;"⟩ : MethodName)) hown (mvT hZ (hw _ (List.mem_of_getElem? (i := 15) rfl))) (mvT hZ (hw _ (List.mem_of_getElem? (i := 16) rfl))) (notFace_of_selects (args := #[]) (mvT hZ (hw _ (List.mem_of_getElem? (i := 18) rfl)))) (mvT hZ (hw _ (List.mem_of_getElem? (i := 18) rfl))) (mvT hZ (hw _ (List.mem_of_getElem? (i := 17) rfl))) (by decide) (backOf (W := 0) (rmTe l Z a0 hw [] s_PUT_FIELD mv s_PUT_FIELD_targets s_INVOKE_STATIC s_INVOKE_SPECIAL s_METHODREF_ h0 n0 Z0 E_s_PUT_FIELD F_s_PUT_FIELD_targets ne_s_PUT_FIELD_s_INVOKE_STATIC ne_s_PUT_FIELD_s_INVOKE_SPECIAL S_INVOKE_STATIC S_INVOKE_SPECIAL S_METHODREF_ hmv) hZ (hw _ (List.mem_of_getElem? (i := 19) rfl)) (hw _ (List.mem_of_getElem? (i := 3) rfl)) (by decide) (by decide)) q139a q139c (g := (mkF m 31 #[.val (.int k0), .val (.int mv), .val (.int (3 : Int32)), .val (.ref s_PUT_FIELD), .unset, .unset, .unset, .unset, .unset, .unset] [(.int mv), (.ref s_PUT_FIELD)])) rfl (by rw [hml]; rfl) (Steps.refl _) (argsL := [(.int mv)]) (rest := []) (lenOf pd0_2 rfl) rfl (by show 2 * 0 + _ ≤ _; exact Nat.le_of_eq rfl) (hb hby at_31) (fun _ _ => ⟨rfl, eh138, (by decide : 0 + 0 ≤ _), (by decide : 0 + 0 ≤ _)⟩)
      dsimp only [Pt.U, Pt.locs, Pt.cells, Pt.slots] at X139 l139 y139 z139 st139 hQ139
      subst l139 y139 z139
      obtain ⟨rfl, N139q, eh139⟩ := hQ139
      have N139 := Fr.app N138 N139q
      refine Go.tr st139 ?_
      show Go _ _ _ _ _ _ _ (T139.setTop (mkF m 34 #[.val (.int k0), .val (.int mv), .val (.int (3 : Int32)), .val (.ref s_PUT_FIELD), .unset, .unset, .unset, .unset, .unset, .unset] [(.ref s_PUT_FIELD_targets)]))
      refine Go.by (fun _ kont => XS.astore X139.here hx rfl (hb hby at_34) rfl rfl (l' := #[.val (.int k0), .val (.int mv), .val (.int (3 : Int32)), .val (.ref s_PUT_FIELD), .val (.ref s_PUT_FIELD_targets), .unset, .unset, .unset, .unset, .unset]) rfl (XS.iloadN X139.here hx rfl (hb hby at_36) rfl (XS.bipush X139.here hx rfl (hb hby at_37) kont))) ?_
      show Go _ _ _ _ _ _ _ (T139.setTop (mkF m 39 #[.val (.int k0), .val (.int mv), .val (.int (3 : Int32)), .val (.ref s_PUT_FIELD), .val (.ref s_PUT_FIELD_targets), .unset, .unset, .unset, .unset, .unset] [(.int (52 : Int32)), (.int mv)]))
      refine Go.by (fun _ kont => XS.icmpYes X139.here hx rfl (pc0 := 39) (pc' := 46) rfl (hb hby at_39) rfl (tlt hmv).1 (by decide) (by decide) kont) ?_
      show Go _ _ _ _ _ _ _ (T139.setTop (mkF m 46 #[.val (.int k0), .val (.int mv), .val (.int (3 : Int32)), .val (.ref s_PUT_FIELD), .val (.ref s_PUT_FIELD_targets), .unset, .unset, .unset, .unset, .unset] []))
      refine Go.by (fun _ kont => XS.iconst X139.here hx rfl (hb hby at_46) (XS.istore X139.here hx rfl (hb hby at_47) rfl (l' := #[.val (.int k0), .val (.int mv), .val (.int (3 : Int32)), .val (.ref s_PUT_FIELD), .val (.ref s_PUT_FIELD_targets), .val (.int (0 : Int32)), .unset, .unset, .unset, .unset]) rfl (XS.iloadN X139.here hx rfl (hb hby at_49) rfl (XS.iconst X139.here hx rfl (hb hby at_50) (XS.icmpNo X139.here hx rfl (hb hby at_51) rfl (by decide) (XS.iconst X139.here hx rfl (hb hby at_54) (XS.goto X139.here hx rfl (pc0 := 55) (pc' := 59) rfl (hb hby at_55) (by decide) (by decide) (XS.istore X139.here hx rfl (hb hby at_59) rfl (l' := #[.val (.int k0), .val (.int mv), .val (.int (3 : Int32)), .val (.ref s_PUT_FIELD), .val (.ref s_PUT_FIELD_targets), .val (.int (0 : Int32)), .val (.int (1 : Int32)), .unset, .unset, .unset]) rfl (XS.iloadN X139.here hx rfl (hb hby at_61) rfl (XS.iconst X139.here hx rfl (hb hby at_62) (XS.icmpYes X139.here hx rfl (pc0 := 63) (pc' := 76) rfl (hb hby at_63) rfl (by decide) (by decide) (by decide) (XS.iconst X139.here hx rfl (hb hby at_76) kont)))))))))))) ?_
      show Go _ _ _ _ _ _ _ (T139.setTop (mkF m 77 #[.val (.int k0), .val (.int mv), .val (.int (3 : Int32)), .val (.ref s_PUT_FIELD), .val (.ref s_PUT_FIELD_targets), .val (.int (0 : Int32)), .val (.int (1 : Int32)), .unset, .unset, .unset] [(.int (0 : Int32))]))
      refine Go.by (fun _ kont => XS.istore X139.here hx rfl (hb hby at_77) rfl (l' := #[.val (.int k0), .val (.int mv), .val (.int (3 : Int32)), .val (.ref s_PUT_FIELD), .val (.ref s_PUT_FIELD_targets), .val (.int (0 : Int32)), .val (.int (1 : Int32)), .val (.int (0 : Int32)), .unset, .unset]) rfl (XS.iloadN X139.here hx rfl (hb hby at_79) rfl (XS.bipush X139.here hx rfl (hb hby at_80) (XS.icmpNo X139.here hx rfl (hb hby at_82) rfl (by decide) (XS.iloadN X139.here hx rfl (hb hby at_85) rfl (XS.bipush X139.here hx rfl (hb hby at_86) (XS.icmpNo X139.here hx rfl (hb hby at_88) rfl (by decide) (XS.iloadN X139.here hx rfl (hb hby at_91) rfl (XS.bipush X139.here hx rfl (hb hby at_92) (XS.icmpYes X139.here hx rfl (pc0 := 94) (pc' := 106) rfl (hb hby at_94) rfl (by decide) (by decide) (by decide) (XS.iconst X139.here hx rfl (hb hby at_106) (XS.istore X139.here hx rfl (hb hby at_107) rfl (l' := #[.val (.int k0), .val (.int mv), .val (.int (3 : Int32)), .val (.ref s_PUT_FIELD), .val (.ref s_PUT_FIELD_targets), .val (.int (0 : Int32)), .val (.int (1 : Int32)), .val (.int (0 : Int32)), .val (.int (0 : Int32)), .unset]) rfl kont)))))))))))) ?_
      show Go _ _ _ _ _ _ _ (T139.setTop (mkF m 109 #[.val (.int k0), .val (.int mv), .val (.int (3 : Int32)), .val (.ref s_PUT_FIELD), .val (.ref s_PUT_FIELD_targets), .val (.int (0 : Int32)), .val (.int (1 : Int32)), .val (.int (0 : Int32)), .val (.int (0 : Int32)), .unset] []))
      refine Go.by (fun _ kont => XS.iload X139.here hx rfl (hb hby at_109) rfl (XS.ifNo X139.here hx rfl (hb hby at_111) rfl (by decide) (XS.iconst X139.here hx rfl (hb hby at_114) (XS.goto X139.here hx rfl (pc0 := 115) (pc' := 119) rfl (hb hby at_115) (by decide) (by decide) (XS.iload X139.here hx rfl (hb hby at_119) rfl (XS.ifYes X139.here hx rfl (pc0 := 121) (pc' := 128) rfl (hb hby at_121) rfl (by decide) (by decide) (by decide) (XS.iconst X139.here hx rfl (hb hby at_128) (XS.iadd X139.here hx rfl (hb hby at_129) rfl kont)))))))) ?_
      show Go _ _ _ _ _ _ _ (T139.setTop (mkF m 130 #[.val (.int k0), .val (.int mv), .val (.int (3 : Int32)), .val (.ref s_PUT_FIELD), .val (.ref s_PUT_FIELD_targets), .val (.int (0 : Int32)), .val (.int (1 : Int32)), .val (.int (0 : Int32)), .val (.int (0 : Int32)), .unset] [(.int ((1 : Int32) + (0 : Int32)))]))
      rw [show ((1 : Int32) + (0 : Int32)) = (1 : Int32) from by decide]
      show Go _ _ _ _ _ _ _ (T139.setTop (mkF m 130 #[.val (.int k0), .val (.int mv), .val (.int (3 : Int32)), .val (.ref s_PUT_FIELD), .val (.ref s_PUT_FIELD_targets), .val (.int (0 : Int32)), .val (.int (1 : Int32)), .val (.int (0 : Int32)), .val (.int (0 : Int32)), .unset] [(.int (1 : Int32))]))
      refine Go.by (fun _ kont => XS.iload X139.here hx rfl (hb hby at_130) rfl (XS.ifYes X139.here hx rfl (pc0 := 132) (pc' := 139) rfl (hb hby at_132) rfl (by decide) (by decide) (by decide) (XS.iconst X139.here hx rfl (hb hby at_139) (XS.iadd X139.here hx rfl (hb hby at_140) rfl kont)))) ?_
      show Go _ _ _ _ _ _ _ (T139.setTop (mkF m 141 #[.val (.int k0), .val (.int mv), .val (.int (3 : Int32)), .val (.ref s_PUT_FIELD), .val (.ref s_PUT_FIELD_targets), .val (.int (0 : Int32)), .val (.int (1 : Int32)), .val (.int (0 : Int32)), .val (.int (0 : Int32)), .unset] [(.int ((1 : Int32) + (0 : Int32)))]))
      rw [show ((1 : Int32) + (0 : Int32)) = (1 : Int32) from by decide]
      show Go _ _ _ _ _ _ _ (T139.setTop (mkF m 141 #[.val (.int k0), .val (.int mv), .val (.int (3 : Int32)), .val (.ref s_PUT_FIELD), .val (.ref s_PUT_FIELD_targets), .val (.int (0 : Int32)), .val (.int (1 : Int32)), .val (.int (0 : Int32)), .val (.int (0 : Int32)), .unset] [(.int (1 : Int32))]))
      refine Go.by (fun _ kont => XS.istore X139.here hx rfl (hb hby at_141) rfl (l' := #[.val (.int k0), .val (.int mv), .val (.int (3 : Int32)), .val (.ref s_PUT_FIELD), .val (.ref s_PUT_FIELD_targets), .val (.int (0 : Int32)), .val (.int (1 : Int32)), .val (.int (0 : Int32)), .val (.int (0 : Int32)), .val (.int (1 : Int32))]) rfl (XS.aload X139.here hx rfl (hb hby at_143) rfl rfl kont)) ?_
      show Go _ _ _ _ _ _ _ (T139.setTop (mkF m 145 #[.val (.int k0), .val (.int mv), .val (.int (3 : Int32)), .val (.ref s_PUT_FIELD), .val (.ref s_PUT_FIELD_targets), .val (.int (0 : Int32)), .val (.int (1 : Int32)), .val (.int (0 : Int32)), .val (.int (0 : Int32)), .val (.int (1 : Int32))] [(.ref s_PUT_FIELD_targets)]))
      obtain ⟨T140, X140, e140, st140⟩ := getS2 X139 hx hZ hown (host := "") (Or.inl (hw _ (List.mem_of_getElem? (i := 26) rfl))) Via.refl eh139 S_FIELDREF (g := (mkF m 145 #[.val (.int k0), .val (.int mv), .val (.int (3 : Int32)), .val (.ref s_PUT_FIELD), .val (.ref s_PUT_FIELD_targets), .val (.int (0 : Int32)), .val (.int (1 : Int32)), .val (.int (0 : Int32)), .val (.int (0 : Int32)), .val (.int (1 : Int32))] [(.ref s_PUT_FIELD_targets)])) rfl (hb hby at_145)
      refine Go.by st140 ?_
      show Go _ _ _ _ _ _ _ (T140.setTop (mkF m 148 #[.val (.int k0), .val (.int mv), .val (.int (3 : Int32)), .val (.ref s_PUT_FIELD), .val (.ref s_PUT_FIELD_targets), .val (.int (0 : Int32)), .val (.int (1 : Int32)), .val (.int (0 : Int32)), .val (.int (0 : Int32)), .val (.int (1 : Int32))] [(.ref s_FIELDREF), (.ref s_PUT_FIELD_targets)]))
      obtain ⟨cq141, kq141, q141a, q141b, q141c⟩ := isOf hZ e140 E_s_PUT_FIELD_targets
      obtain ⟨_, _, ⟨T141, L141, k141, n141⟩, -, X141, ⟨Lc141, hQ141, l141, y141, z141⟩, st141⟩ := X140.virtualBack hx (y := (⟨"com/example/classwright/classwright/KindSet", "contains", "(Ljava/lang/Object;)Z"⟩ : MethodName)) (z := (⟨"com/example/classwright/classwright/KindSet", "contains", "(Ljava/lang/Object;)Z"⟩ : MethodName)) hown (mvT hZ (hw _ (List.mem_of_getElem? (i := 29) rfl))) (mvT hZ (hw _ (List.mem_of_getElem? (i := 30) rfl))) (notFace_of_selects (args := #[]) (mvT hZ (hw _ (List.mem_of_getElem? (i := 32) rfl)))) (mvT hZ (hw _ (List.mem_of_getElem? (i := 32) rfl))) (mvT hZ (hw _ (List.mem_of_getElem? (i := 31) rfl))) (by decide) (backOf (W := 0) (rmC128_7 l Z a0 hw [] s_PUT_FIELD_targets s_FIELDREF h0 n0 Z0 E_s_PUT_FIELD_targets F_s_PUT_FIELD_targets_bits E_s_FIELDREF F_s_FIELDREF_ordinal) hZ (hw _ (List.mem_of_getElem? (i := 34) rfl)) (hw _ (List.mem_of_getElem? (i := 33) rfl)) (by decide) (by decide)) q141a q141c (g := (mkF m 148 #[.val (.int k0), .val (.int mv), .val (.int (3 : Int32)), .val (.ref s_PUT_FIELD), .val (.ref s_PUT_FIELD_targets), .val (.int (0 : Int32)), .val (.int (1 : Int32)), .val (.int (0 : Int32)), .val (.int (0 : Int32)), .val (.int (1 : Int32))] [(.ref s_FIELDREF), (.ref s_PUT_FIELD_targets)])) rfl (by rw [hml]; rfl) (Steps.refl _) (argsL := [(.ref s_FIELDREF)]) (rest := []) (lenOf pd0_3 rfl) rfl (by show 2 * 0 + _ ≤ _; exact Nat.le_of_eq rfl) (hb hby at_148) (fun _ _ => ⟨rfl, e140, (by decide : 0 + 0 ≤ _), (by decide : 0 + 0 ≤ _)⟩)
      dsimp only [Pt.U, Pt.locs, Pt.cells, Pt.slots] at X141 l141 y141 z141 st141 hQ141
      subst l141 y141 z141
      obtain ⟨rfl, N141q, eh141⟩ := hQ141
      have N141 := Fr.app N139 N141q
      refine Go.tr st141 ?_
      show Go _ _ _ _ _ _ _ (T141.setTop (mkF m 151 #[.val (.int k0), .val (.int mv), .val (.int (3 : Int32)), .val (.ref s_PUT_FIELD), .val (.ref s_PUT_FIELD_targets), .val (.int (0 : Int32)), .val (.int (1 : Int32)), .val (.int (0 : Int32)), .val (.int (0 : Int32)), .val (.int (1 : Int32))] [(.int (1 : Int32))]))
      refine Go.by (fun _ kont => XS.iload X141.here hx rfl (hb hby at_151) rfl (XS.icmpNo X141.here hx rfl (hb hby at_153) rfl (by decide) (XS.aload X141.here hx rfl (hb hby at_156) rfl rfl kont))) ?_
      show Go _ _ _ _ _ _ _ (T141.setTop (mkF m 158 #[.val (.int k0), .val (.int mv), .val (.int (3 : Int32)), .val (.ref s_PUT_FIELD), .val (.ref s_PUT_FIELD_targets), .val (.int (0 : Int32)), .val (.int (1 : Int32)), .val (.int (0 : Int32)), .val (.int (0 : Int32)), .val (.int (1 : Int32))] [(.ref s_PUT_FIELD_targets)]))
      obtain ⟨T142, X142, e142, st142⟩ := getS2 X141 hx hZ hown (host := "") (Or.inl (hw _ (List.mem_of_getElem? (i := 48) rfl))) Via.refl eh141 S_METHODREF (g := (mkF m 158 #[.val (.int k0), .val (.int mv), .val (.int (3 : Int32)), .val (.ref s_PUT_FIELD), .val (.ref s_PUT_FIELD_targets), .val (.int (0 : Int32)), .val (.int (1 : Int32)), .val (.int (0 : Int32)), .val (.int (0 : Int32)), .val (.int (1 : Int32))] [(.ref s_PUT_FIELD_targets)])) rfl (hb hby at_158)
      refine Go.by st142 ?_
      show Go _ _ _ _ _ _ _ (T142.setTop (mkF m 161 #[.val (.int k0), .val (.int mv), .val (.int (3 : Int32)), .val (.ref s_PUT_FIELD), .val (.ref s_PUT_FIELD_targets), .val (.int (0 : Int32)), .val (.int (1 : Int32)), .val (.int (0 : Int32)), .val (.int (0 : Int32)), .val (.int (1 : Int32))] [(.ref s_METHODREF), (.ref s_PUT_FIELD_targets)]))
      obtain ⟨cq143, kq143, q143a, q143b, q143c⟩ := isOf hZ e142 E_s_PUT_FIELD_targets
      obtain ⟨_, _, ⟨T143, L143, k143, n143⟩, -, X143, ⟨Lc143, hQ143, l143, y143, z143⟩, st143⟩ := X142.virtualBack hx (y := (⟨"com/example/classwright/classwright/KindSet", "contains", "(Ljava/lang/Object;)Z"⟩ : MethodName)) (z := (⟨"com/example/classwright/classwright/KindSet", "contains", "(Ljava/lang/Object;)Z"⟩ : MethodName)) hown (mvT hZ (hw _ (List.mem_of_getElem? (i := 29) rfl))) (mvT hZ (hw _ (List.mem_of_getElem? (i := 30) rfl))) (notFace_of_selects (args := #[]) (mvT hZ (hw _ (List.mem_of_getElem? (i := 32) rfl)))) (mvT hZ (hw _ (List.mem_of_getElem? (i := 32) rfl))) (mvT hZ (hw _ (List.mem_of_getElem? (i := 31) rfl))) (by decide) (backOf (W := 0) (rmC128_8 l Z a0 hw [] s_PUT_FIELD_targets s_METHODREF h0 n0 Z0 E_s_PUT_FIELD_targets F_s_PUT_FIELD_targets_bits E_s_METHODREF F_s_METHODREF_ordinal) hZ (hw _ (List.mem_of_getElem? (i := 34) rfl)) (hw _ (List.mem_of_getElem? (i := 33) rfl)) (by decide) (by decide)) q143a q143c (g := (mkF m 161 #[.val (.int k0), .val (.int mv), .val (.int (3 : Int32)), .val (.ref s_PUT_FIELD), .val (.ref s_PUT_FIELD_targets), .val (.int (0 : Int32)), .val (.int (1 : Int32)), .val (.int (0 : Int32)), .val (.int (0 : Int32)), .val (.int (1 : Int32))] [(.ref s_METHODREF), (.ref s_PUT_FIELD_targets)])) rfl (by rw [hml]; rfl) (Steps.refl _) (argsL := [(.ref s_METHODREF)]) (rest := []) (lenOf pd0_3 rfl) rfl (by show 2 * 0 + _ ≤ _; exact Nat.le_of_eq rfl) (hb hby at_161) (fun _ _ => ⟨rfl, e142, (by decide : 0 + 0 ≤ _), (by decide : 0 + 0 ≤ _)⟩)
      dsimp only [Pt.U, Pt.locs, Pt.cells, Pt.slots] at X143 l143 y143 z143 st143 hQ143
      subst l143 y143 z143
      obtain ⟨rfl, N143q, eh143⟩ := hQ143
      have N143 := Fr.app N141 N143q
      refine Go.tr st143 ?_
      show Go _ _ _ _ _ _ _ (T143.setTop (mkF m 164 #[.val (.int k0), .val (.int mv), .val (.int (3 : Int32)), .val (.ref s_PUT_FIELD), .val (.ref s_PUT_FIELD_targets), .val (.int (0 : Int32)), .val (.int (1 : Int32)), .val (.int (0 : Int32)), .val (.int (0 : Int32)), .val (.int (1 : Int32))] [(.int (0 : Int32))]))
      refine Go.by (fun _ kont => XS.iload X143.here hx rfl (hb hby at_164) rfl (XS.icmpNo X143.here hx rfl (hb hby at_166) rfl (by decide) (XS.aload X143.here hx rfl (hb hby at_169) rfl rfl kont))) ?_
      show Go _ _ _ _ _ _ _ (T143.setTop (mkF m 171 #[.val (.int k0), .val (.int mv), .val (.int (3 : Int32)), .val (.ref s_PUT_FIELD), .val (.ref s_PUT_FIELD_targets), .val (.int (0 : Int32)), .val (.int (1 : Int32)), .val (.int (0 : Int32)), .val (.int (0 : Int32)), .val (.int (1 : Int32))] [(.ref s_PUT_FIELD_targets)]))
      obtain ⟨T144, X144, e144, st144⟩ := getS2 X143 hx hZ hown (host := "") (Or.inl (hw _ (List.mem_of_getElem? (i := 50) rfl))) Via.refl eh143 S_INTERFACE_METHODREF (g := (mkF m 171 #[.val (.int k0), .val (.int mv), .val (.int (3 : Int32)), .val (.ref s_PUT_FIELD), .val (.ref s_PUT_FIELD_targets), .val (.int (0 : Int32)), .val (.int (1 : Int32)), .val (.int (0 : Int32)), .val (.int (0 : Int32)), .val (.int (1 : Int32))] [(.ref s_PUT_FIELD_targets)])) rfl (hb hby at_171)
      refine Go.by st144 ?_
      show Go _ _ _ _ _ _ _ (T144.setTop (mkF m 174 #[.val (.int k0), .val (.int mv), .val (.int (3 : Int32)), .val (.ref s_PUT_FIELD), .val (.ref s_PUT_FIELD_targets), .val (.int (0 : Int32)), .val (.int (1 : Int32)), .val (.int (0 : Int32)), .val (.int (0 : Int32)), .val (.int (1 : Int32))] [(.ref s_INTERFACE_METHODREF), (.ref s_PUT_FIELD_targets)]))
      obtain ⟨cq145, kq145, q145a, q145b, q145c⟩ := isOf hZ e144 E_s_PUT_FIELD_targets
      obtain ⟨_, _, ⟨T145, L145, k145, n145⟩, -, X145, ⟨Lc145, hQ145, l145, y145, z145⟩, st145⟩ := X144.virtualBack hx (y := (⟨"com/example/classwright/classwright/KindSet", "contains", "(Ljava/lang/Object;)Z"⟩ : MethodName)) (z := (⟨"com/example/classwright/classwright/KindSet", "contains", "(Ljava/lang/Object;)Z"⟩ : MethodName)) hown (mvT hZ (hw _ (List.mem_of_getElem? (i := 29) rfl))) (mvT hZ (hw _ (List.mem_of_getElem? (i := 30) rfl))) (notFace_of_selects (args := #[]) (mvT hZ (hw _ (List.mem_of_getElem? (i := 32) rfl)))) (mvT hZ (hw _ (List.mem_of_getElem? (i := 32) rfl))) (mvT hZ (hw _ (List.mem_of_getElem? (i := 31) rfl))) (by decide) (backOf (W := 0) (rmC128_9 l Z a0 hw [] s_PUT_FIELD_targets s_INTERFACE_METHODREF h0 n0 Z0 E_s_PUT_FIELD_targets F_s_PUT_FIELD_targets_bits E_s_INTERFACE_METHODREF F_s_INTERFACE_METHODREF_ordinal) hZ (hw _ (List.mem_of_getElem? (i := 34) rfl)) (hw _ (List.mem_of_getElem? (i := 33) rfl)) (by decide) (by decide)) q145a q145c (g := (mkF m 174 #[.val (.int k0), .val (.int mv), .val (.int (3 : Int32)), .val (.ref s_PUT_FIELD), .val (.ref s_PUT_FIELD_targets), .val (.int (0 : Int32)), .val (.int (1 : Int32)), .val (.int (0 : Int32)), .val (.int (0 : Int32)), .val (.int (1 : Int32))] [(.ref s_INTERFACE_METHODREF), (.ref s_PUT_FIELD_targets)])) rfl (by rw [hml]; rfl) (Steps.refl _) (argsL := [(.ref s_INTERFACE_METHODREF)]) (rest := []) (lenOf pd0_3 rfl) rfl (by show 2 * 0 + _ ≤ _; exact Nat.le_of_eq rfl) (hb hby at_174) (fun _ _ => ⟨rfl, e144, (by decide : 0 + 0 ≤ _), (by decide : 0 + 0 ≤ _)⟩)
      dsimp only [Pt.U, Pt.locs, Pt.cells, Pt.slots] at X145 l145 y145 z145 st145 hQ145
      subst l145 y145 z145
      obtain ⟨rfl, N145q, eh145⟩ := hQ145
      have N145 := Fr.app N143 N145q
      refine Go.tr st145 ?_
      show Go _ _ _ _ _ _ _ (T145.setTop (mkF m 177 #[.val (.int k0), .val (.int mv), .val (.int (3 : Int32)), .val (.ref s_PUT_FIELD), .val (.ref s_PUT_FIELD_targets), .val (.int (0 : Int32)), .val (.int (1 : Int32)), .val (.int (0 : Int32)), .val (.int (0 : Int32)), .val (.int (1 : Int32))] [(.int (0 : Int32))]))
      refine Go.by (fun _ kont => XS.iload X145.here hx rfl (hb hby at_177) rfl (XS.icmpNo X145.here hx rfl (hb hby at_179) rfl (by decide) (XS.aload X145.here hx rfl (hb hby at_182) rfl rfl kont))) ?_
      show Go _ _ _ _ _ _ _ (T145.setTop (mkF m 184 #[.val (.int k0), .val (.int mv), .val (.int (3 : Int32)), .val (.ref s_PUT_FIELD), .val (.ref s_PUT_FIELD_targets), .val (.int (0 : Int32)), .val (.int (1 : Int32)), .val (.int (0 : Int32)), .val (.int (0 : Int32)), .val (.int (1 : Int32))] [(.ref s_PUT_FIELD_targets)]))
      obtain ⟨cq146, kq146, q146a, q146b, q146c⟩ := isOf hZ eh145 E_s_PUT_FIELD_targets
      obtain ⟨_, _, ⟨T146, L146, k146, n146⟩, -, X146, ⟨Lc146, hQ146, l146, y146, z146⟩, st146⟩ := X145.virtualBack hx (y := (⟨"com/example/classwright/classwright/KindSet", "size", "()I"⟩ : MethodName)) (z := (⟨"com/example/classwright/classwright/KindSet", "size", "()I"⟩ : MethodName)) hown (mvT hZ (hw _ (List.mem_of_getElem? (i := 52) rfl))) (mvT hZ (hw _ (List.mem_of_getElem? (i := 53) rfl))) (notFace_of_selects (args := #[]) (mvT hZ (hw _ (List.mem_of_getElem? (i := 55) rfl)))) (mvT hZ (hw _ (List.mem_of_getElem? (i := 55) rfl))) (mvT hZ (hw _ (List.mem_of_getElem? (i := 54) rfl))) (by decide) (backOf (W := 0) (rmS128 l Z a0 hw [] s_PUT_FIELD_targets h0 n0 Z0 E_s_PUT_FIELD_targets F_s_PUT_FIELD_targets_bits) hZ (hw _ (List.mem_of_getElem? (i := 56) rfl)) (hw _ (List.mem_of_getElem? (i := 33) rfl)) (by decide) (by decide)) q146a q146c (g := (mkF m 184 #[.val (.int k0), .val (.int mv), .val (.int (3 : Int32)), .val (.ref s_PUT_FIELD), .val (.ref s_PUT_FIELD_targets), .val (.int (0 : Int32)), .val (.int (1 : Int32)), .val (.int (0 : Int32)), .val (.int (0 : Int32)), .val (.int (1 : Int32))] [(.ref s_PUT_FIELD_targets)])) rfl (by rw [hml]; rfl) (Steps.refl _) (argsL := []) (rest := []) (lenOf pd0_1 rfl) rfl (by show 2 * 0 + _ ≤ _; exact Nat.le_of_eq rfl) (hb hby at_184) (fun _ _ => ⟨rfl, eh145, (by decide : 0 + 0 ≤ _), (by decide : 0 + 0 ≤ _)⟩)
      dsimp only [Pt.U, Pt.locs, Pt.cells, Pt.slots] at X146 l146 y146 z146 st146 hQ146
      subst l146 y146 z146
      obtain ⟨rfl, N146q, eh146⟩ := hQ146
      have N146 := Fr.app N145 N146q
      refine Go.tr st146 ?_
      show Go _ _ _ _ _ _ _ (T146.setTop (mkF m 187 #[.val (.int k0), .val (.int mv), .val (.int (3 : Int32)), .val (.ref s_PUT_FIELD), .val (.ref s_PUT_FIELD_targets), .val (.int (0 : Int32)), .val (.int (1 : Int32)), .val (.int (0 : Int32)), .val (.int (0 : Int32)), .val (.int (1 : Int32))] [(.int (1 : Int32))]))
      refine Go.by (fun _ kont => XS.iload X146.here hx rfl (hb hby at_187) rfl (XS.icmpNo X146.here hx rfl (hb hby at_189) rfl (by decide) (XS.iconst X146.here hx rfl (hb hby at_192) (XS.goto X146.here hx rfl (pc0 := 193) (pc' := 197) rfl (hb hby at_193) (by decide) (by decide) kont)))) ?_
      show Go _ _ _ _ _ _ _ (T146.setTop (mkF m 197 #[.val (.int k0), .val (.int mv), .val (.int (3 : Int32)), .val (.ref s_PUT_FIELD), .val (.ref s_PUT_FIELD_targets), .val (.int (0 : Int32)), .val (.int (1 : Int32)), .val (.int (0 : Int32)), .val (.int (0 : Int32)), .val (.int (1 : Int32))] [(.int (1 : Int32))]))
      refine Go.retN X146 hx (t := .boolean) hret (by simp) hlk (hb hby at_197) ?_ (by decide) (by decide)
      show Q0 Z h0 n0 (some (.int (1 : Int32))) T146.heap _
      rw [eh146]
      exact ⟨rfl, N146⟩
    · show Go _ _ _ _ _ _ _ (T138.setTop (mkF m 29 #[.val (.int k0), .val (.int mv), .val (.int (3 : Int32)), .val (.ref s_PUT_FIELD), .unset, .unset, .unset, .unset, .unset, .unset] []))
      refine Go.by (fun _ kont => XS.aloadN X138.here hx rfl (hb hby at_29) rfl rfl (XS.iloadN X138.here hx rfl (hb hby at_30) rfl kont)) ?_
      show Go _ _ _ _ _ _ _ (T138.setTop (mkF m 31 #[.val (.int k0), .val (.int mv), .val (.int (3 : Int32)), .val (.ref s_PUT_FIELD), .unset, .unset, .unset, .unset, .unset, .unset] [(.int mv), (.ref s_PUT_FIELD)]))
      obtain ⟨cq147, kq147, q147a, q147b, q147c⟩ := isOf hZ eh138 E_s_PUT_FIELD
      obtain ⟨_, _, ⟨T147, L147, k147, n147⟩, -, X147, ⟨Lc147, hQ147, l147, y147, z147⟩, st147⟩ := X138.virtualBack hx (y := (⟨"com/example/classwright/classwright/ReferenceKind", "targetKinds", "(I)Lcom/example/classwright/classwright/KindSet;"⟩ : MethodName)) (z := (⟨"com/example/classwright/classwright/ReferenceKind", "targetKinds", "(I)Lcom/example/classwright/classwright/KindSet;"⟩ : MethodName)) hown (mvT hZ (hw _ (List.mem_of_getElem? (i := 15) rfl))) (mvT hZ (hw _ (List.mem_of_getElem? (i := 16) rfl))) (notFace_of_selects (args := #[]) (mvT hZ (hw _ (List.mem_of_getElem? (i := 18) rfl)))) (mvT hZ (hw _ (List.mem_of_getElem? (i := 18) rfl))) (mvT hZ (hw _ (List.mem_of_getElem? (i := 17) rfl))) (by decide) (backOf (W := 0) (rmTm l Z a0 hw [] s_PUT_FIELD mv s_PUT_FIELD_targets h0 n0 Z0 E_s_PUT_FIELD F_s_PUT_FIELD_targets hmv) hZ (hw _ (List.mem_of_getElem? (i := 19) rfl)) (hw _ (List.mem_of_getElem? (i := 3) rfl)) (by decide) (by decide)) q147a q147c (g := (mkF m 31 #[.val (.int k0), .val (.int mv), .val (.int (3 : Int32)), .val (.ref s_PUT_FIELD), .unset, .unset, .unset, .unset, .unset, .unset] [(.int mv), (.ref s_PUT_FIELD)])) rfl (by rw [hml]; rfl) (Steps.refl _) (argsL := [(.int mv)]) (rest := []) (lenOf pd0_2 rfl) rfl (by show 2 * 0 + _ ≤ _; exact Nat.le_of_eq rfl) (hb hby at_31) (fun _ _ => ⟨rfl, eh138, (by decide : 0 + 0 ≤ _), (by decide : 0 + 0 ≤ _)⟩)
      dsimp only [Pt.U, Pt.locs, Pt.cells, Pt.slots] at X147 l147 y147 z147 st147 hQ147
      subst l147 y147 z147
      obtain ⟨rfl, N147q, eh147⟩ := hQ147
      have N147 := Fr.app N138 N147q
      refine Go.tr st147 ?_
      show Go _ _ _ _ _ _ _ (T147.setTop (mkF m 34 #[.val (.int k0), .val (.int mv), .val (.int (3 : Int32)), .val (.ref s_PUT_FIELD), .unset, .unset, .unset, .unset, .unset, .unset] [(.ref s_PUT_FIELD_targets)]))
      refine Go.by (fun _ kont => XS.astore X147.here hx rfl (hb hby at_34) rfl rfl (l' := #[.val (.int k0), .val (.int mv), .val (.int (3 : Int32)), .val (.ref s_PUT_FIELD), .val (.ref s_PUT_FIELD_targets), .unset, .unset, .unset, .unset, .unset]) rfl (XS.iloadN X147.here hx rfl (hb hby at_36) rfl (XS.bipush X147.here hx rfl (hb hby at_37) kont))) ?_
      show Go _ _ _ _ _ _ _ (T147.setTop (mkF m 39 #[.val (.int k0), .val (.int mv), .val (.int (3 : Int32)), .val (.ref s_PUT_FIELD), .val (.ref s_PUT_FIELD_targets), .unset, .unset, .unset, .unset, .unset] [(.int (52 : Int32)), (.int mv)]))
      refine Go.by (fun _ kont => XS.icmpNo X147.here hx rfl (hb hby at_39) rfl (flt hmv).1 kont) ?_
      show Go _ _ _ _ _ _ _ (T147.setTop (mkF m 42 #[.val (.int k0), .val (.int mv), .val (.int (3 : Int32)), .val (.ref s_PUT_FIELD), .val (.ref s_PUT_FIELD_targets), .unset, .unset, .unset, .unset, .unset] []))
      refine Go.by (fun _ kont => XS.iconst X147.here hx rfl (hb hby at_42) (XS.goto X147.here hx rfl (pc0 := 43) (pc' := 47) rfl (hb hby at_43) (by decide) (by decide) (XS.istore X147.here hx rfl (hb hby at_47) rfl (l' := #[.val (.int k0), .val (.int mv), .val (.int (3 : Int32)), .val (.ref s_PUT_FIELD), .val (.ref s_PUT_FIELD_targets), .val (.int (1 : Int32)), .unset, .unset, .unset, .unset]) rfl (XS.iloadN X147.here hx rfl (hb hby at_49) rfl (XS.iconst X147.here hx rfl (hb hby at_50) (XS.icmpNo X147.here hx rfl (hb hby at_51) rfl (by decide) (XS.iconst X147.here hx rfl (hb hby at_54) (XS.goto X147.here hx rfl (pc0 := 55) (pc' := 59) rfl (hb hby at_55) (by decide) (by decide) (XS.istore X147.here hx rfl (hb hby at_59) rfl (l' := #[.val (.int k0), .val (.int mv), .val (.int (3 : Int32)), .val (.ref s_PUT_FIELD), .val (.ref s_PUT_FIELD_targets), .val (.int (1 : Int32)), .val (.int (1 : Int32)), .unset, .unset, .unset]) rfl (XS.iloadN X147.here hx rfl (hb hby at_61) rfl (XS.iconst X147.here hx rfl (hb hby at_62) (XS.icmpYes X147.here hx rfl (pc0 := 63) (pc' := 76) rfl (hb hby at_63) rfl (by decide) (by decide) (by decide) kont)))))))))))) ?_
      show Go _ _ _ _ _ _ _ (T147.setTop (mkF m 76 #[.val (.int k0), .val (.int mv), .val (.int (3 : Int32)), .val (.ref s_PUT_FIELD), .val (.ref s_PUT_FIELD_targets), .val (.int (1 : Int32)), .val (.int (1 : Int32)), .unset, .unset, .unset] []))
      refine Go.by (fun _ kont => XS.iconst X147.here hx rfl (hb hby at_76) (XS.istore X147.here hx rfl (hb hby at_77) rfl (l' := #[.val (.int k0), .val (.int mv), .val (.int (3 : Int32)), .val (.ref s_PUT_FIELD), .val (.ref s_PUT_FIELD_targets), .val (.int (1 : Int32)), .val (.int (1 : Int32)), .val (.int (0 : Int32)), .unset, .unset]) rfl (XS.iloadN X147.here hx rfl (hb hby at_79) rfl (XS.bipush X147.here hx rfl (hb hby at_80) (XS.icmpNo X147.here hx rfl (hb hby at_82) rfl (by decide) (XS.iloadN X147.here hx rfl (hb hby at_85) rfl (XS.bipush X147.here hx rfl (hb hby at_86) (XS.icmpNo X147.here hx rfl (hb hby at_88) rfl (by decide) (XS.iloadN X147.here hx rfl (hb hby at_91) rfl (XS.bipush X147.here hx rfl (hb hby at_92) (XS.icmpYes X147.here hx rfl (pc0 := 94) (pc' := 106) rfl (hb hby at_94) rfl (by decide) (by decide) (by decide) (XS.iconst X147.here hx rfl (hb hby at_106) kont)))))))))))) ?_
      show Go _ _ _ _ _ _ _ (T147.setTop (mkF m 107 #[.val (.int k0), .val (.int mv), .val (.int (3 : Int32)), .val (.ref s_PUT_FIELD), .val (.ref s_PUT_FIELD_targets), .val (.int (1 : Int32)), .val (.int (1 : Int32)), .val (.int (0 : Int32)), .unset, .unset] [(.int (0 : Int32))]))
      refine Go.by (fun _ kont => XS.istore X147.here hx rfl (hb hby at_107) rfl (l' := #[.val (.int k0), .val (.int mv), .val (.int (3 : Int32)), .val (.ref s_PUT_FIELD), .val (.ref s_PUT_FIELD_targets), .val (.int (1 : Int32)), .val (.int (1 : Int32)), .val (.int (0 : Int32)), .val (.int (0 : Int32)), .unset]) rfl (XS.iload X147.here hx rfl (hb hby at_109) rfl (XS.ifNo X147.here hx rfl (hb hby at_111) rfl (by decide) (XS.iconst X147.here hx rfl (hb hby at_114) (XS.goto X147.here hx rfl (pc0 := 115) (pc' := 119) rfl (hb hby at_115) (by decide) (by decide) (XS.iload X147.here hx rfl (hb hby at_119) rfl (XS.ifYes X147.here hx rfl (pc0 := 121) (pc' := 128) rfl (hb hby at_121) rfl (by decide) (by decide) (by decide) (XS.iconst X147.here hx rfl (hb hby at_128) (XS.iadd X147.here hx rfl (hb hby at_129) rfl kont))))))))) ?_
      show Go _ _ _ _ _ _ _ (T147.setTop (mkF m 130 #[.val (.int k0), .val (.int mv), .val (.int (3 : Int32)), .val (.ref s_PUT_FIELD), .val (.ref s_PUT_FIELD_targets), .val (.int (1 : Int32)), .val (.int (1 : Int32)), .val (.int (0 : Int32)), .val (.int (0 : Int32)), .unset] [(.int ((1 : Int32) + (0 : Int32)))]))
      rw [show ((1 : Int32) + (0 : Int32)) = (1 : Int32) from by decide]
      show Go _ _ _ _ _ _ _ (T147.setTop (mkF m 130 #[.val (.int k0), .val (.int mv), .val (.int (3 : Int32)), .val (.ref s_PUT_FIELD), .val (.ref s_PUT_FIELD_targets), .val (.int (1 : Int32)), .val (.int (1 : Int32)), .val (.int (0 : Int32)), .val (.int (0 : Int32)), .unset] [(.int (1 : Int32))]))
      refine Go.by (fun _ kont => XS.iload X147.here hx rfl (hb hby at_130) rfl (XS.ifYes X147.here hx rfl (pc0 := 132) (pc' := 139) rfl (hb hby at_132) rfl (by decide) (by decide) (by decide) (XS.iconst X147.here hx rfl (hb hby at_139) (XS.iadd X147.here hx rfl (hb hby at_140) rfl kont)))) ?_
      show Go _ _ _ _ _ _ _ (T147.setTop (mkF m 141 #[.val (.int k0), .val (.int mv), .val (.int (3 : Int32)), .val (.ref s_PUT_FIELD), .val (.ref s_PUT_FIELD_targets), .val (.int (1 : Int32)), .val (.int (1 : Int32)), .val (.int (0 : Int32)), .val (.int (0 : Int32)), .unset] [(.int ((1 : Int32) + (0 : Int32)))]))
      rw [show ((1 : Int32) + (0 : Int32)) = (1 : Int32) from by decide]
      show Go _ _ _ _ _ _ _ (T147.setTop (mkF m 141 #[.val (.int k0), .val (.int mv), .val (.int (3 : Int32)), .val (.ref s_PUT_FIELD), .val (.ref s_PUT_FIELD_targets), .val (.int (1 : Int32)), .val (.int (1 : Int32)), .val (.int (0 : Int32)), .val (.int (0 : Int32)), .unset] [(.int (1 : Int32))]))
      refine Go.by (fun _ kont => XS.istore X147.here hx rfl (hb hby at_141) rfl (l' := #[.val (.int k0), .val (.int mv), .val (.int (3 : Int32)), .val (.ref s_PUT_FIELD), .val (.ref s_PUT_FIELD_targets), .val (.int (1 : Int32)), .val (.int (1 : Int32)), .val (.int (0 : Int32)), .val (.int (0 : Int32)), .val (.int (1 : Int32))]) rfl (XS.aload X147.here hx rfl (hb hby at_143) rfl rfl kont)) ?_
      show Go _ _ _ _ _ _ _ (T147.setTop (mkF m 145 #[.val (.int k0), .val (.int mv), .val (.int (3 : Int32)), .val (.ref s_PUT_FIELD), .val (.ref s_PUT_FIELD_targets), .val (.int (1 : Int32)), .val (.int (1 : Int32)), .val (.int (0 : Int32)), .val (.int (0 : Int32)), .val (.int (1 : Int32))] [(.ref s_PUT_FIELD_targets)]))
      obtain ⟨T148, X148, e148, st148⟩ := getS2 X147 hx hZ hown (host := "") (Or.inl (hw _ (List.mem_of_getElem? (i := 26) rfl))) Via.refl eh147 S_FIELDREF (g := (mkF m 145 #[.val (.int k0), .val (.int mv), .val (.int (3 : Int32)), .val (.ref s_PUT_FIELD), .val (.ref s_PUT_FIELD_targets), .val (.int (1 : Int32)), .val (.int (1 : Int32)), .val (.int (0 : Int32)), .val (.int (0 : Int32)), .val (.int (1 : Int32))] [(.ref s_PUT_FIELD_targets)])) rfl (hb hby at_145)
      refine Go.by st148 ?_
      show Go _ _ _ _ _ _ _ (T148.setTop (mkF m 148 #[.val (.int k0), .val (.int mv), .val (.int (3 : Int32)), .val (.ref s_PUT_FIELD), .val (.ref s_PUT_FIELD_targets), .val (.int (1 : Int32)), .val (.int (1 : Int32)), .val (.int (0 : Int32)), .val (.int (0 : Int32)), .val (.int (1 : Int32))] [(.ref s_FIELDREF), (.ref s_PUT_FIELD_targets)]))
      obtain ⟨cq149, kq149, q149a, q149b, q149c⟩ := isOf hZ e148 E_s_PUT_FIELD_targets
      obtain ⟨_, _, ⟨T149, L149, k149, n149⟩, -, X149, ⟨Lc149, hQ149, l149, y149, z149⟩, st149⟩ := X148.virtualBack hx (y := (⟨"com/example/classwright/classwright/KindSet", "contains", "(Ljava/lang/Object;)Z"⟩ : MethodName)) (z := (⟨"com/example/classwright/classwright/KindSet", "contains", "(Ljava/lang/Object;)Z"⟩ : MethodName)) hown (mvT hZ (hw _ (List.mem_of_getElem? (i := 29) rfl))) (mvT hZ (hw _ (List.mem_of_getElem? (i := 30) rfl))) (notFace_of_selects (args := #[]) (mvT hZ (hw _ (List.mem_of_getElem? (i := 32) rfl)))) (mvT hZ (hw _ (List.mem_of_getElem? (i := 32) rfl))) (mvT hZ (hw _ (List.mem_of_getElem? (i := 31) rfl))) (by decide) (backOf (W := 0) (rmC128_7 l Z a0 hw [] s_PUT_FIELD_targets s_FIELDREF h0 n0 Z0 E_s_PUT_FIELD_targets F_s_PUT_FIELD_targets_bits E_s_FIELDREF F_s_FIELDREF_ordinal) hZ (hw _ (List.mem_of_getElem? (i := 34) rfl)) (hw _ (List.mem_of_getElem? (i := 33) rfl)) (by decide) (by decide)) q149a q149c (g := (mkF m 148 #[.val (.int k0), .val (.int mv), .val (.int (3 : Int32)), .val (.ref s_PUT_FIELD), .val (.ref s_PUT_FIELD_targets), .val (.int (1 : Int32)), .val (.int (1 : Int32)), .val (.int (0 : Int32)), .val (.int (0 : Int32)), .val (.int (1 : Int32))] [(.ref s_FIELDREF), (.ref s_PUT_FIELD_targets)])) rfl (by rw [hml]; rfl) (Steps.refl _) (argsL := [(.ref s_FIELDREF)]) (rest := []) (lenOf pd0_3 rfl) rfl (by show 2 * 0 + _ ≤ _; exact Nat.le_of_eq rfl) (hb hby at_148) (fun _ _ => ⟨rfl, e148, (by decide : 0 + 0 ≤ _), (by decide : 0 + 0 ≤ _)⟩)
      dsimp only [Pt.U, Pt.locs, Pt.cells, Pt.slots] at X149 l149 y149 z149 st149 hQ149
      subst l149 y149 z149
      obtain ⟨rfl, N149q, eh149⟩ := hQ149
      have N149 := Fr.app N147 N149q
      refine Go.tr st149 ?_
      show Go _ _ _ _ _ _ _ (T149.setTop (mkF m 151 #[.val (.int k0), .val (.int mv), .val (.int (3 : Int32)), .val (.ref s_PUT_FIELD), .val (.ref s_PUT_FIELD_targets), .val (.int (1 : Int32)), .val (.int (1 : Int32)), .val (.int (0 : Int32)), .val (.int (0 : Int32)), .val (.int (1 : Int32))] [(.int (1 : Int32))]))
      refine Go.by (fun _ kont => XS.iload X149.here hx rfl (hb hby at_151) rfl (XS.icmpNo X149.here hx rfl (hb hby at_153) rfl (by decide) (XS.aload X149.here hx rfl (hb hby at_156) rfl rfl kont))) ?_
      show Go _ _ _ _ _ _ _ (T149.setTop (mkF m 158 #[.val (.int k0), .val (.int mv), .val (.int (3 : Int32)), .val (.ref s_PUT_FIELD), .val (.ref s_PUT_FIELD_targets), .val (.int (1 : Int32)), .val (.int (1 : Int32)), .val (.int (0 : Int32)), .val (.int (0 : Int32)), .val (.int (1 : Int32))] [(.ref s_PUT_FIELD_targets)]))
      obtain ⟨T150, X150, e150, st150⟩ := getS2 X149 hx hZ hown (host := "") (Or.inl (hw _ (List.mem_of_getElem? (i := 48) rfl))) Via.refl eh149 S_METHODREF (g := (mkF m 158 #[.val (.int k0), .val (.int mv), .val (.int (3 : Int32)), .val (.ref s_PUT_FIELD), .val (.ref s_PUT_FIELD_targets), .val (.int (1 : Int32)), .val (.int (1 : Int32)), .val (.int (0 : Int32)), .val (.int (0 : Int32)), .val (.int (1 : Int32))] [(.ref s_PUT_FIELD_targets)])) rfl (hb hby at_158)
      refine Go.by st150 ?_
      show Go _ _ _ _ _ _ _ (T150.setTop (mkF m 161 #[.val (.int k0), .val (.int mv), .val (.int (3 : Int32)), .val (.ref s_PUT_FIELD), .val (.ref s_PUT_FIELD_targets), .val (.int (1 : Int32)), .val (.int (1 : Int32)), .val (.int (0 : Int32)), .val (.int (0 : Int32)), .val (.int (1 : Int32))] [(.ref s_METHODREF), (.ref s_PUT_FIELD_targets)]))
      obtain ⟨cq151, kq151, q151a, q151b, q151c⟩ := isOf hZ e150 E_s_PUT_FIELD_targets
      obtain ⟨_, _, ⟨T151, L151, k151, n151⟩, -, X151, ⟨Lc151, hQ151, l151, y151, z151⟩, st151⟩ := X150.virtualBack hx (y := (⟨"com/example/classwright/classwright/KindSet", "contains", "(Ljava/lang/Object;)Z"⟩ : MethodName)) (z := (⟨"com/example/classwright/classwright/KindSet", "contains", "(Ljava/lang/Object;)Z"⟩ : MethodName)) hown (mvT hZ (hw _ (List.mem_of_getElem? (i := 29) rfl))) (mvT hZ (hw _ (List.mem_of_getElem? (i := 30) rfl))) (notFace_of_selects (args := #[]) (mvT hZ (hw _ (List.mem_of_getElem? (i := 32) rfl)))) (mvT hZ (hw _ (List.mem_of_getElem? (i := 32) rfl))) (mvT hZ (hw _ (List.mem_of_getElem? (i := 31) rfl))) (by decide) (backOf (W := 0) (rmC128_8 l Z a0 hw [] s_PUT_FIELD_targets s_METHODREF h0 n0 Z0 E_s_PUT_FIELD_targets F_s_PUT_FIELD_targets_bits E_s_METHODREF F_s_METHODREF_ordinal) hZ (hw _ (List.mem_of_getElem? (i := 34) rfl)) (hw _ (List.mem_of_getElem? (i := 33) rfl)) (by decide) (by decide)) q151a q151c (g := (mkF m 161 #[.val (.int k0), .val (.int mv), .val (.int (3 : Int32)), .val (.ref s_PUT_FIELD), .val (.ref s_PUT_FIELD_targets), .val (.int (1 : Int32)), .val (.int (1 : Int32)), .val (.int (0 : Int32)), .val (.int (0 : Int32)), .val (.int (1 : Int32))] [(.ref s_METHODREF), (.ref s_PUT_FIELD_targets)])) rfl (by rw [hml]; rfl) (Steps.refl _) (argsL := [(.ref s_METHODREF)]) (rest := []) (lenOf pd0_3 rfl) rfl (by show 2 * 0 + _ ≤ _; exact Nat.le_of_eq rfl) (hb hby at_161) (fun _ _ => ⟨rfl, e150, (by decide : 0 + 0 ≤ _), (by decide : 0 + 0 ≤ _)⟩)
      dsimp only [Pt.U, Pt.locs, Pt.cells, Pt.slots] at X151 l151 y151 z151 st151 hQ151
      subst l151 y151 z151
      obtain ⟨rfl, N151q, eh151⟩ := hQ151
      have N151 := Fr.app N149 N151q
      refine Go.tr st151 ?_
      show Go _ _ _ _ _ _ _ (T151.setTop (mkF m 164 #[.val (.int k0), .val (.int mv), .val (.int (3 : Int32)), .val (.ref s_PUT_FIELD), .val (.ref s_PUT_FIELD_targets), .val (.int (1 : Int32)), .val (.int (1 : Int32)), .val (.int (0 : Int32)), .val (.int (0 : Int32)), .val (.int (1 : Int32))] [(.int (0 : Int32))]))
      refine Go.by (fun _ kont => XS.iload X151.here hx rfl (hb hby at_164) rfl (XS.icmpNo X151.here hx rfl (hb hby at_166) rfl (by decide) (XS.aload X151.here hx rfl (hb hby at_169) rfl rfl kont))) ?_
      show Go _ _ _ _ _ _ _ (T151.setTop (mkF m 171 #[.val (.int k0), .val (.int mv), .val (.int (3 : Int32)), .val (.ref s_PUT_FIELD), .val (.ref s_PUT_FIELD_targets), .val (.int (1 : Int32)), .val (.int (1 : Int32)), .val (.int (0 : Int32)), .val (.int (0 : Int32)), .val (.int (1 : Int32))] [(.ref s_PUT_FIELD_targets)]))
      obtain ⟨T152, X152, e152, st152⟩ := getS2 X151 hx hZ hown (host := "") (Or.inl (hw _ (List.mem_of_getElem? (i := 50) rfl))) Via.refl eh151 S_INTERFACE_METHODREF (g := (mkF m 171 #[.val (.int k0), .val (.int mv), .val (.int (3 : Int32)), .val (.ref s_PUT_FIELD), .val (.ref s_PUT_FIELD_targets), .val (.int (1 : Int32)), .val (.int (1 : Int32)), .val (.int (0 : Int32)), .val (.int (0 : Int32)), .val (.int (1 : Int32))] [(.ref s_PUT_FIELD_targets)])) rfl (hb hby at_171)
      refine Go.by st152 ?_
      show Go _ _ _ _ _ _ _ (T152.setTop (mkF m 174 #[.val (.int k0), .val (.int mv), .val (.int (3 : Int32)), .val (.ref s_PUT_FIELD), .val (.ref s_PUT_FIELD_targets), .val (.int (1 : Int32)), .val (.int (1 : Int32)), .val (.int (0 : Int32)), .val (.int (0 : Int32)), .val (.int (1 : Int32))] [(.ref s_INTERFACE_METHODREF), (.ref s_PUT_FIELD_targets)]))
      obtain ⟨cq153, kq153, q153a, q153b, q153c⟩ := isOf hZ e152 E_s_PUT_FIELD_targets
      obtain ⟨_, _, ⟨T153, L153, k153, n153⟩, -, X153, ⟨Lc153, hQ153, l153, y153, z153⟩, st153⟩ := X152.virtualBack hx (y := (⟨"com/example/classwright/classwright/KindSet", "contains", "(Ljava/lang/Object;)Z"⟩ : MethodName)) (z := (⟨"com/example/classwright/classwright/KindSet", "contains", "(Ljava/lang/Object;)Z"⟩ : MethodName)) hown (mvT hZ (hw _ (List.mem_of_getElem? (i := 29) rfl))) (mvT hZ (hw _ (List.mem_of_getElem? (i := 30) rfl))) (notFace_of_selects (args := #[]) (mvT hZ (hw _ (List.mem_of_getElem? (i := 32) rfl)))) (mvT hZ (hw _ (List.mem_of_getElem? (i := 32) rfl))) (mvT hZ (hw _ (List.mem_of_getElem? (i := 31) rfl))) (by decide) (backOf (W := 0) (rmC128_9 l Z a0 hw [] s_PUT_FIELD_targets s_INTERFACE_METHODREF h0 n0 Z0 E_s_PUT_FIELD_targets F_s_PUT_FIELD_targets_bits E_s_INTERFACE_METHODREF F_s_INTERFACE_METHODREF_ordinal) hZ (hw _ (List.mem_of_getElem? (i := 34) rfl)) (hw _ (List.mem_of_getElem? (i := 33) rfl)) (by decide) (by decide)) q153a q153c (g := (mkF m 174 #[.val (.int k0), .val (.int mv), .val (.int (3 : Int32)), .val (.ref s_PUT_FIELD), .val (.ref s_PUT_FIELD_targets), .val (.int (1 : Int32)), .val (.int (1 : Int32)), .val (.int (0 : Int32)), .val (.int (0 : Int32)), .val (.int (1 : Int32))] [(.ref s_INTERFACE_METHODREF), (.ref s_PUT_FIELD_targets)])) rfl (by rw [hml]; rfl) (Steps.refl _) (argsL := [(.ref s_INTERFACE_METHODREF)]) (rest := []) (lenOf pd0_3 rfl) rfl (by show 2 * 0 + _ ≤ _; exact Nat.le_of_eq rfl) (hb hby at_174) (fun _ _ => ⟨rfl, e152, (by decide : 0 + 0 ≤ _), (by decide : 0 + 0 ≤ _)⟩)
      dsimp only [Pt.U, Pt.locs, Pt.cells, Pt.slots] at X153 l153 y153 z153 st153 hQ153
      subst l153 y153 z153
      obtain ⟨rfl, N153q, eh153⟩ := hQ153
      have N153 := Fr.app N151 N153q
      refine Go.tr st153 ?_
      show Go _ _ _ _ _ _ _ (T153.setTop (mkF m 177 #[.val (.int k0), .val (.int mv), .val (.int (3 : Int32)), .val (.ref s_PUT_FIELD), .val (.ref s_PUT_FIELD_targets), .val (.int (1 : Int32)), .val (.int (1 : Int32)), .val (.int (0 : Int32)), .val (.int (0 : Int32)), .val (.int (1 : Int32))] [(.int (0 : Int32))]))
      refine Go.by (fun _ kont => XS.iload X153.here hx rfl (hb hby at_177) rfl (XS.icmpNo X153.here hx rfl (hb hby at_179) rfl (by decide) (XS.aload X153.here hx rfl (hb hby at_182) rfl rfl kont))) ?_
      show Go _ _ _ _ _ _ _ (T153.setTop (mkF m 184 #[.val (.int k0), .val (.int mv), .val (.int (3 : Int32)), .val (.ref s_PUT_FIELD), .val (.ref s_PUT_FIELD_targets), .val (.int (1 : Int32)), .val (.int (1 : Int32)), .val (.int (0 : Int32)), .val (.int (0 : Int32)), .val (.int (1 : Int32))] [(.ref s_PUT_FIELD_targets)]))
      obtain ⟨cq154, kq154, q154a, q154b, q154c⟩ := isOf hZ eh153 E_s_PUT_FIELD_targets
      obtain ⟨_, _, ⟨T154, L154, k154, n154⟩, -, X154, ⟨Lc154, hQ154, l154, y154, z154⟩, st154⟩ := X153.virtualBack hx (y := (⟨"com/example/classwright/classwright/KindSet", "size", "()I"⟩ : MethodName)) (z := (⟨"com/example/classwright/classwright/KindSet", "size", "()I"⟩ : MethodName)) hown (mvT hZ (hw _ (List.mem_of_getElem? (i := 52) rfl))) (mvT hZ (hw _ (List.mem_of_getElem? (i := 53) rfl))) (notFace_of_selects (args := #[]) (mvT hZ (hw _ (List.mem_of_getElem? (i := 55) rfl)))) (mvT hZ (hw _ (List.mem_of_getElem? (i := 55) rfl))) (mvT hZ (hw _ (List.mem_of_getElem? (i := 54) rfl))) (by decide) (backOf (W := 0) (rmS128 l Z a0 hw [] s_PUT_FIELD_targets h0 n0 Z0 E_s_PUT_FIELD_targets F_s_PUT_FIELD_targets_bits) hZ (hw _ (List.mem_of_getElem? (i := 56) rfl)) (hw _ (List.mem_of_getElem? (i := 33) rfl)) (by decide) (by decide)) q154a q154c (g := (mkF m 184 #[.val (.int k0), .val (.int mv), .val (.int (3 : Int32)), .val (.ref s_PUT_FIELD), .val (.ref s_PUT_FIELD_targets), .val (.int (1 : Int32)), .val (.int (1 : Int32)), .val (.int (0 : Int32)), .val (.int (0 : Int32)), .val (.int (1 : Int32))] [(.ref s_PUT_FIELD_targets)])) rfl (by rw [hml]; rfl) (Steps.refl _) (argsL := []) (rest := []) (lenOf pd0_1 rfl) rfl (by show 2 * 0 + _ ≤ _; exact Nat.le_of_eq rfl) (hb hby at_184) (fun _ _ => ⟨rfl, eh153, (by decide : 0 + 0 ≤ _), (by decide : 0 + 0 ≤ _)⟩)
      dsimp only [Pt.U, Pt.locs, Pt.cells, Pt.slots] at X154 l154 y154 z154 st154 hQ154
      subst l154 y154 z154
      obtain ⟨rfl, N154q, eh154⟩ := hQ154
      have N154 := Fr.app N153 N154q
      refine Go.tr st154 ?_
      show Go _ _ _ _ _ _ _ (T154.setTop (mkF m 187 #[.val (.int k0), .val (.int mv), .val (.int (3 : Int32)), .val (.ref s_PUT_FIELD), .val (.ref s_PUT_FIELD_targets), .val (.int (1 : Int32)), .val (.int (1 : Int32)), .val (.int (0 : Int32)), .val (.int (0 : Int32)), .val (.int (1 : Int32))] [(.int (1 : Int32))]))
      refine Go.by (fun _ kont => XS.iload X154.here hx rfl (hb hby at_187) rfl (XS.icmpNo X154.here hx rfl (hb hby at_189) rfl (by decide) (XS.iconst X154.here hx rfl (hb hby at_192) (XS.goto X154.here hx rfl (pc0 := 193) (pc' := 197) rfl (hb hby at_193) (by decide) (by decide) kont)))) ?_
      show Go _ _ _ _ _ _ _ (T154.setTop (mkF m 197 #[.val (.int k0), .val (.int mv), .val (.int (3 : Int32)), .val (.ref s_PUT_FIELD), .val (.ref s_PUT_FIELD_targets), .val (.int (1 : Int32)), .val (.int (1 : Int32)), .val (.int (0 : Int32)), .val (.int (0 : Int32)), .val (.int (1 : Int32))] [(.int (1 : Int32))]))
      refine Go.retN X154 hx (t := .boolean) hret (by simp) hlk (hb hby at_197) ?_ (by decide) (by decide)
      show Q0 Z h0 n0 (some (.int (1 : Int32))) T154.heap _
      rw [eh154]
      exact ⟨rfl, N154⟩
  · show Go _ _ _ _ _ _ _ (s₁.setTop (mkF m 10 #[.val (.int k0), .val (.int mv), .val (.int (4 : Int32)), .unset, .unset, .unset, .unset, .unset, .unset, .unset] []))
    refine Go.by (fun _ kont => XS.iloadN X0.here hx rfl (hb hby at_10) rfl kont) ?_
    show Go _ _ _ _ _ _ _ (s₁.setTop (mkF m 11 #[.val (.int k0), .val (.int mv), .val (.int (4 : Int32)), .unset, .unset, .unset, .unset, .unset, .unset, .unset] [(.int (4 : Int32))]))
    obtain ⟨_, _, ⟨T155, L155, k155, n155⟩, -, X155, ⟨Lc155, hQ155, l155, y155, z155⟩, st155⟩ := Jvm.LawKit.callS X0 hx (y := (⟨"com/example/classwright/classwright/ReferenceKind", "forByte", "(I)Lcom/example/classwright/classwright/ReferenceKind;"⟩ : MethodName)) hown (mvT hZ (hw _ (List.mem_of_getElem? (i := 1) rfl))) (mvT hZ (hw _ (List.mem_of_getElem? (i := 2) rfl))) (mvT hZ (hw _ (List.mem_of_getElem? (i := 3) rfl))) (mvT hZ (hw _ (List.mem_of_getElem? (i := 4) rfl))) (by decide) (backOf (W := 0) (rmF4 l Z a0 hw [] s_BY_VALUE kc_s_BY_VALUE s_GET_FIELD s_GET_STATIC s_PUT_FIELD s_PUT_STATIC s_INVOKE_VIRTUAL s_INVOKE_STATIC s_INVOKE_SPECIAL s_NEW_INVOKE_SPECIAL s_INVOKE_INTERFACE h0 n0 Z0 V_s_BY_VALUE S_BY_VALUE) hZ (hw _ (List.mem_of_getElem? (i := 4) rfl)) (hw _ (List.mem_of_getElem? (i := 3) rfl)) (by decide) (by decide)) (g := (mkF m 11 #[.val (.int k0), .val (.int mv), .val (.int (4 : Int32)), .unset, .unset, .unset, .unset, .unset, .unset, .unset] [(.int (4 : Int32))])) rfl (by rw [hml]; rfl) (argsL := [(.int (4 : Int32))]) (rest := []) (lenOf pd0_0 rfl) rfl (by show 2 * 0 + _ ≤ _; exact Nat.le_of_eq rfl) (hb hby at_11) (fun _ _ => ⟨rfl, e0, (by decide : 0 + 0 ≤ _), (by decide : 0 + 0 ≤ _)⟩)
    dsimp only [Pt.U, Pt.locs, Pt.cells, Pt.slots] at X155 l155 y155 z155 st155 hQ155
    subst l155 y155 z155
    obtain ⟨rfl, N155q, eh155⟩ := hQ155
    have N155 := Fr.app N0 N155q
    refine Go.by st155 ?_
    show Go _ _ _ _ _ _ _ (T155.setTop (mkF m 14 #[.val (.int k0), .val (.int mv), .val (.int (4 : Int32)), .unset, .unset, .unset, .unset, .unset, .unset, .unset] [(.ref s_PUT_STATIC)]))
    refine Go.by (fun _ kont => XS.astoreN X155.here hx rfl (hb hby at_14) rfl rfl (l' := #[.val (.int k0), .val (.int mv), .val (.int (4 : Int32)), .val (.ref s_PUT_STATIC), .unset, .unset, .unset, .unset, .unset, .unset]) rfl (XS.aloadN X155.here hx rfl (hb hby at_15) rfl rfl (XS.ifnullNo X155.here hx rfl (hb hby at_16) rfl (XS.aloadN X155.here hx rfl (hb hby at_19) rfl rfl kont)))) ?_
    show Go _ _ _ _ _ _ _ (T155.setTop (mkF m 20 #[.val (.int k0), .val (.int mv), .val (.int (4 : Int32)), .val (.ref s_PUT_STATIC), .unset, .unset, .unset, .unset, .unset, .unset] [(.ref s_PUT_STATIC)]))
    obtain ⟨cq156, kq156, q156a, q156b, q156c⟩ := isOf hZ eh155 E_s_PUT_STATIC
    obtain ⟨_, _, ⟨T156, L156, k156, n156⟩, -, X156, ⟨Lc156, hQ156, l156, y156, z156⟩, st156⟩ := X155.virtualBack hx (y := (⟨"com/example/classwright/classwright/ReferenceKind", "value", "()I"⟩ : MethodName)) (z := (⟨"com/example/classwright/classwright/ReferenceKind", "value", "()I"⟩ : MethodName)) hown (mvT hZ (hw _ (List.mem_of_getElem? (i := 8) rfl))) (mvT hZ (hw _ (List.mem_of_getElem? (i := 9) rfl))) (notFace_of_selects (args := #[]) (mvT hZ (hw _ (List.mem_of_getElem? (i := 11) rfl)))) (mvT hZ (hw _ (List.mem_of_getElem? (i := 11) rfl))) (mvT hZ (hw _ (List.mem_of_getElem? (i := 10) rfl))) (by decide) (backOf (W := 0) (rmV l Z a0 hw [] s_PUT_STATIC (4 : Int32) h0 n0 Z0 E_s_PUT_STATIC F_s_PUT_STATIC_value) hZ (hw _ (List.mem_of_getElem? (i := 12) rfl)) (hw _ (List.mem_of_getElem? (i := 3) rfl)) (by decide) (by decide)) q156a q156c (g := (mkF m 20 #[.val (.int k0), .val (.int mv), .val (.int (4 : Int32)), .val (.ref s_PUT_STATIC), .unset, .unset, .unset, .unset, .unset, .unset] [(.ref s_PUT_STATIC)])) rfl (by rw [hml]; rfl) (Steps.refl _) (argsL := []) (rest := []) (lenOf pd0_1 rfl) rfl (by show 2 * 0 + _ ≤ _; exact Nat.le_of_eq rfl) (hb hby at_20) (fun _ _ => ⟨rfl, eh155, (by decide : 0 + 0 ≤ _), (by decide : 0 + 0 ≤ _)⟩)
    dsimp only [Pt.U, Pt.locs, Pt.cells, Pt.slots] at X156 l156 y156 z156 st156 hQ156
    subst l156 y156 z156
    obtain ⟨rfl, N156q, eh156⟩ := hQ156
    have N156 := Fr.app N155 N156q
    refine Go.tr st156 ?_
    show Go _ _ _ _ _ _ _ (T156.setTop (mkF m 23 #[.val (.int k0), .val (.int mv), .val (.int (4 : Int32)), .val (.ref s_PUT_STATIC), .unset, .unset, .unset, .unset, .unset, .unset] [(.int (4 : Int32))]))
    refine Go.by (fun _ kont => XS.iloadN X156.here hx rfl (hb hby at_23) rfl (XS.icmpYes X156.here hx rfl (pc0 := 24) (pc' := 29) rfl (hb hby at_24) rfl (by decide) (by decide) (by decide) kont)) ?_
    show Go _ _ _ _ _ _ _ (T156.setTop (mkF m 29 #[.val (.int k0), .val (.int mv), .val (.int (4 : Int32)), .val (.ref s_PUT_STATIC), .unset, .unset, .unset, .unset, .unset, .unset] []))
    by_cases hmv : mv < (52 : Int32)
    · show Go _ _ _ _ _ _ _ (T156.setTop (mkF m 29 #[.val (.int k0), .val (.int mv), .val (.int (4 : Int32)), .val (.ref s_PUT_STATIC), .unset, .unset, .unset, .unset, .unset, .unset] []))
      refine Go.by (fun _ kont => XS.aloadN X156.here hx rfl (hb hby at_29) rfl rfl (XS.iloadN X156.here hx rfl (hb hby at_30) rfl kont)) ?_
      show Go _ _ _ _ _ _ _ (T156.setTop (mkF m 31 #[.val (.int k0), .val (.int mv), .val (.int (4 : Int32)), .val (.ref s_PUT_STATIC), .unset, .unset, .unset, .unset, .unset, .unset] [(.int mv), (.ref s_PUT_STATIC)]))
      obtain ⟨cq157, kq157, q157a, q157b, q157c⟩ := isOf hZ eh156 E_s_PUT_STATIC
      obtain ⟨_, _, ⟨T157, L157, k157, n157⟩, -, X157, ⟨Lc157, hQ157, l157, y157, z157⟩, st157⟩ := X156.virtualBack hx (y := (⟨"com/example/classwright/classwright/ReferenceKind", "targetKinds", "(I)Lcom/example/classwright/classwright/KindSet;"⟩ : MethodName)) (z := (⟨"com/example/classwright/classwright/ReferenceKind", "targetKinds", "(I)Lcom/example/classwright/classwright/KindSet;"⟩ : MethodName)) hown (mvT hZ (hw _ (List.mem_of_getElem? (i := 15) rfl))) (mvT hZ (hw _ (List.mem_of_getElem? (i := 16) rfl))) (notFace_of_selects (args := #[]) (mvT hZ (hw _ (List.mem_of_getElem? (i := 18) rfl)))) (mvT hZ (hw _ (List.mem_of_getElem? (i := 18) rfl))) (mvT hZ (hw _ (List.mem_of_getElem? (i := 17) rfl))) (by decide) (backOf (W := 0) (rmTe l Z a0 hw [] s_PUT_STATIC mv s_PUT_STATIC_targets s_INVOKE_STATIC s_INVOKE_SPECIAL s_METHODREF_ h0 n0 Z0 E_s_PUT_STATIC F_s_PUT_STATIC_targets ne_s_PUT_STATIC_s_INVOKE_STATIC ne_s_PUT_STATIC_s_INVOKE_SPECIAL S_INVOKE_STATIC S_INVOKE_SPECIAL S_METHODREF_ hmv) hZ (hw _ (List.mem_of_getElem? (i := 19) rfl)) (hw _ (List.mem_of_getElem? (i := 3) rfl)) (by decide) (by decide)) q157a q157c (g := (mkF m 31 #[.val (.int k0), .val (.int mv), .val (.int (4 : Int32)), .val (.ref s_PUT_STATIC), .unset, .unset, .unset, .unset, .unset, .unset] [(.int mv), (.ref s_PUT_STATIC)])) rfl (by rw [hml]; rfl) (Steps.refl _) (argsL := [(.int mv)]) (rest := []) (lenOf pd0_2 rfl) rfl (by show 2 * 0 + _ ≤ _; exact Nat.le_of_eq rfl) (hb hby at_31) (fun _ _ => ⟨rfl, eh156, (by decide : 0 + 0 ≤ _), (by decide : 0 + 0 ≤ _)⟩)
      dsimp only [Pt.U, Pt.locs, Pt.cells, Pt.slots] at X157 l157 y157 z157 st157 hQ157
      subst l157 y157 z157
      obtain ⟨rfl, N157q, eh157⟩ := hQ157
      have N157 := Fr.app N156 N157q
      refine Go.tr st157 ?_
      show Go _ _ _ _ _ _ _ (T157.setTop (mkF m 34 #[.val (.int k0), .val (.int mv), .val (.int (4 : Int32)), .val (.ref s_PUT_STATIC), .unset, .unset, .unset, .unset, .unset, .unset] [(.ref s_PUT_STATIC_targets)]))
      refine Go.by (fun _ kont => XS.astore X157.here hx rfl (hb hby at_34) rfl rfl (l' := #[.val (.int k0), .val (.int mv), .val (.int (4 : Int32)), .val (.ref s_PUT_STATIC), .val (.ref s_PUT_STATIC_targets), .unset, .unset, .unset, .unset, .unset]) rfl (XS.iloadN X157.here hx rfl (hb hby at_36) rfl (XS.bipush X157.here hx rfl (hb hby at_37) kont))) ?_
      show Go _ _ _ _ _ _ _ (T157.setTop (mkF m 39 #[.val (.int k0), .val (.int mv), .val (.int (4 : Int32)), .val (.ref s_PUT_STATIC), .val (.ref s_PUT_STATIC_targets), .unset, .unset, .unset, .unset, .unset] [(.int (52 : Int32)), (.int mv)]))
      refine Go.by (fun _ kont => XS.icmpYes X157.here hx rfl (pc0 := 39) (pc' := 46) rfl (hb hby at_39) rfl (tlt hmv).1 (by decide) (by decide) kont) ?_
      show Go _ _ _ _ _ _ _ (T157.setTop (mkF m 46 #[.val (.int k0), .val (.int mv), .val (.int (4 : Int32)), .val (.ref s_PUT_STATIC), .val (.ref s_PUT_STATIC_targets), .unset, .unset, .unset, .unset, .unset] []))
      refine Go.by (fun _ kont => XS.iconst X157.here hx rfl (hb hby at_46) (XS.istore X157.here hx rfl (hb hby at_47) rfl (l' := #[.val (.int k0), .val (.int mv), .val (.int (4 : Int32)), .val (.ref s_PUT_STATIC), .val (.ref s_PUT_STATIC_targets), .val (.int (0 : Int32)), .unset, .unset, .unset, .unset]) rfl (XS.iloadN X157.here hx rfl (hb hby at_49) rfl (XS.iconst X157.here hx rfl (hb hby at_50) (XS.icmpNo X157.here hx rfl (hb hby at_51) rfl (by decide) (XS.iconst X157.here hx rfl (hb hby at_54) (XS.goto X157.here hx rfl (pc0 := 55) (pc' := 59) rfl (hb hby at_55) (by decide) (by decide) (XS.istore X157.here hx rfl (hb hby at_59) rfl (l' := #[.val (.int k0), .val (.int mv), .val (.int (4 : Int32)), .val (.ref s_PUT_STATIC), .val (.ref s_PUT_STATIC_targets), .val (.int (0 : Int32)), .val (.int (1 : Int32)), .unset, .unset, .unset]) rfl (XS.iloadN X157.here hx rfl (hb hby at_61) rfl (XS.iconst X157.here hx rfl (hb hby at_62) (XS.icmpYes X157.here hx rfl (pc0 := 63) (pc' := 76) rfl (hb hby at_63) rfl (by decide) (by decide) (by decide) (XS.iconst X157.here hx rfl (hb hby at_76) kont)))))))))))) ?_
      show Go _ _ _ _ _ _ _ (T157.setTop (mkF m 77 #[.val (.int k0), .val (.int mv), .val (.int (4 : Int32)), .val (.ref s_PUT_STATIC), .val (.ref s_PUT_STATIC_targets), .val (.int (0 : Int32)), .val (.int (1 : Int32)), .unset, .unset, .unset] [(.int (0 : Int32))]))
      refine Go.by (fun _ kont => XS.istore X157.here hx rfl (hb hby at_77) rfl (l' := #[.val (.int k0), .val (.int mv), .val (.int (4 : Int32)), .val (.ref s_PUT_STATIC), .val (.ref s_PUT_STATIC_targets), .val (.int (0 : Int32)), .val (.int (1 : Int32)), .val (.int (0 : Int32)), .unset, .unset]) rfl (XS.iloadN X157.here hx rfl (hb hby at_79) rfl (XS.bipush X157.here hx rfl (hb hby at_80) (XS.icmpNo X157.here hx rfl (hb hby at_82) rfl (by decide) (XS.iloadN X157.here hx rfl (hb hby at_85) rfl (XS.bipush X157.here hx rfl (hb hby at_86) (XS.icmpNo X157.here hx rfl (hb hby at_88) rfl (by decide) (XS.iloadN X157.here hx rfl (hb hby at_91) rfl (XS.bipush X157.here hx rfl (hb hby at_92) (XS.icmpYes X157.here hx rfl (pc0 := 94) (pc' := 106) rfl (hb hby at_94) rfl (by decide) (by decide) (by decide) (XS.iconst X157.here hx rfl (hb hby at_106) (XS.istore X157.here hx rfl (hb hby at_107) rfl (l' := #[.val (.int k0), .val (.int mv), .val (.int (4 : Int32)), .val (.ref s_PUT_STATIC), .val (.ref s_PUT_STATIC_targets), .val (.int (0 : Int32)), .val (.int (1 : Int32)), .val (.int (0 : Int32)), .val (.int (0 : Int32)), .unset]) rfl kont)))))))))))) ?_
      show Go _ _ _ _ _ _ _ (T157.setTop (mkF m 109 #[.val (.int k0), .val (.int mv), .val (.int (4 : Int32)), .val (.ref s_PUT_STATIC), .val (.ref s_PUT_STATIC_targets), .val (.int (0 : Int32)), .val (.int (1 : Int32)), .val (.int (0 : Int32)), .val (.int (0 : Int32)), .unset] []))
      refine Go.by (fun _ kont => XS.iload X157.here hx rfl (hb hby at_109) rfl (XS.ifNo X157.here hx rfl (hb hby at_111) rfl (by decide) (XS.iconst X157.here hx rfl (hb hby at_114) (XS.goto X157.here hx rfl (pc0 := 115) (pc' := 119) rfl (hb hby at_115) (by decide) (by decide) (XS.iload X157.here hx rfl (hb hby at_119) rfl (XS.ifYes X157.here hx rfl (pc0 := 121) (pc' := 128) rfl (hb hby at_121) rfl (by decide) (by decide) (by decide) (XS.iconst X157.here hx rfl (hb hby at_128) (XS.iadd X157.here hx rfl (hb hby at_129) rfl kont)))))))) ?_
      show Go _ _ _ _ _ _ _ (T157.setTop (mkF m 130 #[.val (.int k0), .val (.int mv), .val (.int (4 : Int32)), .val (.ref s_PUT_STATIC), .val (.ref s_PUT_STATIC_targets), .val (.int (0 : Int32)), .val (.int (1 : Int32)), .val (.int (0 : Int32)), .val (.int (0 : Int32)), .unset] [(.int ((1 : Int32) + (0 : Int32)))]))
      rw [show ((1 : Int32) + (0 : Int32)) = (1 : Int32) from by decide]
      show Go _ _ _ _ _ _ _ (T157.setTop (mkF m 130 #[.val (.int k0), .val (.int mv), .val (.int (4 : Int32)), .val (.ref s_PUT_STATIC), .val (.ref s_PUT_STATIC_targets), .val (.int (0 : Int32)), .val (.int (1 : Int32)), .val (.int (0 : Int32)), .val (.int (0 : Int32)), .unset] [(.int (1 : Int32))]))
      refine Go.by (fun _ kont => XS.iload X157.here hx rfl (hb hby at_130) rfl (XS.ifYes X157.here hx rfl (pc0 := 132) (pc' := 139) rfl (hb hby at_132) rfl (by decide) (by decide) (by decide) (XS.iconst X157.here hx rfl (hb hby at_139) (XS.iadd X157.here hx rfl (hb hby at_140) rfl kont)))) ?_
      show Go _ _ _ _ _ _ _ (T157.setTop (mkF m 141 #[.val (.int k0), .val (.int mv), .val (.int (4 : Int32)), .val (.ref s_PUT_STATIC), .val (.ref s_PUT_STATIC_targets), .val (.int (0 : Int32)), .val (.int (1 : Int32)), .val (.int (0 : Int32)), .val (.int (0 : Int32)), .unset] [(.int ((1 : Int32) + (0 : Int32)))]))
      rw [show ((1 : Int32) + (0 : Int32)) = (1 : Int32) from by decide]
      show Go _ _ _ _ _ _ _ (T157.setTop (mkF m 141 #[.val (.int k0), .val (.int mv), .val (.int (4 : Int32)), .val (.ref s_PUT_STATIC), .val (.ref s_PUT_STATIC_targets), .val (.int (0 : Int32)), .val (.int (1 : Int32)), .val (.int (0 : Int32)), .val (.int (0 : Int32)), .unset] [(.int (1 : Int32))]))
      refine Go.by (fun _ kont => XS.istore X157.here hx rfl (hb hby at_141) rfl (l' := #[.val (.int k0), .val (.int mv), .val (.int (4 : Int32)), .val (.ref s_PUT_STATIC), .val (.ref s_PUT_STATIC_targets), .val (.int (0 : Int32)), .val (.int (1 : Int32)), .val (.int (0 : Int32)), .val (.int (0 : Int32)), .val (.int (1 : Int32))]) rfl (XS.aload X157.here hx rfl (hb hby at_143) rfl rfl kont)) ?_
      show Go _ _ _ _ _ _ _ (T157.setTop (mkF m 145 #[.val (.int k0), .val (.int mv), .val (.int (4 : Int32)), .val (.ref s_PUT_STATIC), .val (.ref s_PUT_STATIC_targets), .val (.int (0 : Int32)), .val (.int (1 : Int32)), .val (.int (0 : Int32)), .val (.int (0 : Int32)), .val (.int (1 : Int32))] [(.ref s_PUT_STATIC_targets)]))
      obtain ⟨T158, X158, e158, st158⟩ := getS2 X157 hx hZ hown (host := "") (Or.inl (hw _ (List.mem_of_getElem? (i := 26) rfl))) Via.refl eh157 S_FIELDREF (g := (mkF m 145 #[.val (.int k0), .val (.int mv), .val (.int (4 : Int32)), .val (.ref s_PUT_STATIC), .val (.ref s_PUT_STATIC_targets), .val (.int (0 : Int32)), .val (.int (1 : Int32)), .val (.int (0 : Int32)), .val (.int (0 : Int32)), .val (.int (1 : Int32))] [(.ref s_PUT_STATIC_targets)])) rfl (hb hby at_145)
      refine Go.by st158 ?_
      show Go _ _ _ _ _ _ _ (T158.setTop (mkF m 148 #[.val (.int k0), .val (.int mv), .val (.int (4 : Int32)), .val (.ref s_PUT_STATIC), .val (.ref s_PUT_STATIC_targets), .val (.int (0 : Int32)), .val (.int (1 : Int32)), .val (.int (0 : Int32)), .val (.int (0 : Int32)), .val (.int (1 : Int32))] [(.ref s_FIELDREF), (.ref s_PUT_STATIC_targets)]))
      obtain ⟨cq159, kq159, q159a, q159b, q159c⟩ := isOf hZ e158 E_s_PUT_STATIC_targets
      obtain ⟨_, _, ⟨T159, L159, k159, n159⟩, -, X159, ⟨Lc159, hQ159, l159, y159, z159⟩, st159⟩ := X158.virtualBack hx (y := (⟨"com/example/classwright/classwright/KindSet", "contains", "(Ljava/lang/Object;)Z"⟩ : MethodName)) (z := (⟨"com/example/classwright/classwright/KindSet", "contains", "(Ljava/lang/Object;)Z"⟩ : MethodName)) hown (mvT hZ (hw _ (List.mem_of_getElem? (i := 29) rfl))) (mvT hZ (hw _ (List.mem_of_getElem? (i := 30) rfl))) (notFace_of_selects (args := #[]) (mvT hZ (hw _ (List.mem_of_getElem? (i := 32) rfl)))) (mvT hZ (hw _ (List.mem_of_getElem? (i := 32) rfl))) (mvT hZ (hw _ (List.mem_of_getElem? (i := 31) rfl))) (by decide) (backOf (W := 0) (rmC128_7 l Z a0 hw [] s_PUT_STATIC_targets s_FIELDREF h0 n0 Z0 E_s_PUT_STATIC_targets F_s_PUT_STATIC_targets_bits E_s_FIELDREF F_s_FIELDREF_ordinal) hZ (hw _ (List.mem_of_getElem? (i := 34) rfl)) (hw _ (List.mem_of_getElem? (i := 33) rfl)) (by decide) (by decide)) q159a q159c (g := (mkF m 148 #[.val (.int k0), .val (.int mv), .val (.int (4 : Int32)), .val (.ref s_PUT_STATIC), .val (.ref s_PUT_STATIC_targets), .val (.int (0 : Int32)), .val (.int (1 : Int32)), .val (.int (0 : Int32)), .val (.int (0 : Int32)), .val (.int (1 : Int32))] [(.ref s_FIELDREF), (.ref s_PUT_STATIC_targets)])) rfl (by rw [hml]; rfl) (Steps.refl _) (argsL := [(.ref s_FIELDREF)]) (rest := []) (lenOf pd0_3 rfl) rfl (by show 2 * 0 + _ ≤ _; exact Nat.le_of_eq rfl) (hb hby at_148) (fun _ _ => ⟨rfl, e158, (by decide : 0 + 0 ≤ _), (by decide : 0 + 0 ≤ _)⟩)
      dsimp only [Pt.U, Pt.locs, Pt.cells, Pt.slots] at X159 l159 y159 z159 st159 hQ159
      subst l159 y159 z159
      obtain ⟨rfl, N159q, eh159⟩ := hQ159
      have N159 := Fr.app N157 N159q
      refine Go.tr st159 ?_
      show Go _ _ _ _ _ _ _ (T159.setTop (mkF m 151 #[.val (.int k0), .val (.int mv), .val (.int (4 : Int32)), .val (.ref s_PUT_STATIC), .val (.ref s_PUT_STATIC_targets), .val (.int (0 : Int32)), .val (.int (1 : Int32)), .val (.int (0 : Int32)), .val (.int (0 : Int32)), .val (.int (1 : Int32))] [(.int (1 : Int32))]))
      refine Go.by (fun _ kont => XS.iload X159.here hx rfl (hb hby at_151) rfl (XS.icmpNo X159.here hx rfl (hb hby at_153) rfl (by decide) (XS.aload X159.here hx rfl (hb hby at_156) rfl rfl kont))) ?_
      show Go _ _ _ _ _ _ _ (T159.setTop (mkF m 158 #[.val (.int k0), .val (.int mv), .val (.int (4 : Int32)), .val (.ref s_PUT_STATIC), .val (.ref s_PUT_STATIC_targets), .val (.int (0 : Int32)), .val (.int (1 : Int32)), .val (.int (0 : Int32)), .val (.int (0 : Int32)), .val (.int (1 : Int32))] [(.ref s_PUT_STATIC_targets)]))
      obtain ⟨T160, X160, e160, st160⟩ := getS2 X159 hx hZ hown (host := "") (Or.inl (hw _ (List.mem_of_getElem? (i := 48) rfl))) Via.refl eh159 S_METHODREF (g := (mkF m 158 #[.val (.int k0), .val (.int mv), .val (.int (4 : Int32)), .val (.ref s_PUT_STATIC), .val (.ref s_PUT_STATIC_targets), .val (.int (0 : Int32)), .val (.int (1 : Int32)), .val (.int (0 : Int32)), .val (.int (0 : Int32)), .val (.int (1 : Int32))] [(.ref s_PUT_STATIC_targets)])) rfl (hb hby at_158)
      refine Go.by st160 ?_
      show Go _ _ _ _ _ _ _ (T160.setTop (mkF m 161 #[.val (.int k0), .val (.int mv), .val (.int (4 : Int32)), .val (.ref s_PUT_STATIC), .val (.ref s_PUT_STATIC_targets), .val (.int (0 : Int32)), .val (.int (1 : Int32)), .val (.int (0 : Int32)), .val (.int (0 : Int32)), .val (.int (1 : Int32))] [(.ref s_METHODREF), (.ref s_PUT_STATIC_targets)]))
      obtain ⟨cq161, kq161, q161a, q161b, q161c⟩ := isOf hZ e160 E_s_PUT_STATIC_targets
      obtain ⟨_, _, ⟨T161, L161, k161, n161⟩, -, X161, ⟨Lc161, hQ161, l161, y161, z161⟩, st161⟩ := X160.virtualBack hx (y := (⟨"com/example/classwright/classwright/KindSet", "contains", "(Ljava/lang/Object;)Z"⟩ : MethodName)) (z := (⟨"com/example/classwright/classwright/KindSet", "contains", "(Ljava/lang/Object;)Z"⟩ : MethodName)) hown (mvT hZ (hw _ (List.mem_of_getElem? (i := 29) rfl))) (mvT hZ (hw _ (List.mem_of_getElem? (i := 30) rfl))) (notFace_of_selects (args := #[]) (mvT hZ (hw _ (List.mem_of_getElem? (i := 32) rfl)))) (mvT hZ (hw _ (List.mem_of_getElem? (i := 32) rfl))) (mvT hZ (hw _ (List.mem_of_getElem? (i := 31) rfl))) (by decide) (backOf (W := 0) (rmC128_8 l Z a0 hw [] s_PUT_STATIC_targets s_METHODREF h0 n0 Z0 E_s_PUT_STATIC_targets F_s_PUT_STATIC_targets_bits E_s_METHODREF F_s_METHODREF_ordinal) hZ (hw _ (List.mem_of_getElem? (i := 34) rfl)) (hw _ (List.mem_of_getElem? (i := 33) rfl)) (by decide) (by decide)) q161a q161c (g := (mkF m 161 #[.val (.int k0), .val (.int mv), .val (.int (4 : Int32)), .val (.ref s_PUT_STATIC), .val (.ref s_PUT_STATIC_targets), .val (.int (0 : Int32)), .val (.int (1 : Int32)), .val (.int (0 : Int32)), .val (.int (0 : Int32)), .val (.int (1 : Int32))] [(.ref s_METHODREF), (.ref s_PUT_STATIC_targets)])) rfl (by rw [hml]; rfl) (Steps.refl _) (argsL := [(.ref s_METHODREF)]) (rest := []) (lenOf pd0_3 rfl) rfl (by show 2 * 0 + _ ≤ _; exact Nat.le_of_eq rfl) (hb hby at_161) (fun _ _ => ⟨rfl, e160, (by decide : 0 + 0 ≤ _), (by decide : 0 + 0 ≤ _)⟩)
      dsimp only [Pt.U, Pt.locs, Pt.cells, Pt.slots] at X161 l161 y161 z161 st161 hQ161
      subst l161 y161 z161
      obtain ⟨rfl, N161q, eh161⟩ := hQ161
      have N161 := Fr.app N159 N161q
      refine Go.tr st161 ?_
      show Go _ _ _ _ _ _ _ (T161.setTop (mkF m 164 #[.val (.int k0), .val (.int mv), .val (.int (4 : Int32)), .val (.ref s_PUT_STATIC), .val (.ref s_PUT_STATIC_targets), .val (.int (0 : Int32)), .val (.int (1 : Int32)), .val (.int (0 : Int32)), .val (.int (0 : Int32)), .val (.int (1 : Int32))] [(.int (0 : Int32))]))
      refine Go.by (fun _ kont => XS.iload X161.here hx rfl (hb hby at_164) rfl (XS.icmpNo X161.here hx rfl (hb hby at_166) rfl (by decide) (XS.aload X161.here hx rfl (hb hby at_169) rfl rfl kont))) ?_
      show Go _ _ _ _ _ _ _ (T161.setTop (mkF m 171 #[.val (.int k0), .val (.int mv), .val (.int (4 : Int32)), .val (.ref s_PUT_STATIC), .val (.ref s_PUT_STATIC_targets), .val (.int (0 : Int32)), .val (.int (1 : Int32)), .val (.int (0 : Int32)), .val (.int (0 : Int32)), .val (.int (1 : Int32))] [(.ref s_PUT_STATIC_targets)]))
      obtain ⟨T162, X162, e162, st162⟩ := getS2 X161 hx hZ hown (host := "") (Or.inl (hw _ (List.mem_of_getElem? (i := 50) rfl))) Via.refl eh161 S_INTERFACE_METHODREF (g := (mkF m 171 #[.val (.int k0), .val (.int mv), .val (.int (4 : Int32)), .val (.ref s_PUT_STATIC), .val (.ref s_PUT_STATIC_targets), .val (.int (0 : Int32)), .val (.int (1 : Int32)), .val (.int (0 : Int32)), .val (.int (0 : Int32)), .val (.int (1 : Int32))] [(.ref s_PUT_STATIC_targets)])) rfl (hb hby at_171)
      refine Go.by st162 ?_
      show Go _ _ _ _ _ _ _ (T162.setTop (mkF m 174 #[.val (.int k0), .val (.int mv), .val (.int (4 : Int32)), .val (.ref s_PUT_STATIC), .val (.ref s_PUT_STATIC_targets), .val (.int (0 : Int32)), .val (.int (1 : Int32)), .val (.int (0 : Int32)), .val (.int (0 : Int32)), .val (.int (1 : Int32))] [(.ref s_INTERFACE_METHODREF), (.ref s_PUT_STATIC_targets)]))
      obtain ⟨cq163, kq163, q163a, q163b, q163c⟩ := isOf hZ e162 E_s_PUT_STATIC_targets
      obtain ⟨_, _, ⟨T163, L163, k163, n163⟩, -, X163, ⟨Lc163, hQ163, l163, y163, z163⟩, st163⟩ := X162.virtualBack hx (y := (⟨"com/example/classwright/classwright/KindSet", "contains", "(Ljava/lang/Object;)Z"⟩ : MethodName)) (z := (⟨"com/example/classwright/classwright/KindSet", "contains", "(Ljava/lang/Object;)Z"⟩ : MethodName)) hown (mvT hZ (hw _ (List.mem_of_getElem? (i := 29) rfl))) (mvT hZ (hw _ (List.mem_of_getElem? (i := 30) rfl))) (notFace_of_selects (args := #[]) (mvT hZ (hw _ (List.mem_of_getElem? (i := 32) rfl)))) (mvT hZ (hw _ (List.mem_of_getElem? (i := 32) rfl))) (mvT hZ (hw _ (List.mem_of_getElem? (i := 31) rfl))) (by decide) (backOf (W := 0) (rmC128_9 l Z a0 hw [] s_PUT_STATIC_targets s_INTERFACE_METHODREF h0 n0 Z0 E_s_PUT_STATIC_targets F_s_PUT_STATIC_targets_bits E_s_INTERFACE_METHODREF F_s_INTERFACE_METHODREF_ordinal) hZ (hw _ (List.mem_of_getElem? (i := 34) rfl)) (hw _ (List.mem_of_getElem? (i := 33) rfl)) (by decide) (by decide)) q163a q163c (g := (mkF m 174 #[.val (.int k0), .val (.int mv), .val (.int (4 : Int32)), .val (.ref s_PUT_STATIC), .val (.ref s_PUT_STATIC_targets), .val (.int (0 : Int32)), .val (.int (1 : Int32)), .val (.int (0 : Int32)), .val (.int (0 : Int32)), .val (.int (1 : Int32))] [(.ref s_INTERFACE_METHODREF), (.ref s_PUT_STATIC_targets)])) rfl (by rw [hml]; rfl) (Steps.refl _) (argsL := [(.ref s_INTERFACE_METHODREF)]) (rest := []) (lenOf pd0_3 rfl) rfl (by show 2 * 0 + _ ≤ _; exact Nat.le_of_eq rfl) (hb hby at_174) (fun _ _ => ⟨rfl, e162, (by decide : 0 + 0 ≤ _), (by decide : 0 + 0 ≤ _)⟩)
      dsimp only [Pt.U, Pt.locs, Pt.cells, Pt.slots] at X163 l163 y163 z163 st163 hQ163
      subst l163 y163 z163
      obtain ⟨rfl, N163q, eh163⟩ := hQ163
      have N163 := Fr.app N161 N163q
      refine Go.tr st163 ?_
      show Go _ _ _ _ _ _ _ (T163.setTop (mkF m 177 #[.val (.int k0), .val (.int mv), .val (.int (4 : Int32)), .val (.ref s_PUT_STATIC), .val (.ref s_PUT_STATIC_targets), .val (.int (0 : Int32)), .val (.int (1 : Int32)), .val (.int (0 : Int32)), .val (.int (0 : Int32)), .val (.int (1 : Int32))] [(.int (0 : Int32))]))
      refine Go.by (fun _ kont => XS.iload X163.here hx rfl (hb hby at_177) rfl (XS.icmpNo X163.here hx rfl (hb hby at_179) rfl (by decide) (XS.aload X163.here hx rfl (hb hby at_182) rfl rfl kont))) ?_
      show Go _ _ _ _ _ _ _ (T163.setTop (mkF m 184 #[.val (.int k0), .val (.int mv), .val (.int (4 : Int32)), .val (.ref s_PUT_STATIC), .val (.ref s_PUT_STATIC_targets), .val (.int (0 : Int32)), .val (.int (1 : Int32)), .val (.int (0 : Int32)), .val (.int (0 : Int32)), .val (.int (1 : Int32))] [(.ref s_PUT_STATIC_targets)]))
      obtain ⟨cq164, kq164, q164a, q164b, q164c⟩ := isOf hZ eh163 E_s_PUT_STATIC_targets
      obtain ⟨_, _, ⟨T164, L164, k164, n164⟩, -, X164, ⟨Lc164, hQ164, l164, y164, z164⟩, st164⟩ := X163.virtualBack hx (y := (⟨"com/example/classwright/classwright/KindSet", "size", "()I"⟩ : MethodName)) (z := (⟨"com/example/classwright/classwright/KindSet", "size", "()I"⟩ : MethodName)) hown (mvT hZ (hw _ (List.mem_of_getElem? (i := 52) rfl))) (mvT hZ (hw _ (List.mem_of_getElem? (i := 53) rfl))) (notFace_of_selects (args := #[]) (mvT hZ (hw _ (List.mem_of_getElem? (i := 55) rfl)))) (mvT hZ (hw _ (List.mem_of_getElem? (i := 55) rfl))) (mvT hZ (hw _ (List.mem_of_getElem? (i := 54) rfl))) (by decide) (backOf (W := 0) (rmS128 l Z a0 hw [] s_PUT_STATIC_targets h0 n0 Z0 E_s_PUT_STATIC_targets F_s_PUT_STATIC_targets_bits) hZ (hw _ (List.mem_of_getElem? (i := 56) rfl)) (hw _ (List.mem_of_getElem? (i := 33) rfl)) (by decide) (by decide)) q164a q164c (g := (mkF m 184 #[.val (.int k0), .val (.int mv), .val (.int (4 : Int32)), .val (.ref s_PUT_STATIC), .val (.ref s_PUT_STATIC_targets), .val (.int (0 : Int32)), .val (.int (1 : Int32)), .val (.int (0 : Int32)), .val (.int (0 : Int32)), .val (.int (1 : Int32))] [(.ref s_PUT_STATIC_targets)])) rfl (by rw [hml]; rfl) (Steps.refl _) (argsL := []) (rest := []) (lenOf pd0_1 rfl) rfl (by show 2 * 0 + _ ≤ _; exact Nat.le_of_eq rfl) (hb hby at_184) (fun _ _ => ⟨rfl, eh163, (by decide : 0 + 0 ≤ _), (by decide : 0 + 0 ≤ _)⟩)
      dsimp only [Pt.U, Pt.locs, Pt.cells, Pt.slots] at X164 l164 y164 z164 st164 hQ164
      subst l164 y164 z164
      obtain ⟨rfl, N164q, eh164⟩ := hQ164
      have N164 := Fr.app N163 N164q
      refine Go.tr st164 ?_
      show Go _ _ _ _ _ _ _ (T164.setTop (mkF m 187 #[.val (.int k0), .val (.int mv), .val (.int (4 : Int32)), .val (.ref s_PUT_STATIC), .val (.ref s_PUT_STATIC_targets), .val (.int (0 : Int32)), .val (.int (1 : Int32)), .val (.int (0 : Int32)), .val (.int (0 : Int32)), .val (.int (1 : Int32))] [(.int (1 : Int32))]))
      refine Go.by (fun _ kont => XS.iload X164.here hx rfl (hb hby at_187) rfl (XS.icmpNo X164.here hx rfl (hb hby at_189) rfl (by decide) (XS.iconst X164.here hx rfl (hb hby at_192) (XS.goto X164.here hx rfl (pc0 := 193) (pc' := 197) rfl (hb hby at_193) (by decide) (by decide) kont)))) ?_
      show Go _ _ _ _ _ _ _ (T164.setTop (mkF m 197 #[.val (.int k0), .val (.int mv), .val (.int (4 : Int32)), .val (.ref s_PUT_STATIC), .val (.ref s_PUT_STATIC_targets), .val (.int (0 : Int32)), .val (.int (1 : Int32)), .val (.int (0 : Int32)), .val (.int (0 : Int32)), .val (.int (1 : Int32))] [(.int (1 : Int32))]))
      refine Go.retN X164 hx (t := .boolean) hret (by simp) hlk (hb hby at_197) ?_ (by decide) (by decide)
      show Q0 Z h0 n0 (some (.int (1 : Int32))) T164.heap _
      rw [eh164]
      exact ⟨rfl, N164⟩
    · show Go _ _ _ _ _ _ _ (T156.setTop (mkF m 29 #[.val (.int k0), .val (.int mv), .val (.int (4 : Int32)), .val (.ref s_PUT_STATIC), .unset, .unset, .unset, .unset, .unset, .unset] []))
      refine Go.by (fun _ kont => XS.aloadN X156.here hx rfl (hb hby at_29) rfl rfl (XS.iloadN X156.here hx rfl (hb hby at_30) rfl kont)) ?_
      show Go _ _ _ _ _ _ _ (T156.setTop (mkF m 31 #[.val (.int k0), .val (.int mv), .val (.int (4 : Int32)), .val (.ref s_PUT_STATIC), .unset, .unset, .unset, .unset, .unset, .unset] [(.int mv), (.ref s_PUT_STATIC)]))
      obtain ⟨cq165, kq165, q165a, q165b, q165c⟩ := isOf hZ eh156 E_s_PUT_STATIC
      obtain ⟨_, _, ⟨T165, L165, k165, n165⟩, -, X165, ⟨Lc165, hQ165, l165, y165, z165⟩, st165⟩ := X156.virtualBack hx (y := (⟨"com/example/classwright/classwright/ReferenceKind", "targetKinds", "(I)Lcom/example/classwright/classwright/KindSet;"⟩ : MethodName)) (z := (⟨"com/example/classwright/classwright/ReferenceKind", "targetKinds", "(I)Lcom/example/classwright/classwright/KindSet;"⟩ : MethodName)) hown (mvT hZ (hw _ (List.mem_of_getElem? (i := 15) rfl))) (mvT hZ (hw _ (List.mem_of_getElem? (i := 16) rfl))) (notFace_of_selects (args := #[]) (mvT hZ (hw _ (List.mem_of_getElem? (i := 18) rfl)))) (mvT hZ (hw _ (List.mem_of_getElem? (i := 18) rfl))) (mvT hZ (hw _ (List.mem_of_getElem? (i := 17) rfl))) (by decide) (backOf (W := 0) (rmTm l Z a0 hw [] s_PUT_STATIC mv s_PUT_STATIC_targets h0 n0 Z0 E_s_PUT_STATIC F_s_PUT_STATIC_targets hmv) hZ (hw _ (List.mem_of_getElem? (i := 19) rfl)) (hw _ (List.mem_of_getElem? (i := 3) rfl)) (by decide) (by decide)) q165a q165c (g := (mkF m 31 #[.val (.int k0), .val (.int mv), .val (.int (4 : Int32)), .val (.ref s_PUT_STATIC), .unset, .unset, .unset, .unset, .unset, .unset] [(.int mv), (.ref s_PUT_STATIC)])) rfl (by rw [hml]; rfl) (Steps.refl _) (argsL := [(.int mv)]) (rest := []) (lenOf pd0_2 rfl) rfl (by show 2 * 0 + _ ≤ _; exact Nat.le_of_eq rfl) (hb hby at_31) (fun _ _ => ⟨rfl, eh156, (by decide : 0 + 0 ≤ _), (by decide : 0 + 0 ≤ _)⟩)
      dsimp only [Pt.U, Pt.locs, Pt.cells, Pt.slots] at X165 l165 y165 z165 st165 hQ165
      subst l165 y165 z165
      obtain ⟨rfl, N165q, eh165⟩ := hQ165
      have N165 := Fr.app N156 N165q
      refine Go.tr st165 ?_
      show Go _ _ _ _ _ _ _ (T165.setTop (mkF m 34 #[.val (.int k0), .val (.int mv), .val (.int (4 : Int32)), .val (.ref s_PUT_STATIC), .unset, .unset, .unset, .unset, .unset, .unset] [(.ref s_PUT_STATIC_targets)]))
      refine Go.by (fun _ kont => XS.astore X165.here hx rfl (hb hby at_34) rfl rfl (l' := #[.val (.int k0), .val (.int mv), .val (.int (4 : Int32)), .val (.ref s_PUT_STATIC), .val (.ref s_PUT_STATIC_targets), .unset, .unset, .unset, .unset, .unset]) rfl (XS.iloadN X165.here hx rfl (hb hby at_36) rfl (XS.bipush X165.here hx rfl (hb hby at_37) kont))) ?_
      show Go _ _ _ _ _ _ _ (T165.setTop (mkF m 39 #[.val (.int k0), .val (.int mv), .val (.int (4 : Int32)), .val (.ref s_PUT_STATIC), .val (.ref s_PUT_STATIC_targets), .unset, .unset, .unset, .unset, .unset] [(.int (52 : Int32)), (.int mv)]))
      refine Go.by (fun _ kont => XS.icmpNo X165.here hx rfl (hb hby at_39) rfl (flt hmv).1 kont) ?_
      show Go _ _ _ _ _ _ _ (T165.setTop (mkF m 42 #[.val (.int k0), .val (.int mv), .val (.int (4 : Int32)), .val (.ref s_PUT_STATIC), .val (.ref s_PUT_STATIC_targets), .unset, .unset, .unset, .unset, .unset] []))
      refine Go.by (fun _ kont => XS.iconst X165.here hx rfl (hb hby at_42) (XS.goto X165.here hx rfl (pc0 := 43) (pc' := 47) rfl (hb hby at_43) (by decide) (by decide) (XS.istore X165.here hx rfl (hb hby at_47) rfl (l' := #[.val (.int k0), .val (.int mv), .val (.int (4 : Int32)), .val (.ref s_PUT_STATIC), .val (.ref s_PUT_STATIC_targets), .val (.int (1 : Int32)), .unset, .unset, .unset, .unset]) rfl (XS.iloadN X165.here hx rfl (hb hby at_49) rfl (XS.iconst X165.here hx rfl (hb hby at_50) (XS.icmpNo X165.here hx rfl (hb hby at_51) rfl (by decide) (XS.iconst X165.here hx rfl (hb hby at_54) (XS.goto X165.here hx rfl (pc0 := 55) (pc' := 59) rfl (hb hby at_55) (by decide) (by decide) (XS.istore X165.here hx rfl (hb hby at_59) rfl (l' := #[.val (.int k0), .val (.int mv), .val (.int (4 : Int32)), .val (.ref s_PUT_STATIC), .val (.ref s_PUT_STATIC_targets), .val (.int (1 : Int32)), .val (.int (1 : Int32)), .unset, .unset, .unset]) rfl (XS.iloadN X165.here hx rfl (hb hby at_61) rfl (XS.iconst X165.here hx rfl (hb hby at_62) (XS.icmpYes X165.here hx rfl (pc0 := 63) (pc' := 76) rfl (hb hby at_63) rfl (by decide) (by decide) (by decide) kont)))))))))))) ?_
      show Go _ _ _ _ _ _ _ (T165.setTop (mkF m 76 #[.val (.int k0), .val (.int mv), .val (.int (4 : Int32)), .val (.ref s_PUT_STATIC), .val (.ref s_PUT_STATIC_targets), .val (.int (1 : Int32)), .val (.int (1 : Int32)), .unset, .unset, .unset] []))
      refine Go.by (fun _ kont => XS.iconst X165.here hx rfl (hb hby at_76) (XS.istore X165.here hx rfl (hb hby at_77) rfl (l' := #[.val (.int k0), .val (.int mv), .val (.int (4 : Int32)), .val (.ref s_PUT_STATIC), .val (.ref s_PUT_STATIC_targets), .val (.int (1 : Int32)), .val (.int (1 : Int32)), .val (.int (0 : Int32)), .unset, .unset]) rfl (XS.iloadN X165.here hx rfl (hb hby at_79) rfl (XS.bipush X165.here hx rfl (hb hby at_80) (XS.icmpNo X165.here hx rfl (hb hby at_82) rfl (by decide) (XS.iloadN X165.here hx rfl (hb hby at_85) rfl (XS.bipush X165.here hx rfl (hb hby at_86) (XS.icmpNo X165.here hx rfl (hb hby at_88) rfl (by decide) (XS.iloadN X165.here hx rfl (hb hby at_91) rfl (XS.bipush X165.here hx rfl (hb hby at_92) (XS.icmpYes X165.here hx rfl (pc0 := 94) (pc' := 106) rfl (hb hby at_94) rfl (by decide) (by decide) (by decide) (XS.iconst X165.here hx rfl (hb hby at_106) kont)))))))))))) ?_
      show Go _ _ _ _ _ _ _ (T165.setTop (mkF m 107 #[.val (.int k0), .val (.int mv), .val (.int (4 : Int32)), .val (.ref s_PUT_STATIC), .val (.ref s_PUT_STATIC_targets), .val (.int (1 : Int32)), .val (.int (1 : Int32)), .val (.int (0 : Int32)), .unset, .unset] [(.int (0 : Int32))]))
      refine Go.by (fun _ kont => XS.istore X165.here hx rfl (hb hby at_107) rfl (l' := #[.val (.int k0), .val (.int mv), .val (.int (4 : Int32)), .val (.ref s_PUT_STATIC), .val (.ref s_PUT_STATIC_targets), .val (.int (1 : Int32)), .val (.int (1 : Int32)), .val (.int (0 : Int32)), .val (.int (0 : Int32)), .unset]) rfl (XS.iload X165.here hx rfl (hb hby at_109) rfl (XS.ifNo X165.here hx rfl (hb hby at_111) rfl (by decide) (XS.iconst X165.here hx rfl (hb hby at_114) (XS.goto X165.here hx rfl (pc0 := 115) (pc' := 119) rfl (hb hby at_115) (by decide) (by decide) (XS.iload X165.here hx rfl (hb hby at_119) rfl (XS.ifYes X165.here hx rfl (pc0 := 121) (pc' := 128) rfl (hb hby at_121) rfl (by decide) (by decide) (by decide) (XS.iconst X165.here hx rfl (hb hby at_128) (XS.iadd X165.here hx rfl (hb hby at_129) rfl kont))))))))) ?_
      show Go _ _ _ _ _ _ _ (T165.setTop (mkF m 130 #[.val (.int k0), .val (.int mv), .val (.int (4 : Int32)), .val (.ref s_PUT_STATIC), .val (.ref s_PUT_STATIC_targets), .val (.int (1 : Int32)), .val (.int (1 : Int32)), .val (.int (0 : Int32)), .val (.int (0 : Int32)), .unset] [(.int ((1 : Int32) + (0 : Int32)))]))
      rw [show ((1 : Int32) + (0 : Int32)) = (1 : Int32) from by decide]
      show Go _ _ _ _ _ _ _ (T165.setTop (mkF m 130 #[.val (.int k0), .val (.int mv), .val (.int (4 : Int32)), .val (.ref s_PUT_STATIC), .val (.ref s_PUT_STATIC_targets), .val (.int (1 : Int32)), .val (.int (1 : Int32)), .val (.int (0 : Int32)), .val (.int (0 : Int32)), .unset] [(.int (1 : Int32))]))
      refine Go.by (fun _ kont => XS.iload X165.here hx rfl (hb hby at_130) rfl (XS.ifYes X165.here hx rfl (pc0 := 132) (pc' := 139) rfl (hb hby at_132) rfl (by decide) (by decide) (by decide) (XS.iconst X165.here hx rfl (hb hby at_139) (XS.iadd X165.here hx rfl (hb hby at_140) rfl kont)))) ?_
      show Go _ _ _ _ _ _ _ (T165.setTop (mkF m 141 #[.val (.int k0), .val (.int mv), .val (.int (4 : Int32)), .val (.ref s_PUT_STATIC), .val (.ref s_PUT_STATIC_targets), .val (.int (1 : Int32)), .val (.int (1 : Int32)), .val (.int (0 : Int32)), .val (.int (0 : Int32)), .unset] [(.int ((1 : Int32) + (0 : Int32)))]))
      rw [show ((1 : Int32) + (0 : Int32)) = (1 : Int32) from by decide]
      show Go _ _ _ _ _ _ _ (T165.setTop (mkF m 141 #[.val (.int k0), .val (.int mv), .val (.int (4 : Int32)), .val (.ref s_PUT_STATIC), .val (.ref s_PUT_STATIC_targets), .val (.int (1 : Int32)), .val (.int (1 : Int32)), .val (.int (0 : Int32)), .val (.int (0 : Int32)), .unset] [(.int (1 : Int32))]))
      refine Go.by (fun _ kont => XS.istore X165.here hx rfl (hb hby at_141) rfl (l' := #[.val (.int k0), .val (.int mv), .val (.int (4 : Int32)), .val (.ref s_PUT_STATIC), .val (.ref s_PUT_STATIC_targets), .val (.int (1 : Int32)), .val (.int (1 : Int32)), .val (.int (0 : Int32)), .val (.int (0 : Int32)), .val (.int (1 : Int32))]) rfl (XS.aload X165.here hx rfl (hb hby at_143) rfl rfl kont)) ?_
      show Go _ _ _ _ _ _ _ (T165.setTop (mkF m 145 #[.val (.int k0), .val (.int mv), .val (.int (4 : Int32)), .val (.ref s_PUT_STATIC), .val (.ref s_PUT_STATIC_targets), .val (.int (1 : Int32)), .val (.int (1 : Int32)), .val (.int (0 : Int32)), .val (.int (0 : Int32)), .val (.int (1 : Int32))] [(.ref s_PUT_STATIC_targets)]))
      obtain ⟨T166, X166, e166, st166⟩ := getS2 X165 hx hZ hown (host := "") (Or.inl (hw _ (List.mem_of_getElem? (i := 26) rfl))) Via.refl eh165 S_FIELDREF (g := (mkF m 145 #[.val (.int k0), .val (.int mv), .val (.int (4 : Int32)), .val (.ref s_PUT_STATIC), .val (.ref s_PUT_STATIC_targets), .val (.int (1 : Int32)), .val (.int (1 : Int32)), .val (.int (0 : Int32)), .val (.int (0 : Int32)), .val (.int (1 : Int32))] [(.ref s_PUT_STATIC_targets)])) rfl (hb hby at_145)
      refine Go.by st166 ?_
      show Go _ _ _ _ _ _ _ (T166.setTop (mkF m 148 #[.val (.int k0), .val (.int mv), .val (.int (4 : Int32)), .val (.ref s_PUT_STATIC), .val (.ref s_PUT_STATIC_targets), .val (.int (1 : Int32)), .val (.int (1 : Int32)), .val (.int (0 : Int32)), .val (.int (0 : Int32)), .val (.int (1 : Int32))] [(.ref s_FIELDREF), (.ref s_PUT_STATIC_targets)]))
      obtain ⟨cq167, kq167, q167a, q167b, q167c⟩ := isOf hZ e166 E_s_PUT_STATIC_targets
      obtain ⟨_, _, ⟨T167, L167, k167, n167⟩, -, X167, ⟨Lc167, hQ167, l167, y167, z167⟩, st167⟩ := X166.virtualBack hx (y := (⟨"com/example/classwright/classwright/KindSet", "contains", "(Ljava/lang/Object;)Z"⟩ : MethodName)) (z := (⟨"com/example/classwright/classwright/KindSet", "contains", "(Ljava/lang/Object;)Z"⟩ : MethodName)) hown (mvT hZ (hw _ (List.mem_of_getElem? (i := 29) rfl))) (mvT hZ (hw _ (List.mem_of_getElem? (i := 30) rfl))) (notFace_of_selects (args := #[]) (mvT hZ (hw _ (List.mem_of_getElem? (i := 32) rfl)))) (mvT hZ (hw _ (List.mem_of_getElem? (i := 32) rfl))) (mvT hZ (hw _ (List.mem_of_getElem? (i := 31) rfl))) (by decide) (backOf (W := 0) (rmC128_7 l Z a0 hw [] s_PUT_STATIC_targets s_FIELDREF h0 n0 Z0 E_s_PUT_STATIC_targets F_s_PUT_STATIC_targets_bits E_s_FIELDREF F_s_FIELDREF_ordinal) hZ (hw _ (List.mem_of_getElem? (i := 34) rfl)) (hw _ (List.mem_of_getElem? (i := 33) rfl)) (by decide) (by decide)) q167a q167c (g := (mkF m 148 #[.val (.int k0), .val (.int mv), .val (.int (4 : Int32)), .val (.ref s_PUT_STATIC), .val (.ref s_PUT_STATIC_targets), .val (.int (1 : Int32)), .val (.int (1 : Int32)), .val (.int (0 : Int32)), .val (.int (0 : Int32)), .val (.int (1 : Int32))] [(.ref s_FIELDREF), (.ref s_PUT_STATIC_targets)])) rfl (by rw [hml]; rfl) (Steps.refl _) (argsL := [(.ref s_FIELDREF)]) (rest := []) (lenOf pd0_3 rfl) rfl (by show 2 * 0 + _ ≤ _; exact Nat.le_of_eq rfl) (hb hby at_148) (fun _ _ => ⟨rfl, e166, (by decide : 0 + 0 ≤ _), (by decide : 0 + 0 ≤ _)⟩)
      dsimp only [Pt.U, Pt.locs, Pt.cells, Pt.slots] at X167 l167 y167 z167 st167 hQ167
      subst l167 y167 z167
      obtain ⟨rfl, N167q, eh167⟩ := hQ167
      have N167 := Fr.app N165 N167q
      refine Go.tr st167 ?_
      show Go _ _ _ _ _ _ _ (T167.setTop (mkF m 151 #[.val (.int k0), .val (.int mv), .val (.int (4 : Int32)), .val (.ref s_PUT_STATIC), .val (.ref s_PUT_STATIC_targets), .val (.int (1 : Int32)), .val (.int (1 : Int32)), .val (.int (0 : Int32)), .val (.int (0 : Int32)), .val (.int (1 : Int32))] [(.int (1 : Int32))]))
      refine Go.by (fun _ kont => XS.iload X167.here hx rfl (hb hby at_151) rfl (XS.icmpNo X167.here hx rfl (hb hby at_153) rfl (by decide) (XS.aload X167.here hx rfl (hb hby at_156) rfl rfl kont))) ?_
      show Go _ _ _ _ _ _ _ (T167.setTop (mkF m 158 #[.val (.int k0), .val (.int mv), .val (.int (4 : Int32)), .val (.ref s_PUT_STATIC), .val (.ref s_PUT_STATIC_targets), .val (.int (1 : Int32)), .val (.int (1 : Int32)), .val (.int (0 : Int32)), .val (.int (0 : Int32)), .val (.int (1 : Int32))] [(.ref s_PUT_STATIC_targets)]))
      obtain ⟨T168, X168, e168, st168⟩ := getS2 X167 hx hZ hown (host := "") (Or.inl (hw _ (List.mem_of_getElem? (i := 48) rfl))) Via.refl eh167 S_METHODREF (g := (mkF m 158 #[.val (.int k0), .val (.int mv), .val (.int (4 : Int32)), .val (.ref s_PUT_STATIC), .val (.ref s_PUT_STATIC_targets), .val (.int (1 : Int32)), .val (.int (1 : Int32)), .val (.int (0 : Int32)), .val (.int (0 : Int32)), .val (.int (1 : Int32))] [(.ref s_PUT_STATIC_targets)])) rfl (hb hby at_158)
      refine Go.by st168 ?_
      show Go _ _ _ _ _ _ _ (T168.setTop (mkF m 161 #[.val (.int k0), .val (.int mv), .val (.int (4 : Int32)), .val (.ref s_PUT_STATIC), .val (.ref s_PUT_STATIC_targets), .val (.int (1 : Int32)), .val (.int (1 : Int32)), .val (.int (0 : Int32)), .val (.int (0 : Int32)), .val (.int (1 : Int32))] [(.ref s_METHODREF), (.ref s_PUT_STATIC_targets)]))
      obtain ⟨cq169, kq169, q169a, q169b, q169c⟩ := isOf hZ e168 E_s_PUT_STATIC_targets
      obtain ⟨_, _, ⟨T169, L169, k169, n169⟩, -, X169, ⟨Lc169, hQ169, l169, y169, z169⟩, st169⟩ := X168.virtualBack hx (y := (⟨"com/example/classwright/classwright/KindSet", "contains", "(Ljava/lang/Object;)Z"⟩ : MethodName)) (z := (⟨"com/example/classwright/classwright/KindSet", "contains", "(Ljava/lang/Object;)Z"⟩ : MethodName)) hown (mvT hZ (hw _ (List.mem_of_getElem? (i := 29) rfl))) (mvT hZ (hw _ (List.mem_of_getElem? (i := 30) rfl))) (notFace_of_selects (args := #[]) (mvT hZ (hw _ (List.mem_of_getElem? (i := 32) rfl)))) (mvT hZ (hw _ (List.mem_of_getElem? (i := 32) rfl))) (mvT hZ (hw _ (List.mem_of_getElem? (i := 31) rfl))) (by decide) (backOf (W := 0) (rmC128_8 l Z a0 hw [] s_PUT_STATIC_targets s_METHODREF h0 n0 Z0 E_s_PUT_STATIC_targets F_s_PUT_STATIC_targets_bits E_s_METHODREF F_s_METHODREF_ordinal) hZ (hw _ (List.mem_of_getElem? (i := 34) rfl)) (hw _ (List.mem_of_getElem? (i := 33) rfl)) (by decide) (by decide)) q169a q169c (g := (mkF m 161 #[.val (.int k0), .val (.int mv), .val (.int (4 : Int32)), .val (.ref s_PUT_STATIC), .val (.ref s_PUT_STATIC_targets), .val (.int (1 : Int32)), .val (.int (1 : Int32)), .val (.int (0 : Int32)), .val (.int (0 : Int32)), .val (.int (1 : Int32))] [(.ref s_METHODREF), (.ref s_PUT_STATIC_targets)])) rfl (by rw [hml]; rfl) (Steps.refl _) (argsL := [(.ref s_METHODREF)]) (rest := []) (lenOf pd0_3 rfl) rfl (by show 2 * 0 + _ ≤ _; exact Nat.le_of_eq rfl) (hb hby at_161) (fun _ _ => ⟨rfl, e168, (by decide : 0 + 0 ≤ _), (by decide : 0 + 0 ≤ _)⟩)
      dsimp only [Pt.U, Pt.locs, Pt.cells, Pt.slots] at X169 l169 y169 z169 st169 hQ169
      subst l169 y169 z169
      obtain ⟨rfl, N169q, eh169⟩ := hQ169
      have N169 := Fr.app N167 N169q
      refine Go.tr st169 ?_
      show Go _ _ _ _ _ _ _ (T169.setTop (mkF m 164 #[.val (.int k0), .val (.int mv), .val (.int (4 : Int32)), .val (.ref s_PUT_STATIC), .val (.ref s_PUT_STATIC_targets), .val (.int (1 : Int32)), .val (.int (1 : Int32)), .val (.int (0 : Int32)), .val (.int (0 : Int32)), .val (.int (1 : Int32))] [(.int (0 : Int32))]))
      refine Go.by (fun _ kont => XS.iload X169.here hx rfl (hb hby at_164) rfl (XS.icmpNo X169.here hx rfl (hb hby at_166) rfl (by decide) (XS.aload X169.here hx rfl (hb hby at_169) rfl rfl kont))) ?_
      show Go _ _ _ _ _ _ _ (T169.setTop (mkF m 171 #[.val (.int k0), .val (.int mv), .val (.int (4 : Int32)), .val (.ref s_PUT_STATIC), .val (.ref s_PUT_STATIC_targets), .val (.int (1 : Int32)), .val (.int (1 : Int32)), .val (.int (0 : Int32)), .val (.int (0 : Int32)), .val (.int (1 : Int32))] [(.ref s_PUT_STATIC_targets)]))
      obtain ⟨T170, X170, e170, st170⟩ := getS2 X169 hx hZ hown (host := "") (Or.inl (hw _ (List.mem_of_getElem? (i := 50) rfl))) Via.refl eh169 S_INTERFACE_METHODREF (g := (mkF m 171 #[.val (.int k0), .val (.int mv), .val (.int (4 : Int32)), .val (.ref s_PUT_STATIC), .val (.ref s_PUT_STATIC_targets), .val (.int (1 : Int32)), .val (.int (1 : Int32)), .val (.int (0 : Int32)), .val (.int (0 : Int32)), .val (.int (1 : Int32))] [(.ref s_PUT_STATIC_targets)])) rfl (hb hby at_171)
      refine Go.by st170 ?_
      show Go _ _ _ _ _ _ _ (T170.setTop (mkF m 174 #[.val (.int k0), .val (.int mv), .val (.int (4 : Int32)), .val (.ref s_PUT_STATIC), .val (.ref s_PUT_STATIC_targets), .val (.int (1 : Int32)), .val (.int (1 : Int32)), .val (.int (0 : Int32)), .val (.int (0 : Int32)), .val (.int (1 : Int32))] [(.ref s_INTERFACE_METHODREF), (.ref s_PUT_STATIC_targets)]))
      obtain ⟨cq171, kq171, q171a, q171b, q171c⟩ := isOf hZ e170 E_s_PUT_STATIC_targets
      obtain ⟨_, _, ⟨T171, L171, k171, n171⟩, -, X171, ⟨Lc171, hQ171, l171, y171, z171⟩, st171⟩ := X170.virtualBack hx (y := (⟨"com/example/classwright/classwright/KindSet", "contains", "(Ljava/lang/Object;)Z"⟩ : MethodName)) (z := (⟨"com/example/classwright/classwright/KindSet", "contains", "(Ljava/lang/Object;)Z"⟩ : MethodName)) hown (mvT hZ (hw _ (List.mem_of_getElem? (i := 29) rfl))) (mvT hZ (hw _ (List.mem_of_getElem? (i := 30) rfl))) (notFace_of_selects (args := #[]) (mvT hZ (hw _ (List.mem_of_getElem? (i := 32) rfl)))) (mvT hZ (hw _ (List.mem_of_getElem? (i := 32) rfl))) (mvT hZ (hw _ (List.mem_of_getElem? (i := 31) rfl))) (by decide) (backOf (W := 0) (rmC128_9 l Z a0 hw [] s_PUT_STATIC_targets s_INTERFACE_METHODREF h0 n0 Z0 E_s_PUT_STATIC_targets F_s_PUT_STATIC_targets_bits E_s_INTERFACE_METHODREF F_s_INTERFACE_METHODREF_ordinal) hZ (hw _ (List.mem_of_getElem? (i := 34) rfl)) (hw _ (List.mem_of_getElem? (i := 33) rfl)) (by decide) (by decide)) q171a q171c (g := (mkF m 174 #[.val (.int k0), .val (.int mv), .val (.int (4 : Int32)), .val (.ref s_PUT_STATIC), .val (.ref s_PUT_STATIC_targets), .val (.int (1 : Int32)), .val (.int (1 : Int32)), .val (.int (0 : Int32)), .val (.int (0 : Int32)), .val (.int (1 : Int32))] [(.ref s_INTERFACE_METHODREF), (.ref s_PUT_STATIC_targets)])) rfl (by rw [hml]; rfl) (Steps.refl _) (argsL := [(.ref s_INTERFACE_METHODREF)]) (rest := []) (lenOf pd0_3 rfl) rfl (by show 2 * 0 + _ ≤ _; exact Nat.le_of_eq rfl) (hb hby at_174) (fun _ _ => ⟨rfl, e170, (by decide : 0 + 0 ≤ _), (by decide : 0 + 0 ≤ _)⟩)
      dsimp only [Pt.U, Pt.locs, Pt.cells, Pt.slots] at X171 l171 y171 z171 st171 hQ171
      subst l171 y171 z171
      obtain ⟨rfl, N171q, eh171⟩ := hQ171
      have N171 := Fr.app N169 N171q
      refine Go.tr st171 ?_
      show Go _ _ _ _ _ _ _ (T171.setTop (mkF m 177 #[.val (.int k0), .val (.int mv), .val (.int (4 : Int32)), .val (.ref s_PUT_STATIC), .val (.ref s_PUT_STATIC_targets), .val (.int (1 : Int32)), .val (.int (1 : Int32)), .val (.int (0 : Int32)), .val (.int (0 : Int32)), .val (.int (1 : Int32))] [(.int (0 : Int32))]))
      refine Go.by (fun _ kont => XS.iload X171.here hx rfl (hb hby at_177) rfl (XS.icmpNo X171.here hx rfl (hb hby at_179) rfl (by decide) (XS.aload X171.here hx rfl (hb hby at_182) rfl rfl kont))) ?_
      show Go _ _ _ _ _ _ _ (T171.setTop (mkF m 184 #[.val (.int k0), .val (.int mv), .val (.int (4 : Int32)), .val (.ref s_PUT_STATIC), .val (.ref s_PUT_STATIC_targets), .val (.int (1 : Int32)), .val (.int (1 : Int32)), .val (.int (0 : Int32)), .val (.int (0 : Int32)), .val (.int (1 : Int32))] [(.ref s_PUT_STATIC_targets)]))
      obtain ⟨cq172, kq172, q172a, q172b, q172c⟩ := isOf hZ eh171 E_s_PUT_STATIC_targets
      obtain ⟨_, _, ⟨T172, L172, k172, n172⟩, -, X172, ⟨Lc172, hQ172, l172, y172, z172⟩, st172⟩ := X171.virtualBack hx (y := (⟨"com/example/classwright/classwright/KindSet", "size", "()I"⟩ : MethodName)) (z := (⟨"com/example/classwright/classwright/KindSet", "size", "()I"⟩ : MethodName)) hown (mvT hZ (hw _ (List.mem_of_getElem? (i := 52) rfl))) (mvT hZ (hw _ (List.mem_of_getElem? (i := 53) rfl))) (notFace_of_selects (args := #[]) (mvT hZ (hw _ (List.mem_of_getElem? (i := 55) rfl)))) (mvT hZ (hw _ (List.mem_of_getElem? (i := 55) rfl))) (mvT hZ (hw _ (List.mem_of_getElem? (i := 54) rfl))) (by decide) (backOf (W := 0) (rmS128 l Z a0 hw [] s_PUT_STATIC_targets h0 n0 Z0 E_s_PUT_STATIC_targets F_s_PUT_STATIC_targets_bits) hZ (hw _ (List.mem_of_getElem? (i := 56) rfl)) (hw _ (List.mem_of_getElem? (i := 33) rfl)) (by decide) (by decide)) q172a q172c (g := (mkF m 184 #[.val (.int k0), .val (.int mv), .val (.int (4 : Int32)), .val (.ref s_PUT_STATIC), .val (.ref s_PUT_STATIC_targets), .val (.int (1 : Int32)), .val (.int (1 : Int32)), .val (.int (0 : Int32)), .val (.int (0 : Int32)), .val (.int (1 : Int32))] [(.ref s_PUT_STATIC_targets)])) rfl (by rw [hml]; rfl) (Steps.refl _) (argsL := []) (rest := []) (lenOf pd0_1 rfl) rfl (by show 2 * 0 + _ ≤ _; exact Nat.le_of_eq rfl) (hb hby at_184) (fun _ _ => ⟨rfl, eh171, (by decide : 0 + 0 ≤ _), (by decide : 0 + 0 ≤ _)⟩)
      dsimp only [Pt.U, Pt.locs, Pt.cells, Pt.slots] at X172 l172 y172 z172 st172 hQ172
      subst l172 y172 z172
      obtain ⟨rfl, N172q, eh172⟩ := hQ172
      have N172 := Fr.app N171 N172q
      refine Go.tr st172 ?_
      show Go _ _ _ _ _ _ _ (T172.setTop (mkF m 187 #[.val (.int k0), .val (.int mv), .val (.int (4 : Int32)), .val (.ref s_PUT_STATIC), .val (.ref s_PUT_STATIC_targets), .val (.int (1 : Int32)), .val (.int (1 : Int32)), .val (.int (0 : Int32)), .val (.int (0 : Int32)), .val (.int (1 : Int32))] [(.int (1 : Int32))]))
      refine Go.by (fun _ kont => XS.iload X172.here hx rfl (hb hby at_187) rfl (XS.icmpNo X172.here hx rfl (hb hby at_189) rfl (by decide) (XS.iconst X172.here hx rfl (hb hby at_192) (XS.goto X172.here hx rfl (pc0 := 193) (pc' := 197) rfl (hb hby at_193) (by decide) (by decide) kont)))) ?_
      show Go _ _ _ _ _ _ _ (T172.setTop (mkF m 197 #[.val (.int k0), .val (.int mv), .val (.int (4 : Int32)), .val (.ref s_PUT_STATIC), .val (.ref s_PUT_STATIC_targets), .val (.int (1 : Int32)), .val (.int (1 : Int32)), .val (.int (0 : Int32)), .val (.int (0 : Int32)), .val (.int (1 : Int32))] [(.int (1 : Int32))]))
      refine Go.retN X172 hx (t := .boolean) hret (by simp) hlk (hb hby at_197) ?_ (by decide) (by decide)
      show Q0 Z h0 n0 (some (.int (1 : Int32))) T172.heap _
      rw [eh172]
      exact ⟨rfl, N172⟩
  · show Go _ _ _ _ _ _ _ (s₁.setTop (mkF m 10 #[.val (.int k0), .val (.int mv), .val (.int (5 : Int32)), .unset, .unset, .unset, .unset, .unset, .unset, .unset] []))
    refine Go.by (fun _ kont => XS.iloadN X0.here hx rfl (hb hby at_10) rfl kont) ?_
    show Go _ _ _ _ _ _ _ (s₁.setTop (mkF m 11 #[.val (.int k0), .val (.int mv), .val (.int (5 : Int32)), .unset, .unset, .unset, .unset, .unset, .unset, .unset] [(.int (5 : Int32))]))
    obtain ⟨_, _, ⟨T173, L173, k173, n173⟩, -, X173, ⟨Lc173, hQ173, l173, y173, z173⟩, st173⟩ := Jvm.LawKit.callS X0 hx (y := (⟨"com/example/classwright/classwright/ReferenceKind", "forByte", "(I)Lcom/example/classwright/classwright/ReferenceKind;"⟩ : MethodName)) hown (mvT hZ (hw _ (List.mem_of_getElem? (i := 1) rfl))) (mvT hZ (hw _ (List.mem_of_getElem? (i := 2) rfl))) (mvT hZ (hw _ (List.mem_of_getElem? (i := 3) rfl))) (mvT hZ (hw _ (List.mem_of_getElem? (i := 4) rfl))) (by decide) (backOf (W := 0) (rmF5 l Z a0 hw [] s_BY_VALUE kc_s_BY_VALUE s_GET_FIELD s_GET_STATIC s_PUT_FIELD s_PUT_STATIC s_INVOKE_VIRTUAL s_INVOKE_STATIC s_INVOKE_SPECIAL s_NEW_INVOKE_SPECIAL s_INVOKE_INTERFACE h0 n0 Z0 V_s_BY_VALUE S_BY_VALUE) hZ (hw _ (List.mem_of_getElem? (i := 4) rfl)) (hw _ (List.mem_of_getElem? (i := 3) rfl)) (by decide) (by decide)) (g := (mkF m 11 #[.val (.int k0), .val (.int mv), .val (.int (5 : Int32)), .unset, .unset, .unset, .unset, .unset, .unset, .unset] [(.int (5 : Int32))])) rfl (by rw [hml]; rfl) (argsL := [(.int (5 : Int32))]) (rest := []) (lenOf pd0_0 rfl) rfl (by show 2 * 0 + _ ≤ _; exact Nat.le_of_eq rfl) (hb hby at_11) (fun _ _ => ⟨rfl, e0, (by decide : 0 + 0 ≤ _), (by decide : 0 + 0 ≤ _)⟩)
    dsimp only [Pt.U, Pt.locs, Pt.cells, Pt.slots] at X173 l173 y173 z173 st173 hQ173
    subst l173 y173 z173
    obtain ⟨rfl, N173q, eh173⟩ := hQ173
    have N173 := Fr.app N0 N173q
    refine Go.by st173 ?_
    show Go _ _ _ _ _ _ _ (T173.setTop (mkF m 14 #[.val (.int k0), .val (.int mv), .val (.int (5 : Int32)), .unset, .unset, .unset, .unset, .unset, .unset, .unset] [(.ref s_INVOKE_VIRTUAL)]))
    refine Go.by (fun _ kont => XS.astoreN X173.here hx rfl (hb hby at_14) rfl rfl (l' := #[.val (.int k0), .val (.int mv), .val (.int (5 : Int32)), .val (.ref s_INVOKE_VIRTUAL), .unset, .unset, .unset, .unset, .unset, .unset]) rfl (XS.aloadN X173.here hx rfl (hb hby at_15) rfl rfl (XS.ifnullNo X173.here hx rfl (hb hby at_16) rfl (XS.aloadN X173.here hx rfl (hb hby at_19) rfl rfl kont)))) ?_
    show Go _ _ _ _ _ _ _ (T173.setTop (mkF m 20 #[.val (.int k0), .val (.int mv), .val (.int (5 : Int32)), .val (.ref s_INVOKE_VIRTUAL), .unset, .unset, .unset, .unset, .unset, .unset] [(.ref s_INVOKE_VIRTUAL)]))
    obtain ⟨cq174, kq174, q174a, q174b, q174c⟩ := isOf hZ eh173 E_s_INVOKE_VIRTUAL
    obtain ⟨_, _, ⟨T174, L174, k174, n174⟩, -, X174, ⟨Lc174, hQ174, l174, y174, z174⟩, st174⟩ := X173.virtualBack hx (y := (⟨"com/example/classwright/classwright/ReferenceKind", "value", "()I"⟩ : MethodName)) (z := (⟨"com/example/classwright/classwright/ReferenceKind", "value", "()I"⟩ : MethodName)) hown (mvT hZ (hw _ (List.mem_of_getElem? (i := 8) rfl))) (mvT hZ (hw _ (List.mem_of_getElem? (i := 9) rfl))) (notFace_of_selects (args := #[]) (mvT hZ (hw _ (List.mem_of_getElem? (i := 11) rfl)))) (mvT hZ (hw _ (List.mem_of_getElem? (i := 11) rfl))) (mvT hZ (hw _ (List.mem_of_getElem? (i := 10) rfl))) (by decide) (backOf (W := 0) (rmV l Z a0 hw [] s_INVOKE_VIRTUAL (5 : Int32) h0 n0 Z0 E_s_INVOKE_VIRTUAL F_s_INVOKE_VIRTUAL_value) hZ (hw _ (List.mem_of_getElem? (i := 12) rfl)) (hw _ (List.mem_of_getElem? (i := 3) rfl)) (by decide) (by decide)) q174a q174c (g := (mkF m 20 #[.val (.int k0), .val (.int mv), .val (.int (5 : Int32)), .val (.ref s_INVOKE_VIRTUAL), .unset, .unset, .unset, .unset, .unset, .unset] [(.ref s_INVOKE_VIRTUAL)])) rfl (by rw [hml]; rfl) (Steps.refl _) (argsL := []) (rest := []) (lenOf pd0_1 rfl) rfl (by show 2 * 0 + _ ≤ _; exact Nat.le_of_eq rfl) (hb hby at_20) (fun _ _ => ⟨rfl, eh173, (by decide : 0 + 0 ≤ _), (by decide : 0 + 0 ≤ _)⟩)
    dsimp only [Pt.U, Pt.locs, Pt.cells, Pt.slots] at X174 l174 y174 z174 st174 hQ174
    subst l174 y174 z174
    obtain ⟨rfl, N174q, eh174⟩ := hQ174
    have N174 := Fr.app N173 N174q
    refine Go.tr st174 ?_
    show Go _ _ _ _ _ _ _ (T174.setTop (mkF m 23 #[.val (.int k0), .val (.int mv), .val (.int (5 : Int32)), .val (.ref s_INVOKE_VIRTUAL), .unset, .unset, .unset, .unset, .unset, .unset] [(.int (5 : Int32))]))
    refine Go.by (fun _ kont => XS.iloadN X174.here hx rfl (hb hby at_23) rfl (XS.icmpYes X174.here hx rfl (pc0 := 24) (pc' := 29) rfl (hb hby at_24) rfl (by decide) (by decide) (by decide) kont)) ?_
    show Go _ _ _ _ _ _ _ (T174.setTop (mkF m 29 #[.val (.int k0), .val (.int mv), .val (.int (5 : Int32)), .val (.ref s_INVOKE_VIRTUAL), .unset, .unset, .unset, .unset, .unset, .unset] []))
    by_cases hmv : mv < (52 : Int32)
    · show Go _ _ _ _ _ _ _ (T174.setTop (mkF m 29 #[.val (.int k0), .val (.int mv), .val (.int (5 : Int32)), .val (.ref s_INVOKE_VIRTUAL), .unset, .unset, .unset, .unset, .unset, .unset] []))
      refine Go.by (fun _ kont => XS.aloadN X174.here hx rfl (hb hby at_29) rfl rfl (XS.iloadN X174.here hx rfl (hb hby at_30) rfl kont)) ?_
      show Go _ _ _ _ _ _ _ (T174.setTop (mkF m 31 #[.val (.int k0), .val (.int mv), .val (.int (5 : Int32)), .val (.ref s_INVOKE_VIRTUAL), .unset, .unset, .unset, .unset, .unset, .unset] [(.int mv), (.ref s_INVOKE_VIRTUAL)]))
      obtain ⟨cq175, kq175, q175a, q175b, q175c⟩ := isOf hZ eh174 E_s_INVOKE_VIRTUAL
      obtain ⟨_, _, ⟨T175, L175, k175, n175⟩, -, X175, ⟨Lc175, hQ175, l175, y175, z175⟩, st175⟩ := X174.virtualBack hx (y := (⟨"com/example/classwright/classwright/ReferenceKind", "targetKinds", "(I)Lcom/example/classwright/classwright/KindSet;"⟩ : MethodName)) (z := (⟨"com/example/classwright/classwright/ReferenceKind", "targetKinds", "(I)Lcom/example/classwright/classwright/KindSet;"⟩ : MethodName)) hown (mvT hZ (hw _ (List.mem_of_getElem? (i := 15) rfl))) (mvT hZ (hw _ (List.mem_of_getElem? (i := 16) rfl))) (notFace_of_selects (args := #[]) (mvT hZ (hw _ (List.mem_of_getElem? (i := 18) rfl)))) (mvT hZ (hw _ (List.mem_of_getElem? (i := 18) rfl))) (mvT hZ (hw _ (List.mem_of_getElem? (i := 17) rfl))) (by decide) (backOf (W := 0) (rmTe l Z a0 hw [] s_INVOKE_VIRTUAL mv s_INVOKE_VIRTUAL_targets s_INVOKE_STATIC s_INVOKE_SPECIAL s_METHODREF_ h0 n0 Z0 E_s_INVOKE_VIRTUAL F_s_INVOKE_VIRTUAL_targets ne_s_INVOKE_VIRTUAL_s_INVOKE_STATIC ne_s_INVOKE_VIRTUAL_s_INVOKE_SPECIAL S_INVOKE_STATIC S_INVOKE_SPECIAL S_METHODREF_ hmv) hZ (hw _ (List.mem_of_getElem? (i := 19) rfl)) (hw _ (List.mem_of_getElem? (i := 3) rfl)) (by decide) (by decide)) q175a q175c (g := (mkF m 31 #[.val (.int k0), .val (.int mv), .val (.int (5 : Int32)), .val (.ref s_INVOKE_VIRTUAL), .unset, .unset, .unset, .unset, .unset, .unset] [(.int mv), (.ref s_INVOKE_VIRTUAL)])) rfl (by rw [hml]; rfl) (Steps.refl _) (argsL := [(.int mv)]) (rest := []) (lenOf pd0_2 rfl) rfl (by show 2 * 0 + _ ≤ _; exact Nat.le_of_eq rfl) (hb hby at_31) (fun _ _ => ⟨rfl, eh174, (by decide : 0 + 0 ≤ _), (by decide : 0 + 0 ≤ _)⟩)
      dsimp only [Pt.U, Pt.locs, Pt.cells, Pt.slots] at X175 l175 y175 z175 st175 hQ175
      subst l175 y175 z175
      obtain ⟨rfl, N175q, eh175⟩ := hQ175
      have N175 := Fr.app N174 N175q
      refine Go.tr st175 ?_
      show Go _ _ _ _ _ _ _ (T175.setTop (mkF m 34 #[.val (.int k0), .val (.int mv), .val (.int (5 : Int32)), .val (.ref s_INVOKE_VIRTUAL), .unset, .unset, .unset, .unset, .unset, .unset] [(.ref s_INVOKE_VIRTUAL_targets)]))
      refine Go.by (fun _ kont => XS.astore X175.here hx rfl (hb hby at_34) rfl rfl (l' := #[.val (.int k0), .val (.int mv), .val (.int (5 : Int32)), .val (.ref s_INVOKE_VIRTUAL), .val (.ref s_INVOKE_VIRTUAL_targets), .unset, .unset, .unset, .unset, .unset]) rfl (XS.iloadN X175.here hx rfl (hb hby at_36) rfl (XS.bipush X175.here hx rfl (hb hby at_37) kont))) ?_
      show Go _ _ _ _ _ _ _ (T175.setTop (mkF m 39 #[.val (.int k0), .val (.int mv), .val (.int (5 : Int32)), .val (.ref s_INVOKE_VIRTUAL), .val (.ref s_INVOKE_VIRTUAL_targets), .unset, .unset, .unset, .unset, .unset] [(.int (52 : Int32)), (.int mv)]))
      refine Go.by (fun _ kont => XS.icmpYes X175.here hx rfl (pc0 := 39) (pc' := 46) rfl (hb hby at_39) rfl (tlt hmv).1 (by decide) (by decide) kont) ?_
      show Go _ _ _ _ _ _ _ (T175.setTop (mkF m 46 #[.val (.int k0), .val (.int mv), .val (.int (5 : Int32)), .val (.ref s_INVOKE_VIRTUAL), .val (.ref s_INVOKE_VIRTUAL_targets), .unset, .unset, .unset, .unset, .unset] []))
      refine Go.by (fun _ kont => XS.iconst X175.here hx rfl (hb hby at_46) (XS.istore X175.here hx rfl (hb hby at_47) rfl (l' := #[.val (.int k0), .val (.int mv), .val (.int (5 : Int32)), .val (.ref s_INVOKE_VIRTUAL), .val (.ref s_INVOKE_VIRTUAL_targets), .val (.int (0 : Int32)), .unset, .unset, .unset, .unset]) rfl (XS.iloadN X175.here hx rfl (hb hby at_49) rfl (XS.iconst X175.here hx rfl (hb hby at_50) (XS.icmpYes X175.here hx rfl (pc0 := 51) (pc' := 58) rfl (hb hby at_51) rfl (by decide) (by decide) (by decide) (XS.iconst X175.here hx rfl (hb hby at_58) (XS.istore X175.here hx rfl (hb hby at_59) rfl (l' := #[.val (.int k0), .val (.int mv), .val (.int (5 : Int32)), .val (.ref s_INVOKE_VIRTUAL), .val (.ref s_INVOKE_VIRTUAL_targets), .val (.int (0 : Int32)), .val (.int (0 : Int32)), .unset, .unset, .unset]) rfl (XS.iloadN X175.here hx rfl (hb hby at_61) rfl (XS.iconst X175.here hx rfl (hb hby at_62) (XS.icmpNo X175.here hx rfl (hb hby at_63) rfl (by decide) (XS.iloadN X175.here hx rfl (hb hby at_66) rfl (XS.bipush X175.here hx rfl (hb hby at_67) kont)))))))))))) ?_
      show Go _ _ _ _ _ _ _ (T175.setTop (mkF m 69 #[.val (.int k0), .val (.int mv), .val (.int (5 : Int32)), .val (.ref s_INVOKE_VIRTUAL), .val (.ref s_INVOKE_VIRTUAL_targets), .val (.int (0 : Int32)), .val (.int (0 : Int32)), .unset, .unset, .unset] [(.int (8 : Int32)), (.int (5 : Int32))]))
      refine Go.by (fun _ kont => XS.icmpNo X175.here hx rfl (hb hby at_69) rfl (by decide) (XS.iconst X175.here hx rfl (hb hby at_72) (XS.goto X175.here hx rfl (pc0 := 73) (pc' := 77) rfl (hb hby at_73) (by decide) (by decide) (XS.istore X175.here hx rfl (hb hby at_77) rfl (l' := #[.val (.int k0), .val (.int mv), .val (.int (5 : Int32)), .val (.ref s_INVOKE_VIRTUAL), .val (.ref s_INVOKE_VIRTUAL_targets), .val (.int (0 : Int32)), .val (.int (0 : Int32)), .val (.int (1 : Int32)), .unset, .unset]) rfl (XS.iloadN X175.here hx rfl (hb hby at_79) rfl (XS.bipush X175.here hx rfl (hb hby at_80) (XS.icmpNo X175.here hx rfl (hb hby at_82) rfl (by decide) (XS.iloadN X175.here hx rfl (hb hby at_85) rfl (XS.bipush X175.here hx rfl (hb hby at_86) (XS.icmpNo X175.here hx rfl (hb hby at_88) rfl (by decide) (XS.iloadN X175.here hx rfl (hb hby at_91) rfl (XS.bipush X175.here hx rfl (hb hby at_92) kont)))))))))))) ?_
      show Go _ _ _ _ _ _ _ (T175.setTop (mkF m 94 #[.val (.int k0), .val (.int mv), .val (.int (5 : Int32)), .val (.ref s_INVOKE_VIRTUAL), .val (.ref s_INVOKE_VIRTUAL_targets), .val (.int (0 : Int32)), .val (.int (0 : Int32)), .val (.int (1 : Int32)), .unset, .unset] [(.int (7 : Int32)), (.int (5 : Int32))]))
      refine Go.by (fun _ kont => XS.icmpYes X175.here hx rfl (pc0 := 94) (pc' := 106) rfl (hb hby at_94) rfl (by decide) (by decide) (by decide) (XS.iconst X175.here hx rfl (hb hby at_106) (XS.istore X175.here hx rfl (hb hby at_107) rfl (l' := #[.val (.int k0), .val (.int mv), .val (.int (5 : Int32)), .val (.ref s_INVOKE_VIRTUAL), .val (.ref s_INVOKE_VIRTUAL_targets), .val (.int (0 : Int32)), .val (.int (0 : Int32)), .val (.int (1 : Int32)), .val (.int (0 : Int32)), .unset]) rfl (XS.iload X175.here hx rfl (hb hby at_109) rfl (XS.ifYes X175.here hx rfl (pc0 := 111) (pc' := 118) rfl (hb hby at_111) rfl (by decide) (by decide) (by decide) (XS.iconst X175.here hx rfl (hb hby at_118) (XS.iload X175.here hx rfl (hb hby at_119) rfl (XS.ifNo X175.here hx rfl (hb hby at_121) rfl (by decide) (XS.iconst X175.here hx rfl (hb hby at_124) (XS.goto X175.here hx rfl (pc0 := 125) (pc' := 129) rfl (hb hby at_125) (by decide) (by decide) (XS.iadd X175.here hx rfl (hb hby at_129) rfl kont))))))))))) ?_
      show Go _ _ _ _ _ _ _ (T175.setTop (mkF m 130 #[.val (.int k0), .val (.int mv), .val (.int (5 : Int32)), .val (.ref s_INVOKE_VIRTUAL), .val (.ref s_INVOKE_VIRTUAL_targets), .val (.int (0 : Int32)), .val (.int (0 : Int32)), .val (.int (1 : Int32)), .val (.int (0 : Int32)), .unset] [(.int ((0 : Int32) + (1 : Int32)))]))
      rw [show ((0 : Int32) + (1 : Int32)) = (1 : Int32) from by decide]
      show Go _ _ _ _ _ _ _ (T175.setTop (mkF m 130 #[.val (.int k0), .val (.int mv), .val (.int (5 : Int32)), .val (.ref s_INVOKE_VIRTUAL), .val (.ref s_INVOKE_VIRTUAL_targets), .val (.int (0 : Int32)), .val (.int (0 : Int32)), .val (.int (1 : Int32)), .val (.int (0 : Int32)), .unset] [(.int (1 : Int32))]))
      refine Go.by (fun _ kont => XS.iload X175.here hx rfl (hb hby at_130) rfl (XS.ifYes X175.here hx rfl (pc0 := 132) (pc' := 139) rfl (hb hby at_132) rfl (by decide) (by decide) (by decide) (XS.iconst X175.here hx rfl (hb hby at_139) (XS.iadd X175.here hx rfl (hb hby at_140) rfl kont)))) ?_
      show Go _ _ _ _ _ _ _ (T175.setTop (mkF m 141 #[.val (.int k0), .val (.int mv), .val (.int (5 : Int32)), .val (.ref s_INVOKE_VIRTUAL), .val (.ref s_INVOKE_VIRTUAL_targets), .val (.int (0 : Int32)), .val (.int (0 : Int32)), .val (.int (1 : Int32)), .val (.int (0 : Int32)), .unset] [(.int ((1 : Int32) + (0 : Int32)))]))
      rw [show ((1 : Int32) + (0 : Int32)) = (1 : Int32) from by decide]
      show Go _ _ _ _ _ _ _ (T175.setTop (mkF m 141 #[.val (.int k0), .val (.int mv), .val (.int (5 : Int32)), .val (.ref s_INVOKE_VIRTUAL), .val (.ref s_INVOKE_VIRTUAL_targets), .val (.int (0 : Int32)), .val (.int (0 : Int32)), .val (.int (1 : Int32)), .val (.int (0 : Int32)), .unset] [(.int (1 : Int32))]))
      refine Go.by (fun _ kont => XS.istore X175.here hx rfl (hb hby at_141) rfl (l' := #[.val (.int k0), .val (.int mv), .val (.int (5 : Int32)), .val (.ref s_INVOKE_VIRTUAL), .val (.ref s_INVOKE_VIRTUAL_targets), .val (.int (0 : Int32)), .val (.int (0 : Int32)), .val (.int (1 : Int32)), .val (.int (0 : Int32)), .val (.int (1 : Int32))]) rfl (XS.aload X175.here hx rfl (hb hby at_143) rfl rfl kont)) ?_
      show Go _ _ _ _ _ _ _ (T175.setTop (mkF m 145 #[.val (.int k0), .val (.int mv), .val (.int (5 : Int32)), .val (.ref s_INVOKE_VIRTUAL), .val (.ref s_INVOKE_VIRTUAL_targets), .val (.int (0 : Int32)), .val (.int (0 : Int32)), .val (.int (1 : Int32)), .val (.int (0 : Int32)), .val (.int (1 : Int32))] [(.ref s_INVOKE_VIRTUAL_targets)]))
      obtain ⟨T176, X176, e176, st176⟩ := getS2 X175 hx hZ hown (host := "") (Or.inl (hw _ (List.mem_of_getElem? (i := 26) rfl))) Via.refl eh175 S_FIELDREF (g := (mkF m 145 #[.val (.int k0), .val (.int mv), .val (.int (5 : Int32)), .val (.ref s_INVOKE_VIRTUAL), .val (.ref s_INVOKE_VIRTUAL_targets), .val (.int (0 : Int32)), .val (.int (0 : Int32)), .val (.int (1 : Int32)), .val (.int (0 : Int32)), .val (.int (1 : Int32))] [(.ref s_INVOKE_VIRTUAL_targets)])) rfl (hb hby at_145)
      refine Go.by st176 ?_
      show Go _ _ _ _ _ _ _ (T176.setTop (mkF m 148 #[.val (.int k0), .val (.int mv), .val (.int (5 : Int32)), .val (.ref s_INVOKE_VIRTUAL), .val (.ref s_INVOKE_VIRTUAL_targets), .val (.int (0 : Int32)), .val (.int (0 : Int32)), .val (.int (1 : Int32)), .val (.int (0 : Int32)), .val (.int (1 : Int32))] [(.ref s_FIELDREF), (.ref s_INVOKE_VIRTUAL_targets)]))
      obtain ⟨cq177, kq177, q177a, q177b, q177c⟩ := isOf hZ e176 E_s_INVOKE_VIRTUAL_targets
      obtain ⟨_, _, ⟨T177, L177, k177, n177⟩, -, X177, ⟨Lc177, hQ177, l177, y177, z177⟩, st177⟩ := X176.virtualBack hx (y := (⟨"com/example/classwright/classwright/KindSet", "contains", "(Ljava/lang/Object;)Z"⟩ : MethodName)) (z := (⟨"com/example/classwright/classwright/KindSet", "contains", "(Ljava/lang/Object;)Z"⟩ : MethodName)) hown (mvT hZ (hw _ (List.mem_of_getElem? (i := 29) rfl))) (mvT hZ (hw _ (List.mem_of_getElem? (i := 30) rfl))) (notFace_of_selects (args := #[]) (mvT hZ (hw _ (List.mem_of_getElem? (i := 32) rfl)))) (mvT hZ (hw _ (List.mem_of_getElem? (i := 32) rfl))) (mvT hZ (hw _ (List.mem_of_getElem? (i := 31) rfl))) (by decide) (backOf (W := 0) (rmC256_7 l Z a0 hw [] s_INVOKE_VIRTUAL_targets s_FIELDREF h0 n0 Z0 E_s_INVOKE_VIRTUAL_targets F_s_INVOKE_VIRTUAL_targets_bits E_s_FIELDREF F_s_FIELDREF_ordinal) hZ (hw _ (List.mem_of_getElem? (i := 34) rfl)) (hw _ (List.mem_of_getElem? (i := 33) rfl)) (by decide) (by decide)) q177a q177c (g := (mkF m 148 #[.val (.int k0), .val (.int mv), .val (.int (5 : Int32)), .val (.ref s_INVOKE_VIRTUAL), .val (.ref s_INVOKE_VIRTUAL_targets), .val (.int (0 : Int32)), .val (.int (0 : Int32)), .val (.int (1 : Int32)), .val (.int (0 : Int32)), .val (.int (1 : Int32))] [(.ref s_FIELDREF), (.ref s_INVOKE_VIRTUAL_targets)])) rfl (by rw [hml]; rfl) (Steps.refl _) (argsL := [(.ref s_FIELDREF)]) (rest := []) (lenOf pd0_3 rfl) rfl (by show 2 * 0 + _ ≤ _; exact Nat.le_of_eq rfl) (hb hby at_148) (fun _ _ => ⟨rfl, e176, (by decide : 0 + 0 ≤ _), (by decide : 0 + 0 ≤ _)⟩)
      dsimp only [Pt.U, Pt.locs, Pt.cells, Pt.slots] at X177 l177 y177 z177 st177 hQ177
      subst l177 y177 z177
      obtain ⟨rfl, N177q, eh177⟩ := hQ177
      have N177 := Fr.app N175 N177q
      refine Go.tr st177 ?_
      show Go _ _ _ _ _ _ _ (T177.setTop (mkF m 151 #[.val (.int k0), .val (.int mv), .val (.int (5 : Int32)), .val (.ref s_INVOKE_VIRTUAL), .val (.ref s_INVOKE_VIRTUAL_targets), .val (.int (0 : Int32)), .val (.int (0 : Int32)), .val (.int (1 : Int32)), .val (.int (0 : Int32)), .val (.int (1 : Int32))] [(.int (0 : Int32))]))
      refine Go.by (fun _ kont => XS.iload X177.here hx rfl (hb hby at_151) rfl (XS.icmpNo X177.here hx rfl (hb hby at_153) rfl (by decide) (XS.aload X177.here hx rfl (hb hby at_156) rfl rfl kont))) ?_
      show Go _ _ _ _ _ _ _ (T177.setTop (mkF m 158 #[.val (.int k0), .val (.int mv), .val (.int (5 : Int32)), .val (.ref s_INVOKE_VIRTUAL), .val (.ref s_INVOKE_VIRTUAL_targets), .val (.int (0 : Int32)), .val (.int (0 : Int32)), .val (.int (1 : Int32)), .val (.int (0 : Int32)), .val (.int (1 : Int32))] [(.ref s_INVOKE_VIRTUAL_targets)]))
      obtain ⟨T178, X178, e178, st178⟩ := getS2 X177 hx hZ hown (host := "") (Or.inl (hw _ (List.mem_of_getElem? (i := 48) rfl))) Via.refl eh177 S_METHODREF (g := (mkF m 158 #[.val (.int k0), .val (.int mv), .val (.int (5 : Int32)), .val (.ref s_INVOKE_VIRTUAL), .val (.ref s_INVOKE_VIRTUAL_targets), .val (.int (0 : Int32)), .val (.int (0 : Int32)), .val (.int (1 : Int32)), .val (.int (0 : Int32)), .val (.int (1 : Int32))] [(.ref s_INVOKE_VIRTUAL_targets)])) rfl (hb hby at_158)
      refine Go.by st178 ?_
      show Go _ _ _ _ _ _ _ (T178.setTop (mkF m 161 #[.val (.int k0), .val (.int mv), .val (.int (5 : Int32)), .val (.ref s_INVOKE_VIRTUAL), .val (.ref s_INVOKE_VIRTUAL_targets), .val (.int (0 : Int32)), .val (.int (0 : Int32)), .val (.int (1 : Int32)), .val (.int (0 : Int32)), .val (.int (1 : Int32))] [(.ref s_METHODREF), (.ref s_INVOKE_VIRTUAL_targets)]))
      obtain ⟨cq179, kq179, q179a, q179b, q179c⟩ := isOf hZ e178 E_s_INVOKE_VIRTUAL_targets
      obtain ⟨_, _, ⟨T179, L179, k179, n179⟩, -, X179, ⟨Lc179, hQ179, l179, y179, z179⟩, st179⟩ := X178.virtualBack hx (y := (⟨"com/example/classwright/classwright/KindSet", "contains", "(Ljava/lang/Object;)Z"⟩ : MethodName)) (z := (⟨"com/example/classwright/classwright/KindSet", "contains", "(Ljava/lang/Object;)Z"⟩ : MethodName)) hown (mvT hZ (hw _ (List.mem_of_getElem? (i := 29) rfl))) (mvT hZ (hw _ (List.mem_of_getElem? (i := 30) rfl))) (notFace_of_selects (args := #[]) (mvT hZ (hw _ (List.mem_of_getElem? (i := 32) rfl)))) (mvT hZ (hw _ (List.mem_of_getElem? (i := 32) rfl))) (mvT hZ (hw _ (List.mem_of_getElem? (i := 31) rfl))) (by decide) (backOf (W := 0) (rmC256_8 l Z a0 hw [] s_INVOKE_VIRTUAL_targets s_METHODREF h0 n0 Z0 E_s_INVOKE_VIRTUAL_targets F_s_INVOKE_VIRTUAL_targets_bits E_s_METHODREF F_s_METHODREF_ordinal) hZ (hw _ (List.mem_of_getElem? (i := 34) rfl)) (hw _ (List.mem_of_getElem? (i := 33) rfl)) (by decide) (by decide)) q179a q179c (g := (mkF m 161 #[.val (.int k0), .val (.int mv), .val (.int (5 : Int32)), .val (.ref s_INVOKE_VIRTUAL), .val (.ref s_INVOKE_VIRTUAL_targets), .val (.int (0 : Int32)), .val (.int (0 : Int32)), .val (.int (1 : Int32)), .val (.int (0 : Int32)), .val (.int (1 : Int32))] [(.ref s_METHODREF), (.ref s_INVOKE_VIRTUAL_targets)])) rfl (by rw [hml]; rfl) (Steps.refl _) (argsL := [(.ref s_METHODREF)]) (rest := []) (lenOf pd0_3 rfl) rfl (by show 2 * 0 + _ ≤ _; exact Nat.le_of_eq rfl) (hb hby at_161) (fun _ _ => ⟨rfl, e178, (by decide : 0 + 0 ≤ _), (by decide : 0 + 0 ≤ _)⟩)
      dsimp only [Pt.U, Pt.locs, Pt.cells, Pt.slots] at X179 l179 y179 z179 st179 hQ179
      subst l179 y179 z179
      obtain ⟨rfl, N179q, eh179⟩ := hQ179
      have N179 := Fr.app N177 N179q
      refine Go.tr st179 ?_
      show Go _ _ _ _ _ _ _ (T179.setTop (mkF m 164 #[.val (.int k0), .val (.int mv), .val (.int (5 : Int32)), .val (.ref s_INVOKE_VIRTUAL), .val (.ref s_INVOKE_VIRTUAL_targets), .val (.int (0 : Int32)), .val (.int (0 : Int32)), .val (.int (1 : Int32)), .val (.int (0 : Int32)), .val (.int (1 : Int32))] [(.int (1 : Int32))]))
      refine Go.by (fun _ kont => XS.iload X179.here hx rfl (hb hby at_164) rfl (XS.icmpNo X179.here hx rfl (hb hby at_166) rfl (by decide) (XS.aload X179.here hx rfl (hb hby at_169) rfl rfl kont))) ?_
      show Go _ _ _ _ _ _ _ (T179.setTop (mkF m 171 #[.val (.int k0), .val (.int mv), .val (.int (5 : Int32)), .val (.ref s_INVOKE_VIRTUAL), .val (.ref s_INVOKE_VIRTUAL_targets), .val (.int (0 : Int32)), .val (.int (0 : Int32)), .val (.int (1 : Int32)), .val (.int (0 : Int32)), .val (.int (1 : Int32))] [(.ref s_INVOKE_VIRTUAL_targets)]))
      obtain ⟨T180, X180, e180, st180⟩ := getS2 X179 hx hZ hown (host := "") (Or.inl (hw _ (List.mem_of_getElem? (i := 50) rfl))) Via.refl eh179 S_INTERFACE_METHODREF (g := (mkF m 171 #[.val (.int k0), .val (.int mv), .val (.int (5 : Int32)), .val (.ref s_INVOKE_VIRTUAL), .val (.ref s_INVOKE_VIRTUAL_targets), .val (.int (0 : Int32)), .val (.int (0 : Int32)), .val (.int (1 : Int32)), .val (.int (0 : Int32)), .val (.int (1 : Int32))] [(.ref s_INVOKE_VIRTUAL_targets)])) rfl (hb hby at_171)
      refine Go.by st180 ?_
      show Go _ _ _ _ _ _ _ (T180.setTop (mkF m 174 #[.val (.int k0), .val (.int mv), .val (.int (5 : Int32)), .val (.ref s_INVOKE_VIRTUAL), .val (.ref s_INVOKE_VIRTUAL_targets), .val (.int (0 : Int32)), .val (.int (0 : Int32)), .val (.int (1 : Int32)), .val (.int (0 : Int32)), .val (.int (1 : Int32))] [(.ref s_INTERFACE_METHODREF), (.ref s_INVOKE_VIRTUAL_targets)]))
      obtain ⟨cq181, kq181, q181a, q181b, q181c⟩ := isOf hZ e180 E_s_INVOKE_VIRTUAL_targets
      obtain ⟨_, _, ⟨T181, L181, k181, n181⟩, -, X181, ⟨Lc181, hQ181, l181, y181, z181⟩, st181⟩ := X180.virtualBack hx (y := (⟨"com/example/classwright/classwright/KindSet", "contains", "(Ljava/lang/Object;)Z"⟩ : MethodName)) (z := (⟨"com/example/classwright/classwright/KindSet", "contains", "(Ljava/lang/Object;)Z"⟩ : MethodName)) hown (mvT hZ (hw _ (List.mem_of_getElem? (i := 29) rfl))) (mvT hZ (hw _ (List.mem_of_getElem? (i := 30) rfl))) (notFace_of_selects (args := #[]) (mvT hZ (hw _ (List.mem_of_getElem? (i := 32) rfl)))) (mvT hZ (hw _ (List.mem_of_getElem? (i := 32) rfl))) (mvT hZ (hw _ (List.mem_of_getElem? (i := 31) rfl))) (by decide) (backOf (W := 0) (rmC256_9 l Z a0 hw [] s_INVOKE_VIRTUAL_targets s_INTERFACE_METHODREF h0 n0 Z0 E_s_INVOKE_VIRTUAL_targets F_s_INVOKE_VIRTUAL_targets_bits E_s_INTERFACE_METHODREF F_s_INTERFACE_METHODREF_ordinal) hZ (hw _ (List.mem_of_getElem? (i := 34) rfl)) (hw _ (List.mem_of_getElem? (i := 33) rfl)) (by decide) (by decide)) q181a q181c (g := (mkF m 174 #[.val (.int k0), .val (.int mv), .val (.int (5 : Int32)), .val (.ref s_INVOKE_VIRTUAL), .val (.ref s_INVOKE_VIRTUAL_targets), .val (.int (0 : Int32)), .val (.int (0 : Int32)), .val (.int (1 : Int32)), .val (.int (0 : Int32)), .val (.int (1 : Int32))] [(.ref s_INTERFACE_METHODREF), (.ref s_INVOKE_VIRTUAL_targets)])) rfl (by rw [hml]; rfl) (Steps.refl _) (argsL := [(.ref s_INTERFACE_METHODREF)]) (rest := []) (lenOf pd0_3 rfl) rfl (by show 2 * 0 + _ ≤ _; exact Nat.le_of_eq rfl) (hb hby at_174) (fun _ _ => ⟨rfl, e180, (by decide : 0 + 0 ≤ _), (by decide : 0 + 0 ≤ _)⟩)
      dsimp only [Pt.U, Pt.locs, Pt.cells, Pt.slots] at X181 l181 y181 z181 st181 hQ181
      subst l181 y181 z181
      obtain ⟨rfl, N181q, eh181⟩ := hQ181
      have N181 := Fr.app N179 N181q
      refine Go.tr st181 ?_
      show Go _ _ _ _ _ _ _ (T181.setTop (mkF m 177 #[.val (.int k0), .val (.int mv), .val (.int (5 : Int32)), .val (.ref s_INVOKE_VIRTUAL), .val (.ref s_INVOKE_VIRTUAL_targets), .val (.int (0 : Int32)), .val (.int (0 : Int32)), .val (.int (1 : Int32)), .val (.int (0 : Int32)), .val (.int (1 : Int32))] [(.int (0 : Int32))]))
      refine Go.by (fun _ kont => XS.iload X181.here hx rfl (hb hby at_177) rfl (XS.icmpNo X181.here hx rfl (hb hby at_179) rfl (by decide) (XS.aload X181.here hx rfl (hb hby at_182) rfl rfl kont))) ?_
      show Go _ _ _ _ _ _ _ (T181.setTop (mkF m 184 #[.val (.int k0), .val (.int mv), .val (.int (5 : Int32)), .val (.ref s_INVOKE_VIRTUAL), .val (.ref s_INVOKE_VIRTUAL_targets), .val (.int (0 : Int32)), .val (.int (0 : Int32)), .val (.int (1 : Int32)), .val (.int (0 : Int32)), .val (.int (1 : Int32))] [(.ref s_INVOKE_VIRTUAL_targets)]))
      obtain ⟨cq182, kq182, q182a, q182b, q182c⟩ := isOf hZ eh181 E_s_INVOKE_VIRTUAL_targets
      obtain ⟨_, _, ⟨T182, L182, k182, n182⟩, -, X182, ⟨Lc182, hQ182, l182, y182, z182⟩, st182⟩ := X181.virtualBack hx (y := (⟨"com/example/classwright/classwright/KindSet", "size", "()I"⟩ : MethodName)) (z := (⟨"com/example/classwright/classwright/KindSet", "size", "()I"⟩ : MethodName)) hown (mvT hZ (hw _ (List.mem_of_getElem? (i := 52) rfl))) (mvT hZ (hw _ (List.mem_of_getElem? (i := 53) rfl))) (notFace_of_selects (args := #[]) (mvT hZ (hw _ (List.mem_of_getElem? (i := 55) rfl)))) (mvT hZ (hw _ (List.mem_of_getElem? (i := 55) rfl))) (mvT hZ (hw _ (List.mem_of_getElem? (i := 54) rfl))) (by decide) (backOf (W := 0) (rmS256 l Z a0 hw [] s_INVOKE_VIRTUAL_targets h0 n0 Z0 E_s_INVOKE_VIRTUAL_targets F_s_INVOKE_VIRTUAL_targets_bits) hZ (hw _ (List.mem_of_getElem? (i := 56) rfl)) (hw _ (List.mem_of_getElem? (i := 33) rfl)) (by decide) (by decide)) q182a q182c (g := (mkF m 184 #[.val (.int k0), .val (.int mv), .val (.int (5 : Int32)), .val (.ref s_INVOKE_VIRTUAL), .val (.ref s_INVOKE_VIRTUAL_targets), .val (.int (0 : Int32)), .val (.int (0 : Int32)), .val (.int (1 : Int32)), .val (.int (0 : Int32)), .val (.int (1 : Int32))] [(.ref s_INVOKE_VIRTUAL_targets)])) rfl (by rw [hml]; rfl) (Steps.refl _) (argsL := []) (rest := []) (lenOf pd0_1 rfl) rfl (by show 2 * 0 + _ ≤ _; exact Nat.le_of_eq rfl) (hb hby at_184) (fun _ _ => ⟨rfl, eh181, (by decide : 0 + 0 ≤ _), (by decide : 0 + 0 ≤ _)⟩)
      dsimp only [Pt.U, Pt.locs, Pt.cells, Pt.slots] at X182 l182 y182 z182 st182 hQ182
      subst l182 y182 z182
      obtain ⟨rfl, N182q, eh182⟩ := hQ182
      have N182 := Fr.app N181 N182q
      refine Go.tr st182 ?_
      show Go _ _ _ _ _ _ _ (T182.setTop (mkF m 187 #[.val (.int k0), .val (.int mv), .val (.int (5 : Int32)), .val (.ref s_INVOKE_VIRTUAL), .val (.ref s_INVOKE_VIRTUAL_targets), .val (.int (0 : Int32)), .val (.int (0 : Int32)), .val (.int (1 : Int32)), .val (.int (0 : Int32)), .val (.int (1 : Int32))] [(.int (1 : Int32))]))
      refine Go.by (fun _ kont => XS.iload X182.here hx rfl (hb hby at_187) rfl (XS.icmpNo X182.here hx rfl (hb hby at_189) rfl (by decide) (XS.iconst X182.here hx rfl (hb hby at_192) (XS.goto X182.here hx rfl (pc0 := 193) (pc' := 197) rfl (hb hby at_193) (by decide) (by decide) kont)))) ?_
      show Go _ _ _ _ _ _ _ (T182.setTop (mkF m 197 #[.val (.int k0), .val (.int mv), .val (.int (5 : Int32)), .val (.ref s_INVOKE_VIRTUAL), .val (.ref s_INVOKE_VIRTUAL_targets), .val (.int (0 : Int32)), .val (.int (0 : Int32)), .val (.int (1 : Int32)), .val (.int (0 : Int32)), .val (.int (1 : Int32))] [(.int (1 : Int32))]))
      refine Go.retN X182 hx (t := .boolean) hret (by simp) hlk (hb hby at_197) ?_ (by decide) (by decide)
      show Q0 Z h0 n0 (some (.int (1 : Int32))) T182.heap _
      rw [eh182]
      exact ⟨rfl, N182⟩
    · show Go _ _ _ _ _ _ _ (T174.setTop (mkF m 29 #[.val (.int k0), .val (.int mv), .val (.int (5 : Int32)), .val (.ref s_INVOKE_VIRTUAL), .unset, .unset, .unset, .unset, .unset, .unset] []))
      refine Go.by (fun _ kont => XS.aloadN X174.here hx rfl (hb hby at_29) rfl rfl (XS.iloadN X174.here hx rfl (hb hby at_30) rfl kont)) ?_
      show Go _ _ _ _ _ _ _ (T174.setTop (mkF m 31 #[.val (.int k0), .val (.int mv), .val (.int (5 : Int32)), .val (.ref s_INVOKE_VIRTUAL), .unset, .unset, .unset, .unset, .unset, .unset] [(.int mv), (.ref s_INVOKE_VIRTUAL)]))
      obtain ⟨cq183, kq183, q183a, q183b, q183c⟩ := isOf hZ eh174 E_s_INVOKE_VIRTUAL
      obtain ⟨_, _, ⟨T183, L183, k183, n183⟩, -, X183, ⟨Lc183, hQ183, l183, y183, z183⟩, st183⟩ := X174.virtualBack hx (y := (⟨"com/example/classwright/classwright/ReferenceKind", "targetKinds", "(I)Lcom/example/classwright/classwright/KindSet;"⟩ : MethodName)) (z := (⟨"com/example/classwright/classwright/ReferenceKind", "targetKinds", "(I)Lcom/example/classwright/classwright/KindSet;"⟩ : MethodName)) hown (mvT hZ (hw _ (List.mem_of_getElem? (i := 15) rfl))) (mvT hZ (hw _ (List.mem_of_getElem? (i := 16) rfl))) (notFace_of_selects (args := #[]) (mvT hZ (hw _ (List.mem_of_getElem? (i := 18) rfl)))) (mvT hZ (hw _ (List.mem_of_getElem? (i := 18) rfl))) (mvT hZ (hw _ (List.mem_of_getElem? (i := 17) rfl))) (by decide) (backOf (W := 0) (rmTm l Z a0 hw [] s_INVOKE_VIRTUAL mv s_INVOKE_VIRTUAL_targets h0 n0 Z0 E_s_INVOKE_VIRTUAL F_s_INVOKE_VIRTUAL_targets hmv) hZ (hw _ (List.mem_of_getElem? (i := 19) rfl)) (hw _ (List.mem_of_getElem? (i := 3) rfl)) (by decide) (by decide)) q183a q183c (g := (mkF m 31 #[.val (.int k0), .val (.int mv), .val (.int (5 : Int32)), .val (.ref s_INVOKE_VIRTUAL), .unset, .unset, .unset, .unset, .unset, .unset] [(.int mv), (.ref s_INVOKE_VIRTUAL)])) rfl (by rw [hml]; rfl) (Steps.refl _) (argsL := [(.int mv)]) (rest := []) (lenOf pd0_2 rfl) rfl (by show 2 * 0 + _ ≤ _; exact Nat.le_of_eq rfl) (hb hby at_31) (fun _ _ => ⟨rfl, eh174, (by decide : 0 + 0 ≤ _), (by decide : 0 + 0 ≤ _)⟩)
      dsimp only [Pt.U, Pt.locs, Pt.cells, Pt.slots] at X183 l183 y183 z183 st183 hQ183
      subst l183 y183 z183
      obtain ⟨rfl, N183q, eh183⟩ := hQ183
      have N183 := Fr.app N174 N183q
      refine Go.tr st183 ?_
      show Go _ _ _ _ _ _ _ (T183.setTop (mkF m 34 #[.val (.int k0), .val (.int mv), .val (.int (5 : Int32)), .val (.ref s_INVOKE_VIRTUAL), .unset, .unset, .unset, .unset, .unset, .unset] [(.ref s_INVOKE_VIRTUAL_targets)]))
      refine Go.by (fun _ kont => XS.astore X183.here hx rfl (hb hby at_34) rfl rfl (l' := #[.val (.int k0), .val (.int mv), .val (.int (5 : Int32)), .val (.ref s_INVOKE_VIRTUAL), .val (.ref s_INVOKE_VIRTUAL_targets), .unset, .unset, .unset, .unset, .unset]) rfl (XS.iloadN X183.here hx rfl (hb hby at_36) rfl (XS.bipush X183.here hx rfl (hb hby at_37) kont))) ?_
      show Go _ _ _ _ _ _ _ (T183.setTop (mkF m 39 #[.val (.int k0), .val (.int mv), .val (.int (5 : Int32)), .val (.ref s_INVOKE_VIRTUAL), .val (.ref s_INVOKE_VIRTUAL_targets), .unset, .unset, .unset, .unset, .unset] [(.int (52 : Int32)), (.int mv)]))
      refine Go.by (fun _ kont => XS.icmpNo X183.here hx rfl (hb hby at_39) rfl (flt hmv).1 kont) ?_
      show Go _ _ _ _ _ _ _ (T183.setTop (mkF m 42 #[.val (.int k0), .val (.int mv), .val (.int (5 : Int32)), .val (.ref s_INVOKE_VIRTUAL), .val (.ref s_INVOKE_VIRTUAL_targets), .unset, .unset, .unset, .unset, .unset] []))
      refine Go.by (fun _ kont => XS.iconst X183.here hx rfl (hb hby at_42) (XS.goto X183.here hx rfl (pc0 := 43) (pc' := 47) rfl (hb hby at_43) (by decide) (by decide) (XS.istore X183.here hx rfl (hb hby at_47) rfl (l' := #[.val (.int k0), .val (.int mv), .val (.int (5 : Int32)), .val (.ref s_INVOKE_VIRTUAL), .val (.ref s_INVOKE_VIRTUAL_targets), .val (.int (1 : Int32)), .unset, .unset, .unset, .unset]) rfl (XS.iloadN X183.here hx rfl (hb hby at_49) rfl (XS.iconst X183.here hx rfl (hb hby at_50) (XS.icmpYes X183.here hx rfl (pc0 := 51) (pc' := 58) rfl (hb hby at_51) rfl (by decide) (by decide) (by decide) (XS.iconst X183.here hx rfl (hb hby at_58) (XS.istore X183.here hx rfl (hb hby at_59) rfl (l' := #[.val (.int k0), .val (.int mv), .val (.int (5 : Int32)), .val (.ref s_INVOKE_VIRTUAL), .val (.ref s_INVOKE_VIRTUAL_targets), .val (.int (1 : Int32)), .val (.int (0 : Int32)), .unset, .unset, .unset]) rfl (XS.iloadN X183.here hx rfl (hb hby at_61) rfl (XS.iconst X183.here hx rfl (hb hby at_62) (XS.icmpNo X183.here hx rfl (hb hby at_63) rfl (by decide) (XS.iloadN X183.here hx rfl (hb hby at_66) rfl kont)))))))))))) ?_
      show Go _ _ _ _ _ _ _ (T183.setTop (mkF m 67 #[.val (.int k0), .val (.int mv), .val (.int (5 : Int32)), .val (.ref s_INVOKE_VIRTUAL), .val (.ref s_INVOKE_VIRTUAL_targets), .val (.int (1 : Int32)), .val (.int (0 : Int32)), .unset, .unset, .unset] [(.int (5 : Int32))]))
      refine Go.by (fun _ kont => XS.bipush X183.here hx rfl (hb hby at_67) (XS.icmpNo X183.here hx rfl (hb hby at_69) rfl (by decide) (XS.iconst X183.here hx rfl (hb hby at_72) (XS.goto X183.here hx rfl (pc0 := 73) (pc' := 77) rfl (hb hby at_73) (by decide) (by decide) (XS.istore X183.here hx rfl (hb hby at_77) rfl (l' := #[.val (.int k0), .val (.int mv), .val (.int (5 : Int32)), .val (.ref s_INVOKE_VIRTUAL), .val (.ref s_INVOKE_VIRTUAL_targets), .val (.int (1 : Int32)), .val (.int (0 : Int32)), .val (.int (1 : Int32)), .unset, .unset]) rfl (XS.iloadN X183.here hx rfl (hb hby at_79) rfl (XS.bipush X183.here hx rfl (hb hby at_80) (XS.icmpNo X183.here hx rfl (hb hby at_82) rfl (by decide) (XS.iloadN X183.here hx rfl (hb hby at_85) rfl (XS.bipush X183.here hx rfl (hb hby at_86) (XS.icmpNo X183.here hx rfl (hb hby at_88) rfl (by decide) (XS.iloadN X183.here hx rfl (hb hby at_91) rfl kont)))))))))))) ?_
      show Go _ _ _ _ _ _ _ (T183.setTop (mkF m 92 #[.val (.int k0), .val (.int mv), .val (.int (5 : Int32)), .val (.ref s_INVOKE_VIRTUAL), .val (.ref s_INVOKE_VIRTUAL_targets), .val (.int (1 : Int32)), .val (.int (0 : Int32)), .val (.int (1 : Int32)), .unset, .unset] [(.int (5 : Int32))]))
      refine Go.by (fun _ kont => XS.bipush X183.here hx rfl (hb hby at_92) (XS.icmpYes X183.here hx rfl (pc0 := 94) (pc' := 106) rfl (hb hby at_94) rfl (by decide) (by decide) (by decide) (XS.iconst X183.here hx rfl (hb hby at_106) (XS.istore X183.here hx rfl (hb hby at_107) rfl (l' := #[.val (.int k0), .val (.int mv), .val (.int (5 : Int32)), .val (.ref s_INVOKE_VIRTUAL), .val (.ref s_INVOKE_VIRTUAL_targets), .val (.int (1 : Int32)), .val (.int (0 : Int32)), .val (.int (1 : Int32)), .val (.int (0 : Int32)), .unset]) rfl (XS.iload X183.here hx rfl (hb hby at_109) rfl (XS.ifYes X183.here hx rfl (pc0 := 111) (pc' := 118) rfl (hb hby at_111) rfl (by decide) (by decide) (by decide) (XS.iconst X183.here hx rfl (hb hby at_118) (XS.iload X183.here hx rfl (hb hby at_119) rfl (XS.ifNo X183.here hx rfl (hb hby at_121) rfl (by decide) (XS.iconst X183.here hx rfl (hb hby at_124) (XS.goto X183.here hx rfl (pc0 := 125) (pc' := 129) rfl (hb hby at_125) (by decide) (by decide) (XS.iadd X183.here hx rfl (hb hby at_129) rfl kont)))))))))))) ?_
      show Go _ _ _ _ _ _ _ (T183.setTop (mkF m 130 #[.val (.int k0), .val (.int mv), .val (.int (5 : Int32)), .val (.ref s_INVOKE_VIRTUAL), .val (.ref s_INVOKE_VIRTUAL_targets), .val (.int (1 : Int32)), .val (.int (0 : Int32)), .val (.int (1 : Int32)), .val (.int (0 : Int32)), .unset] [(.int ((0 : Int32) + (1 : Int32)))]))
      rw [show ((0 : Int32) + (1 : Int32)) = (1 : Int32) from by decide]
      show Go _ _ _ _ _ _ _ (T183.setTop (mkF m 130 #[.val (.int k0), .val (.int mv), .val (.int (5 : Int32)), .val (.ref s_INVOKE_VIRTUAL), .val (.ref s_INVOKE_VIRTUAL_targets), .val (.int (1 : Int32)), .val (.int (0 : Int32)), .val (.int (1 : Int32)), .val (.int (0 : Int32)), .unset] [(.int (1 : Int32))]))
      refine Go.by (fun _ kont => XS.iload X183.here hx rfl (hb hby at_130) rfl (XS.ifYes X183.here hx rfl (pc0 := 132) (pc' := 139) rfl (hb hby at_132) rfl (by decide) (by decide) (by decide) (XS.iconst X183.here hx rfl (hb hby at_139) (XS.iadd X183.here hx rfl (hb hby at_140) rfl kont)))) ?_
      show Go _ _ _ _ _ _ _ (T183.setTop (mkF m 141 #[.val (.int k0), .val (.int mv), .val (.int (5 : Int32)), .val (.ref s_INVOKE_VIRTUAL), .val (.ref s_INVOKE_VIRTUAL_targets), .val (.int (1 : Int32)), .val (.int (0 : Int32)), .val (.int (1 : Int32)), .val (.int (0 : Int32)), .unset] [(.int ((1 : Int32) + (0 : Int32)))]))
      rw [show ((1 : Int32) + (0 : Int32)) = (1 : Int32) from by decide]
      show Go _ _ _ _ _ _ _ (T183.setTop (mkF m 141 #[.val (.int k0), .val (.int mv), .val (.int (5 : Int32)), .val (.ref s_INVOKE_VIRTUAL), .val (.ref s_INVOKE_VIRTUAL_targets), .val (.int (1 : Int32)), .val (.int (0 : Int32)), .val (.int (1 : Int32)), .val (.int (0 : Int32)), .unset] [(.int (1 : Int32))]))
      refine Go.by (fun _ kont => XS.istore X183.here hx rfl (hb hby at_141) rfl (l' := #[.val (.int k0), .val (.int mv), .val (.int (5 : Int32)), .val (.ref s_INVOKE_VIRTUAL), .val (.ref s_INVOKE_VIRTUAL_targets), .val (.int (1 : Int32)), .val (.int (0 : Int32)), .val (.int (1 : Int32)), .val (.int (0 : Int32)), .val (.int (1 : Int32))]) rfl (XS.aload X183.here hx rfl (hb hby at_143) rfl rfl kont)) ?_
      show Go _ _ _ _ _ _ _ (T183.setTop (mkF m 145 #[.val (.int k0), .val (.int mv), .val (.int (5 : Int32)), .val (.ref s_INVOKE_VIRTUAL), .val (.ref s_INVOKE_VIRTUAL_targets), .val (.int (1 : Int32)), .val (.int (0 : Int32)), .val (.int (1 : Int32)), .val (.int (0 : Int32)), .val (.int (1 : Int32))] [(.ref s_INVOKE_VIRTUAL_targets)]))
      obtain ⟨T184, X184, e184, st184⟩ := getS2 X183 hx hZ hown (host := "") (Or.inl (hw _ (List.mem_of_getElem? (i := 26) rfl))) Via.refl eh183 S_FIELDREF (g := (mkF m 145 #[.val (.int k0), .val (.int mv), .val (.int (5 : Int32)), .val (.ref s_INVOKE_VIRTUAL), .val (.ref s_INVOKE_VIRTUAL_targets), .val (.int (1 : Int32)), .val (.int (0 : Int32)), .val (.int (1 : Int32)), .val (.int (0 : Int32)), .val (.int (1 : Int32))] [(.ref s_INVOKE_VIRTUAL_targets)])) rfl (hb hby at_145)
      refine Go.by st184 ?_
      show Go _ _ _ _ _ _ _ (T184.setTop (mkF m 148 #[.val (.int k0), .val (.int mv), .val (.int (5 : Int32)), .val (.ref s_INVOKE_VIRTUAL), .val (.ref s_INVOKE_VIRTUAL_targets), .val (.int (1 : Int32)), .val (.int (0 : Int32)), .val (.int (1 : Int32)), .val (.int (0 : Int32)), .val (.int (1 : Int32))] [(.ref s_FIELDREF), (.ref s_INVOKE_VIRTUAL_targets)]))
      obtain ⟨cq185, kq185, q185a, q185b, q185c⟩ := isOf hZ e184 E_s_INVOKE_VIRTUAL_targets
      obtain ⟨_, _, ⟨T185, L185, k185, n185⟩, -, X185, ⟨Lc185, hQ185, l185, y185, z185⟩, st185⟩ := X184.virtualBack hx (y := (⟨"com/example/classwright/classwright/KindSet", "contains", "(Ljava/lang/Object;)Z"⟩ : MethodName)) (z := (⟨"com/example/classwright/classwright/KindSet", "contains", "(Ljava/lang/Object;)Z"⟩ : MethodName)) hown (mvT hZ (hw _ (List.mem_of_getElem? (i := 29) rfl))) (mvT hZ (hw _ (List.mem_of_getElem? (i := 30) rfl))) (notFace_of_selects (args := #[]) (mvT hZ (hw _ (List.mem_of_getElem? (i := 32) rfl)))) (mvT hZ (hw _ (List.mem_of_getElem? (i := 32) rfl))) (mvT hZ (hw _ (List.mem_of_getElem? (i := 31) rfl))) (by decide) (backOf (W := 0) (rmC256_7 l Z a0 hw [] s_INVOKE_VIRTUAL_targets s_FIELDREF h0 n0 Z0 E_s_INVOKE_VIRTUAL_targets F_s_INVOKE_VIRTUAL_targets_bits E_s_FIELDREF F_s_FIELDREF_ordinal) hZ (hw _ (List.mem_of_getElem? (i := 34) rfl)) (hw _ (List.mem_of_getElem? (i := 33) rfl)) (by decide) (by decide)) q185a q185c (g := (mkF m 148 #[.val (.int k0), .val (.int mv), .val (.int (5 : Int32)), .val (.ref s_INVOKE_VIRTUAL), .val (.ref s_INVOKE_VIRTUAL_targets), .val (.int (1 : Int32)), .val (.int (0 : Int32)), .val (.int (1 : Int32)), .val (.int (0 : Int32)), .val (.int (1 : Int32))] [(.ref s_FIELDREF), (.ref s_INVOKE_VIRTUAL_targets)])) rfl (by rw [hml]; rfl) (Steps.refl _) (argsL := [(.ref s_FIELDREF)]) (rest := []) (lenOf pd0_3 rfl) rfl (by show 2 * 0 + _ ≤ _; exact Nat.le_of_eq rfl) (hb hby at_148) (fun _ _ => ⟨rfl, e184, (by decide : 0 + 0 ≤ _), (by decide : 0 + 0 ≤ _)⟩)
      dsimp only [Pt.U, Pt.locs, Pt.cells, Pt.slots] at X185 l185 y185 z185 st185 hQ185
      subst l185 y185 z185
      obtain ⟨rfl, N185q, eh185⟩ := hQ185
      have N185 := Fr.app N183 N185q
      refine Go.tr st185 ?_
      show Go _ _ _ _ _ _ _ (T185.setTop (mkF m 151 #[.val (.int k0), .val (.int mv), .val (.int (5 : Int32)), .val (.ref s_INVOKE_VIRTUAL), .val (.ref s_INVOKE_VIRTUAL_targets), .val (.int (1 : Int32)), .val (.int (0 : Int32)), .val (.int (1 : Int32)), .val (.int (0 : Int32)), .val (.int (1 : Int32))] [(.int (0 : Int32))]))
      refine Go.by (fun _ kont => XS.iload X185.here hx rfl (hb hby at_151) rfl (XS.icmpNo X185.here hx rfl (hb hby at_153) rfl (by decide) (XS.aload X185.here hx rfl (hb hby at_156) rfl rfl kont))) ?_
      show Go _ _ _ _ _ _ _ (T185.setTop (mkF m 158 #[.val (.int k0), .val (.int mv), .val (.int (5 : Int32)), .val (.ref s_INVOKE_VIRTUAL), .val (.ref s_INVOKE_VIRTUAL_targets), .val (.int (1 : Int32)), .val (.int (0 : Int32)), .val (.int (1 : Int32)), .val (.int (0 : Int32)), .val (.int (1 : Int32))] [(.ref s_INVOKE_VIRTUAL_targets)]))
      obtain ⟨T186, X186, e186, st186⟩ := getS2 X185 hx hZ hown (host := "") (Or.inl (hw _ (List.mem_of_getElem? (i := 48) rfl))) Via.refl eh185 S_METHODREF (g := (mkF m 158 #[.val (.int k0), .val (.int mv), .val (.int (5 : Int32)), .val (.ref s_INVOKE_VIRTUAL), .val (.ref s_INVOKE_VIRTUAL_targets), .val (.int (1 : Int32)), .val (.int (0 : Int32)), .val (.int (1 : Int32)), .val (.int (0 : Int32)), .val (.int (1 : Int32))] [(.ref s_INVOKE_VIRTUAL_targets)])) rfl (hb hby at_158)
      refine Go.by st186 ?_
      show Go _ _ _ _ _ _ _ (T186.setTop (mkF m 161 #[.val (.int k0), .val (.int mv), .val (.int (5 : Int32)), .val (.ref s_INVOKE_VIRTUAL), .val (.ref s_INVOKE_VIRTUAL_targets), .val (.int (1 : Int32)), .val (.int (0 : Int32)), .val (.int (1 : Int32)), .val (.int (0 : Int32)), .val (.int (1 : Int32))] [(.ref s_METHODREF), (.ref s_INVOKE_VIRTUAL_targets)]))
      obtain ⟨cq187, kq187, q187a, q187b, q187c⟩ := isOf hZ e186 E_s_INVOKE_VIRTUAL_targets
      obtain ⟨_, _, ⟨T187, L187, k187, n187⟩, -, X187, ⟨Lc187, hQ187, l187, y187, z187⟩, st187⟩ := X186.virtualBack hx (y := (⟨"com/example/classwright/classwright/KindSet", "contains", "(Ljava/lang/Object;)Z"⟩ : MethodName)) (z := (⟨"com/example/classwright/classwright/KindSet", "contains", "(Ljava/lang/Object;)Z"⟩ : MethodName)) hown (mvT hZ (hw _ (List.mem_of_getElem? (i := 29) rfl))) (mvT hZ (hw _ (List.mem_of_getElem? (i := 30) rfl))) (notFace_of_selects (args := #[]) (mvT hZ (hw _ (List.mem_of_getElem? (i := 32) rfl)))) (mvT hZ (hw _ (List.mem_of_getElem? (i := 32) rfl))) (mvT hZ (hw _ (List.mem_of_getElem? (i := 31) rfl))) (by decide) (backOf (W := 0) (rmC256_8 l Z a0 hw [] s_INVOKE_VIRTUAL_targets s_METHODREF h0 n0 Z0 E_s_INVOKE_VIRTUAL_targets F_s_INVOKE_VIRTUAL_targets_bits E_s_METHODREF F_s_METHODREF_ordinal) hZ (hw _ (List.mem_of_getElem? (i := 34) rfl)) (hw _ (List.mem_of_getElem? (i := 33) rfl)) (by decide) (by decide)) q187a q187c (g := (mkF m 161 #[.val (.int k0), .val (.int mv), .val (.int (5 : Int32)), .val (.ref s_INVOKE_VIRTUAL), .val (.ref s_INVOKE_VIRTUAL_targets), .val (.int (1 : Int32)), .val (.int (0 : Int32)), .val (.int (1 : Int32)), .val (.int (0 : Int32)), .val (.int (1 : Int32))] [(.ref s_METHODREF), (.ref s_INVOKE_VIRTUAL_targets)])) rfl (by rw [hml]; rfl) (Steps.refl _) (argsL := [(.ref s_METHODREF)]) (rest := []) (lenOf pd0_3 rfl) rfl (by show 2 * 0 + _ ≤ _; exact Nat.le_of_eq rfl) (hb hby at_161) (fun _ _ => ⟨rfl, e186, (by decide : 0 + 0 ≤ _), (by decide : 0 + 0 ≤ _)⟩)
      dsimp only [Pt.U, Pt.locs, Pt.cells, Pt.slots] at X187 l187 y187 z187 st187 hQ187
      subst l187 y187 z187
      obtain ⟨rfl, N187q, eh187⟩ := hQ187
      have N187 := Fr.app N185 N187q
      refine Go.tr st187 ?_
      show Go _ _ _ _ _ _ _ (T187.setTop (mkF m 164 #[.val (.int k0), .val (.int mv), .val (.int (5 : Int32)), .val (.ref s_INVOKE_VIRTUAL), .val (.ref s_INVOKE_VIRTUAL_targets), .val (.int (1 : Int32)), .val (.int (0 : Int32)), .val (.int (1 : Int32)), .val (.int (0 : Int32)), .val (.int (1 : Int32))] [(.int (1 : Int32))]))
      refine Go.by (fun _ kont => XS.iload X187.here hx rfl (hb hby at_164) rfl (XS.icmpNo X187.here hx rfl (hb hby at_166) rfl (by decide) (XS.aload X187.here hx rfl (hb hby at_169) rfl rfl kont))) ?_
      show Go _ _ _ _ _ _ _ (T187.setTop (mkF m 171 #[.val (.int k0), .val (.int mv), .val (.int (5 : Int32)), .val (.ref s_INVOKE_VIRTUAL), .val (.ref s_INVOKE_VIRTUAL_targets), .val (.int (1 : Int32)), .val (.int (0 : Int32)), .val (.int (1 : Int32)), .val (.int (0 : Int32)), .val (.int (1 : Int32))] [(.ref s_INVOKE_VIRTUAL_targets)]))
      obtain ⟨T188, X188, e188, st188⟩ := getS2 X187 hx hZ hown (host := "") (Or.inl (hw _ (List.mem_of_getElem? (i := 50) rfl))) Via.refl eh187 S_INTERFACE_METHODREF (g := (mkF m 171 #[.val (.int k0), .val (.int mv), .val (.int (5 : Int32)), .val (.ref s_INVOKE_VIRTUAL), .val (.ref s_INVOKE_VIRTUAL_targets), .val (.int (1 : Int32)), .val (.int (0 : Int32)), .val (.int (1 : Int32)), .val (.int (0 : Int32)), .val (.int (1 : Int32))] [(.ref s_INVOKE_VIRTUAL_targets)])) rfl (hb hby at_171)
      refine Go.by st188 ?_
      show Go _ _ _ _ _ _ _ (T188.setTop (mkF m 174 #[.val (.int k0), .val (.int mv), .val (.int (5 : Int32)), .val (.ref s_INVOKE_VIRTUAL), .val (.ref s_INVOKE_VIRTUAL_targets), .val (.int (1 : Int32)), .val (.int (0 : Int32)), .val (.int (1 : Int32)), .val (.int (0 : Int32)), .val (.int (1 : Int32))] [(.ref s_INTERFACE_METHODREF), (.ref s_INVOKE_VIRTUAL_targets)]))
      obtain ⟨cq189, kq189, q189a, q189b, q189c⟩ := isOf hZ e188 E_s_INVOKE_VIRTUAL_targets
      obtain ⟨_, _, ⟨T189, L189, k189, n189⟩, -, X189, ⟨Lc189, hQ189, l189, y189, z189⟩, st189⟩ := X188.virtualBack hx (y := (⟨"com/example/classwright/classwright/KindSet", "contains", "(Ljava/lang/Object;)Z"⟩ : MethodName)) (z := (⟨"com/example/classwright/classwright/KindSet", "contains", "(Ljava/lang/Object;)Z"⟩ : MethodName)) hown (mvT hZ (hw _ (List.mem_of_getElem? (i := 29) rfl))) (mvT hZ (hw _ (List.mem_of_getElem? (i := 30) rfl))) (notFace_of_selects (args := #[]) (mvT hZ (hw _ (List.mem_of_getElem? (i := 32) rfl)))) (mvT hZ (hw _ (List.mem_of_getElem? (i := 32) rfl))) (mvT hZ (hw _ (List.mem_of_getElem? (i := 31) rfl))) (by decide) (backOf (W := 0) (rmC256_9 l Z a0 hw [] s_INVOKE_VIRTUAL_targets s_INTERFACE_METHODREF h0 n0 Z0 E_s_INVOKE_VIRTUAL_targets F_s_INVOKE_VIRTUAL_targets_bits E_s_INTERFACE_METHODREF F_s_INTERFACE_METHODREF_ordinal) hZ (hw _ (List.mem_of_getElem? (i := 34) rfl)) (hw _ (List.mem_of_getElem? (i := 33) rfl)) (by decide) (by decide)) q189a q189c (g := (mkF m 174 #[.val (.int k0), .val (.int mv), .val (.int (5 : Int32)), .val (.ref s_INVOKE_VIRTUAL), .val (.ref s_INVOKE_VIRTUAL_targets), .val (.int (1 : Int32)), .val (.int (0 : Int32)), .val (.int (1 : Int32)), .val (.int (0 : Int32)), .val (.int (1 : Int32))] [(.ref s_INTERFACE_METHODREF), (.ref s_INVOKE_VIRTUAL_targets)])) rfl (by rw [hml]; rfl) (Steps.refl _) (argsL := [(.ref s_INTERFACE_METHODREF)]) (rest := []) (lenOf pd0_3 rfl) rfl (by show 2 * 0 + _ ≤ _; exact Nat.le_of_eq rfl) (hb hby at_174) (fun _ _ => ⟨rfl, e188, (by decide : 0 + 0 ≤ _), (by decide : 0 + 0 ≤ _)⟩)
      dsimp only [Pt.U, Pt.locs, Pt.cells, Pt.slots] at X189 l189 y189 z189 st189 hQ189
      subst l189 y189 z189
      obtain ⟨rfl, N189q, eh189⟩ := hQ189
      have N189 := Fr.app N187 N189q
      refine Go.tr st189 ?_
      show Go _ _ _ _ _ _ _ (T189.setTop (mkF m 177 #[.val (.int k0), .val (.int mv), .val (.int (5 : Int32)), .val (.ref s_INVOKE_VIRTUAL), .val (.ref s_INVOKE_VIRTUAL_targets), .val (.int (1 : Int32)), .val (.int (0 : Int32)), .val (.int (1 : Int32)), .val (.int (0 : Int32)), .val (.int (1 : Int32))] [(.int (0 : Int32))]))
      refine Go.by (fun _ kont => XS.iload X189.here hx rfl (hb hby at_177) rfl (XS.icmpNo X189.here hx rfl (hb hby at_179) rfl (by decide) (XS.aload X189.here hx rfl (hb hby at_182) rfl rfl kont))) ?_
      show Go _ _ _ _ _ _ _ (T189.setTop (mkF m 184 #[.val (.int k0), .val (.int mv), .val (.int (5 : Int32)), .val (.ref s_INVOKE_VIRTUAL), .val (.ref s_INVOKE_VIRTUAL_targets), .val (.int (1 : Int32)), .val (.int (0 : Int32)), .val (.int (1 : Int32)), .val (.int (0 : Int32)), .val (.int (1 : Int32))] [(.ref s_INVOKE_VIRTUAL_targets)]))
      obtain ⟨cq190, kq190, q190a, q190b, q190c⟩ := isOf hZ eh189 E_s_INVOKE_VIRTUAL_targets
      obtain ⟨_, _, ⟨T190, L190, k190, n190⟩, -, X190, ⟨Lc190, hQ190, l190, y190, z190⟩, st190⟩ := X189.virtualBack hx (y := (⟨"com/example/classwright/classwright/KindSet", "size", "()I"⟩ : MethodName)) (z := (⟨"com/example/classwright/classwright/KindSet", "size", "()I"⟩ : MethodName)) hown (mvT hZ (hw _ (List.mem_of_getElem? (i := 52) rfl))) (mvT hZ (hw _ (List.mem_of_getElem? (i := 53) rfl))) (notFace_of_selects (args := #[]) (mvT hZ (hw _ (List.mem_of_getElem? (i := 55) rfl)))) (mvT hZ (hw _ (List.mem_of_getElem? (i := 55) rfl))) (mvT hZ (hw _ (List.mem_of_getElem? (i := 54) rfl))) (by decide) (backOf (W := 0) (rmS256 l Z a0 hw [] s_INVOKE_VIRTUAL_targets h0 n0 Z0 E_s_INVOKE_VIRTUAL_targets F_s_INVOKE_VIRTUAL_targets_bits) hZ (hw _ (List.mem_of_getElem? (i := 56) rfl)) (hw _ (List.mem_of_getElem? (i := 33) rfl)) (by decide) (by decide)) q190a q190c (g := (mkF m 184 #[.val (.int k0), .val (.int mv), .val (.int (5 : Int32)), .val (.ref s_INVOKE_VIRTUAL), .val (.ref s_INVOKE_VIRTUAL_targets), .val (.int (1 : Int32)), .val (.int (0 : Int32)), .val (.int (1 : Int32)), .val (.int (0 : Int32)), .val (.int (1 : Int32))] [(.ref s_INVOKE_VIRTUAL_targets)])) rfl (by rw [hml]; rfl) (Steps.refl _) (argsL := []) (rest := []) (lenOf pd0_1 rfl) rfl (by show 2 * 0 + _ ≤ _; exact Nat.le_of_eq rfl) (hb hby at_184) (fun _ _ => ⟨rfl, eh189, (by decide : 0 + 0 ≤ _), (by decide : 0 + 0 ≤ _)⟩)
      dsimp only [Pt.U, Pt.locs, Pt.cells, Pt.slots] at X190 l190 y190 z190 st190 hQ190
      subst l190 y190 z190
      obtain ⟨rfl, N190q, eh190⟩ := hQ190
      have N190 := Fr.app N189 N190q
      refine Go.tr st190 ?_
      show Go _ _ _ _ _ _ _ (T190.setTop (mkF m 187 #[.val (.int k0), .val (.int mv), .val (.int (5 : Int32)), .val (.ref s_INVOKE_VIRTUAL), .val (.ref s_INVOKE_VIRTUAL_targets), .val (.int (1 : Int32)), .val (.int (0 : Int32)), .val (.int (1 : Int32)), .val (.int (0 : Int32)), .val (.int (1 : Int32))] [(.int (1 : Int32))]))
      refine Go.by (fun _ kont => XS.iload X190.here hx rfl (hb hby at_187) rfl (XS.icmpNo X190.here hx rfl (hb hby at_189) rfl (by decide) (XS.iconst X190.here hx rfl (hb hby at_192) (XS.goto X190.here hx rfl (pc0 := 193) (pc' := 197) rfl (hb hby at_193) (by decide) (by decide) kont)))) ?_
      show Go _ _ _ _ _ _ _ (T190.setTop (mkF m 197 #[.val (.int k0), .val (.int mv), .val (.int (5 : Int32)), .val (.ref s_INVOKE_VIRTUAL), .val (.ref s_INVOKE_VIRTUAL_targets), .val (.int (1 : Int32)), .val (.int (0 : Int32)), .val (.int (1 : Int32)), .val (.int (0 : Int32)), .val (.int (1 : Int32))] [(.int (1 : Int32))]))
      refine Go.retN X190 hx (t := .boolean) hret (by simp) hlk (hb hby at_197) ?_ (by decide) (by decide)
      show Q0 Z h0 n0 (some (.int (1 : Int32))) T190.heap _
      rw [eh190]
      exact ⟨rfl, N190⟩
  · show Go _ _ _ _ _ _ _ (s₁.setTop (mkF m 10 #[.val (.int k0), .val (.int mv), .val (.int (6 : Int32)), .unset, .unset, .unset, .unset, .unset, .unset, .unset] []))
    refine Go.by (fun _ kont => XS.iloadN X0.here hx rfl (hb hby at_10) rfl kont) ?_
    show Go _ _ _ _ _ _ _ (s₁.setTop (mkF m 11 #[.val (.int k0), .val (.int mv), .val (.int (6 : Int32)), .unset, .unset, .unset, .unset, .unset, .unset, .unset] [(.int (6 : Int32))]))
    obtain ⟨_, _, ⟨T191, L191, k191, n191⟩, -, X191, ⟨Lc191, hQ191, l191, y191, z191⟩, st191⟩ := Jvm.LawKit.callS X0 hx (y := (⟨"com/example/classwright/classwright/ReferenceKind", "forByte", "(I)Lcom/example/classwright/classwright/ReferenceKind;"⟩ : MethodName)) hown (mvT hZ (hw _ (List.mem_of_getElem? (i := 1) rfl))) (mvT hZ (hw _ (List.mem_of_getElem? (i := 2) rfl))) (mvT hZ (hw _ (List.mem_of_getElem? (i := 3) rfl))) (mvT hZ (hw _ (List.mem_of_getElem? (i := 4) rfl))) (by decide) (backOf (W := 0) (rmF6 l Z a0 hw [] s_BY_VALUE kc_s_BY_VALUE s_GET_FIELD s_GET_STATIC s_PUT_FIELD s_PUT_STATIC s_INVOKE_VIRTUAL s_INVOKE_STATIC s_INVOKE_SPECIAL s_NEW_INVOKE_SPECIAL s_INVOKE_INTERFACE h0 n0 Z0 V_s_BY_VALUE S_BY_VALUE) hZ (hw _ (List.mem_of_getElem? (i := 4) rfl)) (hw _ (List.mem_of_getElem? (i := 3) rfl)) (by decide) (by decide)) (g := (mkF m 11 #[.val (.int k0), .val (.int mv), .val (.int (6 : Int32)), .unset, .unset, .unset, .unset, .unset, .unset, .unset] [(.int (6 : Int32))])) rfl (by rw [hml]; rfl) (argsL := [(.int (6 : Int32))]) (rest := []) (lenOf pd0_0 rfl) rfl (by show 2 * 0 + _ ≤ _; exact Nat.le_of_eq rfl) (hb hby at_11) (fun _ _ => ⟨rfl, e0, (by decide : 0 + 0 ≤ _), (by decide : 0 + 0 ≤ _)⟩)
    dsimp only [Pt.U, Pt.locs, Pt.cells, Pt.slots] at X191 l191 y191 z191 st191 hQ191
    subst l191 y191 z191
    obtain ⟨rfl, N191q, eh191⟩ := hQ191
    have N191 := Fr.app N0 N191q
    refine Go.by st191 ?_
    show Go _ _ _ _ _ _ _ (T191.setTop (mkF m 14 #[.val (.int k0), .val (.int mv), .val (.int (6 : Int32)), .unset, .unset, .unset, .unset, .unset, .unset, .unset] [(.ref s_INVOKE_STATIC)]))
    refine Go.by (fun _ kont => XS.astoreN X191.here hx rfl (hb hby at_14) rfl rfl (l' := #[.val (.int k0), .val (.int mv), .val (.int (6 : Int32)), .val (.ref s_INVOKE_STATIC), .unset, .unset, .unset, .unset, .unset, .unset]) rfl (XS.aloadN X191.here hx rfl (hb hby at_15) rfl rfl (XS.ifnullNo X191.here hx rfl (hb hby at_16) rfl (XS.aloadN X191.here hx rfl (hb hby at_19) rfl rfl kont)))) ?_
    show Go _ _ _ _ _ _ _ (T191.setTop (mkF m 20 #[.val (.int k0), .val (.int mv), .val (.int (6 : Int32)), .val (.ref s_INVOKE_STATIC), .unset, .unset, .unset, .unset, .unset, .unset] [(.ref s_INVOKE_STATIC)]))
    obtain ⟨cq192, kq192, q192a, q192b, q192c⟩ := isOf hZ eh191 E_s_INVOKE_STATIC
    obtain ⟨_, _, ⟨T192, L192, k192, n192⟩, -, X192, ⟨Lc192, hQ192, l192, y192, z192⟩, st192⟩ := X191.virtualBack hx (y := (⟨"com/example/classwright/classwright/ReferenceKind", "value", "()I"⟩ : MethodName)) (z := (⟨"com/example/classwright/classwright/ReferenceKind", "value", "()I"⟩ : MethodName)) hown (mvT hZ (hw _ (List.mem_of_getElem? (i := 8) rfl))) (mvT hZ (hw _ (List.mem_of_getElem? (i := 9) rfl))) (notFace_of_selects (args := #[]) (mvT hZ (hw _ (List.mem_of_getElem? (i := 11) rfl)))) (mvT hZ (hw _ (List.mem_of_getElem? (i := 11) rfl))) (mvT hZ (hw _ (List.mem_of_getElem? (i := 10) rfl))) (by decide) (backOf (W := 0) (rmV l Z a0 hw [] s_INVOKE_STATIC (6 : Int32) h0 n0 Z0 E_s_INVOKE_STATIC F_s_INVOKE_STATIC_value) hZ (hw _ (List.mem_of_getElem? (i := 12) rfl)) (hw _ (List.mem_of_getElem? (i := 3) rfl)) (by decide) (by decide)) q192a q192c (g := (mkF m 20 #[.val (.int k0), .val (.int mv), .val (.int (6 : Int32)), .val (.ref s_INVOKE_STATIC), .unset, .unset, .unset, .unset, .unset, .unset] [(.ref s_INVOKE_STATIC)])) rfl (by rw [hml]; rfl) (Steps.refl _) (argsL := []) (rest := []) (lenOf pd0_1 rfl) rfl (by show 2 * 0 + _ ≤ _; exact Nat.le_of_eq rfl) (hb hby at_20) (fun _ _ => ⟨rfl, eh191, (by decide : 0 + 0 ≤ _), (by decide : 0 + 0 ≤ _)⟩)
    dsimp only [Pt.U, Pt.locs, Pt.cells, Pt.slots] at X192 l192 y192 z192 st192 hQ192
    subst l192 y192 z192
    obtain ⟨rfl, N192q, eh192⟩ := hQ192
    have N192 := Fr.app N191 N192q
    refine Go.tr st192 ?_
    show Go _ _ _ _ _ _ _ (T192.setTop (mkF m 23 #[.val (.int k0), .val (.int mv), .val (.int (6 : Int32)), .val (.ref s_INVOKE_STATIC), .unset, .unset, .unset, .unset, .unset, .unset] [(.int (6 : Int32))]))
    refine Go.by (fun _ kont => XS.iloadN X192.here hx rfl (hb hby at_23) rfl (XS.icmpYes X192.here hx rfl (pc0 := 24) (pc' := 29) rfl (hb hby at_24) rfl (by decide) (by decide) (by decide) kont)) ?_
    show Go _ _ _ _ _ _ _ (T192.setTop (mkF m 29 #[.val (.int k0), .val (.int mv), .val (.int (6 : Int32)), .val (.ref s_INVOKE_STATIC), .unset, .unset, .unset, .unset, .unset, .unset] []))
    by_cases hmv : mv < (52 : Int32)
    · show Go _ _ _ _ _ _ _ (T192.setTop (mkF m 29 #[.val (.int k0), .val (.int mv), .val (.int (6 : Int32)), .val (.ref s_INVOKE_STATIC), .unset, .unset, .unset, .unset, .unset, .unset] []))
      refine Go.by (fun _ kont => XS.aloadN X192.here hx rfl (hb hby at_29) rfl rfl (XS.iloadN X192.here hx rfl (hb hby at_30) rfl kont)) ?_
      show Go _ _ _ _ _ _ _ (T192.setTop (mkF m 31 #[.val (.int k0), .val (.int mv), .val (.int (6 : Int32)), .val (.ref s_INVOKE_STATIC), .unset, .unset, .unset, .unset, .unset, .unset] [(.int mv), (.ref s_INVOKE_STATIC)]))
      obtain ⟨cq193, kq193, q193a, q193b, q193c⟩ := isOf hZ eh192 E_s_INVOKE_STATIC
      obtain ⟨_, _, ⟨T193, L193, k193, n193⟩, -, X193, ⟨Lc193, hQ193, l193, y193, z193⟩, st193⟩ := X192.virtualBack hx (y := (⟨"com/example/classwright/classwright/ReferenceKind", "targetKinds", "(I)Lcom/example/classwright/classwright/KindSet;"⟩ : MethodName)) (z := (⟨"com/example/classwright/classwright/ReferenceKind", "targetKinds", "(I)Lcom/example/classwright/classwright/KindSet;"⟩ : MethodName)) hown (mvT hZ (hw _ (List.mem_of_getElem? (i := 15) rfl))) (mvT hZ (hw _ (List.mem_of_getElem? (i := 16) rfl))) (notFace_of_selects (args := #[]) (mvT hZ (hw _ (List.mem_of_getElem? (i := 18) rfl)))) (mvT hZ (hw _ (List.mem_of_getElem? (i := 18) rfl))) (mvT hZ (hw _ (List.mem_of_getElem? (i := 17) rfl))) (by decide) (backOf (W := 0) (rmTs l Z a0 hw [] s_INVOKE_STATIC mv s_INVOKE_STATIC_targets s_INVOKE_SPECIAL s_METHODREF_ h0 n0 Z0 E_s_INVOKE_STATIC F_s_INVOKE_STATIC_targets S_INVOKE_STATIC S_INVOKE_SPECIAL S_METHODREF_ hmv) hZ (hw _ (List.mem_of_getElem? (i := 19) rfl)) (hw _ (List.mem_of_getElem? (i := 3) rfl)) (by decide) (by decide)) q193a q193c (g := (mkF m 31 #[.val (.int k0), .val (.int mv), .val (.int (6 : Int32)), .val (.ref s_INVOKE_STATIC), .unset, .unset, .unset, .unset, .unset, .unset] [(.int mv), (.ref s_INVOKE_STATIC)])) rfl (by rw [hml]; rfl) (Steps.refl _) (argsL := [(.int mv)]) (rest := []) (lenOf pd0_2 rfl) rfl (by show 2 * 0 + _ ≤ _; exact Nat.le_of_eq rfl) (hb hby at_31) (fun _ _ => ⟨rfl, eh192, (by decide : 0 + 0 ≤ _), (by decide : 0 + 0 ≤ _)⟩)
      dsimp only [Pt.U, Pt.locs, Pt.cells, Pt.slots] at X193 l193 y193 z193 st193 hQ193
      subst l193 y193 z193
      obtain ⟨rfl, N193q, eh193⟩ := hQ193
      have N193 := Fr.app N192 N193q
      refine Go.tr st193 ?_
      show Go _ _ _ _ _ _ _ (T193.setTop (mkF m 34 #[.val (.int k0), .val (.int mv), .val (.int (6 : Int32)), .val (.ref s_INVOKE_STATIC), .unset, .unset, .unset, .unset, .unset, .unset] [(.ref s_METHODREF_)]))
      refine Go.by (fun _ kont => XS.astore X193.here hx rfl (hb hby at_34) rfl rfl (l' := #[.val (.int k0), .val (.int mv), .val (.int (6 : Int32)), .val (.ref s_INVOKE_STATIC), .val (.ref s_METHODREF_), .unset, .unset, .unset, .unset, .unset]) rfl (XS.iloadN X193.here hx rfl (hb hby at_36) rfl (XS.bipush X193.here hx rfl (hb hby at_37) kont))) ?_
      show Go _ _ _ _ _ _ _ (T193.setTop (mkF m 39 #[.val (.int k0), .val (.int mv), .val (.int (6 : Int32)), .val (.ref s_INVOKE_STATIC), .val (.ref s_METHODREF_), .unset, .unset, .unset, .unset, .unset] [(.int (52 : Int32)), (.int mv)]))
      refine Go.by (fun _ kont => XS.icmpYes X193.here hx rfl (pc0 := 39) (pc' := 46) rfl (hb hby at_39) rfl (tlt hmv).1 (by decide) (by decide) kont) ?_
      show Go _ _ _ _ _ _ _ (T193.setTop (mkF m 46 #[.val (.int k0), .val (.int mv), .val (.int (6 : Int32)), .val (.ref s_INVOKE_STATIC), .val (.ref s_METHODREF_), .unset, .unset, .unset, .unset, .unset] []))
      refine Go.by (fun _ kont => XS.iconst X193.here hx rfl (hb hby at_46) (XS.istore X193.here hx rfl (hb hby at_47) rfl (l' := #[.val (.int k0), .val (.int mv), .val (.int (6 : Int32)), .val (.ref s_INVOKE_STATIC), .val (.ref s_METHODREF_), .val (.int (0 : Int32)), .unset, .unset, .unset, .unset]) rfl (XS.iloadN X193.here hx rfl (hb hby at_49) rfl (XS.iconst X193.here hx rfl (hb hby at_50) (XS.icmpYes X193.here hx rfl (pc0 := 51) (pc' := 58) rfl (hb hby at_51) rfl (by decide) (by decide) (by decide) (XS.iconst X193.here hx rfl (hb hby at_58) (XS.istore X193.here hx rfl (hb hby at_59) rfl (l' := #[.val (.int k0), .val (.int mv), .val (.int (6 : Int32)), .val (.ref s_INVOKE_STATIC), .val (.ref s_METHODREF_), .val (.int (0 : Int32)), .val (.int (0 : Int32)), .unset, .unset, .unset]) rfl (XS.iloadN X193.here hx rfl (hb hby at_61) rfl (XS.iconst X193.here hx rfl (hb hby at_62) (XS.icmpNo X193.here hx rfl (hb hby at_63) rfl (by decide) (XS.iloadN X193.here hx rfl (hb hby at_66) rfl (XS.bipush X193.here hx rfl (hb hby at_67) kont)))))))))))) ?_
      show Go _ _ _ _ _ _ _ (T193.setTop (mkF m 69 #[.val (.int k0), .val (.int mv), .val (.int (6 : Int32)), .val (.ref s_INVOKE_STATIC), .val (.ref s_METHODREF_), .val (.int (0 : Int32)), .val (.int (0 : Int32)), .unset, .unset, .unset] [(.int (8 : Int32)), (.int (6 : Int32))]))
      refine Go.by (fun _ kont => XS.icmpNo X193.here hx rfl (hb hby at_69) rfl (by decide) (XS.iconst X193.here hx rfl (hb hby at_72) (XS.goto X193.here hx rfl (pc0 := 73) (pc' := 77) rfl (hb hby at_73) (by decide) (by decide) (XS.istore X193.here hx rfl (hb hby at_77) rfl (l' := #[.val (.int k0), .val (.int mv), .val (.int (6 : Int32)), .val (.ref s_INVOKE_STATIC), .val (.ref s_METHODREF_), .val (.int (0 : Int32)), .val (.int (0 : Int32)), .val (.int (1 : Int32)), .unset, .unset]) rfl (XS.iloadN X193.here hx rfl (hb hby at_79) rfl (XS.bipush X193.here hx rfl (hb hby at_80) (XS.icmpNo X193.here hx rfl (hb hby at_82) rfl (by decide) (XS.iloadN X193.here hx rfl (hb hby at_85) rfl (XS.bipush X193.here hx rfl (hb hby at_86) (XS.icmpYes X193.here hx rfl (pc0 := 88) (pc' := 97) rfl (hb hby at_88) rfl (by decide) (by decide) (by decide) (XS.iload X193.here hx rfl (hb hby at_97) rfl (XS.ifYes X193.here hx rfl (pc0 := 99) (pc' := 106) rfl (hb hby at_99) rfl (by decide) (by decide) (by decide) kont)))))))))))) ?_
      show Go _ _ _ _ _ _ _ (T193.setTop (mkF m 106 #[.val (.int k0), .val (.int mv), .val (.int (6 : Int32)), .val (.ref s_INVOKE_STATIC), .val (.ref s_METHODREF_), .val (.int (0 : Int32)), .val (.int (0 : Int32)), .val (.int (1 : Int32)), .unset, .unset] []))
      refine Go.by (fun _ kont => XS.iconst X193.here hx rfl (hb hby at_106) (XS.istore X193.here hx rfl (hb hby at_107) rfl (l' := #[.val (.int k0), .val (.int mv), .val (.int (6 : Int32)), .val (.ref s_INVOKE_STATIC), .val (.ref s_METHODREF_), .val (.int (0 : Int32)), .val (.int (0 : Int32)), .val (.int (1 : Int32)), .val (.int (0 : Int32)), .unset]) rfl (XS.iload X193.here hx rfl (hb hby at_109) rfl (XS.ifYes X193.here hx rfl (pc0 := 111) (pc' := 118) rfl (hb hby at_111) rfl (by decide) (by decide) (by decide) (XS.iconst X193.here hx rfl (hb hby at_118) (XS.iload X193.here hx rfl (hb hby at_119) rfl (XS.ifNo X193.here hx rfl (hb hby at_121) rfl (by decide) (XS.iconst X193.here hx rfl (hb hby at_124) (XS.goto X193.here hx rfl (pc0 := 125) (pc' := 129) rfl (hb hby at_125) (by decide) (by decide) (XS.iadd X193.here hx rfl (hb hby at_129) rfl kont)))))))))) ?_
      show Go _ _ _ _ _ _ _ (T193.setTop (mkF m 130 #[.val (.int k0), .val (.int mv), .val (.int (6 : Int32)), .val (.ref s_INVOKE_STATIC), .val (.ref s_METHODREF_), .val (.int (0 : Int32)), .val (.int (0 : Int32)), .val (.int (1 : Int32)), .val (.int (0 : Int32)), .unset] [(.int ((0 : Int32) + (1 : Int32)))]))
      rw [show ((0 : Int32) + (1 : Int32)) = (1 : Int32) from by decide]
      show Go _ _ _ _ _ _ _ (T193.setTop (mkF m 130 #[.val (.int k0), .val (.int mv), .val (.int (6 : Int32)), .val (.ref s_INVOKE_STATIC), .val (.ref s_METHODREF_), .val (.int (0 : Int32)), .val (.int (0 : Int32)), .val (.int (1 : Int32)), .val (.int (0 : Int32)), .unset] [(.int (1 : Int32))]))
      refine Go.by (fun _ kont => XS.iload X193.here hx rfl (hb hby at_130) rfl (XS.ifYes X193.here hx rfl (pc0 := 132) (pc' := 139) rfl (hb hby at_132) rfl (by decide) (by decide) (by decide) (XS.iconst X193.here hx rfl (hb hby at_139) (XS.iadd X193.here hx rfl (hb hby at_140) rfl kont)))) ?_
      show Go _ _ _ _ _ _ _ (T193.setTop (mkF m 141 #[.val (.int k0), .val (.int mv), .val (.int (6 : Int32)), .val (.ref s_INVOKE_STATIC), .val (.ref s_METHODREF_), .val (.int (0 : Int32)), .val (.int (0 : Int32)), .val (.int (1 : Int32)), .val (.int (0 : Int32)), .unset] [(.int ((1 : Int32) + (0 : Int32)))]))
      rw [show ((1 : Int32) + (0 : Int32)) = (1 : Int32) from by decide]
      show Go _ _ _ _ _ _ _ (T193.setTop (mkF m 141 #[.val (.int k0), .val (.int mv), .val (.int (6 : Int32)), .val (.ref s_INVOKE_STATIC), .val (.ref s_METHODREF_), .val (.int (0 : Int32)), .val (.int (0 : Int32)), .val (.int (1 : Int32)), .val (.int (0 : Int32)), .unset] [(.int (1 : Int32))]))
      refine Go.by (fun _ kont => XS.istore X193.here hx rfl (hb hby at_141) rfl (l' := #[.val (.int k0), .val (.int mv), .val (.int (6 : Int32)), .val (.ref s_INVOKE_STATIC), .val (.ref s_METHODREF_), .val (.int (0 : Int32)), .val (.int (0 : Int32)), .val (.int (1 : Int32)), .val (.int (0 : Int32)), .val (.int (1 : Int32))]) rfl (XS.aload X193.here hx rfl (hb hby at_143) rfl rfl kont)) ?_
      show Go _ _ _ _ _ _ _ (T193.setTop (mkF m 145 #[.val (.int k0), .val (.int mv), .val (.int (6 : Int32)), .val (.ref s_INVOKE_STATIC), .val (.ref s_METHODREF_), .val (.int (0 : Int32)), .val (.int (0 : Int32)), .val (.int (1 : Int32)), .val (.int (0 : Int32)), .val (.int (1 : Int32))] [(.ref s_METHODREF_)]))
      obtain ⟨T194, X194, e194, st194⟩ := getS2 X193 hx hZ hown (host := "") (Or.inl (hw _ (List.mem_of_getElem? (i := 26) rfl))) Via.refl eh193 S_FIELDREF (g := (mkF m 145 #[.val (.int k0), .val (.int mv), .val (.int (6 : Int32)), .val (.ref s_INVOKE_STATIC), .val (.ref s_METHODREF_), .val (.int (0 : Int32)), .val (.int (0 : Int32)), .val (.int (1 : Int32)), .val (.int (0 : Int32)), .val (.int (1 : Int32))] [(.ref s_METHODREF_)])) rfl (hb hby at_145)
      refine Go.by st194 ?_
      show Go _ _ _ _ _ _ _ (T194.setTop (mkF m 148 #[.val (.int k0), .val (.int mv), .val (.int (6 : Int32)), .val (.ref s_INVOKE_STATIC), .val (.ref s_METHODREF_), .val (.int (0 : Int32)), .val (.int (0 : Int32)), .val (.int (1 : Int32)), .val (.int (0 : Int32)), .val (.int (1 : Int32))] [(.ref s_FIELDREF), (.ref s_METHODREF_)]))
      obtain ⟨cq195, kq195, q195a, q195b, q195c⟩ := isOf hZ e194 E_s_METHODREF_
      obtain ⟨_, _, ⟨T195, L195, k195, n195⟩, -, X195, ⟨Lc195, hQ195, l195, y195, z195⟩, st195⟩ := X194.virtualBack hx (y := (⟨"com/example/classwright/classwright/KindSet", "contains", "(Ljava/lang/Object;)Z"⟩ : MethodName)) (z := (⟨"com/example/classwright/classwright/KindSet", "contains", "(Ljava/lang/Object;)Z"⟩ : MethodName)) hown (mvT hZ (hw _ (List.mem_of_getElem? (i := 29) rfl))) (mvT hZ (hw _ (List.mem_of_getElem? (i := 30) rfl))) (notFace_of_selects (args := #[]) (mvT hZ (hw _ (List.mem_of_getElem? (i := 32) rfl)))) (mvT hZ (hw _ (List.mem_of_getElem? (i := 32) rfl))) (mvT hZ (hw _ (List.mem_of_getElem? (i := 31) rfl))) (by decide) (backOf (W := 0) (rmC256_7 l Z a0 hw [] s_METHODREF_ s_FIELDREF h0 n0 Z0 E_s_METHODREF_ F_s_METHODREF__bits E_s_FIELDREF F_s_FIELDREF_ordinal) hZ (hw _ (List.mem_of_getElem? (i := 34) rfl)) (hw _ (List.mem_of_getElem? (i := 33) rfl)) (by decide) (by decide)) q195a q195c (g := (mkF m 148 #[.val (.int k0), .val (.int mv), .val (.int (6 : Int32)), .val (.ref s_INVOKE_STATIC), .val (.ref s_METHODREF_), .val (.int (0 : Int32)), .val (.int (0 : Int32)), .val (.int (1 : Int32)), .val (.int (0 : Int32)), .val (.int (1 : Int32))] [(.ref s_FIELDREF), (.ref s_METHODREF_)])) rfl (by rw [hml]; rfl) (Steps.refl _) (argsL := [(.ref s_FIELDREF)]) (rest := []) (lenOf pd0_3 rfl) rfl (by show 2 * 0 + _ ≤ _; exact Nat.le_of_eq rfl) (hb hby at_148) (fun _ _ => ⟨rfl, e194, (by decide : 0 + 0 ≤ _), (by decide : 0 + 0 ≤ _)⟩)
      dsimp only [Pt.U, Pt.locs, Pt.cells, Pt.slots] at X195 l195 y195 z195 st195 hQ195
      subst l195 y195 z195
      obtain ⟨rfl, N195q, eh195⟩ := hQ195
      have N195 := Fr.app N193 N195q
      refine Go.tr st195 ?_
      show Go _ _ _ _ _ _ _ (T195.setTop (mkF m 151 #[.val (.int k0), .val (.int mv), .val (.int (6 : Int32)), .val (.ref s_INVOKE_STATIC), .val (.ref s_METHODREF_), .val (.int (0 : Int32)), .val (.int (0 : Int32)), .val (.int (1 : Int32)), .val (.int (0 : Int32)), .val (.int (1 : Int32))] [(.int (0 : Int32))]))
      refine Go.by (fun _ kont => XS.iload X195.here hx rfl (hb hby at_151) rfl (XS.icmpNo X195.here hx rfl (hb hby at_153) rfl (by decide) (XS.aload X195.here hx rfl (hb hby at_156) rfl rfl kont))) ?_
      show Go _ _ _ _ _ _ _ (T195.setTop (mkF m 158 #[.val (.int k0), .val (.int mv), .val (.int (6 : Int32)), .val (.ref s_INVOKE_STATIC), .val (.ref s_METHODREF_), .val (.int (0 : Int32)), .val (.int (0 : Int32)), .val (.int (1 : Int32)), .val (.int (0 : Int32)), .val (.int (1 : Int32))] [(.ref s_METHODREF_)]))
      obtain ⟨T196, X196, e196, st196⟩ := getS2 X195 hx hZ hown (host := "") (Or.inl (hw _ (List.mem_of_getElem? (i := 48) rfl))) Via.refl eh195 S_METHODREF (g := (mkF m 158 #[.val (.int k0), .val (.int mv), .val (.int (6 : Int32)), .val (.ref s_INVOKE_STATIC), .val (.ref s_METHODREF_), .val (.int (0 : Int32)), .val (.int (0 : Int32)), .val (.int (1 : Int32)), .val (.int (0 : Int32)), .val (.int (1 : Int32))] [(.ref s_METHODREF_)])) rfl (hb hby at_158)
      refine Go.by st196 ?_
      show Go _ _ _ _ _ _ _ (T196.setTop (mkF m 161 #[.val (.int k0), .val (.int mv), .val (.int (6 : Int32)), .val (.ref s_INVOKE_STATIC), .val (.ref s_METHODREF_), .val (.int (0 : Int32)), .val (.int (0 : Int32)), .val (.int (1 : Int32)), .val (.int (0 : Int32)), .val (.int (1 : Int32))] [(.ref s_METHODREF), (.ref s_METHODREF_)]))
      obtain ⟨cq197, kq197, q197a, q197b, q197c⟩ := isOf hZ e196 E_s_METHODREF_
      obtain ⟨_, _, ⟨T197, L197, k197, n197⟩, -, X197, ⟨Lc197, hQ197, l197, y197, z197⟩, st197⟩ := X196.virtualBack hx (y := (⟨"com/example/classwright/classwright/KindSet", "contains", "(Ljava/lang/Object;)Z"⟩ : MethodName)) (z := (⟨"com/example/classwright/classwright/KindSet", "contains", "(Ljava/lang/Object;)Z"⟩ : MethodName)) hown (mvT hZ (hw _ (List.mem_of_getElem? (i := 29) rfl))) (mvT hZ (hw _ (List.mem_of_getElem? (i := 30) rfl))) (notFace_of_selects (args := #[]) (mvT hZ (hw _ (List.mem_of_getElem? (i := 32) rfl)))) (mvT hZ (hw _ (List.mem_of_getElem? (i := 32) rfl))) (mvT hZ (hw _ (List.mem_of_getElem? (i := 31) rfl))) (by decide) (backOf (W := 0) (rmC256_8 l Z a0 hw [] s_METHODREF_ s_METHODREF h0 n0 Z0 E_s_METHODREF_ F_s_METHODREF__bits E_s_METHODREF F_s_METHODREF_ordinal) hZ (hw _ (List.mem_of_getElem? (i := 34) rfl)) (hw _ (List.mem_of_getElem? (i := 33) rfl)) (by decide) (by decide)) q197a q197c (g := (mkF m 161 #[.val (.int k0), .val (.int mv), .val (.int (6 : Int32)), .val (.ref s_INVOKE_STATIC), .val (.ref s_METHODREF_), .val (.int (0 : Int32)), .val (.int (0 : Int32)), .val (.int (1 : Int32)), .val (.int (0 : Int32)), .val (.int (1 : Int32))] [(.ref s_METHODREF), (.ref s_METHODREF_)])) rfl (by rw [hml]; rfl) (Steps.refl _) (argsL := [(.ref s_METHODREF)]) (rest := []) (lenOf pd0_3 rfl) rfl (by show 2 * 0 + _ ≤ _; exact Nat.le_of_eq rfl) (hb hby at_161) (fun _ _ => ⟨rfl, e196, (by decide : 0 + 0 ≤ _), (by decide : 0 + 0 ≤ _)⟩)
      dsimp only [Pt.U, Pt.locs, Pt.cells, Pt.slots] at X197 l197 y197 z197 st197 hQ197
      subst l197 y197 z197
      obtain ⟨rfl, N197q, eh197⟩ := hQ197
      have N197 := Fr.app N195 N197q
      refine Go.tr st197 ?_
      show Go _ _ _ _ _ _ _ (T197.setTop (mkF m 164 #[.val (.int k0), .val (.int mv), .val (.int (6 : Int32)), .val (.ref s_INVOKE_STATIC), .val (.ref s_METHODREF_), .val (.int (0 : Int32)), .val (.int (0 : Int32)), .val (.int (1 : Int32)), .val (.int (0 : Int32)), .val (.int (1 : Int32))] [(.int (1 : Int32))]))
      refine Go.by (fun _ kont => XS.iload X197.here hx rfl (hb hby at_164) rfl (XS.icmpNo X197.here hx rfl (hb hby at_166) rfl (by decide) (XS.aload X197.here hx rfl (hb hby at_169) rfl rfl kont))) ?_
      show Go _ _ _ _ _ _ _ (T197.setTop (mkF m 171 #[.val (.int k0), .val (.int mv), .val (.int (6 : Int32)), .val (.ref s_INVOKE_STATIC), .val (.ref s_METHODREF_), .val (.int (0 : Int32)), .val (.int (0 : Int32)), .val (.int (1 : Int32)), .val (.int (0 : Int32)), .val (.int (1 : Int32))] [(.ref s_METHODREF_)]))
      obtain ⟨T198, X198, e198, st198⟩ := getS2 X197 hx hZ hown (host := "") (Or.inl (hw _ (List.mem_of_getElem? (i := 50) rfl))) Via.refl eh197 S_INTERFACE_METHODREF (g := (mkF m 171 #[.val (.int k0), .val (.int mv), .val (.int (6 : Int32)), .val (.ref s_INVOKE_STATIC), .val (.ref s_METHODREF_), .val (.int (0 : Int32)), .val (.int (0 : Int32)), .val (.int (1 : Int32)), .val (.int (0 : Int32)), .val (.int (1 : Int32))] [(.ref s_METHODREF_)])) rfl (hb hby at_171)
      refine Go.by st198 ?_
      show Go _ _ _ _ _ _ _ (T198.setTop (mkF m 174 #[.val (.int k0), .val (.int mv), .val (.int (6 : Int32)), .val (.ref s_INVOKE_STATIC), .val (.ref s_METHODREF_), .val (.int (0 : Int32)), .val (.int (0 : Int32)), .val (.int (1 : Int32)), .val (.int (0 : Int32)), .val (.int (1 : Int32))] [(.ref s_INTERFACE_METHODREF), (.ref s_METHODREF_)]))
      obtain ⟨cq199, kq199, q199a, q199b, q199c⟩ := isOf hZ e198 E_s_METHODREF_
      obtain ⟨_, _, ⟨T199, L199, k199, n199⟩, -, X199, ⟨Lc199, hQ199, l199, y199, z199⟩, st199⟩ := X198.virtualBack hx (y := (⟨"com/example/classwright/classwright/KindSet", "contains", "(Ljava/lang/Object;)Z"⟩ : MethodName)) (z := (⟨"com/example/classwright/classwright/KindSet", "contains", "(Ljava/lang/Object;)Z"⟩ : MethodName)) hown (mvT hZ (hw _ (List.mem_of_getElem? (i := 29) rfl))) (mvT hZ (hw _ (List.mem_of_getElem? (i := 30) rfl))) (notFace_of_selects (args := #[]) (mvT hZ (hw _ (List.mem_of_getElem? (i := 32) rfl)))) (mvT hZ (hw _ (List.mem_of_getElem? (i := 32) rfl))) (mvT hZ (hw _ (List.mem_of_getElem? (i := 31) rfl))) (by decide) (backOf (W := 0) (rmC256_9 l Z a0 hw [] s_METHODREF_ s_INTERFACE_METHODREF h0 n0 Z0 E_s_METHODREF_ F_s_METHODREF__bits E_s_INTERFACE_METHODREF F_s_INTERFACE_METHODREF_ordinal) hZ (hw _ (List.mem_of_getElem? (i := 34) rfl)) (hw _ (List.mem_of_getElem? (i := 33) rfl)) (by decide) (by decide)) q199a q199c (g := (mkF m 174 #[.val (.int k0), .val (.int mv), .val (.int (6 : Int32)), .val (.ref s_INVOKE_STATIC), .val (.ref s_METHODREF_), .val (.int (0 : Int32)), .val (.int (0 : Int32)), .val (.int (1 : Int32)), .val (.int (0 : Int32)), .val (.int (1 : Int32))] [(.ref s_INTERFACE_METHODREF), (.ref s_METHODREF_)])) rfl (by rw [hml]; rfl) (Steps.refl _) (argsL := [(.ref s_INTERFACE_METHODREF)]) (rest := []) (lenOf pd0_3 rfl) rfl (by show 2 * 0 + _ ≤ _; exact Nat.le_of_eq rfl) (hb hby at_174) (fun _ _ => ⟨rfl, e198, (by decide : 0 + 0 ≤ _), (by decide : 0 + 0 ≤ _)⟩)
      dsimp only [Pt.U, Pt.locs, Pt.cells, Pt.slots] at X199 l199 y199 z199 st199 hQ199
      subst l199 y199 z199
      obtain ⟨rfl, N199q, eh199⟩ := hQ199
      have N199 := Fr.app N197 N199q
      refine Go.tr st199 ?_
      show Go _ _ _ _ _ _ _ (T199.setTop (mkF m 177 #[.val (.int k0), .val (.int mv), .val (.int (6 : Int32)), .val (.ref s_INVOKE_STATIC), .val (.ref s_METHODREF_), .val (.int (0 : Int32)), .val (.int (0 : Int32)), .val (.int (1 : Int32)), .val (.int (0 : Int32)), .val (.int (1 : Int32))] [(.int (0 : Int32))]))
      refine Go.by (fun _ kont => XS.iload X199.here hx rfl (hb hby at_177) rfl (XS.icmpNo X199.here hx rfl (hb hby at_179) rfl (by decide) (XS.aload X199.here hx rfl (hb hby at_182) rfl rfl kont))) ?_
      show Go _ _ _ _ _ _ _ (T199.setTop (mkF m 184 #[.val (.int k0), .val (.int mv), .val (.int (6 : Int32)), .val (.ref s_INVOKE_STATIC), .val (.ref s_METHODREF_), .val (.int (0 : Int32)), .val (.int (0 : Int32)), .val (.int (1 : Int32)), .val (.int (0 : Int32)), .val (.int (1 : Int32))] [(.ref s_METHODREF_)]))
      obtain ⟨cq200, kq200, q200a, q200b, q200c⟩ := isOf hZ eh199 E_s_METHODREF_
      obtain ⟨_, _, ⟨T200, L200, k200, n200⟩, -, X200, ⟨Lc200, hQ200, l200, y200, z200⟩, st200⟩ := X199.virtualBack hx (y := (⟨"com/example/classwright/classwright/KindSet", "size", "()I"⟩ : MethodName)) (z := (⟨"com/example/classwright/classwright/KindSet", "size", "()I"⟩ : MethodName)) hown (mvT hZ (hw _ (List.mem_of_getElem? (i := 52) rfl))) (mvT hZ (hw _ (List.mem_of_getElem? (i := 53) rfl))) (notFace_of_selects (args := #[]) (mvT hZ (hw _ (List.mem_of_getElem? (i := 55) rfl)))) (mvT hZ (hw _ (List.mem_of_getElem? (i := 55) rfl))) (mvT hZ (hw _ (List.mem_of_getElem? (i := 54) rfl))) (by decide) (backOf (W := 0) (rmS256 l Z a0 hw [] s_METHODREF_ h0 n0 Z0 E_s_METHODREF_ F_s_METHODREF__bits) hZ (hw _ (List.mem_of_getElem? (i := 56) rfl)) (hw _ (List.mem_of_getElem? (i := 33) rfl)) (by decide) (by decide)) q200a q200c (g := (mkF m 184 #[.val (.int k0), .val (.int mv), .val (.int (6 : Int32)), .val (.ref s_INVOKE_STATIC), .val (.ref s_METHODREF_), .val (.int (0 : Int32)), .val (.int (0 : Int32)), .val (.int (1 : Int32)), .val (.int (0 : Int32)), .val (.int (1 : Int32))] [(.ref s_METHODREF_)])) rfl (by rw [hml]; rfl) (Steps.refl _) (argsL := []) (rest := []) (lenOf pd0_1 rfl) rfl (by show 2 * 0 + _ ≤ _; exact Nat.le_of_eq rfl) (hb hby at_184) (fun _ _ => ⟨rfl, eh199, (by decide : 0 + 0 ≤ _), (by decide : 0 + 0 ≤ _)⟩)
      dsimp only [Pt.U, Pt.locs, Pt.cells, Pt.slots] at X200 l200 y200 z200 st200 hQ200
      subst l200 y200 z200
      obtain ⟨rfl, N200q, eh200⟩ := hQ200
      have N200 := Fr.app N199 N200q
      refine Go.tr st200 ?_
      show Go _ _ _ _ _ _ _ (T200.setTop (mkF m 187 #[.val (.int k0), .val (.int mv), .val (.int (6 : Int32)), .val (.ref s_INVOKE_STATIC), .val (.ref s_METHODREF_), .val (.int (0 : Int32)), .val (.int (0 : Int32)), .val (.int (1 : Int32)), .val (.int (0 : Int32)), .val (.int (1 : Int32))] [(.int (1 : Int32))]))
      refine Go.by (fun _ kont => XS.iload X200.here hx rfl (hb hby at_187) rfl (XS.icmpNo X200.here hx rfl (hb hby at_189) rfl (by decide) (XS.iconst X200.here hx rfl (hb hby at_192) (XS.goto X200.here hx rfl (pc0 := 193) (pc' := 197) rfl (hb hby at_193) (by decide) (by decide) kont)))) ?_
      show Go _ _ _ _ _ _ _ (T200.setTop (mkF m 197 #[.val (.int k0), .val (.int mv), .val (.int (6 : Int32)), .val (.ref s_INVOKE_STATIC), .val (.ref s_METHODREF_), .val (.int (0 : Int32)), .val (.int (0 : Int32)), .val (.int (1 : Int32)), .val (.int (0 : Int32)), .val (.int (1 : Int32))] [(.int (1 : Int32))]))
      refine Go.retN X200 hx (t := .boolean) hret (by simp) hlk (hb hby at_197) ?_ (by decide) (by decide)
      show Q0 Z h0 n0 (some (.int (1 : Int32))) T200.heap _
      rw [eh200]
      exact ⟨rfl, N200⟩
    · show Go _ _ _ _ _ _ _ (T192.setTop (mkF m 29 #[.val (.int k0), .val (.int mv), .val (.int (6 : Int32)), .val (.ref s_INVOKE_STATIC), .unset, .unset, .unset, .unset, .unset, .unset] []))
      refine Go.by (fun _ kont => XS.aloadN X192.here hx rfl (hb hby at_29) rfl rfl (XS.iloadN X192.here hx rfl (hb hby at_30) rfl kont)) ?_
      show Go _ _ _ _ _ _ _ (T192.setTop (mkF m 31 #[.val (.int k0), .val (.int mv), .val (.int (6 : Int32)), .val (.ref s_INVOKE_STATIC), .unset, .unset, .unset, .unset, .unset, .unset] [(.int mv), (.ref s_INVOKE_STATIC)]))
      obtain ⟨cq201, kq201, q201a, q201b, q201c⟩ := isOf hZ eh192 E_s_INVOKE_STATIC
      obtain ⟨_, _, ⟨T201, L201, k201, n201⟩, -, X201, ⟨Lc201, hQ201, l201, y201, z201⟩, st201⟩ := X192.virtualBack hx (y := (⟨"com/example/classwright/classwright/ReferenceKind", "targetKinds", "(I)Lcom/example/classwright/classwright/KindSet;"⟩ : MethodName)) (z := (⟨"com/example/classwright/classwright/ReferenceKind", "targetKinds", "(I)Lcom/example/classwright/classwright/KindSet;"⟩ : MethodName)) hown (mvT hZ (hw _ (List.mem_of_getElem? (i := 15) rfl))) (mvT hZ (hw _ (List.mem_of_getElem? (i := 16) rfl))) (notFace_of_selects (args := #[]) (mvT hZ (hw _ (List.mem_of_getElem? (i := 18) rfl)))) (mvT hZ (hw _ (List.mem_of_getElem? (i := 18) rfl))) (mvT hZ (hw _ (List.mem_of_getElem? (i := 17) rfl))) (by decide) (backOf (W := 0) (rmTm l Z a0 hw [] s_INVOKE_STATIC mv s_INVOKE_STATIC_targets h0 n0 Z0 E_s_INVOKE_STATIC F_s_INVOKE_STATIC_targets hmv) hZ (hw _ (List.mem_of_getElem? (i := 19) rfl)) (hw _ (List.mem_of_getElem? (i := 3) rfl)) (by decide) (by decide)) q201a q201c (g := (mkF m 31 #[.val (.int k0), .val (.int mv), .val (.int (6 : Int32)), .val (.ref s_INVOKE_STATIC), .unset, .unset, .unset, .unset, .unset, .unset] [(.int mv), (.ref s_INVOKE_STATIC)])) rfl (by rw [hml]; rfl) (Steps.refl _) (argsL := [(.int mv)]) (rest := []) (lenOf pd0_2 rfl) rfl (by show 2 * 0 + _ ≤ _; exact Nat.le_of_eq rfl) (hb hby at_31) (fun _ _ => ⟨rfl, eh192, (by decide : 0 + 0 ≤ _), (by decide : 0 + 0 ≤ _)⟩)
      dsimp only [Pt.U, Pt.locs, Pt.cells, Pt.slots] at X201 l201 y201 z201 st201 hQ201
      subst l201 y201 z201
      obtain ⟨rfl, N201q, eh201⟩ := hQ201
      have N201 := Fr.app N192 N201q
      refine Go.tr st201 ?_
      show Go _ _ _ _ _ _ _ (T201.setTop (mkF m 34 #[.val (.int k0), .val (.int mv), .val (.int (6 : Int32)), .val (.ref s_INVOKE_STATIC), .unset, .unset, .unset, .unset, .unset, .unset] [(.ref s_INVOKE_STATIC_targets)]))
      refine Go.by (fun _ kont => XS.astore X201.here hx rfl (hb hby at_34) rfl rfl (l' := #[.val (.int k0), .val (.int mv), .val (.int (6 : Int32)), .val (.ref s_INVOKE_STATIC), .val (.ref s_INVOKE_STATIC_targets), .unset, .unset, .unset, .unset, .unset]) rfl (XS.iloadN X201.here hx rfl (hb hby at_36) rfl (XS.bipush X201.here hx rfl (hb hby at_37) kont))) ?_
      show Go _ _ _ _ _ _ _ (T201.setTop (mkF m 39 #[.val (.int k0), .val (.int mv), .val (.int (6 : Int32)), .val (.ref s_INVOKE_STATIC), .val (.ref s_INVOKE_STATIC_targets), .unset, .unset, .unset, .unset, .unset] [(.int (52 : Int32)), (.int mv)]))
      refine Go.by (fun _ kont => XS.icmpNo X201.here hx rfl (hb hby at_39) rfl (flt hmv).1 kont) ?_
      show Go _ _ _ _ _ _ _ (T201.setTop (mkF m 42 #[.val (.int k0), .val (.int mv), .val (.int (6 : Int32)), .val (.ref s_INVOKE_STATIC), .val (.ref s_INVOKE_STATIC_targets), .unset, .unset, .unset, .unset, .unset] []))
      refine Go.by (fun _ kont => XS.iconst X201.here hx rfl (hb hby at_42) (XS.goto X201.here hx rfl (pc0 := 43) (pc' := 47) rfl (hb hby at_43) (by decide) (by decide) (XS.istore X201.here hx rfl (hb hby at_47) rfl (l' := #[.val (.int k0), .val (.int mv), .val (.int (6 : Int32)), .val (.ref s_INVOKE_STATIC), .val (.ref s_INVOKE_STATIC_targets), .val (.int (1 : Int32)), .unset, .unset, .unset, .unset]) rfl (XS.iloadN X201.here hx rfl (hb hby at_49) rfl (XS.iconst X201.here hx rfl (hb hby at_50) (XS.icmpYes X201.here hx rfl (pc0 := 51) (pc' := 58) rfl (hb hby at_51) rfl (by decide) (by decide) (by decide) (XS.iconst X201.here hx rfl (hb hby at_58) (XS.istore X201.here hx rfl (hb hby at_59) rfl (l' := #[.val (.int k0), .val (.int mv), .val (.int (6 : Int32)), .val (.ref s_INVOKE_STATIC), .val (.ref s_INVOKE_STATIC_targets), .val (.int (1 : Int32)), .val (.int (0 : Int32)), .unset, .unset, .unset]) rfl (XS.iloadN X201.here hx rfl (hb hby at_61) rfl (XS.iconst X201.here hx rfl (hb hby at_62) (XS.icmpNo X201.here hx rfl (hb hby at_63) rfl (by decide) (XS.iloadN X201.here hx rfl (hb hby at_66) rfl kont)))))))))))) ?_
      show Go _ _ _ _ _ _ _ (T201.setTop (mkF m 67 #[.val (.int k0), .val (.int mv), .val (.int (6 : Int32)), .val (.ref s_INVOKE_STATIC), .val (.ref s_INVOKE_STATIC_targets), .val (.int (1 : Int32)), .val (.int (0 : Int32)), .unset, .unset, .unset] [(.int (6 : Int32))]))
      refine Go.by (fun _ kont => XS.bipush X201.here hx rfl (hb hby at_67) (XS.icmpNo X201.here hx rfl (hb hby at_69) rfl (by decide) (XS.iconst X201.here hx rfl (hb hby at_72) (XS.goto X201.here hx rfl (pc0 := 73) (pc' := 77) rfl (hb hby at_73) (by decide) (by decide) (XS.istore X201.here hx rfl (hb hby at_77) rfl (l' := #[.val (.int k0), .val (.int mv), .val (.int (6 : Int32)), .val (.ref s_INVOKE_STATIC), .val (.ref s_INVOKE_STATIC_targets), .val (.int (1 : Int32)), .val (.int (0 : Int32)), .val (.int (1 : Int32)), .unset, .unset]) rfl (XS.iloadN X201.here hx rfl (hb hby at_79) rfl (XS.bipush X201.here hx rfl (hb hby at_80) (XS.icmpNo X201.here hx rfl (hb hby at_82) rfl (by decide) (XS.iloadN X201.here hx rfl (hb hby at_85) rfl (XS.bipush X201.here hx rfl (hb hby at_86) (XS.icmpYes X201.here hx rfl (pc0 := 88) (pc' := 97) rfl (hb hby at_88) rfl (by decide) (by decide) (by decide) (XS.iload X201.here hx rfl (hb hby at_97) rfl kont)))))))))))) ?_
      show Go _ _ _ _ _ _ _ (T201.setTop (mkF m 99 #[.val (.int k0), .val (.int mv), .val (.int (6 : Int32)), .val (.ref s_INVOKE_STATIC), .val (.ref s_INVOKE_STATIC_targets), .val (.int (1 : Int32)), .val (.int (0 : Int32)), .val (.int (1 : Int32)), .unset, .unset] [(.int (1 : Int32))]))
      refine Go.by (fun _ kont => XS.ifNo X201.here hx rfl (hb hby at_99) rfl (by decide) (XS.iconst X201.here hx rfl (hb hby at_102) (XS.goto X201.here hx rfl (pc0 := 103) (pc' := 107) rfl (hb hby at_103) (by decide) (by decide) (XS.istore X201.here hx rfl (hb hby at_107) rfl (l' := #[.val (.int k0), .val (.int mv), .val (.int (6 : Int32)), .val (.ref s_INVOKE_STATIC), .val (.ref s_INVOKE_STATIC_targets), .val (.int (1 : Int32)), .val (.int (0 : Int32)), .val (.int (1 : Int32)), .val (.int (1 : Int32)), .unset]) rfl (XS.iload X201.here hx rfl (hb hby at_109) rfl (XS.ifYes X201.here hx rfl (pc0 := 111) (pc' := 118) rfl (hb hby at_111) rfl (by decide) (by decide) (by decide) (XS.iconst X201.here hx rfl (hb hby at_118) (XS.iload X201.here hx rfl (hb hby at_119) rfl (XS.ifNo X201.here hx rfl (hb hby at_121) rfl (by decide) (XS.iconst X201.here hx rfl (hb hby at_124) (XS.goto X201.here hx rfl (pc0 := 125) (pc' := 129) rfl (hb hby at_125) (by decide) (by decide) (XS.iadd X201.here hx rfl (hb hby at_129) rfl kont)))))))))))) ?_
      show Go _ _ _ _ _ _ _ (T201.setTop (mkF m 130 #[.val (.int k0), .val (.int mv), .val (.int (6 : Int32)), .val (.ref s_INVOKE_STATIC), .val (.ref s_INVOKE_STATIC_targets), .val (.int (1 : Int32)), .val (.int (0 : Int32)), .val (.int (1 : Int32)), .val (.int (1 : Int32)), .unset] [(.int ((0 : Int32) + (1 : Int32)))]))
      rw [show ((0 : Int32) + (1 : Int32)) = (1 : Int32) from by decide]
      show Go _ _ _ _ _ _ _ (T201.setTop (mkF m 130 #[.val (.int k0), .val (.int mv), .val (.int (6 : Int32)), .val (.ref s_INVOKE_STATIC), .val (.ref s_INVOKE_STATIC_targets), .val (.int (1 : Int32)), .val (.int (0 : Int32)), .val (.int (1 : Int32)), .val (.int (1 : Int32)), .unset] [(.int (1 : Int32))]))
      refine Go.by (fun _ kont => XS.iload X201.here hx rfl (hb hby at_130) rfl (XS.ifNo X201.here hx rfl (hb hby at_132) rfl (by decide) (XS.iconst X201.here hx rfl (hb hby at_135) (XS.goto X201.here hx rfl (pc0 := 136) (pc' := 140) rfl (hb hby at_136) (by decide) (by decide) (XS.iadd X201.here hx rfl (hb hby at_140) rfl kont))))) ?_
      show Go _ _ _ _ _ _ _ (T201.setTop (mkF m 141 #[.val (.int k0), .val (.int mv), .val (.int (6 : Int32)), .val (.ref s_INVOKE_STATIC), .val (.ref s_INVOKE_STATIC_targets), .val (.int (1 : Int32)), .val (.int (0 : Int32)), .val (.int (1 : Int32)), .val (.int (1 : Int32)), .unset] [(.int ((1 : Int32) + (1 : Int32)))]))
      rw [show ((1 : Int32) + (1 : Int32)) = (2 : Int32) from by decide]
      show Go _ _ _ _ _ _ _ (T201.setTop (mkF m 141 #[.val (.int k0), .val (.int mv), .val (.int (6 : Int32)), .val (.ref s_INVOKE_STATIC), .val (.ref s_INVOKE_STATIC_targets), .val (.int (1 : Int32)), .val (.int (0 : Int32)), .val (.int (1 : Int32)), .val (.int (1 : Int32)), .unset] [(.int (2 : Int32))]))
      refine Go.by (fun _ kont => XS.istore X201.here hx rfl (hb hby at_141) rfl (l' := #[.val (.int k0), .val (.int mv), .val (.int (6 : Int32)), .val (.ref s_INVOKE_STATIC), .val (.ref s_INVOKE_STATIC_targets), .val (.int (1 : Int32)), .val (.int (0 : Int32)), .val (.int (1 : Int32)), .val (.int (1 : Int32)), .val (.int (2 : Int32))]) rfl (XS.aload X201.here hx rfl (hb hby at_143) rfl rfl kont)) ?_
      show Go _ _ _ _ _ _ _ (T201.setTop (mkF m 145 #[.val (.int k0), .val (.int mv), .val (.int (6 : Int32)), .val (.ref s_INVOKE_STATIC), .val (.ref s_INVOKE_STATIC_targets), .val (.int (1 : Int32)), .val (.int (0 : Int32)), .val (.int (1 : Int32)), .val (.int (1 : Int32)), .val (.int (2 : Int32))] [(.ref s_INVOKE_STATIC_targets)]))
      obtain ⟨T202, X202, e202, st202⟩ := getS2 X201 hx hZ hown (host := "") (Or.inl (hw _ (List.mem_of_getElem? (i := 26) rfl))) Via.refl eh201 S_FIELDREF (g := (mkF m 145 #[.val (.int k0), .val (.int mv), .val (.int (6 : Int32)), .val (.ref s_INVOKE_STATIC), .val (.ref s_INVOKE_STATIC_targets), .val (.int (1 : Int32)), .val (.int (0 : Int32)), .val (.int (1 : Int32)), .val (.int (1 : Int32)), .val (.int (2 : Int32))] [(.ref s_INVOKE_STATIC_targets)])) rfl (hb hby at_145)
      refine Go.by st202 ?_
      show Go _ _ _ _ _ _ _ (T202.setTop (mkF m 148 #[.val (.int k0), .val (.int mv), .val (.int (6 : Int32)), .val (.ref s_INVOKE_STATIC), .val (.ref s_INVOKE_STATIC_targets), .val (.int (1 : Int32)), .val (.int (0 : Int32)), .val (.int (1 : Int32)), .val (.int (1 : Int32)), .val (.int (2 : Int32))] [(.ref s_FIELDREF), (.ref s_INVOKE_STATIC_targets)]))
      obtain ⟨cq203, kq203, q203a, q203b, q203c⟩ := isOf hZ e202 E_s_INVOKE_STATIC_targets
      obtain ⟨_, _, ⟨T203, L203, k203, n203⟩, -, X203, ⟨Lc203, hQ203, l203, y203, z203⟩, st203⟩ := X202.virtualBack hx (y := (⟨"com/example/classwright/classwright/KindSet", "contains", "(Ljava/lang/Object;)Z"⟩ : MethodName)) (z := (⟨"com/example/classwright/classwright/KindSet", "contains", "(Ljava/lang/Object;)Z"⟩ : MethodName)) hown (mvT hZ (hw _ (List.mem_of_getElem? (i := 29) rfl))) (mvT hZ (hw _ (List.mem_of_getElem? (i := 30) rfl))) (notFace_of_selects (args := #[]) (mvT hZ (hw _ (List.mem_of_getElem? (i := 32) rfl)))) (mvT hZ (hw _ (List.mem_of_getElem? (i := 32) rfl))) (mvT hZ (hw _ (List.mem_of_getElem? (i := 31) rfl))) (by decide) (backOf (W := 0) (rmC768_7 l Z a0 hw [] s_INVOKE_STATIC_targets s_FIELDREF h0 n0 Z0 E_s_INVOKE_STATIC_targets F_s_INVOKE_STATIC_targets_bits E_s_FIELDREF F_s_FIELDREF_ordinal) hZ (hw _ (List.mem_of_getElem? (i := 34) rfl)) (hw _ (List.mem_of_getElem? (i := 33) rfl)) (by decide) (by decide)) q203a q203c (g := (mkF m 148 #[.val (.int k0), .val (.int mv), .val (.int (6 : Int32)), .val (.ref s_INVOKE_STATIC), .val (.ref s_INVOKE_STATIC_targets), .val (.int (1 : Int32)), .val (.int (0 : Int32)), .val (.int (1 : Int32)), .val (.int (1 : Int32)), .val (.int (2 : Int32))] [(.ref s_FIELDREF), (.ref s_INVOKE_STATIC_targets)])) rfl (by rw [hml]; rfl) (Steps.refl _) (argsL := [(.ref s_FIELDREF)]) (rest := []) (lenOf pd0_3 rfl) rfl (by show 2 * 0 + _ ≤ _; exact Nat.le_of_eq rfl) (hb hby at_148) (fun _ _ => ⟨rfl, e202, (by decide : 0 + 0 ≤ _), (by decide : 0 + 0 ≤ _)⟩)
      dsimp only [Pt.U, Pt.locs, Pt.cells, Pt.slots] at X203 l203 y203 z203 st203 hQ203
      subst l203 y203 z203
      obtain ⟨rfl, N203q, eh203⟩ := hQ203
      have N203 := Fr.app N201 N203q
      refine Go.tr st203 ?_
      show Go _ _ _ _ _ _ _ (T203.setTop (mkF m 151 #[.val (.int k0), .val (.int mv), .val (.int (6 : Int32)), .val (.ref s_INVOKE_STATIC), .val (.ref s_INVOKE_STATIC_targets), .val (.int (1 : Int32)), .val (.int (0 : Int32)), .val (.int (1 : Int32)), .val (.int (1 : Int32)), .val (.int (2 : Int32))] [(.int (0 : Int32))]))
      refine Go.by (fun _ kont => XS.iload X203.here hx rfl (hb hby at_151) rfl (XS.icmpNo X203.here hx rfl (hb hby at_153) rfl (by decide) (XS.aload X203.here hx rfl (hb hby at_156) rfl rfl kont))) ?_
      show Go _ _ _ _ _ _ _ (T203.setTop (mkF m 158 #[.val (.int k0), .val (.int mv), .val (.int (6 : Int32)), .val (.ref s_INVOKE_STATIC), .val (.ref s_INVOKE_STATIC_targets), .val (.int (1 : Int32)), .val (.int (0 : Int32)), .val (.int (1 : Int32)), .val (.int (1 : Int32)), .val (.int (2 : Int32))] [(.ref s_INVOKE_STATIC_targets)]))
      obtain ⟨T204, X204, e204, st204⟩ := getS2 X203 hx hZ hown (host := "") (Or.inl (hw _ (List.mem_of_getElem? (i := 48) rfl))) Via.refl eh203 S_METHODREF (g := (mkF m 158 #[.val (.int k0), .val (.int mv), .val (.int (6 : Int32)), .val (.ref s_INVOKE_STATIC), .val (.ref s_INVOKE_STATIC_targets), .val (.int (1 : Int32)), .val (.int (0 : Int32)), .val (.int (1 : Int32)), .val (.int (1 : Int32)), .val (.int (2 : Int32))] [(.ref s_INVOKE_STATIC_targets)])) rfl (hb hby at_158)
      refine Go.by st204 ?_
      show Go _ _ _ _ _ _ _ (T204.setTop (mkF m 161 #[.val (.int k0), .val (.int mv), .val (.int (6 : Int32)), .val (.ref s_INVOKE_STATIC), .val (.ref s_INVOKE_STATIC_targets), .val (.int (1 : Int32)), .val (.int (0 : Int32)), .val (.int (1 : Int32)), .val (.int (1 : Int32)), .val (.int (2 : Int32))] [(.ref s_METHODREF), (.ref s_INVOKE_STATIC_targets)]))
      obtain ⟨cq205, kq205, q205a, q205b, q205c⟩ := isOf hZ e204 E_s_INVOKE_STATIC_targets
      obtain ⟨_, _, ⟨T205, L205, k205, n205⟩, -, X205, ⟨Lc205, hQ205, l205, y205, z205⟩, st205⟩ := X204.virtualBack hx (y := (⟨"com/example/classwright/classwright/KindSet", "contains", "(Ljava/lang/Object;)Z"⟩ : MethodName)) (z := (⟨"com/example/classwright/classwright/KindSet", "contains", "(Ljava/lang/Object;)Z"⟩ : MethodName)) hown (mvT hZ (hw _ (List.mem_of_getElem? (i := 29) rfl))) (mvT hZ (hw _ (List.mem_of_getElem? (i := 30) rfl))) (notFace_of_selects (args := #[]) (mvT hZ (hw _ (List.mem_of_getElem? (i := 32) rfl)))) (mvT hZ (hw _ (List.mem_of_getElem? (i := 32) rfl))) (mvT hZ (hw _ (List.mem_of_getElem? (i := 31) rfl))) (by decide) (backOf (W := 0) (rmC768_8 l Z a0 hw [] s_INVOKE_STATIC_targets s_METHODREF h0 n0 Z0 E_s_INVOKE_STATIC_targets F_s_INVOKE_STATIC_targets_bits E_s_METHODREF F_s_METHODREF_ordinal) hZ (hw _ (List.mem_of_getElem? (i := 34) rfl)) (hw _ (List.mem_of_getElem? (i := 33) rfl)) (by decide) (by decide)) q205a q205c (g := (mkF m 161 #[.val (.int k0), .val (.int mv), .val (.int (6 : Int32)), .val (.ref s_INVOKE_STATIC), .val (.ref s_INVOKE_STATIC_targets), .val (.int (1 : Int32)), .val (.int (0 : Int32)), .val (.int (1 : Int32)), .val (.int (1 : Int32)), .val (.int (2 : Int32))] [(.ref s_METHODREF), (.ref s_INVOKE_STATIC_targets)])) rfl (by rw [hml]; rfl) (Steps.refl _) (argsL := [(.ref s_METHODREF)]) (rest := []) (lenOf pd0_3 rfl) rfl (by show 2 * 0 + _ ≤ _; exact Nat.le_of_eq rfl) (hb hby at_161) (fun _ _ => ⟨rfl, e204, (by decide : 0 + 0 ≤ _), (by decide : 0 + 0 ≤ _)⟩)
      dsimp only [Pt.U, Pt.locs, Pt.cells, Pt.slots] at X205 l205 y205 z205 st205 hQ205
      subst l205 y205 z205
      obtain ⟨rfl, N205q, eh205⟩ := hQ205
      have N205 := Fr.app N203 N205q
      refine Go.tr st205 ?_
      show Go _ _ _ _ _ _ _ (T205.setTop (mkF m 164 #[.val (.int k0), .val (.int mv), .val (.int (6 : Int32)), .val (.ref s_INVOKE_STATIC), .val (.ref s_INVOKE_STATIC_targets), .val (.int (1 : Int32)), .val (.int (0 : Int32)), .val (.int (1 : Int32)), .val (.int (1 : Int32)), .val (.int (2 : Int32))] [(.int (1 : Int32))]))
      refine Go.by (fun _ kont => XS.iload X205.here hx rfl (hb hby at_164) rfl (XS.icmpNo X205.here hx rfl (hb hby at_166) rfl (by decide) (XS.aload X205.here hx rfl (hb hby at_169) rfl rfl kont))) ?_
      show Go _ _ _ _ _ _ _ (T205.setTop (mkF m 171 #[.val (.int k0), .val (.int mv), .val (.int (6 : Int32)), .val (.ref s_INVOKE_STATIC), .val (.ref s_INVOKE_STATIC_targets), .val (.int (1 : Int32)), .val (.int (0 : Int32)), .val (.int (1 : Int32)), .val (.int (1 : Int32)), .val (.int (2 : Int32))] [(.ref s_INVOKE_STATIC_targets)]))
      obtain ⟨T206, X206, e206, st206⟩ := getS2 X205 hx hZ hown (host := "") (Or.inl (hw _ (List.mem_of_getElem? (i := 50) rfl))) Via.refl eh205 S_INTERFACE_METHODREF (g := (mkF m 171 #[.val (.int k0), .val (.int mv), .val (.int (6 : Int32)), .val (.ref s_INVOKE_STATIC), .val (.ref s_INVOKE_STATIC_targets), .val (.int (1 : Int32)), .val (.int (0 : Int32)), .val (.int (1 : Int32)), .val (.int (1 : Int32)), .val (.int (2 : Int32))] [(.ref s_INVOKE_STATIC_targets)])) rfl (hb hby at_171)
      refine Go.by st206 ?_
      show Go _ _ _ _ _ _ _ (T206.setTop (mkF m 174 #[.val (.int k0), .val (.int mv), .val (.int (6 : Int32)), .val (.ref s_INVOKE_STATIC), .val (.ref s_INVOKE_STATIC_targets), .val (.int (1 : Int32)), .val (.int (0 : Int32)), .val (.int (1 : Int32)), .val (.int (1 : Int32)), .val (.int (2 : Int32))] [(.ref s_INTERFACE_METHODREF), (.ref s_INVOKE_STATIC_targets)]))
      obtain ⟨cq207, kq207, q207a, q207b, q207c⟩ := isOf hZ e206 E_s_INVOKE_STATIC_targets
      obtain ⟨_, _, ⟨T207, L207, k207, n207⟩, -, X207, ⟨Lc207, hQ207, l207, y207, z207⟩, st207⟩ := X206.virtualBack hx (y := (⟨"com/example/classwright/classwright/KindSet", "contains", "(Ljava/lang/Object;)Z"⟩ : MethodName)) (z := (⟨"com/example/classwright/classwright/KindSet", "contains", "(Ljava/lang/Object;)Z"⟩ : MethodName)) hown (mvT hZ (hw _ (List.mem_of_getElem? (i := 29) rfl))) (mvT hZ (hw _ (List.mem_of_getElem? (i := 30) rfl))) (notFace_of_selects (args := #[]) (mvT hZ (hw _ (List.mem_of_getElem? (i := 32) rfl)))) (mvT hZ (hw _ (List.mem_of_getElem? (i := 32) rfl))) (mvT hZ (hw _ (List.mem_of_getElem? (i := 31) rfl))) (by decide) (backOf (W := 0) (rmC768_9 l Z a0 hw [] s_INVOKE_STATIC_targets s_INTERFACE_METHODREF h0 n0 Z0 E_s_INVOKE_STATIC_targets F_s_INVOKE_STATIC_targets_bits E_s_INTERFACE_METHODREF F_s_INTERFACE_METHODREF_ordinal) hZ (hw _ (List.mem_of_getElem? (i := 34) rfl)) (hw _ (List.mem_of_getElem? (i := 33) rfl)) (by decide) (by decide)) q207a q207c (g := (mkF m 174 #[.val (.int k0), .val (.int mv), .val (.int (6 : Int32)), .val (.ref s_INVOKE_STATIC), .val (.ref s_INVOKE_STATIC_targets), .val (.int (1 : Int32)), .val (.int (0 : Int32)), .val (.int (1 : Int32)), .val (.int (1 : Int32)), .val (.int (2 : Int32))] [(.ref s_INTERFACE_METHODREF), (.ref s_INVOKE_STATIC_targets)])) rfl (by rw [hml]; rfl) (Steps.refl _) (argsL := [(.ref s_INTERFACE_METHODREF)]) (rest := []) (lenOf pd0_3 rfl) rfl (by show 2 * 0 + _ ≤ _; exact Nat.le_of_eq rfl) (hb hby at_174) (fun _ _ => ⟨rfl, e206, (by decide : 0 + 0 ≤ _), (by decide : 0 + 0 ≤ _)⟩)
      dsimp only [Pt.U, Pt.locs, Pt.cells, Pt.slots] at X207 l207 y207 z207 st207 hQ207
      subst l207 y207 z207
      obtain ⟨rfl, N207q, eh207⟩ := hQ207
      have N207 := Fr.app N205 N207q
      refine Go.tr st207 ?_
      show Go _ _ _ _ _ _ _ (T207.setTop (mkF m 177 #[.val (.int k0), .val (.int mv), .val (.int (6 : Int32)), .val (.ref s_INVOKE_STATIC), .val (.ref s_INVOKE_STATIC_targets), .val (.int (1 : Int32)), .val (.int (0 : Int32)), .val (.int (1 : Int32)), .val (.int (1 : Int32)), .val (.int (2 : Int32))] [(.int (1 : Int32))]))
      refine Go.by (fun _ kont => XS.iload X207.here hx rfl (hb hby at_177) rfl (XS.icmpNo X207.here hx rfl (hb hby at_179) rfl (by decide) (XS.aload X207.here hx rfl (hb hby at_182) rfl rfl kont))) ?_
      show Go _ _ _ _ _ _ _ (T207.setTop (mkF m 184 #[.val (.int k0), .val (.int mv), .val (.int (6 : Int32)), .val (.ref s_INVOKE_STATIC), .val (.ref s_INVOKE_STATIC_targets), .val (.int (1 : Int32)), .val (.int (0 : Int32)), .val (.int (1 : Int32)), .val (.int (1 : Int32)), .val (.int (2 : Int32))] [(.ref s_INVOKE_STATIC_targets)]))
      obtain ⟨cq208, kq208, q208a, q208b, q208c⟩ := isOf hZ eh207 E_s_INVOKE_STATIC_targets
      obtain ⟨_, _, ⟨T208, L208, k208, n208⟩, -, X208, ⟨Lc208, hQ208, l208, y208, z208⟩, st208⟩ := X207.virtualBack hx (y := (⟨"com/example/classwright/classwright/KindSet", "size", "()I"⟩ : MethodName)) (z := (⟨"com/example/classwright/classwright/KindSet", "size", "()I"⟩ : MethodName)) hown (mvT hZ (hw _ (List.mem_of_getElem? (i := 52) rfl))) (mvT hZ (hw _ (List.mem_of_getElem? (i := 53) rfl))) (notFace_of_selects (args := #[]) (mvT hZ (hw _ (List.mem_of_getElem? (i := 55) rfl)))) (mvT hZ (hw _ (List.mem_of_getElem? (i := 55) rfl))) (mvT hZ (hw _ (List.mem_of_getElem? (i := 54) rfl))) (by decide) (backOf (W := 0) (rmS768 l Z a0 hw [] s_INVOKE_STATIC_targets h0 n0 Z0 E_s_INVOKE_STATIC_targets F_s_INVOKE_STATIC_targets_bits) hZ (hw _ (List.mem_of_getElem? (i := 56) rfl)) (hw _ (List.mem_of_getElem? (i := 33) rfl)) (by decide) (by decide)) q208a q208c (g := (mkF m 184 #[.val (.int k0), .val (.int mv), .val (.int (6 : Int32)), .val (.ref s_INVOKE_STATIC), .val (.ref s_INVOKE_STATIC_targets), .val (.int (1 : Int32)), .val (.int (0 : Int32)), .val (.int (1 : Int32)), .val (.int (1 : Int32)), .val (.int (2 : Int32))] [(.ref s_INVOKE_STATIC_targets)])) rfl (by rw [hml]; rfl) (Steps.refl _) (argsL := []) (rest := []) (lenOf pd0_1 rfl) rfl (by show 2 * 0 + _ ≤ _; exact Nat.le_of_eq rfl) (hb hby at_184) (fun _ _ => ⟨rfl, eh207, (by decide : 0 + 0 ≤ _), (by decide : 0 + 0 ≤ _)⟩)
      dsimp only [Pt.U, Pt.locs, Pt.cells, Pt.slots] at X208 l208 y208 z208 st208 hQ208
      subst l208 y208 z208
      obtain ⟨rfl, N208q, eh208⟩ := hQ208
      have N208 := Fr.app N207 N208q
      refine Go.tr st208 ?_
      show Go _ _ _ _ _ _ _ (T208.setTop (mkF m 187 #[.val (.int k0), .val (.int mv), .val (.int (6 : Int32)), .val (.ref s_INVOKE_STATIC), .val (.ref s_INVOKE_STATIC_targets), .val (.int (1 : Int32)), .val (.int (0 : Int32)), .val (.int (1 : Int32)), .val (.int (1 : Int32)), .val (.int (2 : Int32))] [(.int (2 : Int32))]))
      refine Go.by (fun _ kont => XS.iload X208.here hx rfl (hb hby at_187) rfl (XS.icmpNo X208.here hx rfl (hb hby at_189) rfl (by decide) (XS.iconst X208.here hx rfl (hb hby at_192) (XS.goto X208.here hx rfl (pc0 := 193) (pc' := 197) rfl (hb hby at_193) (by decide) (by decide) kont)))) ?_
      show Go _ _ _ _ _ _ _ (T208.setTop (mkF m 197 #[.val (.int k0), .val (.int mv), .val (.int (6 : Int32)), .val (.ref s_INVOKE_STATIC), .val (.ref s_INVOKE_STATIC_targets), .val (.int (1 : Int32)), .val (.int (0 : Int32)), .val (.int (1 : Int32)), .val (.int (1 : Int32)), .val (.int (2 : Int32))] [(.int (1 : Int32))]))
      refine Go.retN X208 hx (t := .boolean) hret (by simp) hlk (hb hby at_197) ?_ (by decide) (by decide)
      show Q0 Z h0 n0 (some (.int (1 : Int32))) T208.heap _
      rw [eh208]
      exact ⟨rfl, N208⟩
  · show Go _ _ _ _ _ _ _ (s₁.setTop (mkF m 10 #[.val (.int k0), .val (.int mv), .val (.int (7 : Int32)), .unset, .unset, .unset, .unset, .unset, .unset, .unset] []))
    refine Go.by (fun _ kont => XS.iloadN X0.here hx rfl (hb hby at_10) rfl kont) ?_
    show Go _ _ _ _ _ _ _ (s₁.setTop (mkF m 11 #[.val (.int k0), .val (.int mv), .val (.int (7 : Int32)), .unset, .unset, .unset, .unset, .unset, .unset, .unset] [(.int (7 : Int32))]))
    obtain ⟨_, _, ⟨T209, L209, k209, n209⟩, -, X209, ⟨Lc209, hQ209, l209, y209, z209⟩, st209⟩ := Jvm.LawKit.callS X0 hx (y := (⟨"com/example/classwright/classwright/ReferenceKind", "forByte", "(I)Lcom/example/classwright/classwright/ReferenceKind;"⟩ : MethodName)) hown (mvT hZ (hw _ (List.mem_of_getElem? (i := 1) rfl))) (mvT hZ (hw _ (List.mem_of_getElem? (i := 2) rfl))) (mvT hZ (hw _ (List.mem_of_getElem? (i := 3) rfl))) (mvT hZ (hw _ (List.mem_of_getElem? (i := 4) rfl))) (by decide) (backOf (W := 0) (rmF7 l Z a0 hw [] s_BY_VALUE kc_s_BY_VALUE s_GET_FIELD s_GET_STATIC s_PUT_FIELD s_PUT_STATIC s_INVOKE_VIRTUAL s_INVOKE_STATIC s_INVOKE_SPECIAL s_NEW_INVOKE_SPECIAL s_INVOKE_INTERFACE h0 n0 Z0 V_s_BY_VALUE S_BY_VALUE) hZ (hw _ (List.mem_of_getElem? (i := 4) rfl)) (hw _ (List.mem_of_getElem? (i := 3) rfl)) (by decide) (by decide)) (g := (mkF m 11 #[.val (.int k0), .val (.int mv), .val (.int (7 : Int32)), .unset, .unset, .unset, .unset, .unset, .unset, .unset] [(.int (7 : Int32))])) rfl (by rw [hml]; rfl) (argsL := [(.int (7 : Int32))]) (rest := []) (lenOf pd0_0 rfl) rfl (by show 2 * 0 + _ ≤ _; exact Nat.le_of_eq rfl) (hb hby at_11) (fun _ _ => ⟨rfl, e0, (by decide : 0 + 0 ≤ _), (by decide : 0 + 0 ≤ _)⟩)
    dsimp only [Pt.U, Pt.locs, Pt.cells, Pt.slots] at X209 l209 y209 z209 st209 hQ209
    subst l209 y209 z209
    obtain ⟨rfl, N209q, eh209⟩ := hQ209
    have N209 := Fr.app N0 N209q
    refine Go.by st209 ?_
    show Go _ _ _ _ _ _ _ (T209.setTop (mkF m 14 #[.val (.int k0), .val (.int mv), .val (.int (7 : Int32)), .unset, .unset, .unset, .unset, .unset, .unset, .unset] [(.ref s_INVOKE_SPECIAL)]))
    refine Go.by (fun _ kont => XS.astoreN X209.here hx rfl (hb hby at_14) rfl rfl (l' := #[.val (.int k0), .val (.int mv), .val (.int (7 : Int32)), .val (.ref s_INVOKE_SPECIAL), .unset, .unset, .unset, .unset, .unset, .unset]) rfl (XS.aloadN X209.here hx rfl (hb hby at_15) rfl rfl (XS.ifnullNo X209.here hx rfl (hb hby at_16) rfl (XS.aloadN X209.here hx rfl (hb hby at_19) rfl rfl kont)))) ?_
    show Go _ _ _ _ _ _ _ (T209.setTop (mkF m 20 #[.val (.int k0), .val (.int mv), .val (.int (7 : Int32)), .val (.ref s_INVOKE_SPECIAL), .unset, .unset, .unset, .unset, .unset, .unset] [(.ref s_INVOKE_SPECIAL)]))
    obtain ⟨cq210, kq210, q210a, q210b, q210c⟩ := isOf hZ eh209 E_s_INVOKE_SPECIAL
    obtain ⟨_, _, ⟨T210, L210, k210, n210⟩, -, X210, ⟨Lc210, hQ210, l210, y210, z210⟩, st210⟩ := X209.virtualBack hx (y := (⟨"com/example/classwright/classwright/ReferenceKind", "value", "()I"⟩ : MethodName)) (z := (⟨"com/example/classwright/classwright/ReferenceKind", "value", "()I"⟩ : MethodName)) hown (mvT hZ (hw _ (List.mem_of_getElem? (i := 8) rfl))) (mvT hZ (hw _ (List.mem_of_getElem? (i := 9) rfl))) (notFace_of_selects (args := #[]) (mvT hZ (hw _ (List.mem_of_getElem? (i := 11) rfl)))) (mvT hZ (hw _ (List.mem_of_getElem? (i := 11) rfl))) (mvT hZ (hw _ (List.mem_of_getElem? (i := 10) rfl))) (by decide) (backOf (W := 0) (rmV l Z a0 hw [] s_INVOKE_SPECIAL (7 : Int32) h0 n0 Z0 E_s_INVOKE_SPECIAL F_s_INVOKE_SPECIAL_value) hZ (hw _ (List.mem_of_getElem? (i := 12) rfl)) (hw _ (List.mem_of_getElem? (i := 3) rfl)) (by decide) (by decide)) q210a q210c (g := (mkF m 20 #[.val (.int k0), .val (.int mv), .val (.int (7 : Int32)), .val (.ref s_INVOKE_SPECIAL), .unset, .unset, .unset, .unset, .unset, .unset] [(.ref s_INVOKE_SPECIAL)])) rfl (by rw [hml]; rfl) (Steps.refl _) (argsL := []) (rest := []) (lenOf pd0_1 rfl) rfl (by show 2 * 0 + _ ≤ _; exact Nat.le_of_eq rfl) (hb hby at_20) (fun _ _ => ⟨rfl, eh209, (by decide : 0 + 0 ≤ _), (by decide : 0 + 0 ≤ _)⟩)
    dsimp only [Pt.U, Pt.locs, Pt.cells, Pt.slots] at X210 l210 y210 z210 st210 hQ210
    subst l210 y210 z210
    obtain ⟨rfl, N210q, eh210⟩ := hQ210
    have N210 := Fr.app N209 N210q
    refine Go.tr st210 ?_
    show Go _ _ _ _ _ _ _ (T210.setTop (mkF m 23 #[.val (.int k0), .val (.int mv), .val (.int (7 : Int32)), .val (.ref s_INVOKE_SPECIAL), .unset, .unset, .unset, .unset, .unset, .unset] [(.int (7 : Int32))]))
    refine Go.by (fun _ kont => XS.iloadN X210.here hx rfl (hb hby at_23) rfl (XS.icmpYes X210.here hx rfl (pc0 := 24) (pc' := 29) rfl (hb hby at_24) rfl (by decide) (by decide) (by decide) kont)) ?_
    show Go _ _ _ _ _ _ _ (T210.setTop (mkF m 29 #[.val (.int k0), .val (.int mv), .val (.int (7 : Int32)), .val (.ref s_INVOKE_SPECIAL), .unset, .unset, .unset, .unset, .unset, .unset] []))
    by_cases hmv : mv < (52 : Int32)
    · show Go _ _ _ _ _ _ _ (T210.setTop (mkF m 29 #[.val (.int k0), .val (.int mv), .val (.int (7 : Int32)), .val (.ref s_INVOKE_SPECIAL), .unset, .unset, .unset, .unset, .unset, .unset] []))
      refine Go.by (fun _ kont => XS.aloadN X210.here hx rfl (hb hby at_29) rfl rfl (XS.iloadN X210.here hx rfl (hb hby at_30) rfl kont)) ?_
      show Go _ _ _ _ _ _ _ (T210.setTop (mkF m 31 #[.val (.int k0), .val (.int mv), .val (.int (7 : Int32)), .val (.ref s_INVOKE_SPECIAL), .unset, .unset, .unset, .unset, .unset, .unset] [(.int mv), (.ref s_INVOKE_SPECIAL)]))
      obtain ⟨cq211, kq211, q211a, q211b, q211c⟩ := isOf hZ eh210 E_s_INVOKE_SPECIAL
      obtain ⟨_, _, ⟨T211, L211, k211, n211⟩, -, X211, ⟨Lc211, hQ211, l211, y211, z211⟩, st211⟩ := X210.virtualBack hx (y := (⟨"com/example/classwright/classwright/ReferenceKind", "targetKinds", "(I)Lcom/example/classwright/classwright/KindSet;"⟩ : MethodName)) (z := (⟨"com/example/classwright/classwright/ReferenceKind", "targetKinds", "(I)Lcom/example/classwright/classwright/KindSet;"⟩ : MethodName)) hown (mvT hZ (hw _ (List.mem_of_getElem? (i := 15) rfl))) (mvT hZ (hw _ (List.mem_of_getElem? (i := 16) rfl))) (notFace_of_selects (args := #[]) (mvT hZ (hw _ (List.mem_of_getElem? (i := 18) rfl)))) (mvT hZ (hw _ (List.mem_of_getElem? (i := 18) rfl))) (mvT hZ (hw _ (List.mem_of_getElem? (i := 17) rfl))) (by decide) (backOf (W := 0) (rmTp l Z a0 hw [] s_INVOKE_SPECIAL mv s_INVOKE_SPECIAL_targets s_INVOKE_STATIC s_METHODREF_ h0 n0 Z0 E_s_INVOKE_SPECIAL F_s_INVOKE_SPECIAL_targets (Ne.symm ne_s_INVOKE_STATIC_s_INVOKE_SPECIAL) S_INVOKE_STATIC S_INVOKE_SPECIAL S_METHODREF_ hmv) hZ (hw _ (List.mem_of_getElem? (i := 19) rfl)) (hw _ (List.mem_of_getElem? (i := 3) rfl)) (by decide) (by decide)) q211a q211c (g := (mkF m 31 #[.val (.int k0), .val (.int mv), .val (.int (7 : Int32)), .val (.ref s_INVOKE_SPECIAL), .unset, .unset, .unset, .unset, .unset, .unset] [(.int mv), (.ref s_INVOKE_SPECIAL)])) rfl (by rw [hml]; rfl) (Steps.refl _) (argsL := [(.int mv)]) (rest := []) (lenOf pd0_2 rfl) rfl (by show 2 * 0 + _ ≤ _; exact Nat.le_of_eq rfl) (hb hby at_31) (fun _ _ => ⟨rfl, eh210, (by decide : 0 + 0 ≤ _), (by decide : 0 + 0 ≤ _)⟩)
      dsimp only [Pt.U, Pt.locs, Pt.cells, Pt.slots] at X211 l211 y211 z211 st211 hQ211
      subst l211 y211 z211
      obtain ⟨rfl, N211q, eh211⟩ := hQ211
      have N211 := Fr.app N210 N211q
      refine Go.tr st211 ?_
      show Go _ _ _ _ _ _ _ (T211.setTop (mkF m 34 #[.val (.int k0), .val (.int mv), .val (.int (7 : Int32)), .val (.ref s_INVOKE_SPECIAL), .unset, .unset, .unset, .unset, .unset, .unset] [(.ref s_METHODREF_)]))
      refine Go.by (fun _ kont => XS.astore X211.here hx rfl (hb hby at_34) rfl rfl (l' := #[.val (.int k0), .val (.int mv), .val (.int (7 : Int32)), .val (.ref s_INVOKE_SPECIAL), .val (.ref s_METHODREF_), .unset, .unset, .unset, .unset, .unset]) rfl (XS.iloadN X211.here hx rfl (hb hby at_36) rfl (XS.bipush X211.here hx rfl (hb hby at_37) kont))) ?_
      show Go _ _ _ _ _ _ _ (T211.setTop (mkF m 39 #[.val (.int k0), .val (.int mv), .val (.int (7 : Int32)), .val (.ref s_INVOKE_SPECIAL), .val (.ref s_METHODREF_), .unset, .unset, .unset, .unset, .unset] [(.int (52 : Int32)), (.int mv)]))
      refine Go.by (fun _ kont => XS.icmpYes X211.here hx rfl (pc0 := 39) (pc' := 46) rfl (hb hby at_39) rfl (tlt hmv).1 (by decide) (by decide) kont) ?_
      show Go _ _ _ _ _ _ _ (T211.setTop (mkF m 46 #[.val (.int k0), .val (.int mv), .val (.int (7 : Int32)), .val (.ref s_INVOKE_SPECIAL), .val (.ref s_METHODREF_), .unset, .unset, .unset, .unset, .unset] []))
      refine Go.by (fun _ kont => XS.iconst X211.here hx rfl (hb hby at_46) (XS.istore X211.here hx rfl (hb hby at_47) rfl (l' := #[.val (.int k0), .val (.int mv), .val (.int (7 : Int32)), .val (.ref s_INVOKE_SPECIAL), .val (.ref s_METHODREF_), .val (.int (0 : Int32)), .unset, .unset, .unset, .unset]) rfl (XS.iloadN X211.here hx rfl (hb hby at_49) rfl (XS.iconst X211.here hx rfl (hb hby at_50) (XS.icmpYes X211.here hx rfl (pc0 := 51) (pc' := 58) rfl (hb hby at_51) rfl (by decide) (by decide) (by decide) (XS.iconst X211.here hx rfl (hb hby at_58) (XS.istore X211.here hx rfl (hb hby at_59) rfl (l' := #[.val (.int k0), .val (.int mv), .val (.int (7 : Int32)), .val (.ref s_INVOKE_SPECIAL), .val (.ref s_METHODREF_), .val (.int (0 : Int32)), .val (.int (0 : Int32)), .unset, .unset, .unset]) rfl (XS.iloadN X211.here hx rfl (hb hby at_61) rfl (XS.iconst X211.here hx rfl (hb hby at_62) (XS.icmpNo X211.here hx rfl (hb hby at_63) rfl (by decide) (XS.iloadN X211.here hx rfl (hb hby at_66) rfl (XS.bipush X211.here hx rfl (hb hby at_67) kont)))))))))))) ?_
      show Go _ _ _ _ _ _ _ (T211.setTop (mkF m 69 #[.val (.int k0), .val (.int mv), .val (.int (7 : Int32)), .val (.ref s_INVOKE_SPECIAL), .val (.ref s_METHODREF_), .val (.int (0 : Int32)), .val (.int (0 : Int32)), .unset, .unset, .unset] [(.int (8 : Int32)), (.int (7 : Int32))]))
      refine Go.by (fun _ kont => XS.icmpNo X211.here hx rfl (hb hby at_69) rfl (by decide) (XS.iconst X211.here hx rfl (hb hby at_72) (XS.goto X211.here hx rfl (pc0 := 73) (pc' := 77) rfl (hb hby at_73) (by decide) (by decide) (XS.istore X211.here hx rfl (hb hby at_77) rfl (l' := #[.val (.int k0), .val (.int mv), .val (.int (7 : Int32)), .val (.ref s_INVOKE_SPECIAL), .val (.ref s_METHODREF_), .val (.int (0 : Int32)), .val (.int (0 : Int32)), .val (.int (1 : Int32)), .unset, .unset]) rfl (XS.iloadN X211.here hx rfl (hb hby at_79) rfl (XS.bipush X211.here hx rfl (hb hby at_80) (XS.icmpNo X211.here hx rfl (hb hby at_82) rfl (by decide) (XS.iloadN X211.here hx rfl (hb hby at_85) rfl (XS.bipush X211.here hx rfl (hb hby at_86) (XS.icmpNo X211.here hx rfl (hb hby at_88) rfl (by decide) (XS.iloadN X211.here hx rfl (hb hby at_91) rfl (XS.bipush X211.here hx rfl (hb hby at_92) kont)))))))))))) ?_
      show Go _ _ _ _ _ _ _ (T211.setTop (mkF m 94 #[.val (.int k0), .val (.int mv), .val (.int (7 : Int32)), .val (.ref s_INVOKE_SPECIAL), .val (.ref s_METHODREF_), .val (.int (0 : Int32)), .val (.int (0 : Int32)), .val (.int (1 : Int32)), .unset, .unset] [(.int (7 : Int32)), (.int (7 : Int32))]))
      refine Go.by (fun _ kont => XS.icmpNo X211.here hx rfl (hb hby at_94) rfl (by decide) (XS.iload X211.here hx rfl (hb hby at_97) rfl (XS.ifYes X211.here hx rfl (pc0 := 99) (pc' := 106) rfl (hb hby at_99) rfl (by decide) (by decide) (by decide) (XS.iconst X211.here hx rfl (hb hby at_106) (XS.istore X211.here hx rfl (hb hby at_107) rfl (l' := #[.val (.int k0), .val (.int mv), .val (.int (7 : Int32)), .val (.ref s_INVOKE_SPECIAL), .val (.ref s_METHODREF_), .val (.int (0 : Int32)), .val (.int (0 : Int32)), .val (.int (1 : Int32)), .val (.int (0 : Int32)), .unset]) rfl (XS.iload X211.here hx rfl (hb hby at_109) rfl (XS.ifYes X211.here hx rfl (pc0 := 111) (pc' := 118) rfl (hb hby at_111) rfl (by decide) (by decide) (by decide) (XS.iconst X211.here hx rfl (hb hby at_118) (XS.iload X211.here hx rfl (hb hby at_119) rfl (XS.ifNo X211.here hx rfl (hb hby at_121) rfl (by decide) (XS.iconst X211.here hx rfl (hb hby at_124) (XS.goto X211.here hx rfl (pc0 := 125) (pc' := 129) rfl (hb hby at_125) (by decide) (by decide) kont)))))))))))) ?_
      show Go _ _ _ _ _ _ _ (T211.setTop (mkF m 129 #[.val (.int k0), .val (.int mv), .val (.int (7 : Int32)), .val (.ref s_INVOKE_SPECIAL), .val (.ref s_METHODREF_), .val (.int (0 : Int32)), .val (.int (0 : Int32)), .val (.int (1 : Int32)), .val (.int (0 : Int32)), .unset] [(.int (1 : Int32)), (.int (0 : Int32))]))
      refine Go.by (fun _ kont => XS.iadd X211.here hx rfl (hb hby at_129) rfl kont) ?_
      show Go _ _ _ _ _ _ _ (T211.setTop (mkF m 130 #[.val (.int k0), .val (.int mv), .val (.int (7 : Int32)), .val (.ref s_INVOKE_SPECIAL), .val (.ref s_METHODREF_), .val (.int (0 : Int32)), .val (.int (0 : Int32)), .val (.int (1 : Int32)), .val (.int (0 : Int32)), .unset] [(.int ((0 : Int32) + (1 : Int32)))]))
      rw [show ((0 : Int32) + (1 : Int32)) = (1 : Int32) from by decide]
      show Go _ _ _ _ _ _ _ (T211.setTop (mkF m 130 #[.val (.int k0), .val (.int mv), .val (.int (7 : Int32)), .val (.ref s_INVOKE_SPECIAL), .val (.ref s_METHODREF_), .val (.int (0 : Int32)), .val (.int (0 : Int32)), .val (.int (1 : Int32)), .val (.int (0 : Int32)), .unset] [(.int (1 : Int32))]))
      refine Go.by (fun _ kont => XS.iload X211.here hx rfl (hb hby at_130) rfl (XS.ifYes X211.here hx rfl (pc0 := 132) (pc' := 139) rfl (hb hby at_132) rfl (by decide) (by decide) (by decide) (XS.iconst X211.here hx rfl (hb hby at_139) (XS.iadd X211.here hx rfl (hb hby at_140) rfl kont)))) ?_
      show Go _ _ _ _ _ _ _ (T211.setTop (mkF m 141 #[.val (.int k0), .val (.int mv), .val (.int (7 : Int32)), .val (.ref s_INVOKE_SPECIAL), .val (.ref s_METHODREF_), .val (.int (0 : Int32)), .val (.int (0 : Int32)), .val (.int (1 : Int32)), .val (.int (0 : Int32)), .unset] [(.int ((1 : Int32) + (0 : Int32)))]))
      rw [show ((1 : Int32) + (0 : Int32)) = (1 : Int32) from by decide]
      show Go _ _ _ _ _ _ _ (T211.setTop (mkF m 141 #[.val (.int k0), .val (.int mv), .val (.int (7 : Int32)), .val (.ref s_INVOKE_SPECIAL), .val (.ref s_METHODREF_), .val (.int (0 : Int32)), .val (.int (0 : Int32)), .val (.int (1 : Int32)), .val (.int (0 : Int32)), .unset] [(.int (1 : Int32))]))
      refine Go.by (fun _ kont => XS.istore X211.here hx rfl (hb hby at_141) rfl (l' := #[.val (.int k0), .val (.int mv), .val (.int (7 : Int32)), .val (.ref s_INVOKE_SPECIAL), .val (.ref s_METHODREF_), .val (.int (0 : Int32)), .val (.int (0 : Int32)), .val (.int (1 : Int32)), .val (.int (0 : Int32)), .val (.int (1 : Int32))]) rfl (XS.aload X211.here hx rfl (hb hby at_143) rfl rfl kont)) ?_
      show Go _ _ _ _ _ _ _ (T211.setTop (mkF m 145 #[.val (.int k0), .val (.int mv), .val (.int (7 : Int32)), .val (.ref s_INVOKE_SPECIAL), .val (.ref s_METHODREF_), .val (.int (0 : Int32)), .val (.int (0 : Int32)), .val (.int (1 : Int32)), .val (.int (0 : Int32)), .val (.int (1 : Int32))] [(.ref s_METHODREF_)]))
      obtain ⟨T212, X212, e212, st212⟩ := getS2 X211 hx hZ hown (host := "") (Or.inl (hw _ (List.mem_of_getElem? (i := 26) rfl))) Via.refl eh211 S_FIELDREF (g := (mkF m 145 #[.val (.int k0), .val (.int mv), .val (.int (7 : Int32)), .val (.ref s_INVOKE_SPECIAL), .val (.ref s_METHODREF_), .val (.int (0 : Int32)), .val (.int (0 : Int32)), .val (.int (1 : Int32)), .val (.int (0 : Int32)), .val (.int (1 : Int32))] [(.ref s_METHODREF_)])) rfl (hb hby at_145)
      refine Go.by st212 ?_
      show Go _ _ _ _ _ _ _ (T212.setTop (mkF m 148 #[.val (.int k0), .val (.int mv), .val (.int (7 : Int32)), .val (.ref s_INVOKE_SPECIAL), .val (.ref s_METHODREF_), .val (.int (0 : Int32)), .val (.int (0 : Int32)), .val (.int (1 : Int32)), .val (.int (0 : Int32)), .val (.int (1 : Int32))] [(.ref s_FIELDREF), (.ref s_METHODREF_)]))
      obtain ⟨cq213, kq213, q213a, q213b, q213c⟩ := isOf hZ e212 E_s_METHODREF_
      obtain ⟨_, _, ⟨T213, L213, k213, n213⟩, -, X213, ⟨Lc213, hQ213, l213, y213, z213⟩, st213⟩ := X212.virtualBack hx (y := (⟨"com/example/classwright/classwright/KindSet", "contains", "(Ljava/lang/Object;)Z"⟩ : MethodName)) (z := (⟨"com/example/classwright/classwright/KindSet", "contains", "(Ljava/lang/Object;)Z"⟩ : MethodName)) hown (mvT hZ (hw _ (List.mem_of_getElem? (i := 29) rfl))) (mvT hZ (hw _ (List.mem_of_getElem? (i := 30) rfl))) (notFace_of_selects (args := #[]) (mvT hZ (hw _ (List.mem_of_getElem? (i := 32) rfl)))) (mvT hZ (hw _ (List.mem_of_getElem? (i := 32) rfl))) (mvT hZ (hw _ (List.mem_of_getElem? (i := 31) rfl))) (by decide) (backOf (W := 0) (rmC256_7 l Z a0 hw [] s_METHODREF_ s_FIELDREF h0 n0 Z0 E_s_METHODREF_ F_s_METHODREF__bits E_s_FIELDREF F_s_FIELDREF_ordinal) hZ (hw _ (List.mem_of_getElem? (i := 34) rfl)) (hw _ (List.mem_of_getElem? (i := 33) rfl)) (by decide) (by decide)) q213a q213c (g := (mkF m 148 #[.val (.int k0), .val (.int mv), .val (.int (7 : Int32)), .val (.ref s_INVOKE_SPECIAL), .val (.ref s_METHODREF_), .val (.int (0 : Int32)), .val (.int (0 : Int32)), .val (.int (1 : Int32)), .val (.int (0 : Int32)), .val (.int (1 : Int32))] [(.ref s_FIELDREF), (.ref s_METHODREF_)])) rfl (by rw [hml]; rfl) (Steps.refl _) (argsL := [(.ref s_FIELDREF)]) (rest := []) (lenOf pd0_3 rfl) rfl (by show 2 * 0 + _ ≤ _; exact Nat.le_of_eq rfl) (hb hby at_148) (fun _ _ => ⟨rfl, e212, (by decide : 0 + 0 ≤ _), (by decide : 0 + 0 ≤ _)⟩)
      dsimp only [Pt.U, Pt.locs, Pt.cells, Pt.slots] at X213 l213 y213 z213 st213 hQ213
      subst l213 y213 z213
      obtain ⟨rfl, N213q, eh213⟩ := hQ213
      have N213 := Fr.app N211 N213q
      refine Go.tr st213 ?_
      show Go _ _ _ _ _ _ _ (T213.setTop (mkF m 151 #[.val (.int k0), .val (.int mv), .val (.int (7 : Int32)), .val (.ref s_INVOKE_SPECIAL), .val (.ref s_METHODREF_), .val (.int (0 : Int32)), .val (.int (0 : Int32)), .val (.int (1 : Int32)), .val (.int (0 : Int32)), .val (.int (1 : Int32))] [(.int (0 : Int32))]))
      refine Go.by (fun _ kont => XS.iload X213.here hx rfl (hb hby at_151) rfl (XS.icmpNo X213.here hx rfl (hb hby at_153) rfl (by decide) (XS.aload X213.here hx rfl (hb hby at_156) rfl rfl kont))) ?_
      show Go _ _ _ _ _ _ _ (T213.setTop (mkF m 158 #[.val (.int k0), .val (.int mv), .val (.int (7 : Int32)), .val (.ref s_INVOKE_SPECIAL), .val (.ref s_METHODREF_), .val (.int (0 : Int32)), .val (.int (0 : Int32)), .val (.int (1 : Int32)), .val (.int (0 : Int32)), .val (.int (1 : Int32))] [(.ref s_METHODREF_)]))
      obtain ⟨T214, X214, e214, st214⟩ := getS2 X213 hx hZ hown (host := "") (Or.inl (hw _ (List.mem_of_getElem? (i := 48) rfl))) Via.refl eh213 S_METHODREF (g := (mkF m 158 #[.val (.int k0), .val (.int mv), .val (.int (7 : Int32)), .val (.ref s_INVOKE_SPECIAL), .val (.ref s_METHODREF_), .val (.int (0 : Int32)), .val (.int (0 : Int32)), .val (.int (1 : Int32)), .val (.int (0 : Int32)), .val (.int (1 : Int32))] [(.ref s_METHODREF_)])) rfl (hb hby at_158)
      refine Go.by st214 ?_
      show Go _ _ _ _ _ _ _ (T214.setTop (mkF m 161 #[.val (.int k0), .val (.int mv), .val (.int (7 : Int32)), .val (.ref s_INVOKE_SPECIAL), .val (.ref s_METHODREF_), .val (.int (0 : Int32)), .val (.int (0 : Int32)), .val (.int (1 : Int32)), .val (.int (0 : Int32)), .val (.int (1 : Int32))] [(.ref s_METHODREF), (.ref s_METHODREF_)]))
      obtain ⟨cq215, kq215, q215a, q215b, q215c⟩ := isOf hZ e214 E_s_METHODREF_
      obtain ⟨_, _, ⟨T215, L215, k215, n215⟩, -, X215, ⟨Lc215, hQ215, l215, y215, z215⟩, st215⟩ := X214.virtualBack hx (y := (⟨"com/example/classwright/classwright/KindSet", "contains", "(Ljava/lang/Object;)Z"⟩ : MethodName)) (z := (⟨"com/example/classwright/classwright/KindSet", "contains", "(Ljava/lang/Object;)Z"⟩ : MethodName)) hown (mvT hZ (hw _ (List.mem_of_getElem? (i := 29) rfl))) (mvT hZ (hw _ (List.mem_of_getElem? (i := 30) rfl))) (notFace_of_selects (args := #[]) (mvT hZ (hw _ (List.mem_of_getElem? (i := 32) rfl)))) (mvT hZ (hw _ (List.mem_of_getElem? (i := 32) rfl))) (mvT hZ (hw _ (List.mem_of_getElem? (i := 31) rfl))) (by decide) (backOf (W := 0) (rmC256_8 l Z a0 hw [] s_METHODREF_ s_METHODREF h0 n0 Z0 E_s_METHODREF_ F_s_METHODREF__bits E_s_METHODREF F_s_METHODREF_ordinal) hZ (hw _ (List.mem_of_getElem? (i := 34) rfl)) (hw _ (List.mem_of_getElem? (i := 33) rfl)) (by decide) (by decide)) q215a q215c (g := (mkF m 161 #[.val (.int k0), .val (.int mv), .val (.int (7 : Int32)), .val (.ref s_INVOKE_SPECIAL), .val (.ref s_METHODREF_), .val (.int (0 : Int32)), .val (.int (0 : Int32)), .val (.int (1 : Int32)), .val (.int (0 : Int32)), .val (.int (1 : Int32))] [(.ref s_METHODREF), (.ref s_METHODREF_)])) rfl (by rw [hml]; rfl) (Steps.refl _) (argsL := [(.ref s_METHODREF)]) (rest := []) (lenOf pd0_3 rfl) rfl (by show 2 * 0 + _ ≤ _; exact Nat.le_of_eq rfl) (hb hby at_161) (fun _ _ => ⟨rfl, e214, (by decide : 0 + 0 ≤ _), (by decide : 0 + 0 ≤ _)⟩)
      dsimp only [Pt.U, Pt.locs, Pt.cells, Pt.slots] at X215 l215 y215 z215 st215 hQ215
      subst l215 y215 z215
      obtain ⟨rfl, N215q, eh215⟩ := hQ215
      have N215 := Fr.app N213 N215q
      refine Go.tr st215 ?_
      show Go _ _ _ _ _ _ _ (T215.setTop (mkF m 164 #[.val (.int k0), .val (.int mv), .val (.int (7 : Int32)), .val (.ref s_INVOKE_SPECIAL), .val (.ref s_METHODREF_), .val (.int (0 : Int32)), .val (.int (0 : Int32)), .val (.int (1 : Int32)), .val (.int (0 : Int32)), .val (.int (1 : Int32))] [(.int (1 : Int32))]))
      refine Go.by (fun _ kont => XS.iload X215.here hx rfl (hb hby at_164) rfl (XS.icmpNo X215.here hx rfl (hb hby at_166) rfl (by decide) (XS.aload X215.here hx rfl (hb hby at_169) rfl rfl kont))) ?_
      show Go _ _ _ _ _ _ _ (T215.setTop (mkF m 171 #[.val (.int k0), .val (.int mv), .val (.int (7 : Int32)), .val (.ref s_INVOKE_SPECIAL), .val (.ref s_METHODREF_), .val (.int (0 : Int32)), .val (.int (0 : Int32)), .val (.int (1 : Int32)), .val (.int (0 : Int32)), .val (.int (1 : Int32))] [(.ref s_METHODREF_)]))
      obtain ⟨T216, X216, e216, st216⟩ := getS2 X215 hx hZ hown (host := "") (Or.inl (hw _ (List.mem_of_getElem? (i := 50) rfl))) Via.refl eh215 S_INTERFACE_METHODREF (g := (mkF m 171 #[.val (.int k0), .val (.int mv), .val (.int (7 : Int32)), .val (.ref s_INVOKE_SPECIAL), .val (.ref s_METHODREF_), .val (.int (0 : Int32)), .val (.int (0 : Int32)), .val (.int (1 : Int32)), .val (.int (0 : Int32)), .val (.int (1 : Int32))] [(.ref s_METHODREF_)])) rfl (hb hby at_171)
      refine Go.by st216 ?_
      show Go _ _ _ _ _ _ _ (T216.setTop (mkF m 174 #[.val (.int k0), .val (.int mv), .val (.int (7 : Int32)), .val (.ref s_INVOKE_SPECIAL), .val (.ref s_METHODREF_), .val (.int (0 : Int32)), .val (.int (0 : Int32)), .val (.int (1 : Int32)), .val (.int (0 : Int32)), .val (.int (1 : Int32))] [(.ref s_INTERFACE_METHODREF), (.ref s_METHODREF_)]))
      obtain ⟨cq217, kq217, q217a, q217b, q217c⟩ := isOf hZ e216 E_s_METHODREF_
      obtain ⟨_, _, ⟨T217, L217, k217, n217⟩, -, X217, ⟨Lc217, hQ217, l217, y217, z217⟩, st217⟩ := X216.virtualBack hx (y := (⟨"com/example/classwright/classwright/KindSet", "contains", "(Ljava/lang/Object;)Z"⟩ : MethodName)) (z := (⟨"com/example/classwright/classwright/KindSet", "contains", "(Ljava/lang/Object;)Z"⟩ : MethodName)) hown (mvT hZ (hw _ (List.mem_of_getElem? (i := 29) rfl))) (mvT hZ (hw _ (List.mem_of_getElem? (i := 30) rfl))) (notFace_of_selects (args := #[]) (mvT hZ (hw _ (List.mem_of_getElem? (i := 32) rfl)))) (mvT hZ (hw _ (List.mem_of_getElem? (i := 32) rfl))) (mvT hZ (hw _ (List.mem_of_getElem? (i := 31) rfl))) (by decide) (backOf (W := 0) (rmC256_9 l Z a0 hw [] s_METHODREF_ s_INTERFACE_METHODREF h0 n0 Z0 E_s_METHODREF_ F_s_METHODREF__bits E_s_INTERFACE_METHODREF F_s_INTERFACE_METHODREF_ordinal) hZ (hw _ (List.mem_of_getElem? (i := 34) rfl)) (hw _ (List.mem_of_getElem? (i := 33) rfl)) (by decide) (by decide)) q217a q217c (g := (mkF m 174 #[.val (.int k0), .val (.int mv), .val (.int (7 : Int32)), .val (.ref s_INVOKE_SPECIAL), .val (.ref s_METHODREF_), .val (.int (0 : Int32)), .val (.int (0 : Int32)), .val (.int (1 : Int32)), .val (.int (0 : Int32)), .val (.int (1 : Int32))] [(.ref s_INTERFACE_METHODREF), (.ref s_METHODREF_)])) rfl (by rw [hml]; rfl) (Steps.refl _) (argsL := [(.ref s_INTERFACE_METHODREF)]) (rest := []) (lenOf pd0_3 rfl) rfl (by show 2 * 0 + _ ≤ _; exact Nat.le_of_eq rfl) (hb hby at_174) (fun _ _ => ⟨rfl, e216, (by decide : 0 + 0 ≤ _), (by decide : 0 + 0 ≤ _)⟩)
      dsimp only [Pt.U, Pt.locs, Pt.cells, Pt.slots] at X217 l217 y217 z217 st217 hQ217
      subst l217 y217 z217
      obtain ⟨rfl, N217q, eh217⟩ := hQ217
      have N217 := Fr.app N215 N217q
      refine Go.tr st217 ?_
      show Go _ _ _ _ _ _ _ (T217.setTop (mkF m 177 #[.val (.int k0), .val (.int mv), .val (.int (7 : Int32)), .val (.ref s_INVOKE_SPECIAL), .val (.ref s_METHODREF_), .val (.int (0 : Int32)), .val (.int (0 : Int32)), .val (.int (1 : Int32)), .val (.int (0 : Int32)), .val (.int (1 : Int32))] [(.int (0 : Int32))]))
      refine Go.by (fun _ kont => XS.iload X217.here hx rfl (hb hby at_177) rfl (XS.icmpNo X217.here hx rfl (hb hby at_179) rfl (by decide) (XS.aload X217.here hx rfl (hb hby at_182) rfl rfl kont))) ?_
      show Go _ _ _ _ _ _ _ (T217.setTop (mkF m 184 #[.val (.int k0), .val (.int mv), .val (.int (7 : Int32)), .val (.ref s_INVOKE_SPECIAL), .val (.ref s_METHODREF_), .val (.int (0 : Int32)), .val (.int (0 : Int32)), .val (.int (1 : Int32)), .val (.int (0 : Int32)), .val (.int (1 : Int32))] [(.ref s_METHODREF_)]))
      obtain ⟨cq218, kq218, q218a, q218b, q218c⟩ := isOf hZ eh217 E_s_METHODREF_
      obtain ⟨_, _, ⟨T218, L218, k218, n218⟩, -, X218, ⟨Lc218, hQ218, l218, y218, z218⟩, st218⟩ := X217.virtualBack hx (y := (⟨"com/example/classwright/classwright/KindSet", "size", "()I"⟩ : MethodName)) (z := (⟨"com/example/classwright/classwright/KindSet", "size", "()I"⟩ : MethodName)) hown (mvT hZ (hw _ (List.mem_of_getElem? (i := 52) rfl))) (mvT hZ (hw _ (List.mem_of_getElem? (i := 53) rfl))) (notFace_of_selects (args := #[]) (mvT hZ (hw _ (List.mem_of_getElem? (i := 55) rfl)))) (mvT hZ (hw _ (List.mem_of_getElem? (i := 55) rfl))) (mvT hZ (hw _ (List.mem_of_getElem? (i := 54) rfl))) (by decide) (backOf (W := 0) (rmS256 l Z a0 hw [] s_METHODREF_ h0 n0 Z0 E_s_METHODREF_ F_s_METHODREF__bits) hZ (hw _ (List.mem_of_getElem? (i := 56) rfl)) (hw _ (List.mem_of_getElem? (i := 33) rfl)) (by decide) (by decide)) q218a q218c (g := (mkF m 184 #[.val (.int k0), .val (.int mv), .val (.int (7 : Int32)), .val (.ref s_INVOKE_SPECIAL), .val (.ref s_METHODREF_), .val (.int (0 : Int32)), .val (.int (0 : Int32)), .val (.int (1 : Int32)), .val (.int (0 : Int32)), .val (.int (1 : Int32))] [(.ref s_METHODREF_)])) rfl (by rw [hml]; rfl) (Steps.refl _) (argsL := []) (rest := []) (lenOf pd0_1 rfl) rfl (by show 2 * 0 + _ ≤ _; exact Nat.le_of_eq rfl) (hb hby at_184) (fun _ _ => ⟨rfl, eh217, (by decide : 0 + 0 ≤ _), (by decide : 0 + 0 ≤ _)⟩)
      dsimp only [Pt.U, Pt.locs, Pt.cells, Pt.slots] at X218 l218 y218 z218 st218 hQ218
      subst l218 y218 z218
      obtain ⟨rfl, N218q, eh218⟩ := hQ218
      have N218 := Fr.app N217 N218q
      refine Go.tr st218 ?_
      show Go _ _ _ _ _ _ _ (T218.setTop (mkF m 187 #[.val (.int k0), .val (.int mv), .val (.int (7 : Int32)), .val (.ref s_INVOKE_SPECIAL), .val (.ref s_METHODREF_), .val (.int (0 : Int32)), .val (.int (0 : Int32)), .val (.int (1 : Int32)), .val (.int (0 : Int32)), .val (.int (1 : Int32))] [(.int (1 : Int32))]))
      refine Go.by (fun _ kont => XS.iload X218.here hx rfl (hb hby at_187) rfl (XS.icmpNo X218.here hx rfl (hb hby at_189) rfl (by decide) (XS.iconst X218.here hx rfl (hb hby at_192) (XS.goto X218.here hx rfl (pc0 := 193) (pc' := 197) rfl (hb hby at_193) (by decide) (by decide) kont)))) ?_
      show Go _ _ _ _ _ _ _ (T218.setTop (mkF m 197 #[.val (.int k0), .val (.int mv), .val (.int (7 : Int32)), .val (.ref s_INVOKE_SPECIAL), .val (.ref s_METHODREF_), .val (.int (0 : Int32)), .val (.int (0 : Int32)), .val (.int (1 : Int32)), .val (.int (0 : Int32)), .val (.int (1 : Int32))] [(.int (1 : Int32))]))
      refine Go.retN X218 hx (t := .boolean) hret (by simp) hlk (hb hby at_197) ?_ (by decide) (by decide)
      show Q0 Z h0 n0 (some (.int (1 : Int32))) T218.heap _
      rw [eh218]
      exact ⟨rfl, N218⟩
    · show Go _ _ _ _ _ _ _ (T210.setTop (mkF m 29 #[.val (.int k0), .val (.int mv), .val (.int (7 : Int32)), .val (.ref s_INVOKE_SPECIAL), .unset, .unset, .unset, .unset, .unset, .unset] []))
      refine Go.by (fun _ kont => XS.aloadN X210.here hx rfl (hb hby at_29) rfl rfl (XS.iloadN X210.here hx rfl (hb hby at_30) rfl kont)) ?_
      show Go _ _ _ _ _ _ _ (T210.setTop (mkF m 31 #[.val (.int k0), .val (.int mv), .val (.int (7 : Int32)), .val (.ref s_INVOKE_SPECIAL), .unset, .unset, .unset, .unset, .unset, .unset] [(.int mv), (.ref s_INVOKE_SPECIAL)]))
      obtain ⟨cq219, kq219, q219a, q219b, q219c⟩ := isOf hZ eh210 E_s_INVOKE_SPECIAL
      obtain ⟨_, _, ⟨T219, L219, k219, n219⟩, -, X219, ⟨Lc219, hQ219, l219, y219, z219⟩, st219⟩ := X210.virtualBack hx (y := (⟨"com/example/classwright/classwright/ReferenceKind", "targetKinds", "(I)Lcom/example/classwright/classwright/KindSet;"⟩ : MethodName)) (z := (⟨"com/example/classwright/classwright/ReferenceKind", "targetKinds", "(I)Lcom/example/classwright/classwright/KindSet;"⟩ : MethodName)) hown (mvT hZ (hw _ (List.mem_of_getElem? (i := 15) rfl))) (mvT hZ (hw _ (List.mem_of_getElem? (i := 16) rfl))) (notFace_of_selects (args := #[]) (mvT hZ (hw _ (List.mem_of_getElem? (i := 18) rfl)))) (mvT hZ (hw _ (List.mem_of_getElem? (i := 18) rfl))) (mvT hZ (hw _ (List.mem_of_getElem? (i := 17) rfl))) (by decide) (backOf (W := 0) (rmTm l Z a0 hw [] s_INVOKE_SPECIAL mv s_INVOKE_SPECIAL_targets h0 n0 Z0 E_s_INVOKE_SPECIAL F_s_INVOKE_SPECIAL_targets hmv) hZ (hw _ (List.mem_of_getElem? (i := 19) rfl)) (hw _ (List.mem_of_getElem? (i := 3) rfl)) (by decide) (by decide)) q219a q219c (g := (mkF m 31 #[.val (.int k0), .val (.int mv), .val (.int (7 : Int32)), .val (.ref s_INVOKE_SPECIAL), .unset, .unset, .unset, .unset, .unset, .unset] [(.int mv), (.ref s_INVOKE_SPECIAL)])) rfl (by rw [hml]; rfl) (Steps.refl _) (argsL := [(.int mv)]) (rest := []) (lenOf pd0_2 rfl) rfl (by show 2 * 0 + _ ≤ _; exact Nat.le_of_eq rfl) (hb hby at_31) (fun _ _ => ⟨rfl, eh210, (by decide : 0 + 0 ≤ _), (by decide : 0 + 0 ≤ _)⟩)
      dsimp only [Pt.U, Pt.locs, Pt.cells, Pt.slots] at X219 l219 y219 z219 st219 hQ219
      subst l219 y219 z219
      obtain ⟨rfl, N219q, eh219⟩ := hQ219
      have N219 := Fr.app N210 N219q
      refine Go.tr st219 ?_
      show Go _ _ _ _ _ _ _ (T219.setTop (mkF m 34 #[.val (.int k0), .val (.int mv), .val (.int (7 : Int32)), .val (.ref s_INVOKE_SPECIAL), .unset, .unset, .unset, .unset, .unset, .unset] [(.ref s_INVOKE_SPECIAL_targets)]))
      refine Go.by (fun _ kont => XS.astore X219.here hx rfl (hb hby at_34) rfl rfl (l' := #[.val (.int k0), .val (.int mv), .val (.int (7 : Int32)), .val (.ref s_INVOKE_SPECIAL), .val (.ref s_INVOKE_SPECIAL_targets), .unset, .unset, .unset, .unset, .unset]) rfl (XS.iloadN X219.here hx rfl (hb hby at_36) rfl (XS.bipush X219.here hx rfl (hb hby at_37) kont))) ?_
      show Go _ _ _ _ _ _ _ (T219.setTop (mkF m 39 #[.val (.int k0), .val (.int mv), .val (.int (7 : Int32)), .val (.ref s_INVOKE_SPECIAL), .val (.ref s_INVOKE_SPECIAL_targets), .unset, .unset, .unset, .unset, .unset] [(.int (52 : Int32)), (.int mv)]))
      refine Go.by (fun _ kont => XS.icmpNo X219.here hx rfl (hb hby at_39) rfl (flt hmv).1 kont) ?_
      show Go _ _ _ _ _ _ _ (T219.setTop (mkF m 42 #[.val (.int k0), .val (.int mv), .val (.int (7 : Int32)), .val (.ref s_INVOKE_SPECIAL), .val (.ref s_INVOKE_SPECIAL_targets), .unset, .unset, .unset, .unset, .unset] []))
      refine Go.by (fun _ kont => XS.iconst X219.here hx rfl (hb hby at_42) (XS.goto X219.here hx rfl (pc0 := 43) (pc' := 47) rfl (hb hby at_43) (by decide) (by decide) (XS.istore X219.here hx rfl (hb hby at_47) rfl (l' := #[.val (.int k0), .val (.int mv), .val (.int (7 : Int32)), .val (.ref s_INVOKE_SPECIAL), .val (.ref s_INVOKE_SPECIAL_targets), .val (.int (1 : Int32)), .unset, .unset, .unset, .unset]) rfl (XS.iloadN X219.here hx rfl (hb hby at_49) rfl (XS.iconst X219.here hx rfl (hb hby at_50) (XS.icmpYes X219.here hx rfl (pc0 := 51) (pc' := 58) rfl (hb hby at_51) rfl (by decide) (by decide) (by decide) (XS.iconst X219.here hx rfl (hb hby at_58) (XS.istore X219.here hx rfl (hb hby at_59) rfl (l' := #[.val (.int k0), .val (.int mv), .val (.int (7 : Int32)), .val (.ref s_INVOKE_SPECIAL), .val (.ref s_INVOKE_SPECIAL_targets), .val (.int (1 : Int32)), .val (.int (0 : Int32)), .unset, .unset, .unset]) rfl (XS.iloadN X219.here hx rfl (hb hby at_61) rfl (XS.iconst X219.here hx rfl (hb hby at_62) (XS.icmpNo X219.here hx rfl (hb hby at_63) rfl (by decide) (XS.iloadN X219.here hx rfl (hb hby at_66) rfl kont)))))))))))) ?_
      show Go _ _ _ _ _ _ _ (T219.setTop (mkF m 67 #[.val (.int k0), .val (.int mv), .val (.int (7 : Int32)), .val (.ref s_INVOKE_SPECIAL), .val (.ref s_INVOKE_SPECIAL_targets), .val (.int (1 : Int32)), .val (.int (0 : Int32)), .unset, .unset, .unset] [(.int (7 : Int32))]))
      refine Go.by (fun _ kont => XS.bipush X219.here hx rfl (hb hby at_67) (XS.icmpNo X219.here hx rfl (hb hby at_69) rfl (by decide) (XS.iconst X219.here hx rfl (hb hby at_72) (XS.goto X219.here hx rfl (pc0 := 73) (pc' := 77) rfl (hb hby at_73) (by decide) (by decide) (XS.istore X219.here hx rfl (hb hby at_77) rfl (l' := #[.val (.int k0), .val (.int mv), .val (.int (7 : Int32)), .val (.ref s_INVOKE_SPECIAL), .val (.ref s_INVOKE_SPECIAL_targets), .val (.int (1 : Int32)), .val (.int (0 : Int32)), .val (.int (1 : Int32)), .unset, .unset]) rfl (XS.iloadN X219.here hx rfl (hb hby at_79) rfl (XS.bipush X219.here hx rfl (hb hby at_80) (XS.icmpNo X219.here hx rfl (hb hby at_82) rfl (by decide) (XS.iloadN X219.here hx rfl (hb hby at_85) rfl (XS.bipush X219.here hx rfl (hb hby at_86) (XS.icmpNo X219.here hx rfl (hb hby at_88) rfl (by decide) (XS.iloadN X219.here hx rfl (hb hby at_91) rfl kont)))))))))))) ?_
      show Go _ _ _ _ _ _ _ (T219.setTop (mkF m 92 #[.val (.int k0), .val (.int mv), .val (.int (7 : Int32)), .val (.ref s_INVOKE_SPECIAL), .val (.ref s_INVOKE_SPECIAL_targets), .val (.int (1 : Int32)), .val (.int (0 : Int32)), .val (.int (1 : Int32)), .unset, .unset] [(.int (7 : Int32))]))
      refine Go.by (fun _ kont => XS.bipush X219.here hx rfl (hb hby at_92) (XS.icmpNo X219.here hx rfl (hb hby at_94) rfl (by decide) (XS.iload X219.here hx rfl (hb hby at_97) rfl (XS.ifNo X219.here hx rfl (hb hby at_99) rfl (by decide) (XS.iconst X219.here hx rfl (hb hby at_102) (XS.goto X219.here hx rfl (pc0 := 103) (pc' := 107) rfl (hb hby at_103) (by decide) (by decide) (XS.istore X219.here hx rfl (hb hby at_107) rfl (l' := #[.val (.int k0), .val (.int mv), .val (.int (7 : Int32)), .val (.ref s_INVOKE_SPECIAL), .val (.ref s_INVOKE_SPECIAL_targets), .val (.int (1 : Int32)), .val (.int (0 : Int32)), .val (.int (1 : Int32)), .val (.int (1 : Int32)), .unset]) rfl (XS.iload X219.here hx rfl (hb hby at_109) rfl (XS.ifYes X219.here hx rfl (pc0 := 111) (pc' := 118) rfl (hb hby at_111) rfl (by decide) (by decide) (by decide) (XS.iconst X219.here hx rfl (hb hby at_118) (XS.iload X219.here hx rfl (hb hby at_119) rfl (XS.ifNo X219.here hx rfl (hb hby at_121) rfl (by decide) kont)))))))))))) ?_
      show Go _ _ _ _ _ _ _ (T219.setTop (mkF m 124 #[.val (.int k0), .val (.int mv), .val (.int (7 : Int32)), .val (.ref s_INVOKE_SPECIAL), .val (.ref s_INVOKE_SPECIAL_targets), .val (.int (1 : Int32)), .val (.int (0 : Int32)), .val (.int (1 : Int32)), .val (.int (1 : Int32)), .unset] [(.int (0 : Int32))]))
      refine Go.by (fun _ kont => XS.iconst X219.here hx rfl (hb hby at_124) (XS.goto X219.here hx rfl (pc0 := 125) (pc' := 129) rfl (hb hby at_125) (by decide) (by decide) (XS.iadd X219.here hx rfl (hb hby at_129) rfl kont))) ?_
      show Go _ _ _ _ _ _ _ (T219.setTop (mkF m 130 #[.val (.int k0), .val (.int mv), .val (.int (7 : Int32)), .val (.ref s_INVOKE_SPECIAL), .val (.ref s_INVOKE_SPECIAL_targets), .val (.int (1 : Int32)), .val (.int (0 : Int32)), .val (.int (1 : Int32)), .val (.int (1 : Int32)), .unset] [(.int ((0 : Int32) + (1 : Int32)))]))
      rw [show ((0 : Int32) + (1 : Int32)) = (1 : Int32) from by decide]
      show Go _ _ _ _ _ _ _ (T219.setTop (mkF m 130 #[.val (.int k0), .val (.int mv), .val (.int (7 : Int32)), .val (.ref s_INVOKE_SPECIAL), .val (.ref s_INVOKE_SPECIAL_targets), .val (.int (1 : Int32)), .val (.int (0 : Int32)), .val (.int (1 : Int32)), .val (.int (1 : Int32)), .unset] [(.int (1 : Int32))]))
      refine Go.by (fun _ kont => XS.iload X219.here hx rfl (hb hby at_130) rfl (XS.ifNo X219.here hx rfl (hb hby at_132) rfl (by decide) (XS.iconst X219.here hx rfl (hb hby at_135) (XS.goto X219.here hx rfl (pc0 := 136) (pc' := 140) rfl (hb hby at_136) (by decide) (by decide) (XS.iadd X219.here hx rfl (hb hby at_140) rfl kont))))) ?_
      show Go _ _ _ _ _ _ _ (T219.setTop (mkF m 141 #[.val (.int k0), .val (.int mv), .val (.int (7 : Int32)), .val (.ref s_INVOKE_SPECIAL), .val (.ref s_INVOKE_SPECIAL_targets), .val (.int (1 : Int32)), .val (.int (0 : Int32)), .val (.int (1 : Int32)), .val (.int (1 : Int32)), .unset] [(.int ((1 : Int32) + (1 : Int32)))]))
      rw [show ((1 : Int32) + (1 : Int32)) = (2 : Int32) from by decide]
      show Go _ _ _ _ _ _ _ (T219.setTop (mkF m 141 #[.val (.int k0), .val (.int mv), .val (.int (7 : Int32)), .val (.ref s_INVOKE_SPECIAL), .val (.ref s_INVOKE_SPECIAL_targets), .val (.int (1 : Int32)), .val (.int (0 : Int32)), .val (.int (1 : Int32)), .val (.int (1 : Int32)), .unset] [(.int (2 : Int32))]))
      refine Go.by (fun _ kont => XS.istore X219.here hx rfl (hb hby at_141) rfl (l' := #[.val (.int k0), .val (.int mv), .val (.int (7 : Int32)), .val (.ref s_INVOKE_SPECIAL), .val (.ref s_INVOKE_SPECIAL_targets), .val (.int (1 : Int32)), .val (.int (0 : Int32)), .val (.int (1 : Int32)), .val (.int (1 : Int32)), .val (.int (2 : Int32))]) rfl (XS.aload X219.here hx rfl (hb hby at_143) rfl rfl kont)) ?_
      show Go _ _ _ _ _ _ _ (T219.setTop (mkF m 145 #[.val (.int k0), .val (.int mv), .val (.int (7 : Int32)), .val (.ref s_INVOKE_SPECIAL), .val (.ref s_INVOKE_SPECIAL_targets), .val (.int (1 : Int32)), .val (.int (0 : Int32)), .val (.int (1 : Int32)), .val (.int (1 : Int32)), .val (.int (2 : Int32))] [(.ref s_INVOKE_SPECIAL_targets)]))
      obtain ⟨T220, X220, e220, st220⟩ := getS2 X219 hx hZ hown (host := "") (Or.inl (hw _ (List.mem_of_getElem? (i := 26) rfl))) Via.refl eh219 S_FIELDREF (g := (mkF m 145 #[.val (.int k0), .val (.int mv), .val (.int (7 : Int32)), .val (.ref s_INVOKE_SPECIAL), .val (.ref s_INVOKE_SPECIAL_targets), .val (.int (1 : Int32)), .val (.int (0 : Int32)), .val (.int (1 : Int32)), .val (.int (1 : Int32)), .val (.int (2 : Int32))] [(.ref s_INVOKE_SPECIAL_targets)])) rfl (hb hby at_145)
      refine Go.by st220 ?_
      show Go _ _ _ _ _ _ _ (T220.setTop (mkF m 148 #[.val (.int k0), .val (.int mv), .val (.int (7 : Int32)), .val (.ref s_INVOKE_SPECIAL), .val (.ref s_INVOKE_SPECIAL_targets), .val (.int (1 : Int32)), .val (.int (0 : Int32)), .val (.int (1 : Int32)), .val (.int (1 : Int32)), .val (.int (2 : Int32))] [(.ref s_FIELDREF), (.ref s_INVOKE_SPECIAL_targets)]))
      obtain ⟨cq221, kq221, q221a, q221b, q221c⟩ := isOf hZ e220 E_s_INVOKE_SPECIAL_targets
      obtain ⟨_, _, ⟨T221, L221, k221, n221⟩, -, X221, ⟨Lc221, hQ221, l221, y221, z221⟩, st221⟩ := X220.virtualBack hx (y := (⟨"com/example/classwright/classwright/KindSet", "contains", "(Ljava/lang/Object;)Z"⟩ : MethodName)) (z := (⟨"com/example/classwright/classwright/KindSet", "contains", "(Ljava/lang/Object;)Z"⟩ : MethodName)) hown (mvT hZ (hw _ (List.mem_of_getElem? (i := 29) rfl))) (mvT hZ (hw _ (List.mem_of_getElem? (i := 30) rfl))) (notFace_of_selects (args := #[]) (mvT hZ (hw _ (List.mem_of_getElem? (i := 32) rfl)))) (mvT hZ (hw _ (List.mem_of_getElem? (i := 32) rfl))) (mvT hZ (hw _ (List.mem_of_getElem? (i := 31) rfl))) (by decide) (backOf (W := 0) (rmC768_7 l Z a0 hw [] s_INVOKE_SPECIAL_targets s_FIELDREF h0 n0 Z0 E_s_INVOKE_SPECIAL_targets F_s_INVOKE_SPECIAL_targets_bits E_s_FIELDREF F_s_FIELDREF_ordinal) hZ (hw _ (List.mem_of_getElem? (i := 34) rfl)) (hw _ (List.mem_of_getElem? (i := 33) rfl)) (by decide) (by decide)) q221a q221c (g := (mkF m 148 #[.val (.int k0), .val (.int mv), .val (.int (7 : Int32)), .val (.ref s_INVOKE_SPECIAL), .val (.ref s_INVOKE_SPECIAL_targets), .val (.int (1 : Int32)), .val (.int (0 : Int32)), .val (.int (1 : Int32)), .val (.int (1 : Int32)), .val (.int (2 : Int32))] [(.ref s_FIELDREF), (.ref s_INVOKE_SPECIAL_targets)])) rfl (by rw [hml]; rfl) (Steps.refl _) (argsL := [(.ref s_FIELDREF)]) (rest := []) (lenOf pd0_3 rfl) rfl (by show 2 * 0 + _ ≤ _; exact Nat.le_of_eq rfl) (hb hby at_148) (fun _ _ => ⟨rfl, e220, (by decide : 0 + 0 ≤ _), (by decide : 0 + 0 ≤ _)⟩)
      dsimp only [Pt.U, Pt.locs, Pt.cells, Pt.slots] at X221 l221 y221 z221 st221 hQ221
      subst l221 y221 z221
      obtain ⟨rfl, N221q, eh221⟩ := hQ221
      have N221 := Fr.app N219 N221q
      refine Go.tr st221 ?_
      show Go _ _ _ _ _ _ _ (T221.setTop (mkF m 151 #[.val (.int k0), .val (.int mv), .val (.int (7 : Int32)), .val (.ref s_INVOKE_SPECIAL), .val (.ref s_INVOKE_SPECIAL_targets), .val (.int (1 : Int32)), .val (.int (0 : Int32)), .val (.int (1 : Int32)), .val (.int (1 : Int32)), .val (.int (2 : Int32))] [(.int (0 : Int32))]))
      refine Go.by (fun _ kont => XS.iload X221.here hx rfl (hb hby at_151) rfl (XS.icmpNo X221.here hx rfl (hb hby at_153) rfl (by decide) (XS.aload X221.here hx rfl (hb hby at_156) rfl rfl kont))) ?_
      show Go _ _ _ _ _ _ _ (T221.setTop (mkF m 158 #[.val (.int k0), .val (.int mv), .val (.int (7 : Int32)), .val (.ref s_INVOKE_SPECIAL), .val (.ref s_INVOKE_SPECIAL_targets), .val (.int (1 : Int32)), .val (.int (0 : Int32)), .val (.int (1 : Int32)), .val (.int (1 : Int32)), .val (.int (2 : Int32))] [(.ref s_INVOKE_SPECIAL_targets)]))
      obtain ⟨T222, X222, e222, st222⟩ := getS2 X221 hx hZ hown (host := "") (Or.inl (hw _ (List.mem_of_getElem? (i := 48) rfl))) Via.refl eh221 S_METHODREF (g := (mkF m 158 #[.val (.int k0), .val (.int mv), .val (.int (7 : Int32)), .val (.ref s_INVOKE_SPECIAL), .val (.ref s_INVOKE_SPECIAL_targets), .val (.int (1 : Int32)), .val (.int (0 : Int32)), .val (.int (1 : Int32)), .val (.int (1 : Int32)), .val (.int (2 : Int32))] [(.ref s_INVOKE_SPECIAL_targets)])) rfl (hb hby at_158)
      refine Go.by st222 ?_
      show Go _ _ _ _ _ _ _ (T222.setTop (mkF m 161 #[.val (.int k0), .val (.int mv), .val (.int (7 : Int32)), .val (.ref s_INVOKE_SPECIAL), .val (.ref s_INVOKE_SPECIAL_targets), .val (.int (1 : Int32)), .val (.int (0 : Int32)), .val (.int (1 : Int32)), .val (.int (1 : Int32)), .val (.int (2 : Int32))] [(.ref s_METHODREF), (.ref s_INVOKE_SPECIAL_targets)]))
      obtain ⟨cq223, kq223, q223a, q223b, q223c⟩ := isOf hZ e222 E_s_INVOKE_SPECIAL_targets
      obtain ⟨_, _, ⟨T223, L223, k223, n223⟩, -, X223, ⟨Lc223, hQ223, l223, y223, z223⟩, st223⟩ := X222.virtualBack hx (y := (⟨"com/example/classwright/classwright/KindSet", "contains", "(Ljava/lang/Object;)Z"⟩ : MethodName)) (z := (⟨"com/example/classwright/classwright/KindSet", "contains", "(Ljava/lang/Object;)Z"⟩ : MethodName)) hown (mvT hZ (hw _ (List.mem_of_getElem? (i := 29) rfl))) (mvT hZ (hw _ (List.mem_of_getElem? (i := 30) rfl))) (notFace_of_selects (args := #[]) (mvT hZ (hw _ (List.mem_of_getElem? (i := 32) rfl)))) (mvT hZ (hw _ (List.mem_of_getElem? (i := 32) rfl))) (mvT hZ (hw _ (List.mem_of_getElem? (i := 31) rfl))) (by decide) (backOf (W := 0) (rmC768_8 l Z a0 hw [] s_INVOKE_SPECIAL_targets s_METHODREF h0 n0 Z0 E_s_INVOKE_SPECIAL_targets F_s_INVOKE_SPECIAL_targets_bits E_s_METHODREF F_s_METHODREF_ordinal) hZ (hw _ (List.mem_of_getElem? (i := 34) rfl)) (hw _ (List.mem_of_getElem? (i := 33) rfl)) (by decide) (by decide)) q223a q223c (g := (mkF m 161 #[.val (.int k0), .val (.int mv), .val (.int (7 : Int32)), .val (.ref s_INVOKE_SPECIAL), .val (.ref s_INVOKE_SPECIAL_targets), .val (.int (1 : Int32)), .val (.int (0 : Int32)), .val (.int (1 : Int32)), .val (.int (1 : Int32)), .val (.int (2 : Int32))] [(.ref s_METHODREF), (.ref s_INVOKE_SPECIAL_targets)])) rfl (by rw [hml]; rfl) (Steps.refl _) (argsL := [(.ref s_METHODREF)]) (rest := []) (lenOf pd0_3 rfl) rfl (by show 2 * 0 + _ ≤ _; exact Nat.le_of_eq rfl) (hb hby at_161) (fun _ _ => ⟨rfl, e222, (by decide : 0 + 0 ≤ _), (by decide : 0 + 0 ≤ _)⟩)
      dsimp only [Pt.U, Pt.locs, Pt.cells, Pt.slots] at X223 l223 y223 z223 st223 hQ223
      subst l223 y223 z223
      obtain ⟨rfl, N223q, eh223⟩ := hQ223
      have N223 := Fr.app N221 N223q
      refine Go.tr st223 ?_
      show Go _ _ _ _ _ _ _ (T223.setTop (mkF m 164 #[.val (.int k0), .val (.int mv), .val (.int (7 : Int32)), .val (.ref s_INVOKE_SPECIAL), .val (.ref s_INVOKE_SPECIAL_targets), .val (.int (1 : Int32)), .val (.int (0 : Int32)), .val (.int (1 : Int32)), .val (.int (1 : Int32)), .val (.int (2 : Int32))] [(.int (1 : Int32))]))
      refine Go.by (fun _ kont => XS.iload X223.here hx rfl (hb hby at_164) rfl (XS.icmpNo X223.here hx rfl (hb hby at_166) rfl (by decide) (XS.aload X223.here hx rfl (hb hby at_169) rfl rfl kont))) ?_
      show Go _ _ _ _ _ _ _ (T223.setTop (mkF m 171 #[.val (.int k0), .val (.int mv), .val (.int (7 : Int32)), .val (.ref s_INVOKE_SPECIAL), .val (.ref s_INVOKE_SPECIAL_targets), .val (.int (1 : Int32)), .val (.int (0 : Int32)), .val (.int (1 : Int32)), .val (.int (1 : Int32)), .val (.int (2 : Int32))] [(.ref s_INVOKE_SPECIAL_targets)]))
      obtain ⟨T224, X224, e224, st224⟩ := getS2 X223 hx hZ hown (host := "") (Or.inl (hw _ (List.mem_of_getElem? (i := 50) rfl))) Via.refl eh223 S_INTERFACE_METHODREF (g := (mkF m 171 #[.val (.int k0), .val (.int mv), .val (.int (7 : Int32)), .val (.ref s_INVOKE_SPECIAL), .val (.ref s_INVOKE_SPECIAL_targets), .val (.int (1 : Int32)), .val (.int (0 : Int32)), .val (.int (1 : Int32)), .val (.int (1 : Int32)), .val (.int (2 : Int32))] [(.ref s_INVOKE_SPECIAL_targets)])) rfl (hb hby at_171)
      refine Go.by st224 ?_
      show Go _ _ _ _ _ _ _ (T224.setTop (mkF m 174 #[.val (.int k0), .val (.int mv), .val (.int (7 : Int32)), .val (.ref s_INVOKE_SPECIAL), .val (.ref s_INVOKE_SPECIAL_targets), .val (.int (1 : Int32)), .val (.int (0 : Int32)), .val (.int (1 : Int32)), .val (.int (1 : Int32)), .val (.int (2 : Int32))] [(.ref s_INTERFACE_METHODREF), (.ref s_INVOKE_SPECIAL_targets)]))
      obtain ⟨cq225, kq225, q225a, q225b, q225c⟩ := isOf hZ e224 E_s_INVOKE_SPECIAL_targets
      obtain ⟨_, _, ⟨T225, L225, k225, n225⟩, -, X225, ⟨Lc225, hQ225, l225, y225, z225⟩, st225⟩ := X224.virtualBack hx (y := (⟨"com/example/classwright/classwright/KindSet", "contains", "(Ljava/lang/Object;)Z"⟩ : MethodName)) (z := (⟨"com/example/classwright/classwright/KindSet", "contains", "(Ljava/lang/Object;)Z"⟩ : MethodName)) hown (mvT hZ (hw _ (List.mem_of_getElem? (i := 29) rfl))) (mvT hZ (hw _ (List.mem_of_getElem? (i := 30) rfl))) (notFace_of_selects (args := #[]) (mvT hZ (hw _ (List.mem_of_getElem? (i := 32) rfl)))) (mvT hZ (hw _ (List.mem_of_getElem? (i := 32) rfl))) (mvT hZ (hw _ (List.mem_of_getElem? (i := 31) rfl))) (by decide) (backOf (W := 0) (rmC768_9 l Z a0 hw [] s_INVOKE_SPECIAL_targets s_INTERFACE_METHODREF h0 n0 Z0 E_s_INVOKE_SPECIAL_targets F_s_INVOKE_SPECIAL_targets_bits E_s_INTERFACE_METHODREF F_s_INTERFACE_METHODREF_ordinal) hZ (hw _ (List.mem_of_getElem? (i := 34) rfl)) (hw _ (List.mem_of_getElem? (i := 33) rfl)) (by decide) (by decide)) q225a q225c (g := (mkF m 174 #[.val (.int k0), .val (.int mv), .val (.int (7 : Int32)), .val (.ref s_INVOKE_SPECIAL), .val (.ref s_INVOKE_SPECIAL_targets), .val (.int (1 : Int32)), .val (.int (0 : Int32)), .val (.int (1 : Int32)), .val (.int (1 : Int32)), .val (.int (2 : Int32))] [(.ref s_INTERFACE_METHODREF), (.ref s_INVOKE_SPECIAL_targets)])) rfl (by rw [hml]; rfl) (Steps.refl _) (argsL := [(.ref s_INTERFACE_METHODREF)]) (rest := []) (lenOf pd0_3 rfl) rfl (by show 2 * 0 + _ ≤ _; exact Nat.le_of_eq rfl) (hb hby at_174) (fun _ _ => ⟨rfl, e224, (by decide : 0 + 0 ≤ _), (by decide : 0 + 0 ≤ _)⟩)
      dsimp only [Pt.U, Pt.locs, Pt.cells, Pt.slots] at X225 l225 y225 z225 st225 hQ225
      subst l225 y225 z225
      obtain ⟨rfl, N225q, eh225⟩ := hQ225
      have N225 := Fr.app N223 N225q
      refine Go.tr st225 ?_
      show Go _ _ _ _ _ _ _ (T225.setTop (mkF m 177 #[.val (.int k0), .val (.int mv), .val (.int (7 : Int32)), .val (.ref s_INVOKE_SPECIAL), .val (.ref s_INVOKE_SPECIAL_targets), .val (.int (1 : Int32)), .val (.int (0 : Int32)), .val (.int (1 : Int32)), .val (.int (1 : Int32)), .val (.int (2 : Int32))] [(.int (1 : Int32))]))
      refine Go.by (fun _ kont => XS.iload X225.here hx rfl (hb hby at_177) rfl (XS.icmpNo X225.here hx rfl (hb hby at_179) rfl (by decide) (XS.aload X225.here hx rfl (hb hby at_182) rfl rfl kont))) ?_
      show Go _ _ _ _ _ _ _ (T225.setTop (mkF m 184 #[.val (.int k0), .val (.int mv), .val (.int (7 : Int32)), .val (.ref s_INVOKE_SPECIAL), .val (.ref s_INVOKE_SPECIAL_targets), .val (.int (1 : Int32)), .val (.int (0 : Int32)), .val (.int (1 : Int32)), .val (.int (1 : Int32)), .val (.int (2 : Int32))] [(.ref s_INVOKE_SPECIAL_targets)]))
      obtain ⟨cq226, kq226, q226a, q226b, q226c⟩ := isOf hZ eh225 E_s_INVOKE_SPECIAL_targets
      obtain ⟨_, _, ⟨T226, L226, k226, n226⟩, -, X226, ⟨Lc226, hQ226, l226, y226, z226⟩, st226⟩ := X225.virtualBack hx (y := (⟨"com/example/classwright/classwright/KindSet", "size", "()I"⟩ : MethodName)) (z := (⟨"com/example/classwright/classwright/KindSet", "size", "()I"⟩ : MethodName)) hown (mvT hZ (hw _ (List.mem_of_getElem? (i := 52) rfl))) (mvT hZ (hw _ (List.mem_of_getElem? (i := 53) rfl))) (notFace_of_selects (args := #[]) (mvT hZ (hw _ (List.mem_of_getElem? (i := 55) rfl)))) (mvT hZ (hw _ (List.mem_of_getElem? (i := 55) rfl))) (mvT hZ (hw _ (List.mem_of_getElem? (i := 54) rfl))) (by decide) (backOf (W := 0) (rmS768 l Z a0 hw [] s_INVOKE_SPECIAL_targets h0 n0 Z0 E_s_INVOKE_SPECIAL_targets F_s_INVOKE_SPECIAL_targets_bits) hZ (hw _ (List.mem_of_getElem? (i := 56) rfl)) (hw _ (List.mem_of_getElem? (i := 33) rfl)) (by decide) (by decide)) q226a q226c (g := (mkF m 184 #[.val (.int k0), .val (.int mv), .val (.int (7 : Int32)), .val (.ref s_INVOKE_SPECIAL), .val (.ref s_INVOKE_SPECIAL_targets), .val (.int (1 : Int32)), .val (.int (0 : Int32)), .val (.int (1 : Int32)), .val (.int (1 : Int32)), .val (.int (2 : Int32))] [(.ref s_INVOKE_SPECIAL_targets)])) rfl (by rw [hml]; rfl) (Steps.refl _) (argsL := []) (rest := []) (lenOf pd0_1 rfl) rfl (by show 2 * 0 + _ ≤ _; exact Nat.le_of_eq rfl) (hb hby at_184) (fun _ _ => ⟨rfl, eh225, (by decide : 0 + 0 ≤ _), (by decide : 0 + 0 ≤ _)⟩)
      dsimp only [Pt.U, Pt.locs, Pt.cells, Pt.slots] at X226 l226 y226 z226 st226 hQ226
      subst l226 y226 z226
      obtain ⟨rfl, N226q, eh226⟩ := hQ226
      have N226 := Fr.app N225 N226q
      refine Go.tr st226 ?_
      show Go _ _ _ _ _ _ _ (T226.setTop (mkF m 187 #[.val (.int k0), .val (.int mv), .val (.int (7 : Int32)), .val (.ref s_INVOKE_SPECIAL), .val (.ref s_INVOKE_SPECIAL_targets), .val (.int (1 : Int32)), .val (.int (0 : Int32)), .val (.int (1 : Int32)), .val (.int (1 : Int32)), .val (.int (2 : Int32))] [(.int (2 : Int32))]))
      refine Go.by (fun _ kont => XS.iload X226.here hx rfl (hb hby at_187) rfl (XS.icmpNo X226.here hx rfl (hb hby at_189) rfl (by decide) (XS.iconst X226.here hx rfl (hb hby at_192) (XS.goto X226.here hx rfl (pc0 := 193) (pc' := 197) rfl (hb hby at_193) (by decide) (by decide) kont)))) ?_
      show Go _ _ _ _ _ _ _ (T226.setTop (mkF m 197 #[.val (.int k0), .val (.int mv), .val (.int (7 : Int32)), .val (.ref s_INVOKE_SPECIAL), .val (.ref s_INVOKE_SPECIAL_targets), .val (.int (1 : Int32)), .val (.int (0 : Int32)), .val (.int (1 : Int32)), .val (.int (1 : Int32)), .val (.int (2 : Int32))] [(.int (1 : Int32))]))
      refine Go.retN X226 hx (t := .boolean) hret (by simp) hlk (hb hby at_197) ?_ (by decide) (by decide)
      show Q0 Z h0 n0 (some (.int (1 : Int32))) T226.heap _
      rw [eh226]
      exact ⟨rfl, N226⟩
  · show Go _ _ _ _ _ _ _ (s₁.setTop (mkF m 10 #[.val (.int k0), .val (.int mv), .val (.int (8 : Int32)), .unset, .unset, .unset, .unset, .unset, .unset, .unset] []))
    refine Go.by (fun _ kont => XS.iloadN X0.here hx rfl (hb hby at_10) rfl kont) ?_
    show Go _ _ _ _ _ _ _ (s₁.setTop (mkF m 11 #[.val (.int k0), .val (.int mv), .val (.int (8 : Int32)), .unset, .unset, .unset, .unset, .unset, .unset, .unset] [(.int (8 : Int32))]))
    obtain ⟨_, _, ⟨T227, L227, k227, n227⟩, -, X227, ⟨Lc227, hQ227, l227, y227, z227⟩, st227⟩ := Jvm.LawKit.callS X0 hx (y := (⟨"com/example/classwright/classwright/ReferenceKind", "forByte", "(I)Lcom/example/classwright/classwright/ReferenceKind;"⟩ : MethodName)) hown (mvT hZ (hw _ (List.mem_of_getElem? (i := 1) rfl))) (mvT hZ (hw _ (List.mem_of_getElem? (i := 2) rfl))) (mvT hZ (hw _ (List.mem_of_getElem? (i := 3) rfl))) (mvT hZ (hw _ (List.mem_of_getElem? (i := 4) rfl))) (by decide) (backOf (W := 0) (rmF8 l Z a0 hw [] s_BY_VALUE kc_s_BY_VALUE s_GET_FIELD s_GET_STATIC s_PUT_FIELD s_PUT_STATIC s_INVOKE_VIRTUAL s_INVOKE_STATIC s_INVOKE_SPECIAL s_NEW_INVOKE_SPECIAL s_INVOKE_INTERFACE h0 n0 Z0 V_s_BY_VALUE S_BY_VALUE) hZ (hw _ (List.mem_of_getElem? (i := 4) rfl)) (hw _ (List.mem_of_getElem? (i := 3) rfl)) (by decide) (by decide)) (g := (mkF m 11 #[.val (.int k0), .val (.int mv), .val (.int (8 : Int32)), .unset, .unset, .unset, .unset, .unset, .unset, .unset] [(.int (8 : Int32))])) rfl (by rw [hml]; rfl) (argsL := [(.int (8 : Int32))]) (rest := []) (lenOf pd0_0 rfl) rfl (by show 2 * 0 + _ ≤ _; exact Nat.le_of_eq rfl) (hb hby at_11) (fun _ _ => ⟨rfl, e0, (by decide : 0 + 0 ≤ _), (by decide : 0 + 0 ≤ _)⟩)
    dsimp only [Pt.U, Pt.locs, Pt.cells, Pt.slots] at X227 l227 y227 z227 st227 hQ227
    subst l227 y227 z227
    obtain ⟨rfl, N227q, eh227⟩ := hQ227
    have N227 := Fr.app N0 N227q
    refine Go.by st227 ?_
    show Go _ _ _ _ _ _ _ (T227.setTop (mkF m 14 #[.val (.int k0), .val (.int mv), .val (.int (8 : Int32)), .unset, .unset, .unset, .unset, .unset, .unset, .unset] [(.ref s_NEW_INVOKE_SPECIAL)]))
    refine Go.by (fun _ kont => XS.astoreN X227.here hx rfl (hb hby at_14) rfl rfl (l' := #[.val (.int k0), .val (.int mv), .val (.int (8 : Int32)), .val (.ref s_NEW_INVOKE_SPECIAL), .unset, .unset, .unset, .unset, .unset, .unset]) rfl (XS.aloadN X227.here hx rfl (hb hby at_15) rfl rfl (XS.ifnullNo X227.here hx rfl (hb hby at_16) rfl (XS.aloadN X227.here hx rfl (hb hby at_19) rfl rfl kont)))) ?_
    show Go _ _ _ _ _ _ _ (T227.setTop (mkF m 20 #[.val (.int k0), .val (.int mv), .val (.int (8 : Int32)), .val (.ref s_NEW_INVOKE_SPECIAL), .unset, .unset, .unset, .unset, .unset, .unset] [(.ref s_NEW_INVOKE_SPECIAL)]))
    obtain ⟨cq228, kq228, q228a, q228b, q228c⟩ := isOf hZ eh227 E_s_NEW_INVOKE_SPECIAL
    obtain ⟨_, _, ⟨T228, L228, k228, n228⟩, -, X228, ⟨Lc228, hQ228, l228, y228, z228⟩, st228⟩ := X227.virtualBack hx (y := (⟨"com/example/classwright/classwright/ReferenceKind", "value", "()I"⟩ : MethodName)) (z := (⟨"com/example/classwright/classwright/ReferenceKind", "value", "()I"⟩ : MethodName)) hown (mvT hZ (hw _ (List.mem_of_getElem? (i := 8) rfl))) (mvT hZ (hw _ (List.mem_of_getElem? (i := 9) rfl))) (notFace_of_selects (args := #[]) (mvT hZ (hw _ (List.mem_of_getElem? (i := 11) rfl)))) (mvT hZ (hw _ (List.mem_of_getElem? (i := 11) rfl))) (mvT hZ (hw _ (List.mem_of_getElem? (i := 10) rfl))) (by decide) (backOf (W := 0) (rmV l Z a0 hw [] s_NEW_INVOKE_SPECIAL (8 : Int32) h0 n0 Z0 E_s_NEW_INVOKE_SPECIAL F_s_NEW_INVOKE_SPECIAL_value) hZ (hw _ (List.mem_of_getElem? (i := 12) rfl)) (hw _ (List.mem_of_getElem? (i := 3) rfl)) (by decide) (by decide)) q228a q228c (g := (mkF m 20 #[.val (.int k0), .val (.int mv), .val (.int (8 : Int32)), .val (.ref s_NEW_INVOKE_SPECIAL), .unset, .unset, .unset, .unset, .unset, .unset] [(.ref s_NEW_INVOKE_SPECIAL)])) rfl (by rw [hml]; rfl) (Steps.refl _) (argsL := []) (rest := []) (lenOf pd0_1 rfl) rfl (by show 2 * 0 + _ ≤ _; exact Nat.le_of_eq rfl) (hb hby at_20) (fun _ _ => ⟨rfl, eh227, (by decide : 0 + 0 ≤ _), (by decide : 0 + 0 ≤ _)⟩)
    dsimp only [Pt.U, Pt.locs, Pt.cells, Pt.slots] at X228 l228 y228 z228 st228 hQ228
    subst l228 y228 z228
    obtain ⟨rfl, N228q, eh228⟩ := hQ228
    have N228 := Fr.app N227 N228q
    refine Go.tr st228 ?_
    show Go _ _ _ _ _ _ _ (T228.setTop (mkF m 23 #[.val (.int k0), .val (.int mv), .val (.int (8 : Int32)), .val (.ref s_NEW_INVOKE_SPECIAL), .unset, .unset, .unset, .unset, .unset, .unset] [(.int (8 : Int32))]))
    refine Go.by (fun _ kont => XS.iloadN X228.here hx rfl (hb hby at_23) rfl (XS.icmpYes X228.here hx rfl (pc0 := 24) (pc' := 29) rfl (hb hby at_24) rfl (by decide) (by decide) (by decide) kont)) ?_
    show Go _ _ _ _ _ _ _ (T228.setTop (mkF m 29 #[.val (.int k0), .val (.int mv), .val (.int (8 : Int32)), .val (.ref s_NEW_INVOKE_SPECIAL), .unset, .unset, .unset, .unset, .unset, .unset] []))
    by_cases hmv : mv < (52 : Int32)
    · show Go _ _ _ _ _ _ _ (T228.setTop (mkF m 29 #[.val (.int k0), .val (.int mv), .val (.int (8 : Int32)), .val (.ref s_NEW_INVOKE_SPECIAL), .unset, .unset, .unset, .unset, .unset, .unset] []))
      refine Go.by (fun _ kont => XS.aloadN X228.here hx rfl (hb hby at_29) rfl rfl (XS.iloadN X228.here hx rfl (hb hby at_30) rfl kont)) ?_
      show Go _ _ _ _ _ _ _ (T228.setTop (mkF m 31 #[.val (.int k0), .val (.int mv), .val (.int (8 : Int32)), .val (.ref s_NEW_INVOKE_SPECIAL), .unset, .unset, .unset, .unset, .unset, .unset] [(.int mv), (.ref s_NEW_INVOKE_SPECIAL)]))
      obtain ⟨cq229, kq229, q229a, q229b, q229c⟩ := isOf hZ eh228 E_s_NEW_INVOKE_SPECIAL
      obtain ⟨_, _, ⟨T229, L229, k229, n229⟩, -, X229, ⟨Lc229, hQ229, l229, y229, z229⟩, st229⟩ := X228.virtualBack hx (y := (⟨"com/example/classwright/classwright/ReferenceKind", "targetKinds", "(I)Lcom/example/classwright/classwright/KindSet;"⟩ : MethodName)) (z := (⟨"com/example/classwright/classwright/ReferenceKind", "targetKinds", "(I)Lcom/example/classwright/classwright/KindSet;"⟩ : MethodName)) hown (mvT hZ (hw _ (List.mem_of_getElem? (i := 15) rfl))) (mvT hZ (hw _ (List.mem_of_getElem? (i := 16) rfl))) (notFace_of_selects (args := #[]) (mvT hZ (hw _ (List.mem_of_getElem? (i := 18) rfl)))) (mvT hZ (hw _ (List.mem_of_getElem? (i := 18) rfl))) (mvT hZ (hw _ (List.mem_of_getElem? (i := 17) rfl))) (by decide) (backOf (W := 0) (rmTe l Z a0 hw [] s_NEW_INVOKE_SPECIAL mv s_NEW_INVOKE_SPECIAL_targets s_INVOKE_STATIC s_INVOKE_SPECIAL s_METHODREF_ h0 n0 Z0 E_s_NEW_INVOKE_SPECIAL F_s_NEW_INVOKE_SPECIAL_targets ne_s_NEW_INVOKE_SPECIAL_s_INVOKE_STATIC ne_s_NEW_INVOKE_SPECIAL_s_INVOKE_SPECIAL S_INVOKE_STATIC S_INVOKE_SPECIAL S_METHODREF_ hmv) hZ (hw _ (List.mem_of_getElem? (i := 19) rfl)) (hw _ (List.mem_of_getElem? (i := 3) rfl)) (by decide) (by decide)) q229a q229c (g := (mkF m 31 #[.val (.int k0), .val (.int mv), .val (.int (8 : Int32)), .val (.ref s_NEW_INVOKE_SPECIAL), .unset, .unset, .unset, .unset, .unset, .unset] [(.int mv), (.ref s_NEW_INVOKE_SPECIAL)])) rfl (by rw [hml]; rfl) (Steps.refl _) (argsL := [(.int mv)]) (rest := []) (lenOf pd0_2 rfl) rfl (by show 2 * 0 + _ ≤ _; exact Nat.le_of_eq rfl) (hb hby at_31) (fun _ _ => ⟨rfl, eh228, (by decide : 0 + 0 ≤ _), (by decide : 0 + 0 ≤ _)⟩)
      dsimp only [Pt.U, Pt.locs, Pt.cells, Pt.slots] at X229 l229 y229 z229 st229 hQ229
      subst l229 y229 z229
      obtain ⟨rfl, N229q, eh229⟩ := hQ229
      have N229 := Fr.app N228 N229q
      refine Go.tr st229 ?_
      show Go _ _ _ _ _ _ _ (T229.setTop (mkF m 34 #[.val (.int k0), .val (.int mv), .val (.int (8 : Int32)), .val (.ref s_NEW_INVOKE_SPECIAL), .unset, .unset, .unset, .unset, .unset, .unset] [(.ref s_NEW_INVOKE_SPECIAL_targets)]))
      refine Go.by (fun _ kont => XS.astore X229.here hx rfl (hb hby at_34) rfl rfl (l' := #[.val (.int k0), .val (.int mv), .val (.int (8 : Int32)), .val (.ref s_NEW_INVOKE_SPECIAL), .val (.ref s_NEW_INVOKE_SPECIAL_targets), .unset, .unset, .unset, .unset, .unset]) rfl (XS.iloadN X229.here hx rfl (hb hby at_36) rfl (XS.bipush X229.here hx rfl (hb hby at_37) kont))) ?_
      show Go _ _ _ _ _ _ _ (T229.setTop (mkF m 39 #[.val (.int k0), .val (.int mv), .val (.int (8 : Int32)), .val (.ref s_NEW_INVOKE_SPECIAL), .val (.ref s_NEW_INVOKE_SPECIAL_targets), .unset, .unset, .unset, .unset, .unset] [(.int (52 : Int32)), (.int mv)]))
      refine Go.by (fun _ kont => XS.icmpYes X229.here hx rfl (pc0 := 39) (pc' := 46) rfl (hb hby at_39) rfl (tlt hmv).1 (by decide) (by decide) kont) ?_
      show Go _ _ _ _ _ _ _ (T229.setTop (mkF m 46 #[.val (.int k0), .val (.int mv), .val (.int (8 : Int32)), .val (.ref s_NEW_INVOKE_SPECIAL), .val (.ref s_NEW_INVOKE_SPECIAL_targets), .unset, .unset, .unset, .unset, .unset] []))
      refine Go.by (fun _ kont => XS.iconst X229.here hx rfl (hb hby at_46) (XS.istore X229.here hx rfl (hb hby at_47) rfl (l' := #[.val (.int k0), .val (.int mv), .val (.int (8 : Int32)), .val (.ref s_NEW_INVOKE_SPECIAL), .val (.ref s_NEW_INVOKE_SPECIAL_targets), .val (.int (0 : Int32)), .unset, .unset, .unset, .unset]) rfl (XS.iloadN X229.here hx rfl (hb hby at_49) rfl (XS.iconst X229.here hx rfl (hb hby at_50) (XS.icmpYes X229.here hx rfl (pc0 := 51) (pc' := 58) rfl (hb hby at_51) rfl (by decide) (by decide) (by decide) (XS.iconst X229.here hx rfl (hb hby at_58) (XS.istore X229.here hx rfl (hb hby at_59) rfl (l' := #[.val (.int k0), .val (.int mv), .val (.int (8 : Int32)), .val (.ref s_NEW_INVOKE_SPECIAL), .val (.ref s_NEW_INVOKE_SPECIAL_targets), .val (.int (0 : Int32)), .val (.int (0 : Int32)), .unset, .unset, .unset]) rfl (XS.iloadN X229.here hx rfl (hb hby at_61) rfl (XS.iconst X229.here hx rfl (hb hby at_62) (XS.icmpNo X229.here hx rfl (hb hby at_63) rfl (by decide) (XS.iloadN X229.here hx rfl (hb hby at_66) rfl (XS.bipush X229.here hx rfl (hb hby at_67) kont)))))))))))) ?_
      show Go _ _ _ _ _ _ _ (T229.setTop (mkF m 69 #[.val (.int k0), .val (.int mv), .val (.int (8 : Int32)), .val (.ref s_NEW_INVOKE_SPECIAL), .val (.ref s_NEW_INVOKE_SPECIAL_targets), .val (.int (0 : Int32)), .val (.int (0 : Int32)), .unset, .unset, .unset] [(.int (8 : Int32)), (.int (8 : Int32))]))
      refine Go.by (fun _ kont => XS.icmpNo X229.here hx rfl (hb hby at_69) rfl (by decide) (XS.iconst X229.here hx rfl (hb hby at_72) (XS.goto X229.here hx rfl (pc0 := 73) (pc' := 77) rfl (hb hby at_73) (by decide) (by decide) (XS.istore X229.here hx rfl (hb hby at_77) rfl (l' := #[.val (.int k0), .val (.int mv), .val (.int (8 : Int32)), .val (.ref s_NEW_INVOKE_SPECIAL), .val (.ref s_NEW_INVOKE_SPECIAL_targets), .val (.int (0 : Int32)), .val (.int (0 : Int32)), .val (.int (1 : Int32)), .unset, .unset]) rfl (XS.iloadN X229.here hx rfl (hb hby at_79) rfl (XS.bipush X229.here hx rfl (hb hby at_80) (XS.icmpNo X229.here hx rfl (hb hby at_82) rfl (by decide) (XS.iloadN X229.here hx rfl (hb hby at_85) rfl (XS.bipush X229.here hx rfl (hb hby at_86) (XS.icmpNo X229.here hx rfl (hb hby at_88) rfl (by decide) (XS.iloadN X229.here hx rfl (hb hby at_91) rfl (XS.bipush X229.here hx rfl (hb hby at_92) kont)))))))))))) ?_
      show Go _ _ _ _ _ _ _ (T229.setTop (mkF m 94 #[.val (.int k0), .val (.int mv), .val (.int (8 : Int32)), .val (.ref s_NEW_INVOKE_SPECIAL), .val (.ref s_NEW_INVOKE_SPECIAL_targets), .val (.int (0 : Int32)), .val (.int (0 : Int32)), .val (.int (1 : Int32)), .unset, .unset] [(.int (7 : Int32)), (.int (8 : Int32))]))
      refine Go.by (fun _ kont => XS.icmpYes X229.here hx rfl (pc0 := 94) (pc' := 106) rfl (hb hby at_94) rfl (by decide) (by decide) (by decide) (XS.iconst X229.here hx rfl (hb hby at_106) (XS.istore X229.here hx rfl (hb hby at_107) rfl (l' := #[.val (.int k0), .val (.int mv), .val (.int (8 : Int32)), .val (.ref s_NEW_INVOKE_SPECIAL), .val (.ref s_NEW_INVOKE_SPECIAL_targets), .val (.int (0 : Int32)), .val (.int (0 : Int32)), .val (.int (1 : Int32)), .val (.int (0 : Int32)), .unset]) rfl (XS.iload X229.here hx rfl (hb hby at_109) rfl (XS.ifYes X229.here hx rfl (pc0 := 111) (pc' := 118) rfl (hb hby at_111) rfl (by decide) (by decide) (by decide) (XS.iconst X229.here hx rfl (hb hby at_118) (XS.iload X229.here hx rfl (hb hby at_119) rfl (XS.ifNo X229.here hx rfl (hb hby at_121) rfl (by decide) (XS.iconst X229.here hx rfl (hb hby at_124) (XS.goto X229.here hx rfl (pc0 := 125) (pc' := 129) rfl (hb hby at_125) (by decide) (by decide) (XS.iadd X229.here hx rfl (hb hby at_129) rfl kont))))))))))) ?_
      show Go _ _ _ _ _ _ _ (T229.setTop (mkF m 130 #[.val (.int k0), .val (.int mv), .val (.int (8 : Int32)), .val (.ref s_NEW_INVOKE_SPECIAL), .val (.ref s_NEW_INVOKE_SPECIAL_targets), .val (.int (0 : Int32)), .val (.int (0 : Int32)), .val (.int (1 : Int32)), .val (.int (0 : Int32)), .unset] [(.int ((0 : Int32) + (1 : Int32)))]))
      rw [show ((0 : Int32) + (1 : Int32)) = (1 : Int32) from by decide]
      show Go _ _ _ _ _ _ _ (T229.setTop (mkF m 130 #[.val (.int k0), .val (.int mv), .val (.int (8 : Int32)), .val (.ref s_NEW_INVOKE_SPECIAL), .val (.ref s_NEW_INVOKE_SPECIAL_targets), .val (.int (0 : Int32)), .val (.int (0 : Int32)), .val (.int (1 : Int32)), .val (.int (0 : Int32)), .unset] [(.int (1 : Int32))]))
      refine Go.by (fun _ kont => XS.iload X229.here hx rfl (hb hby at_130) rfl (XS.ifYes X229.here hx rfl (pc0 := 132) (pc' := 139) rfl (hb hby at_132) rfl (by decide) (by decide) (by decide) (XS.iconst X229.here hx rfl (hb hby at_139) (XS.iadd X229.here hx rfl (hb hby at_140) rfl kont)))) ?_
      show Go _ _ _ _ _ _ _ (T229.setTop (mkF m 141 #[.val (.int k0), .val (.int mv), .val (.int (8 : Int32)), .val (.ref s_NEW_INVOKE_SPECIAL), .val (.ref s_NEW_INVOKE_SPECIAL_targets), .val (.int (0 : Int32)), .val (.int (0 : Int32)), .val (.int (1 : Int32)), .val (.int (0 : Int32)), .unset] [(.int ((1 : Int32) + (0 : Int32)))]))
      rw [show ((1 : Int32) + (0 : Int32)) = (1 : Int32) from by decide]
      show Go _ _ _ _ _ _ _ (T229.setTop (mkF m 141 #[.val (.int k0), .val (.int mv), .val (.int (8 : Int32)), .val (.ref s_NEW_INVOKE_SPECIAL), .val (.ref s_NEW_INVOKE_SPECIAL_targets), .val (.int (0 : Int32)), .val (.int (0 : Int32)), .val (.int (1 : Int32)), .val (.int (0 : Int32)), .unset] [(.int (1 : Int32))]))
      refine Go.by (fun _ kont => XS.istore X229.here hx rfl (hb hby at_141) rfl (l' := #[.val (.int k0), .val (.int mv), .val (.int (8 : Int32)), .val (.ref s_NEW_INVOKE_SPECIAL), .val (.ref s_NEW_INVOKE_SPECIAL_targets), .val (.int (0 : Int32)), .val (.int (0 : Int32)), .val (.int (1 : Int32)), .val (.int (0 : Int32)), .val (.int (1 : Int32))]) rfl (XS.aload X229.here hx rfl (hb hby at_143) rfl rfl kont)) ?_
      show Go _ _ _ _ _ _ _ (T229.setTop (mkF m 145 #[.val (.int k0), .val (.int mv), .val (.int (8 : Int32)), .val (.ref s_NEW_INVOKE_SPECIAL), .val (.ref s_NEW_INVOKE_SPECIAL_targets), .val (.int (0 : Int32)), .val (.int (0 : Int32)), .val (.int (1 : Int32)), .val (.int (0 : Int32)), .val (.int (1 : Int32))] [(.ref s_NEW_INVOKE_SPECIAL_targets)]))
      obtain ⟨T230, X230, e230, st230⟩ := getS2 X229 hx hZ hown (host := "") (Or.inl (hw _ (List.mem_of_getElem? (i := 26) rfl))) Via.refl eh229 S_FIELDREF (g := (mkF m 145 #[.val (.int k0), .val (.int mv), .val (.int (8 : Int32)), .val (.ref s_NEW_INVOKE_SPECIAL), .val (.ref s_NEW_INVOKE_SPECIAL_targets), .val (.int (0 : Int32)), .val (.int (0 : Int32)), .val (.int (1 : Int32)), .val (.int (0 : Int32)), .val (.int (1 : Int32))] [(.ref s_NEW_INVOKE_SPECIAL_targets)])) rfl (hb hby at_145)
      refine Go.by st230 ?_
      show Go _ _ _ _ _ _ _ (T230.setTop (mkF m 148 #[.val (.int k0), .val (.int mv), .val (.int (8 : Int32)), .val (.ref s_NEW_INVOKE_SPECIAL), .val (.ref s_NEW_INVOKE_SPECIAL_targets), .val (.int (0 : Int32)), .val (.int (0 : Int32)), .val (.int (1 : Int32)), .val (.int (0 : Int32)), .val (.int (1 : Int32))] [(.ref s_FIELDREF), (.ref s_NEW_INVOKE_SPECIAL_targets)]))
      obtain ⟨cq231, kq231, q231a, q231b, q231c⟩ := isOf hZ e230 E_s_NEW_INVOKE_SPECIAL_targets
      obtain ⟨_, _, ⟨T231, L231, k231, n231⟩, -, X231, ⟨Lc231, hQ231, l231, y231, z231⟩, st231⟩ := X230.virtualBack hx (y := (⟨"com/example/classwright/classwright/KindSet", "contains", "(Ljava/lang/Object;)Z"⟩ : MethodName)) (z := (⟨"com/example/classwright/classwright/KindSet", "contains", "(Ljava/lang/Object;)Z"⟩ : MethodName)) hown (mvT hZ (hw _ (List.mem_of_getElem? (i := 29) rfl))) (mvT hZ (hw _ (List.mem_of_getElem? (i := 30) rfl))) (notFace_of_selects (args := #[]) (mvT hZ (hw _ (List.mem_of_getElem? (i := 32) rfl)))) (mvT hZ (hw _ (List.mem_of_getElem? (i := 32) rfl))) (mvT hZ (hw _ (List.mem_of_getElem? (i := 31) rfl))) (by decide) (backOf (W := 0) (rmC256_7 l Z a0 hw [] s_NEW_INVOKE_SPECIAL_targets s_FIELDREF h0 n0 Z0 E_s_NEW_INVOKE_SPECIAL_targets F_s_NEW_INVOKE_SPECIAL_targets_bits E_s_FIELDREF F_s_FIELDREF_ordinal) hZ (hw _ (List.mem_of_getElem? (i := 34) rfl)) (hw _ (List.mem_of_getElem? (i := 33) rfl)) (by decide) (by decide)) q231a q231c (g := (mkF m 148 #[.val (.int k0), .val (.int mv), .val (.int (8 : Int32)), .val (.ref s_NEW_INVOKE_SPECIAL), .val (.ref s_NEW_INVOKE_SPECIAL_targets), .val (.int (0 : Int32)), .val (.int (0 : Int32)), .val (.int (1 : Int32)), .val (.int (0 : Int32)), .val (.int (1 : Int32))] [(.ref s_FIELDREF), (.ref s_NEW_INVOKE_SPECIAL_targets)])) rfl (by rw [hml]; rfl) (Steps.refl _) (argsL := [(.ref s_FIELDREF)]) (rest := []) (lenOf pd0_3 rfl) rfl (by show 2 * 0 + _ ≤ _; exact Nat.le_of_eq rfl) (hb hby at_148) (fun _ _ => ⟨rfl, e230, (by decide : 0 + 0 ≤ _), (by decide : 0 + 0 ≤ _)⟩)
      dsimp only [Pt.U, Pt.locs, Pt.cells, Pt.slots] at X231 l231 y231 z231 st231 hQ231
      subst l231 y231 z231
      obtain ⟨rfl, N231q, eh231⟩ := hQ231
      have N231 := Fr.app N229 N231q
      refine Go.tr st231 ?_
      show Go _ _ _ _ _ _ _ (T231.setTop (mkF m 151 #[.val (.int k0), .val (.int mv), .val (.int (8 : Int32)), .val (.ref s_NEW_INVOKE_SPECIAL), .val (.ref s_NEW_INVOKE_SPECIAL_targets), .val (.int (0 : Int32)), .val (.int (0 : Int32)), .val (.int (1 : Int32)), .val (.int (0 : Int32)), .val (.int (1 : Int32))] [(.int (0 : Int32))]))
      refine Go.by (fun _ kont => XS.iload X231.here hx rfl (hb hby at_151) rfl (XS.icmpNo X231.here hx rfl (hb hby at_153) rfl (by decide) (XS.aload X231.here hx rfl (hb hby at_156) rfl rfl kont))) ?_
      show Go _ _ _ _ _ _ _ (T231.setTop (mkF m 158 #[.val (.int k0), .val (.int mv), .val (.int (8 : Int32)), .val (.ref s_NEW_INVOKE_SPECIAL), .val (.ref s_NEW_INVOKE_SPECIAL_targets), .val (.int (0 : Int32)), .val (.int (0 : Int32)), .val (.int (1 : Int32)), .val (.int (0 : Int32)), .val (.int (1 : Int32))] [(.ref s_NEW_INVOKE_SPECIAL_targets)]))
      obtain ⟨T232, X232, e232, st232⟩ := getS2 X231 hx hZ hown (host := "") (Or.inl (hw _ (List.mem_of_getElem? (i := 48) rfl))) Via.refl eh231 S_METHODREF (g := (mkF m 158 #[.val (.int k0), .val (.int mv), .val (.int (8 : Int32)), .val (.ref s_NEW_INVOKE_SPECIAL), .val (.ref s_NEW_INVOKE_SPECIAL_targets), .val (.int (0 : Int32)), .val (.int (0 : Int32)), .val (.int (1 : Int32)), .val (.int (0 : Int32)), .val (.int (1 : Int32))] [(.ref s_NEW_INVOKE_SPECIAL_targets)])) rfl (hb hby at_158)
      refine Go.by st232 ?_
      show Go _ _ _ _ _ _ _ (T232.setTop (mkF m 161 #[.val (.int k0), .val (.int mv), .val (.int (8 : Int32)), .val (.ref s_NEW_INVOKE_SPECIAL), .val (.ref s_NEW_INVOKE_SPECIAL_targets), .val (.int (0 : Int32)), .val (.int (0 : Int32)), .val (.int (1 : Int32)), .val (.int (0 : Int32)), .val (.int (1 : Int32))] [(.ref s_METHODREF), (.ref s_NEW_INVOKE_SPECIAL_targets)]))
      obtain ⟨cq233, kq233, q233a, q233b, q233c⟩ := isOf hZ e232 E_s_NEW_INVOKE_SPECIAL_targets
      obtain ⟨_, _, ⟨T233, L233, k233, n233⟩, -, X233, ⟨Lc233, hQ233, l233, y233, z233⟩, st233⟩ := X232.virtualBack hx (y := (⟨"com/example/classwright/classwright/KindSet", "contains", "(Ljava/lang/Object;)Z"⟩ : MethodName)) (z := (⟨"com/example/classwright/classwright/KindSet", "contains", "(Ljava/lang/Object;)Z"⟩ : MethodName)) hown (mvT hZ (hw _ (List.mem_of_getElem? (i := 29) rfl))) (mvT hZ (hw _ (List.mem_of_getElem? (i := 30) rfl))) (notFace_of_selects (args := #[]) (mvT hZ (hw _ (List.mem_of_getElem? (i := 32) rfl)))) (mvT hZ (hw _ (List.mem_of_getElem? (i := 32) rfl))) (mvT hZ (hw _ (List.mem_of_getElem? (i := 31) rfl))) (by decide) (backOf (W := 0) (rmC256_8 l Z a0 hw [] s_NEW_INVOKE_SPECIAL_targets s_METHODREF h0 n0 Z0 E_s_NEW_INVOKE_SPECIAL_targets F_s_NEW_INVOKE_SPECIAL_targets_bits E_s_METHODREF F_s_METHODREF_ordinal) hZ (hw _ (List.mem_of_getElem? (i := 34) rfl)) (hw _ (List.mem_of_getElem? (i := 33) rfl)) (by decide) (by decide)) q233a q233c (g := (mkF m 161 #[.val (.int k0), .val (.int mv), .val (.int (8 : Int32)), .val (.ref s_NEW_INVOKE_SPECIAL), .val (.ref s_NEW_INVOKE_SPECIAL_targets), .val (.int (0 : Int32)), .val (.int (0 : Int32)), .val (.int (1 : Int32)), .val (.int (0 : Int32)), .val (.int (1 : Int32))] [(.ref s_METHODREF), (.ref s_NEW_INVOKE_SPECIAL_targets)])) rfl (by rw [hml]; rfl) (Steps.refl _) (argsL := [(.ref s_METHODREF)]) (rest := []) (lenOf pd0_3 rfl) rfl (by show 2 * 0 + _ ≤ _; exact Nat.le_of_eq rfl) (hb hby at_161) (fun _ _ => ⟨rfl, e232, (by decide : 0 + 0 ≤ _), (by decide : 0 + 0 ≤ _)⟩)
      dsimp only [Pt.U, Pt.locs, Pt.cells, Pt.slots] at X233 l233 y233 z233 st233 hQ233
      subst l233 y233 z233
      obtain ⟨rfl, N233q, eh233⟩ := hQ233
      have N233 := Fr.app N231 N233q
      refine Go.tr st233 ?_
      show Go _ _ _ _ _ _ _ (T233.setTop (mkF m 164 #[.val (.int k0), .val (.int mv), .val (.int (8 : Int32)), .val (.ref s_NEW_INVOKE_SPECIAL), .val (.ref s_NEW_INVOKE_SPECIAL_targets), .val (.int (0 : Int32)), .val (.int (0 : Int32)), .val (.int (1 : Int32)), .val (.int (0 : Int32)), .val (.int (1 : Int32))] [(.int (1 : Int32))]))
      refine Go.by (fun _ kont => XS.iload X233.here hx rfl (hb hby at_164) rfl (XS.icmpNo X233.here hx rfl (hb hby at_166) rfl (by decide) (XS.aload X233.here hx rfl (hb hby at_169) rfl rfl kont))) ?_
      show Go _ _ _ _ _ _ _ (T233.setTop (mkF m 171 #[.val (.int k0), .val (.int mv), .val (.int (8 : Int32)), .val (.ref s_NEW_INVOKE_SPECIAL), .val (.ref s_NEW_INVOKE_SPECIAL_targets), .val (.int (0 : Int32)), .val (.int (0 : Int32)), .val (.int (1 : Int32)), .val (.int (0 : Int32)), .val (.int (1 : Int32))] [(.ref s_NEW_INVOKE_SPECIAL_targets)]))
      obtain ⟨T234, X234, e234, st234⟩ := getS2 X233 hx hZ hown (host := "") (Or.inl (hw _ (List.mem_of_getElem? (i := 50) rfl))) Via.refl eh233 S_INTERFACE_METHODREF (g := (mkF m 171 #[.val (.int k0), .val (.int mv), .val (.int (8 : Int32)), .val (.ref s_NEW_INVOKE_SPECIAL), .val (.ref s_NEW_INVOKE_SPECIAL_targets), .val (.int (0 : Int32)), .val (.int (0 : Int32)), .val (.int (1 : Int32)), .val (.int (0 : Int32)), .val (.int (1 : Int32))] [(.ref s_NEW_INVOKE_SPECIAL_targets)])) rfl (hb hby at_171)
      refine Go.by st234 ?_
      show Go _ _ _ _ _ _ _ (T234.setTop (mkF m 174 #[.val (.int k0), .val (.int mv), .val (.int (8 : Int32)), .val (.ref s_NEW_INVOKE_SPECIAL), .val (.ref s_NEW_INVOKE_SPECIAL_targets), .val (.int (0 : Int32)), .val (.int (0 : Int32)), .val (.int (1 : Int32)), .val (.int (0 : Int32)), .val (.int (1 : Int32))] [(.ref s_INTERFACE_METHODREF), (.ref s_NEW_INVOKE_SPECIAL_targets)]))
      obtain ⟨cq235, kq235, q235a, q235b, q235c⟩ := isOf hZ e234 E_s_NEW_INVOKE_SPECIAL_targets
      obtain ⟨_, _, ⟨T235, L235, k235, n235⟩, -, X235, ⟨Lc235, hQ235, l235, y235, z235⟩, st235⟩ := X234.virtualBack hx (y := (⟨"com/example/classwright/classwright/KindSet", "contains", "(Ljava/lang/Object;)Z"⟩ : MethodName)) (z := (⟨"com/example/classwright/classwright/KindSet", "contains", "(Ljava/lang/Object;)Z"⟩ : MethodName)) hown (mvT hZ (hw _ (List.mem_of_getElem? (i := 29) rfl))) (mvT hZ (hw _ (List.mem_of_getElem? (i := 30) rfl))) (notFace_of_selects (args := #[]) (mvT hZ (hw _ (List.mem_of_getElem? (i := 32) rfl)))) (mvT hZ (hw _ (List.mem_of_getElem? (i := 32) rfl))) (mvT hZ (hw _ (List.mem_of_getElem? (i := 31) rfl))) (by decide) (backOf (W := 0) (rmC256_9 l Z a0 hw [] s_NEW_INVOKE_SPECIAL_targets s_INTERFACE_METHODREF h0 n0 Z0 E_s_NEW_INVOKE_SPECIAL_targets F_s_NEW_INVOKE_SPECIAL_targets_bits E_s_INTERFACE_METHODREF F_s_INTERFACE_METHODREF_ordinal) hZ (hw _ (List.mem_of_getElem? (i := 34) rfl)) (hw _ (List.mem_of_getElem? (i := 33) rfl)) (by decide) (by decide)) q235a q235c (g := (mkF m 174 #[.val (.int k0), .val (.int mv), .val (.int (8 : Int32)), .val (.ref s_NEW_INVOKE_SPECIAL), .val (.ref s_NEW_INVOKE_SPECIAL_targets), .val (.int (0 : Int32)), .val (.int (0 : Int32)), .val (.int (1 : Int32)), .val (.int (0 : Int32)), .val (.int (1 : Int32))] [(.ref s_INTERFACE_METHODREF), (.ref s_NEW_INVOKE_SPECIAL_targets)])) rfl (by rw [hml]; rfl) (Steps.refl _) (argsL := [(.ref s_INTERFACE_METHODREF)]) (rest := []) (lenOf pd0_3 rfl) rfl (by show 2 * 0 + _ ≤ _; exact Nat.le_of_eq rfl) (hb hby at_174) (fun _ _ => ⟨rfl, e234, (by decide : 0 + 0 ≤ _), (by decide : 0 + 0 ≤ _)⟩)
      dsimp only [Pt.U, Pt.locs, Pt.cells, Pt.slots] at X235 l235 y235 z235 st235 hQ235
      subst l235 y235 z235
      obtain ⟨rfl, N235q, eh235⟩ := hQ235
      have N235 := Fr.app N233 N235q
      refine Go.tr st235 ?_
      show Go _ _ _ _ _ _ _ (T235.setTop (mkF m 177 #[.val (.int k0), .val (.int mv), .val (.int (8 : Int32)), .val (.ref s_NEW_INVOKE_SPECIAL), .val (.ref s_NEW_INVOKE_SPECIAL_targets), .val (.int (0 : Int32)), .val (.int (0 : Int32)), .val (.int (1 : Int32)), .val (.int (0 : Int32)), .val (.int (1 : Int32))] [(.int (0 : Int32))]))
      refine Go.by (fun _ kont => XS.iload X235.here hx rfl (hb hby at_177) rfl (XS.icmpNo X235.here hx rfl (hb hby at_179) rfl (by decide) (XS.aload X235.here hx rfl (hb hby at_182) rfl rfl kont))) ?_
      show Go _ _ _ _ _ _ _ (T235.setTop (mkF m 184 #[.val (.int k0), .val (.int mv), .val (.int (8 : Int32)), .val (.ref s_NEW_INVOKE_SPECIAL), .val (.ref s_NEW_INVOKE_SPECIAL_targets), .val (.int (0 : Int32)), .val (.int (0 : Int32)), .val (.int (1 : Int32)), .val (.int (0 : Int32)), .val (.int (1 : Int32))] [(.ref s_NEW_INVOKE_SPECIAL_targets)]))
      obtain ⟨cq236, kq236, q236a, q236b, q236c⟩ := isOf hZ eh235 E_s_NEW_INVOKE_SPECIAL_targets
      obtain ⟨_, _, ⟨T236, L236, k236, n236⟩, -, X236, ⟨Lc236, hQ236, l236, y236, z236⟩, st236⟩ := X235.virtualBack hx (y := (⟨"com/example/classwright/classwright/KindSet", "size", "()I"⟩ : MethodName)) (z := (⟨"com/example/classwright/classwright/KindSet", "size", "()I"⟩ : MethodName)) hown (mvT hZ (hw _ (List.mem_of_getElem? (i := 52) rfl))) (mvT hZ (hw _ (List.mem_of_getElem? (i := 53) rfl))) (notFace_of_selects (args := #[]) (mvT hZ (hw _ (List.mem_of_getElem? (i := 55) rfl)))) (mvT hZ (hw _ (List.mem_of_getElem? (i := 55) rfl))) (mvT hZ (hw _ (List.mem_of_getElem? (i := 54) rfl))) (by decide) (backOf (W := 0) (rmS256 l Z a0 hw [] s_NEW_INVOKE_SPECIAL_targets h0 n0 Z0 E_s_NEW_INVOKE_SPECIAL_targets F_s_NEW_INVOKE_SPECIAL_targets_bits) hZ (hw _ (List.mem_of_getElem? (i := 56) rfl)) (hw _ (List.mem_of_getElem? (i := 33) rfl)) (by decide) (by decide)) q236a q236c (g := (mkF m 184 #[.val (.int k0), .val (.int mv), .val (.int (8 : Int32)), .val (.ref s_NEW_INVOKE_SPECIAL), .val (.ref s_NEW_INVOKE_SPECIAL_targets), .val (.int (0 : Int32)), .val (.int (0 : Int32)), .val (.int (1 : Int32)), .val (.int (0 : Int32)), .val (.int (1 : Int32))] [(.ref s_NEW_INVOKE_SPECIAL_targets)])) rfl (by rw [hml]; rfl) (Steps.refl _) (argsL := []) (rest := []) (lenOf pd0_1 rfl) rfl (by show 2 * 0 + _ ≤ _; exact Nat.le_of_eq rfl) (hb hby at_184) (fun _ _ => ⟨rfl, eh235, (by decide : 0 + 0 ≤ _), (by decide : 0 + 0 ≤ _)⟩)
      dsimp only [Pt.U, Pt.locs, Pt.cells, Pt.slots] at X236 l236 y236 z236 st236 hQ236
      subst l236 y236 z236
      obtain ⟨rfl, N236q, eh236⟩ := hQ236
      have N236 := Fr.app N235 N236q
      refine Go.tr st236 ?_
      show Go _ _ _ _ _ _ _ (T236.setTop (mkF m 187 #[.val (.int k0), .val (.int mv), .val (.int (8 : Int32)), .val (.ref s_NEW_INVOKE_SPECIAL), .val (.ref s_NEW_INVOKE_SPECIAL_targets), .val (.int (0 : Int32)), .val (.int (0 : Int32)), .val (.int (1 : Int32)), .val (.int (0 : Int32)), .val (.int (1 : Int32))] [(.int (1 : Int32))]))
      refine Go.by (fun _ kont => XS.iload X236.here hx rfl (hb hby at_187) rfl (XS.icmpNo X236.here hx rfl (hb hby at_189) rfl (by decide) (XS.iconst X236.here hx rfl (hb hby at_192) (XS.goto X236.here hx rfl (pc0 := 193) (pc' := 197) rfl (hb hby at_193) (by decide) (by decide) kont)))) ?_
      show Go _ _ _ _ _ _ _ (T236.setTop (mkF m 197 #[.val (.int k0), .val (.int mv), .val (.int (8 : Int32)), .val (.ref s_NEW_INVOKE_SPECIAL), .val (.ref s_NEW_INVOKE_SPECIAL_targets), .val (.int (0 : Int32)), .val (.int (0 : Int32)), .val (.int (1 : Int32)), .val (.int (0 : Int32)), .val (.int (1 : Int32))] [(.int (1 : Int32))]))
      refine Go.retN X236 hx (t := .boolean) hret (by simp) hlk (hb hby at_197) ?_ (by decide) (by decide)
      show Q0 Z h0 n0 (some (.int (1 : Int32))) T236.heap _
      rw [eh236]
      exact ⟨rfl, N236⟩
    · show Go _ _ _ _ _ _ _ (T228.setTop (mkF m 29 #[.val (.int k0), .val (.int mv), .val (.int (8 : Int32)), .val (.ref s_NEW_INVOKE_SPECIAL), .unset, .unset, .unset, .unset, .unset, .unset] []))
      refine Go.by (fun _ kont => XS.aloadN X228.here hx rfl (hb hby at_29) rfl rfl (XS.iloadN X228.here hx rfl (hb hby at_30) rfl kont)) ?_
      show Go _ _ _ _ _ _ _ (T228.setTop (mkF m 31 #[.val (.int k0), .val (.int mv), .val (.int (8 : Int32)), .val (.ref s_NEW_INVOKE_SPECIAL), .unset, .unset, .unset, .unset, .unset, .unset] [(.int mv), (.ref s_NEW_INVOKE_SPECIAL)]))
      obtain ⟨cq237, kq237, q237a, q237b, q237c⟩ := isOf hZ eh228 E_s_NEW_INVOKE_SPECIAL
      obtain ⟨_, _, ⟨T237, L237, k237, n237⟩, -, X237, ⟨Lc237, hQ237, l237, y237, z237⟩, st237⟩ := X228.virtualBack hx (y := (⟨"com/example/classwright/classwright/ReferenceKind", "targetKinds", "(I)Lcom/example/classwright/classwright/KindSet;"⟩ : MethodName)) (z := (⟨"com/example/classwright/classwright/ReferenceKind", "targetKinds", "(I)Lcom/example/classwright/classwright/KindSet;"⟩ : MethodName)) hown (mvT hZ (hw _ (List.mem_of_getElem? (i := 15) rfl))) (mvT hZ (hw _ (List.mem_of_getElem? (i := 16) rfl))) (notFace_of_selects (args := #[]) (mvT hZ (hw _ (List.mem_of_getElem? (i := 18) rfl)))) (mvT hZ (hw _ (List.mem_of_getElem? (i := 18) rfl))) (mvT hZ (hw _ (List.mem_of_getElem? (i := 17) rfl))) (by decide) (backOf (W := 0) (rmTm l Z a0 hw [] s_NEW_INVOKE_SPECIAL mv s_NEW_INVOKE_SPECIAL_targets h0 n0 Z0 E_s_NEW_INVOKE_SPECIAL F_s_NEW_INVOKE_SPECIAL_targets hmv) hZ (hw _ (List.mem_of_getElem? (i := 19) rfl)) (hw _ (List.mem_of_getElem? (i := 3) rfl)) (by decide) (by decide)) q237a q237c (g := (mkF m 31 #[.val (.int k0), .val (.int mv), .val (.int (8 : Int32)), .val (.ref s_NEW_INVOKE_SPECIAL), .unset, .unset, .unset, .unset, .unset, .unset] [(.int mv), (.ref s_NEW_INVOKE_SPECIAL)])) rfl (by rw [hml]; rfl) (Steps.refl _) (argsL := [(.int mv)]) (rest := []) (lenOf pd0_2 rfl) rfl (by show 2 * 0 + _ ≤ _; exact Nat.le_of_eq rfl) (hb hby at_31) (fun _ _ => ⟨rfl, eh228, (by decide : 0 + 0 ≤ _), (by decide : 0 + 0 ≤ _)⟩)
      dsimp only [Pt.U, Pt.locs, Pt.cells, Pt.slots] at X237 l237 y237 z237 st237 hQ237
      subst l237 y237 z237
      obtain ⟨rfl, N237q, eh237⟩ := hQ237
      have N237 := Fr.app N228 N237q
      refine Go.tr st237 ?_
      show Go _ _ _ _ _ _ _ (T237.setTop (mkF m 34 #[.val (.int k0), .val (.int mv), .val (.int (8 : Int32)), .val (.ref s_NEW_INVOKE_SPECIAL), .unset, .unset, .unset, .unset, .unset, .unset] [(.ref s_NEW_INVOKE_SPECIAL_targets)]))
      refine Go.by (fun _ kont => XS.astore X237.here hx rfl (hb hby at_34) rfl rfl (l' := #[.val (.int k0), .val (.int mv), .val (.int (8 : Int32)), .val (.ref s_NEW_INVOKE_SPECIAL), .val (.ref s_NEW_INVOKE_SPECIAL_targets), .unset, .unset, .unset, .unset, .unset]) rfl (XS.iloadN X237.here hx rfl (hb hby at_36) rfl (XS.bipush X237.here hx rfl (hb hby at_37) kont))) ?_
      show Go _ _ _ _ _ _ _ (T237.setTop (mkF m 39 #[.val (.int k0), .val (.int mv), .val (.int (8 : Int32)), .val (.ref s_NEW_INVOKE_SPECIAL), .val (.ref s_NEW_INVOKE_SPECIAL_targets), .unset, .unset, .unset, .unset, .unset] [(.int (52 : Int32)), (.int mv)]))
      refine Go.by (fun _ kont => XS.icmpNo X237.here hx rfl (hb hby at_39) rfl (flt hmv).1 kont) ?_
      show Go _ _ _ _ _ _ _ (T237.setTop (mkF m 42 #[.val (.int k0), .val (.int mv), .val (.int (8 : Int32)), .val (.ref s_NEW_INVOKE_SPECIAL), .val (.ref s_NEW_INVOKE_SPECIAL_targets), .unset, .unset, .unset, .unset, .unset] []))
      refine Go.by (fun _ kont => XS.iconst X237.here hx rfl (hb hby at_42) (XS.goto X237.here hx rfl (pc0 := 43) (pc' := 47) rfl (hb hby at_43) (by decide) (by decide) (XS.istore X237.here hx rfl (hb hby at_47) rfl (l' := #[.val (.int k0), .val (.int mv), .val (.int (8 : Int32)), .val (.ref s_NEW_INVOKE_SPECIAL), .val (.ref s_NEW_INVOKE_SPECIAL_targets), .val (.int (1 : Int32)), .unset, .unset, .unset, .unset]) rfl (XS.iloadN X237.here hx rfl (hb hby at_49) rfl (XS.iconst X237.here hx rfl (hb hby at_50) (XS.icmpYes X237.here hx rfl (pc0 := 51) (pc' := 58) rfl (hb hby at_51) rfl (by decide) (by decide) (by decide) (XS.iconst X237.here hx rfl (hb hby at_58) (XS.istore X237.here hx rfl (hb hby at_59) rfl (l' := #[.val (.int k0), .val (.int mv), .val (.int (8 : Int32)), .val (.ref s_NEW_INVOKE_SPECIAL), .val (.ref s_NEW_INVOKE_SPECIAL_targets), .val (.int (1 : Int32)), .val (.int (0 : Int32)), .unset, .unset, .unset]) rfl (XS.iloadN X237.here hx rfl (hb hby at_61) rfl (XS.iconst X237.here hx rfl (hb hby at_62) (XS.icmpNo X237.here hx rfl (hb hby at_63) rfl (by decide) (XS.iloadN X237.here hx rfl (hb hby at_66) rfl kont)))))))))))) ?_
      show Go _ _ _ _ _ _ _ (T237.setTop (mkF m 67 #[.val (.int k0), .val (.int mv), .val (.int (8 : Int32)), .val (.ref s_NEW_INVOKE_SPECIAL), .val (.ref s_NEW_INVOKE_SPECIAL_targets), .val (.int (1 : Int32)), .val (.int (0 : Int32)), .unset, .unset, .unset] [(.int (8 : Int32))]))
      refine Go.by (fun _ kont => XS.bipush X237.here hx rfl (hb hby at_67) (XS.icmpNo X237.here hx rfl (hb hby at_69) rfl (by decide) (XS.iconst X237.here hx rfl (hb hby at_72) (XS.goto X237.here hx rfl (pc0 := 73) (pc' := 77) rfl (hb hby at_73) (by decide) (by decide) (XS.istore X237.here hx rfl (hb hby at_77) rfl (l' := #[.val (.int k0), .val (.int mv), .val (.int (8 : Int32)), .val (.ref s_NEW_INVOKE_SPECIAL), .val (.ref s_NEW_INVOKE_SPECIAL_targets), .val (.int (1 : Int32)), .val (.int (0 : Int32)), .val (.int (1 : Int32)), .unset, .unset]) rfl (XS.iloadN X237.here hx rfl (hb hby at_79) rfl (XS.bipush X237.here hx rfl (hb hby at_80) (XS.icmpNo X237.here hx rfl (hb hby at_82) rfl (by decide) (XS.iloadN X237.here hx rfl (hb hby at_85) rfl (XS.bipush X237.here hx rfl (hb hby at_86) (XS.icmpNo X237.here hx rfl (hb hby at_88) rfl (by decide) (XS.iloadN X237.here hx rfl (hb hby at_91) rfl kont)))))))))))) ?_
      show Go _ _ _ _ _ _ _ (T237.setTop (mkF m 92 #[.val (.int k0), .val (.int mv), .val (.int (8 : Int32)), .val (.ref s_NEW_INVOKE_SPECIAL), .val (.ref s_NEW_INVOKE_SPECIAL_targets), .val (.int (1 : Int32)), .val (.int (0 : Int32)), .val (.int (1 : Int32)), .unset, .unset] [(.int (8 : Int32))]))
      refine Go.by (fun _ kont => XS.bipush X237.here hx rfl (hb hby at_92) (XS.icmpYes X237.here hx rfl (pc0 := 94) (pc' := 106) rfl (hb hby at_94) rfl (by decide) (by decide) (by decide) (XS.iconst X237.here hx rfl (hb hby at_106) (XS.istore X237.here hx rfl (hb hby at_107) rfl (l' := #[.val (.int k0), .val (.int mv), .val (.int (8 : Int32)), .val (.ref s_NEW_INVOKE_SPECIAL), .val (.ref s_NEW_INVOKE_SPECIAL_targets), .val (.int (1 : Int32)), .val (.int (0 : Int32)), .val (.int (1 : Int32)), .val (.int (0 : Int32)), .unset]) rfl (XS.iload X237.here hx rfl (hb hby at_109) rfl (XS.ifYes X237.here hx rfl (pc0 := 111) (pc' := 118) rfl (hb hby at_111) rfl (by decide) (by decide) (by decide) (XS.iconst X237.here hx rfl (hb hby at_118) (XS.iload X237.here hx rfl (hb hby at_119) rfl (XS.ifNo X237.here hx rfl (hb hby at_121) rfl (by decide) (XS.iconst X237.here hx rfl (hb hby at_124) (XS.goto X237.here hx rfl (pc0 := 125) (pc' := 129) rfl (hb hby at_125) (by decide) (by decide) (XS.iadd X237.here hx rfl (hb hby at_129) rfl kont)))))))))))) ?_
      show Go _ _ _ _ _ _ _ (T237.setTop (mkF m 130 #[.val (.int k0), .val (.int mv), .val (.int (8 : Int32)), .val (.ref s_NEW_INVOKE_SPECIAL), .val (.ref s_NEW_INVOKE_SPECIAL_targets), .val (.int (1 : Int32)), .val (.int (0 : Int32)), .val (.int (1 : Int32)), .val (.int (0 : Int32)), .unset] [(.int ((0 : Int32) + (1 : Int32)))]))
      rw [show ((0 : Int32) + (1 : Int32)) = (1 : Int32) from by decide]
      show Go _ _ _ _ _ _ _ (T237.setTop (mkF m 130 #[.val (.int k0), .val (.int mv), .val (.int (8 : Int32)), .val (.ref s_NEW_INVOKE_SPECIAL), .val (.ref s_NEW_INVOKE_SPECIAL_targets), .val (.int (1 : Int32)), .val (.int (0 : Int32)), .val (.int (1 : Int32)), .val (.int (0 : Int32)), .unset] [(.int (1 : Int32))]))
      refine Go.by (fun _ kont => XS.iload X237.here hx rfl (hb hby at_130) rfl (XS.ifYes X237.here hx rfl (pc0 := 132) (pc' := 139) rfl (hb hby at_132) rfl (by decide) (by decide) (by decide) (XS.iconst X237.here hx rfl (hb hby at_139) (XS.iadd X237.here hx rfl (hb hby at_140) rfl kont)))) ?_
      show Go _ _ _ _ _ _ _ (T237.setTop (mkF m 141 #[.val (.int k0), .val (.int mv), .val (.int (8 : Int32)), .val (.ref s_NEW_INVOKE_SPECIAL), .val (.ref s_NEW_INVOKE_SPECIAL_targets), .val (.int (1 : Int32)), .val (.int (0 : Int32)), .val (.int (1 : Int32)), .val (.int (0 : Int32)), .unset] [(.int ((1 : Int32) + (0 : Int32)))]))
      rw [show ((1 : Int32) + (0 : Int32)) = (1 : Int32) from by decide]
      show Go _ _ _ _ _ _ _ (T237.setTop (mkF m 141 #[.val (.int k0), .val (.int mv), .val (.int (8 : Int32)), .val (.ref s_NEW_INVOKE_SPECIAL), .val (.ref s_NEW_INVOKE_SPECIAL_targets), .val (.int (1 : Int32)), .val (.int (0 : Int32)), .val (.int (1 : Int32)), .val (.int (0 : Int32)), .unset] [(.int (1 : Int32))]))
      refine Go.by (fun _ kont => XS.istore X237.here hx rfl (hb hby at_141) rfl (l' := #[.val (.int k0), .val (.int mv), .val (.int (8 : Int32)), .val (.ref s_NEW_INVOKE_SPECIAL), .val (.ref s_NEW_INVOKE_SPECIAL_targets), .val (.int (1 : Int32)), .val (.int (0 : Int32)), .val (.int (1 : Int32)), .val (.int (0 : Int32)), .val (.int (1 : Int32))]) rfl (XS.aload X237.here hx rfl (hb hby at_143) rfl rfl kont)) ?_
      show Go _ _ _ _ _ _ _ (T237.setTop (mkF m 145 #[.val (.int k0), .val (.int mv), .val (.int (8 : Int32)), .val (.ref s_NEW_INVOKE_SPECIAL), .val (.ref s_NEW_INVOKE_SPECIAL_targets), .val (.int (1 : Int32)), .val (.int (0 : Int32)), .val (.int (1 : Int32)), .val (.int (0 : Int32)), .val (.int (1 : Int32))] [(.ref s_NEW_INVOKE_SPECIAL_targets)]))
      obtain ⟨T238, X238, e238, st238⟩ := getS2 X237 hx hZ hown (host := "") (Or.inl (hw _ (List.mem_of_getElem? (i := 26) rfl))) Via.refl eh237 S_FIELDREF (g := (mkF m 145 #[.val (.int k0), .val (.int mv), .val (.int (8 : Int32)), .val (.ref s_NEW_INVOKE_SPECIAL), .val (.ref s_NEW_INVOKE_SPECIAL_targets), .val (.int (1 : Int32)), .val (.int (0 : Int32)), .val (.int (1 : Int32)), .val (.int (0 : Int32)), .val (.int (1 : Int32))] [(.ref s_NEW_INVOKE_SPECIAL_targets)])) rfl (hb hby at_145)
      refine Go.by st238 ?_
      show Go _ _ _ _ _ _ _ (T238.setTop (mkF m 148 #[.val (.int k0), .val (.int mv), .val (.int (8 : Int32)), .val (.ref s_NEW_INVOKE_SPECIAL), .val (.ref s_NEW_INVOKE_SPECIAL_targets), .val (.int (1 : Int32)), .val (.int (0 : Int32)), .val (.int (1 : Int32)), .val (.int (0 : Int32)), .val (.int (1 : Int32))] [(.ref s_FIELDREF), (.ref s_NEW_INVOKE_SPECIAL_targets)]))
      obtain ⟨cq239, kq239, q239a, q239b, q239c⟩ := isOf hZ e238 E_s_NEW_INVOKE_SPECIAL_targets
      obtain ⟨_, _, ⟨T239, L239, k239, n239⟩, -, X239, ⟨Lc239, hQ239, l239, y239, z239⟩, st239⟩ := X238.virtualBack hx (y := (⟨"com/example/classwright/classwright/KindSet", "contains", "(Ljava/lang/Object;)Z"⟩ : MethodName)) (z := (⟨"com/example/classwright/classwright/KindSet", "contains", "(Ljava/lang/Object;)Z"⟩ : MethodName)) hown (mvT hZ (hw _ (List.mem_of_getElem? (i := 29) rfl))) (mvT hZ (hw _ (List.mem_of_getElem? (i := 30) rfl))) (notFace_of_selects (args := #[]) (mvT hZ (hw _ (List.mem_of_getElem? (i := 32) rfl)))) (mvT hZ (hw _ (List.mem_of_getElem? (i := 32) rfl))) (mvT hZ (hw _ (List.mem_of_getElem? (i := 31) rfl))) (by decide) (backOf (W := 0) (rmC256_7 l Z a0 hw [] s_NEW_INVOKE_SPECIAL_targets s_FIELDREF h0 n0 Z0 E_s_NEW_INVOKE_SPECIAL_targets F_s_NEW_INVOKE_SPECIAL_targets_bits E_s_FIELDREF F_s_FIELDREF_ordinal) hZ (hw _ (List.mem_of_getElem? (i := 34) rfl)) (hw _ (List.mem_of_getElem? (i := 33) rfl)) (by decide) (by decide)) q239a q239c (g := (mkF m 148 #[.val (.int k0), .val (.int mv), .val (.int (8 : Int32)), .val (.ref s_NEW_INVOKE_SPECIAL), .val (.ref s_NEW_INVOKE_SPECIAL_targets), .val (.int (1 : Int32)), .val (.int (0 : Int32)), .val (.int (1 : Int32)), .val (.int (0 : Int32)), .val (.int (1 : Int32))] [(.ref s_FIELDREF), (.ref s_NEW_INVOKE_SPECIAL_targets)])) rfl (by rw [hml]; rfl) (Steps.refl _) (argsL := [(.ref s_FIELDREF)]) (rest := []) (lenOf pd0_3 rfl) rfl (by show 2 * 0 + _ ≤ _; exact Nat.le_of_eq rfl) (hb hby at_148) (fun _ _ => ⟨rfl, e238, (by decide : 0 + 0 ≤ _), (by decide : 0 + 0 ≤ _)⟩)
      dsimp only [Pt.U, Pt.locs, Pt.cells, Pt.slots] at X239 l239 y239 z239 st239 hQ239
      subst l239 y239 z239
      obtain ⟨rfl, N239q, eh239⟩ := hQ239
      have N239 := Fr.app N237 N239q
      refine Go.tr st239 ?_
      show Go _ _ _ _ _ _ _ (T239.setTop (mkF m 151 #[.val (.int k0), .val (.int mv), .val (.int (8 : Int32)), .val (.ref s_NEW_INVOKE_SPECIAL), .val (.ref s_NEW_INVOKE_SPECIAL_targets), .val (.int (1 : Int32)), .val (.int (0 : Int32)), .val (.int (1 : Int32)), .val (.int (0 : Int32)), .val (.int (1 : Int32))] [(.int (0 : Int32))]))
      refine Go.by (fun _ kont => XS.iload X239.here hx rfl (hb hby at_151) rfl (XS.icmpNo X239.here hx rfl (hb hby at_153) rfl (by decide) (XS.aload X239.here hx rfl (hb hby at_156) rfl rfl kont))) ?_
      show Go _ _ _ _ _ _ _ (T239.setTop (mkF m 158 #[.val (.int k0), .val (.int mv), .val (.int (8 : Int32)), .val (.ref s_NEW_INVOKE_SPECIAL), .val (.ref s_NEW_INVOKE_SPECIAL_targets), .val (.int (1 : Int32)), .val (.int (0 : Int32)), .val (.int (1 : Int32)), .val (.int (0 : Int32)), .val (.int (1 : Int32))] [(.ref s_NEW_INVOKE_SPECIAL_targets)]))
      obtain ⟨T240, X240, e240, st240⟩ := getS2 X239 hx hZ hown (host := "") (Or.inl (hw _ (List.mem_of_getElem? (i := 48) rfl))) Via.refl eh239 S_METHODREF (g := (mkF m 158 #[.val (.int k0), .val (.int mv), .val (.int (8 : Int32)), .val (.ref s_NEW_INVOKE_SPECIAL), .val (.ref s_NEW_INVOKE_SPECIAL_targets), .val (.int (1 : Int32)), .val (.int (0 : Int32)), .val (.int (1 : Int32)), .val (.int (0 : Int32)), .val (.int (1 : Int32))] [(.ref s_NEW_INVOKE_SPECIAL_targets)])) rfl (hb hby at_158)
      refine Go.by st240 ?_
      show Go _ _ _ _ _ _ _ (T240.setTop (mkF m 161 #[.val (.int k0), .val (.int mv), .val (.int (8 : Int32)), .val (.ref s_NEW_INVOKE_SPECIAL), .val (.ref s_NEW_INVOKE_SPECIAL_targets), .val (.int (1 : Int32)), .val (.int (0 : Int32)), .val (.int (1 : Int32)), .val (.int (0 : Int32)), .val (.int (1 : Int32))] [(.ref s_METHODREF), (.ref s_NEW_INVOKE_SPECIAL_targets)]))
      obtain ⟨cq241, kq241, q241a, q241b, q241c⟩ := isOf hZ e240 E_s_NEW_INVOKE_SPECIAL_targets
      obtain ⟨_, _, ⟨T241, L241, k241, n241⟩, -, X241, ⟨Lc241, hQ241, l241, y241, z241⟩, st241⟩ := X240.virtualBack hx (y := (⟨"com/example/classwright/classwright/KindSet", "contains", "(Ljava/lang/Object;)Z"⟩ : MethodName)) (z := (⟨"com/example/classwright/classwright/KindSet", "contains", "(Ljava/lang/Object;)Z"⟩ : MethodName)) hown (mvT hZ (hw _ (List.mem_of_getElem? (i := 29) rfl))) (mvT hZ (hw _ (List.mem_of_getElem? (i := 30) rfl))) (notFace_of_selects (args := #[]) (mvT hZ (hw _ (List.mem_of_getElem? (i := 32) rfl)))) (mvT hZ (hw _ (List.mem_of_getElem? (i := 32) rfl))) (mvT hZ (hw _ (List.mem_of_getElem? (i := 31) rfl))) (by decide) (backOf (W := 0) (rmC256_8 l Z a0 hw [] s_NEW_INVOKE_SPECIAL_targets s_METHODREF h0 n0 Z0 E_s_NEW_INVOKE_SPECIAL_targets F_s_NEW_INVOKE_SPECIAL_targets_bits E_s_METHODREF F_s_METHODREF_ordinal) hZ (hw _ (List.mem_of_getElem? (i := 34) rfl)) (hw _ (List.mem_of_getElem? (i := 33) rfl)) (by decide) (by decide)) q241a q241c (g := (mkF m 161 #[.val (.int k0), .val (.int mv), .val (.int (8 : Int32)), .val (.ref s_NEW_INVOKE_SPECIAL), .val (.ref s_NEW_INVOKE_SPECIAL_targets), .val (.int (1 : Int32)), .val (.int (0 : Int32)), .val (.int (1 : Int32)), .val (.int (0 : Int32)), .val (.int (1 : Int32))] [(.ref s_METHODREF), (.ref s_NEW_INVOKE_SPECIAL_targets)])) rfl (by rw [hml]; rfl) (Steps.refl _) (argsL := [(.ref s_METHODREF)]) (rest := []) (lenOf pd0_3 rfl) rfl (by show 2 * 0 + _ ≤ _; exact Nat.le_of_eq rfl) (hb hby at_161) (fun _ _ => ⟨rfl, e240, (by decide : 0 + 0 ≤ _), (by decide : 0 + 0 ≤ _)⟩)
      dsimp only [Pt.U, Pt.locs, Pt.cells, Pt.slots] at X241 l241 y241 z241 st241 hQ241
      subst l241 y241 z241
      obtain ⟨rfl, N241q, eh241⟩ := hQ241
      have N241 := Fr.app N239 N241q
      refine Go.tr st241 ?_
      show Go _ _ _ _ _ _ _ (T241.setTop (mkF m 164 #[.val (.int k0), .val (.int mv), .val (.int (8 : Int32)), .val (.ref s_NEW_INVOKE_SPECIAL), .val (.ref s_NEW_INVOKE_SPECIAL_targets), .val (.int (1 : Int32)), .val (.int (0 : Int32)), .val (.int (1 : Int32)), .val (.int (0 : Int32)), .val (.int (1 : Int32))] [(.int (1 : Int32))]))
      refine Go.by (fun _ kont => XS.iload X241.here hx rfl (hb hby at_164) rfl (XS.icmpNo X241.here hx rfl (hb hby at_166) rfl (by decide) (XS.aload X241.here hx rfl (hb hby at_169) rfl rfl kont))) ?_
      show Go _ _ _ _ _ _ _ (T241.setTop (mkF m 171 #[.val (.int k0), .val (.int mv), .val (.int (8 : Int32)), .val (.ref s_NEW_INVOKE_SPECIAL), .val (.ref s_NEW_INVOKE_SPECIAL_targets), .val (.int (1 : Int32)), .val (.int (0 : Int32)), .val (.int (1 : Int32)), .val (.int (0 : Int32)), .val (.int (1 : Int32))] [(.ref s_NEW_INVOKE_SPECIAL_targets)]))
      obtain ⟨T242, X242, e242, st242⟩ := getS2 X241 hx hZ hown (host := "") (Or.inl (hw _ (List.mem_of_getElem? (i := 50) rfl))) Via.refl eh241 S_INTERFACE_METHODREF (g := (mkF m 171 #[.val (.int k0), .val (.int mv), .val (.int (8 : Int32)), .val (.ref s_NEW_INVOKE_SPECIAL), .val (.ref s_NEW_INVOKE_SPECIAL_targets), .val (.int (1 : Int32)), .val (.int (0 : Int32)), .val (.int (1 : Int32)), .val (.int (0 : Int32)), .val (.int (1 : Int32))] [(.ref s_NEW_INVOKE_SPECIAL_targets)])) rfl (hb hby at_171)
      refine Go.by st242 ?_
      show Go _ _ _ _ _ _ _ (T242.setTop (mkF m 174 #[.val (.int k0), .val (.int mv), .val (.int (8 : Int32)), .val (.ref s_NEW_INVOKE_SPECIAL), .val (.ref s_NEW_INVOKE_SPECIAL_targets), .val (.int (1 : Int32)), .val (.int (0 : Int32)), .val (.int (1 : Int32)), .val (.int (0 : Int32)), .val (.int (1 : Int32))] [(.ref s_INTERFACE_METHODREF), (.ref s_NEW_INVOKE_SPECIAL_targets)]))
      obtain ⟨cq243, kq243, q243a, q243b, q243c⟩ := isOf hZ e242 E_s_NEW_INVOKE_SPECIAL_targets
      obtain ⟨_, _, ⟨T243, L243, k243, n243⟩, -, X243, ⟨Lc243, hQ243, l243, y243, z243⟩, st243⟩ := X242.virtualBack hx (y := (⟨"com/example/classwright/classwright/KindSet", "contains", "(Ljava/lang/Object;)Z"⟩ : MethodName)) (z := (⟨"com/example/classwright/classwright/KindSet", "contains", "(Ljava/lang/Object;)Z"⟩ : MethodName)) hown (mvT hZ (hw _ (List.mem_of_getElem? (i := 29) rfl))) (mvT hZ (hw _ (List.mem_of_getElem? (i := 30) rfl))) (notFace_of_selects (args := #[]) (mvT hZ (hw _ (List.mem_of_getElem? (i := 32) rfl)))) (mvT hZ (hw _ (List.mem_of_getElem? (i := 32) rfl))) (mvT hZ (hw _ (List.mem_of_getElem? (i := 31) rfl))) (by decide) (backOf (W := 0) (rmC256_9 l Z a0 hw [] s_NEW_INVOKE_SPECIAL_targets s_INTERFACE_METHODREF h0 n0 Z0 E_s_NEW_INVOKE_SPECIAL_targets F_s_NEW_INVOKE_SPECIAL_targets_bits E_s_INTERFACE_METHODREF F_s_INTERFACE_METHODREF_ordinal) hZ (hw _ (List.mem_of_getElem? (i := 34) rfl)) (hw _ (List.mem_of_getElem? (i := 33) rfl)) (by decide) (by decide)) q243a q243c (g := (mkF m 174 #[.val (.int k0), .val (.int mv), .val (.int (8 : Int32)), .val (.ref s_NEW_INVOKE_SPECIAL), .val (.ref s_NEW_INVOKE_SPECIAL_targets), .val (.int (1 : Int32)), .val (.int (0 : Int32)), .val (.int (1 : Int32)), .val (.int (0 : Int32)), .val (.int (1 : Int32))] [(.ref s_INTERFACE_METHODREF), (.ref s_NEW_INVOKE_SPECIAL_targets)])) rfl (by rw [hml]; rfl) (Steps.refl _) (argsL := [(.ref s_INTERFACE_METHODREF)]) (rest := []) (lenOf pd0_3 rfl) rfl (by show 2 * 0 + _ ≤ _; exact Nat.le_of_eq rfl) (hb hby at_174) (fun _ _ => ⟨rfl, e242, (by decide : 0 + 0 ≤ _), (by decide : 0 + 0 ≤ _)⟩)
      dsimp only [Pt.U, Pt.locs, Pt.cells, Pt.slots] at X243 l243 y243 z243 st243 hQ243
      subst l243 y243 z243
      obtain ⟨rfl, N243q, eh243⟩ := hQ243
      have N243 := Fr.app N241 N243q
      refine Go.tr st243 ?_
      show Go _ _ _ _ _ _ _ (T243.setTop (mkF m 177 #[.val (.int k0), .val (.int mv), .val (.int (8 : Int32)), .val (.ref s_NEW_INVOKE_SPECIAL), .val (.ref s_NEW_INVOKE_SPECIAL_targets), .val (.int (1 : Int32)), .val (.int (0 : Int32)), .val (.int (1 : Int32)), .val (.int (0 : Int32)), .val (.int (1 : Int32))] [(.int (0 : Int32))]))
      refine Go.by (fun _ kont => XS.iload X243.here hx rfl (hb hby at_177) rfl (XS.icmpNo X243.here hx rfl (hb hby at_179) rfl (by decide) (XS.aload X243.here hx rfl (hb hby at_182) rfl rfl kont))) ?_
      show Go _ _ _ _ _ _ _ (T243.setTop (mkF m 184 #[.val (.int k0), .val (.int mv), .val (.int (8 : Int32)), .val (.ref s_NEW_INVOKE_SPECIAL), .val (.ref s_NEW_INVOKE_SPECIAL_targets), .val (.int (1 : Int32)), .val (.int (0 : Int32)), .val (.int (1 : Int32)), .val (.int (0 : Int32)), .val (.int (1 : Int32))] [(.ref s_NEW_INVOKE_SPECIAL_targets)]))
      obtain ⟨cq244, kq244, q244a, q244b, q244c⟩ := isOf hZ eh243 E_s_NEW_INVOKE_SPECIAL_targets
      obtain ⟨_, _, ⟨T244, L244, k244, n244⟩, -, X244, ⟨Lc244, hQ244, l244, y244, z244⟩, st244⟩ := X243.virtualBack hx (y := (⟨"com/example/classwright/classwright/KindSet", "size", "()I"⟩ : MethodName)) (z := (⟨"com/example/classwright/classwright/KindSet", "size", "()I"⟩ : MethodName)) hown (mvT hZ (hw _ (List.mem_of_getElem? (i := 52) rfl))) (mvT hZ (hw _ (List.mem_of_getElem? (i := 53) rfl))) (notFace_of_selects (args := #[]) (mvT hZ (hw _ (List.mem_of_getElem? (i := 55) rfl)))) (mvT hZ (hw _ (List.mem_of_getElem? (i := 55) rfl))) (mvT hZ (hw _ (List.mem_of_getElem? (i := 54) rfl))) (by decide) (backOf (W := 0) (rmS256 l Z a0 hw [] s_NEW_INVOKE_SPECIAL_targets h0 n0 Z0 E_s_NEW_INVOKE_SPECIAL_targets F_s_NEW_INVOKE_SPECIAL_targets_bits) hZ (hw _ (List.mem_of_getElem? (i := 56) rfl)) (hw _ (List.mem_of_getElem? (i := 33) rfl)) (by decide) (by decide)) q244a q244c (g := (mkF m 184 #[.val (.int k0), .val (.int mv), .val (.int (8 : Int32)), .val (.ref s_NEW_INVOKE_SPECIAL), .val (.ref s_NEW_INVOKE_SPECIAL_targets), .val (.int (1 : Int32)), .val (.int (0 : Int32)), .val (.int (1 : Int32)), .val (.int (0 : Int32)), .val (.int (1 : Int32))] [(.ref s_NEW_INVOKE_SPECIAL_targets)])) rfl (by rw [hml]; rfl) (Steps.refl _) (argsL := []) (rest := []) (lenOf pd0_1 rfl) rfl (by show 2 * 0 + _ ≤ _; exact Nat.le_of_eq rfl) (hb hby at_184) (fun _ _ => ⟨rfl, eh243, (by decide : 0 + 0 ≤ _), (by decide : 0 + 0 ≤ _)⟩)
      dsimp only [Pt.U, Pt.locs, Pt.cells, Pt.slots] at X244 l244 y244 z244 st244 hQ244
      subst l244 y244 z244
      obtain ⟨rfl, N244q, eh244⟩ := hQ244
      have N244 := Fr.app N243 N244q
      refine Go.tr st244 ?_
      show Go _ _ _ _ _ _ _ (T244.setTop (mkF m 187 #[.val (.int k0), .val (.int mv), .val (.int (8 : Int32)), .val (.ref s_NEW_INVOKE_SPECIAL), .val (.ref s_NEW_INVOKE_SPECIAL_targets), .val (.int (1 : Int32)), .val (.int (0 : Int32)), .val (.int (1 : Int32)), .val (.int (0 : Int32)), .val (.int (1 : Int32))] [(.int (1 : Int32))]))
      refine Go.by (fun _ kont => XS.iload X244.here hx rfl (hb hby at_187) rfl (XS.icmpNo X244.here hx rfl (hb hby at_189) rfl (by decide) (XS.iconst X244.here hx rfl (hb hby at_192) (XS.goto X244.here hx rfl (pc0 := 193) (pc' := 197) rfl (hb hby at_193) (by decide) (by decide) kont)))) ?_
      show Go _ _ _ _ _ _ _ (T244.setTop (mkF m 197 #[.val (.int k0), .val (.int mv), .val (.int (8 : Int32)), .val (.ref s_NEW_INVOKE_SPECIAL), .val (.ref s_NEW_INVOKE_SPECIAL_targets), .val (.int (1 : Int32)), .val (.int (0 : Int32)), .val (.int (1 : Int32)), .val (.int (0 : Int32)), .val (.int (1 : Int32))] [(.int (1 : Int32))]))
      refine Go.retN X244 hx (t := .boolean) hret (by simp) hlk (hb hby at_197) ?_ (by decide) (by decide)
      show Q0 Z h0 n0 (some (.int (1 : Int32))) T244.heap _
      rw [eh244]
      exact ⟨rfl, N244⟩
  · show Go _ _ _ _ _ _ _ (s₁.setTop (mkF m 10 #[.val (.int k0), .val (.int mv), .val (.int (9 : Int32)), .unset, .unset, .unset, .unset, .unset, .unset, .unset] []))
    refine Go.by (fun _ kont => XS.iloadN X0.here hx rfl (hb hby at_10) rfl kont) ?_
    show Go _ _ _ _ _ _ _ (s₁.setTop (mkF m 11 #[.val (.int k0), .val (.int mv), .val (.int (9 : Int32)), .unset, .unset, .unset, .unset, .unset, .unset, .unset] [(.int (9 : Int32))]))
    obtain ⟨_, _, ⟨T245, L245, k245, n245⟩, -, X245, ⟨Lc245, hQ245, l245, y245, z245⟩, st245⟩ := Jvm.LawKit.callS X0 hx (y := (⟨"com/example/classwright/classwright/ReferenceKind", "forByte", "(I)Lcom/example/classwright/classwright/ReferenceKind;"⟩ : MethodName)) hown (mvT hZ (hw _ (List.mem_of_getElem? (i := 1) rfl))) (mvT hZ (hw _ (List.mem_of_getElem? (i := 2) rfl))) (mvT hZ (hw _ (List.mem_of_getElem? (i := 3) rfl))) (mvT hZ (hw _ (List.mem_of_getElem? (i := 4) rfl))) (by decide) (backOf (W := 0) (rmF9 l Z a0 hw [] s_BY_VALUE kc_s_BY_VALUE s_GET_FIELD s_GET_STATIC s_PUT_FIELD s_PUT_STATIC s_INVOKE_VIRTUAL s_INVOKE_STATIC s_INVOKE_SPECIAL s_NEW_INVOKE_SPECIAL s_INVOKE_INTERFACE h0 n0 Z0 V_s_BY_VALUE S_BY_VALUE) hZ (hw _ (List.mem_of_getElem? (i := 4) rfl)) (hw _ (List.mem_of_getElem? (i := 3) rfl)) (by decide) (by decide)) (g := (mkF m 11 #[.val (.int k0), .val (.int mv), .val (.int (9 : Int32)), .unset, .unset, .unset, .unset, .unset, .unset, .unset] [(.int (9 : Int32))])) rfl (by rw [hml]; rfl) (argsL := [(.int (9 : Int32))]) (rest := []) (lenOf pd0_0 rfl) rfl (by show 2 * 0 + _ ≤ _; exact Nat.le_of_eq rfl) (hb hby at_11) (fun _ _ => ⟨rfl, e0, (by decide : 0 + 0 ≤ _), (by decide : 0 + 0 ≤ _)⟩)
    dsimp only [Pt.U, Pt.locs, Pt.cells, Pt.slots] at X245 l245 y245 z245 st245 hQ245
    subst l245 y245 z245
    obtain ⟨rfl, N245q, eh245⟩ := hQ245
    have N245 := Fr.app N0 N245q
    refine Go.by st245 ?_
    show Go _ _ _ _ _ _ _ (T245.setTop (mkF m 14 #[.val (.int k0), .val (.int mv), .val (.int (9 : Int32)), .unset, .unset, .unset, .unset, .unset, .unset, .unset] [(.ref s_INVOKE_INTERFACE)]))
    refine Go.by (fun _ kont => XS.astoreN X245.here hx rfl (hb hby at_14) rfl rfl (l' := #[.val (.int k0), .val (.int mv), .val (.int (9 : Int32)), .val (.ref s_INVOKE_INTERFACE), .unset, .unset, .unset, .unset, .unset, .unset]) rfl (XS.aloadN X245.here hx rfl (hb hby at_15) rfl rfl (XS.ifnullNo X245.here hx rfl (hb hby at_16) rfl (XS.aloadN X245.here hx rfl (hb hby at_19) rfl rfl kont)))) ?_
    show Go _ _ _ _ _ _ _ (T245.setTop (mkF m 20 #[.val (.int k0), .val (.int mv), .val (.int (9 : Int32)), .val (.ref s_INVOKE_INTERFACE), .unset, .unset, .unset, .unset, .unset, .unset] [(.ref s_INVOKE_INTERFACE)]))
    obtain ⟨cq246, kq246, q246a, q246b, q246c⟩ := isOf hZ eh245 E_s_INVOKE_INTERFACE
    obtain ⟨_, _, ⟨T246, L246, k246, n246⟩, -, X246, ⟨Lc246, hQ246, l246, y246, z246⟩, st246⟩ := X245.virtualBack hx (y := (⟨"com/example/classwright/classwright/ReferenceKind", "value", "()I"⟩ : MethodName)) (z := (⟨"com/example/classwright/classwright/ReferenceKind", "value", "()I"⟩ : MethodName)) hown (mvT hZ (hw _ (List.mem_of_getElem? (i := 8) rfl))) (mvT hZ (hw _ (List.mem_of_getElem? (i := 9) rfl))) (notFace_of_selects (args := #[]) (mvT hZ (hw _ (List.mem_of_getElem? (i := 11) rfl)))) (mvT hZ (hw _ (List.mem_of_getElem? (i := 11) rfl))) (mvT hZ (hw _ (List.mem_of_getElem? (i := 10) rfl))) (by decide) (backOf (W := 0) (rmV l Z a0 hw [] s_INVOKE_INTERFACE (9 : Int32) h0 n0 Z0 E_s_INVOKE_INTERFACE F_s_INVOKE_INTERFACE_value) hZ (hw _ (List.mem_of_getElem? (i := 12) rfl)) (hw _ (List.mem_of_getElem? (i := 3) rfl)) (by decide) (by decide)) q246a q246c (g := (mkF m 20 #[.val (.int k0), .val (.int mv), .val (.int (9 : Int32)), .val (.ref s_INVOKE_INTERFACE), .unset, .unset, .unset, .unset, .unset, .unset] [(.ref s_INVOKE_INTERFACE)])) rfl (by rw [hml]; rfl) (Steps.refl _) (argsL := []) (rest := []) (lenOf pd0_1 rfl) rfl (by show 2 * 0 + _ ≤ _; exact Nat.le_of_eq rfl) (hb hby at_20) (fun _ _ => ⟨rfl, eh245, (by decide : 0 + 0 ≤ _), (by decide : 0 + 0 ≤ _)⟩)
    dsimp only [Pt.U, Pt.locs, Pt.cells, Pt.slots] at X246 l246 y246 z246 st246 hQ246
    subst l246 y246 z246
    obtain ⟨rfl, N246q, eh246⟩ := hQ246
    have N246 := Fr.app N245 N246q
    refine Go.tr st246 ?_
    show Go _ _ _ _ _ _ _ (T246.setTop (mkF m 23 #[.val (.int k0), .val (.int mv), .val (.int (9 : Int32)), .val (.ref s_INVOKE_INTERFACE), .unset, .unset, .unset, .unset, .unset, .unset] [(.int (9 : Int32))]))
    refine Go.by (fun _ kont => XS.iloadN X246.here hx rfl (hb hby at_23) rfl (XS.icmpYes X246.here hx rfl (pc0 := 24) (pc' := 29) rfl (hb hby at_24) rfl (by decide) (by decide) (by decide) kont)) ?_
    show Go _ _ _ _ _ _ _ (T246.setTop (mkF m 29 #[.val (.int k0), .val (.int mv), .val (.int (9 : Int32)), .val (.ref s_INVOKE_INTERFACE), .unset, .unset, .unset, .unset, .unset, .unset] []))
    by_cases hmv : mv < (52 : Int32)
    · show Go _ _ _ _ _ _ _ (T246.setTop (mkF m 29 #[.val (.int k0), .val (.int mv), .val (.int (9 : Int32)), .val (.ref s_INVOKE_INTERFACE), .unset, .unset, .unset, .unset, .unset, .unset] []))
      refine Go.by (fun _ kont => XS.aloadN X246.here hx rfl (hb hby at_29) rfl rfl (XS.iloadN X246.here hx rfl (hb hby at_30) rfl kont)) ?_
      show Go _ _ _ _ _ _ _ (T246.setTop (mkF m 31 #[.val (.int k0), .val (.int mv), .val (.int (9 : Int32)), .val (.ref s_INVOKE_INTERFACE), .unset, .unset, .unset, .unset, .unset, .unset] [(.int mv), (.ref s_INVOKE_INTERFACE)]))
      obtain ⟨cq247, kq247, q247a, q247b, q247c⟩ := isOf hZ eh246 E_s_INVOKE_INTERFACE
      obtain ⟨_, _, ⟨T247, L247, k247, n247⟩, -, X247, ⟨Lc247, hQ247, l247, y247, z247⟩, st247⟩ := X246.virtualBack hx (y := (⟨"com/example/classwright/classwright/ReferenceKind", "targetKinds", "(I)Lcom/example/classwright/classwright/KindSet;"⟩ : MethodName)) (z := (⟨"com/example/classwright/classwright/ReferenceKind", "targetKinds", "(I)Lcom/example/classwright/classwright/KindSet;"⟩ : MethodName)) hown (mvT hZ (hw _ (List.mem_of_getElem? (i := 15) rfl))) (mvT hZ (hw _ (List.mem_of_getElem? (i := 16) rfl))) (notFace_of_selects (args := #[]) (mvT hZ (hw _ (List.mem_of_getElem? (i := 18) rfl)))) (mvT hZ (hw _ (List.mem_of_getElem? (i := 18) rfl))) (mvT hZ (hw _ (List.mem_of_getElem? (i := 17) rfl))) (by decide) (backOf (W := 0) (rmTe l Z a0 hw [] s_INVOKE_INTERFACE mv s_INVOKE_INTERFACE_targets s_INVOKE_STATIC s_INVOKE_SPECIAL s_METHODREF_ h0 n0 Z0 E_s_INVOKE_INTERFACE F_s_INVOKE_INTERFACE_targets ne_s_INVOKE_INTERFACE_s_INVOKE_STATIC ne_s_INVOKE_INTERFACE_s_INVOKE_SPECIAL S_INVOKE_STATIC S_INVOKE_SPECIAL S_METHODREF_ hmv) hZ (hw _ (List.mem_of_getElem? (i := 19) rfl)) (hw _ (List.mem_of_getElem? (i := 3) rfl)) (by decide) (by decide)) q247a q247c (g := (mkF m 31 #[.val (.int k0), .val (.int mv), .val (.int (9 : Int32)), .val (.ref s_INVOKE_INTERFACE), .unset, .unset, .unset, .unset, .unset, .unset] [(.int mv), (.ref s_INVOKE_INTERFACE)])) rfl (by rw [hml]; rfl) (Steps.refl _) (argsL := [(.int mv)]) (rest := []) (lenOf pd0_2 rfl) rfl (by show 2 * 0 + _ ≤ _; exact Nat.le_of_eq rfl) (hb hby at_31) (fun _ _ => ⟨rfl, eh246, (by decide : 0 + 0 ≤ _), (by decide : 0 + 0 ≤ _)⟩)
      dsimp only [Pt.U, Pt.locs, Pt.cells, Pt.slots] at X247 l247 y247 z247 st247 hQ247
      subst l247 y247 z247
      obtain ⟨rfl, N247q, eh247⟩ := hQ247
      have N247 := Fr.app N246 N247q
      refine Go.tr st247 ?_
      show Go _ _ _ _ _ _ _ (T247.setTop (mkF m 34 #[.val (.int k0), .val (.int mv), .val (.int (9 : Int32)), .val (.ref s_INVOKE_INTERFACE), .unset, .unset, .unset, .unset, .unset, .unset] [(.ref s_INVOKE_INTERFACE_targets)]))
      refine Go.by (fun _ kont => XS.astore X247.here hx rfl (hb hby at_34) rfl rfl (l' := #[.val (.int k0), .val (.int mv), .val (.int (9 : Int32)), .val (.ref s_INVOKE_INTERFACE), .val (.ref s_INVOKE_INTERFACE_targets), .unset, .unset, .unset, .unset, .unset]) rfl (XS.iloadN X247.here hx rfl (hb hby at_36) rfl (XS.bipush X247.here hx rfl (hb hby at_37) kont))) ?_
      show Go _ _ _ _ _ _ _ (T247.setTop (mkF m 39 #[.val (.int k0), .val (.int mv), .val (.int (9 : Int32)), .val (.ref s_INVOKE_INTERFACE), .val (.ref s_INVOKE_INTERFACE_targets), .unset, .unset, .unset, .unset, .unset] [(.int (52 : Int32)), (.int mv)]))
      refine Go.by (fun _ kont => XS.icmpYes X247.here hx rfl (pc0 := 39) (pc' := 46) rfl (hb hby at_39) rfl (tlt hmv).1 (by decide) (by decide) kont) ?_
      show Go _ _ _ _ _ _ _ (T247.setTop (mkF m 46 #[.val (.int k0), .val (.int mv), .val (.int (9 : Int32)), .val (.ref s_INVOKE_INTERFACE), .val (.ref s_INVOKE_INTERFACE_targets), .unset, .unset, .unset, .unset, .unset] []))
      refine Go.by (fun _ kont => XS.iconst X247.here hx rfl (hb hby at_46) (XS.istore X247.here hx rfl (hb hby at_47) rfl (l' := #[.val (.int k0), .val (.int mv), .val (.int (9 : Int32)), .val (.ref s_INVOKE_INTERFACE), .val (.ref s_INVOKE_INTERFACE_targets), .val (.int (0 : Int32)), .unset, .unset, .unset, .unset]) rfl (XS.iloadN X247.here hx rfl (hb hby at_49) rfl (XS.iconst X247.here hx rfl (hb hby at_50) (XS.icmpYes X247.here hx rfl (pc0 := 51) (pc' := 58) rfl (hb hby at_51) rfl (by decide) (by decide) (by decide) (XS.iconst X247.here hx rfl (hb hby at_58) (XS.istore X247.here hx rfl (hb hby at_59) rfl (l' := #[.val (.int k0), .val (.int mv), .val (.int (9 : Int32)), .val (.ref s_INVOKE_INTERFACE), .val (.ref s_INVOKE_INTERFACE_targets), .val (.int (0 : Int32)), .val (.int (0 : Int32)), .unset, .unset, .unset]) rfl (XS.iloadN X247.here hx rfl (hb hby at_61) rfl (XS.iconst X247.here hx rfl (hb hby at_62) (XS.icmpNo X247.here hx rfl (hb hby at_63) rfl (by decide) (XS.iloadN X247.here hx rfl (hb hby at_66) rfl (XS.bipush X247.here hx rfl (hb hby at_67) kont)))))))))))) ?_
      show Go _ _ _ _ _ _ _ (T247.setTop (mkF m 69 #[.val (.int k0), .val (.int mv), .val (.int (9 : Int32)), .val (.ref s_INVOKE_INTERFACE), .val (.ref s_INVOKE_INTERFACE_targets), .val (.int (0 : Int32)), .val (.int (0 : Int32)), .unset, .unset, .unset] [(.int (8 : Int32)), (.int (9 : Int32))]))
      refine Go.by (fun _ kont => XS.icmpYes X247.here hx rfl (pc0 := 69) (pc' := 76) rfl (hb hby at_69) rfl (by decide) (by decide) (by decide) (XS.iconst X247.here hx rfl (hb hby at_76) (XS.istore X247.here hx rfl (hb hby at_77) rfl (l' := #[.val (.int k0), .val (.int mv), .val (.int (9 : Int32)), .val (.ref s_INVOKE_INTERFACE), .val (.ref s_INVOKE_INTERFACE_targets), .val (.int (0 : Int32)), .val (.int (0 : Int32)), .val (.int (0 : Int32)), .unset, .unset]) rfl (XS.iloadN X247.here hx rfl (hb hby at_79) rfl (XS.bipush X247.here hx rfl (hb hby at_80) (XS.icmpYes X247.here hx rfl (pc0 := 82) (pc' := 102) rfl (hb hby at_82) rfl (by decide) (by decide) (by decide) (XS.iconst X247.here hx rfl (hb hby at_102) (XS.goto X247.here hx rfl (pc0 := 103) (pc' := 107) rfl (hb hby at_103) (by decide) (by decide) (XS.istore X247.here hx rfl (hb hby at_107) rfl (l' := #[.val (.int k0), .val (.int mv), .val (.int (9 : Int32)), .val (.ref s_INVOKE_INTERFACE), .val (.ref s_INVOKE_INTERFACE_targets), .val (.int (0 : Int32)), .val (.int (0 : Int32)), .val (.int (0 : Int32)), .val (.int (1 : Int32)), .unset]) rfl (XS.iload X247.here hx rfl (hb hby at_109) rfl (XS.ifYes X247.here hx rfl (pc0 := 111) (pc' := 118) rfl (hb hby at_111) rfl (by decide) (by decide) (by decide) (XS.iconst X247.here hx rfl (hb hby at_118) kont)))))))))))) ?_
      show Go _ _ _ _ _ _ _ (T247.setTop (mkF m 119 #[.val (.int k0), .val (.int mv), .val (.int (9 : Int32)), .val (.ref s_INVOKE_INTERFACE), .val (.ref s_INVOKE_INTERFACE_targets), .val (.int (0 : Int32)), .val (.int (0 : Int32)), .val (.int (0 : Int32)), .val (.int (1 : Int32)), .unset] [(.int (0 : Int32))]))
      refine Go.by (fun _ kont => XS.iload X247.here hx rfl (hb hby at_119) rfl (XS.ifYes X247.here hx rfl (pc0 := 121) (pc' := 128) rfl (hb hby at_121) rfl (by decide) (by decide) (by decide) (XS.iconst X247.here hx rfl (hb hby at_128) (XS.iadd X247.here hx rfl (hb hby at_129) rfl kont)))) ?_
      show Go _ _ _ _ _ _ _ (T247.setTop (mkF m 130 #[.val (.int k0), .val (.int mv), .val (.int (9 : Int32)), .val (.ref s_INVOKE_INTERFACE), .val (.ref s_INVOKE_INTERFACE_targets), .val (.int (0 : Int32)), .val (.int (0 : Int32)), .val (.int (0 : Int32)), .val (.int (1 : Int32)), .unset] [(.int ((0 : Int32) + (0 : Int32)))]))
      rw [show ((0 : Int32) + (0 : Int32)) = (0 : Int32) from by decide]
      show Go _ _ _ _ _ _ _ (T247.setTop (mkF m 130 #[.val (.int k0), .val (.int mv), .val (.int (9 : Int32)), .val (.ref s_INVOKE_INTERFACE), .val (.ref s_INVOKE_INTERFACE_targets), .val (.int (0 : Int32)), .val (.int (0 : Int32)), .val (.int (0 : Int32)), .val (.int (1 : Int32)), .unset] [(.int (0 : Int32))]))
      refine Go.by (fun _ kont => XS.iload X247.here hx rfl (hb hby at_130) rfl (XS.ifNo X247.here hx rfl (hb hby at_132) rfl (by decide) (XS.iconst X247.here hx rfl (hb hby at_135) (XS.goto X247.here hx rfl (pc0 := 136) (pc' := 140) rfl (hb hby at_136) (by decide) (by decide) (XS.iadd X247.here hx rfl (hb hby at_140) rfl kont))))) ?_
      show Go _ _ _ _ _ _ _ (T247.setTop (mkF m 141 #[.val (.int k0), .val (.int mv), .val (.int (9 : Int32)), .val (.ref s_INVOKE_INTERFACE), .val (.ref s_INVOKE_INTERFACE_targets), .val (.int (0 : Int32)), .val (.int (0 : Int32)), .val (.int (0 : Int32)), .val (.int (1 : Int32)), .unset] [(.int ((0 : Int32) + (1 : Int32)))]))
      rw [show ((0 : Int32) + (1 : Int32)) = (1 : Int32) from by decide]
      show Go _ _ _ _ _ _ _ (T247.setTop (mkF m 141 #[.val (.int k0), .val (.int mv), .val (.int (9 : Int32)), .val (.ref s_INVOKE_INTERFACE), .val (.ref s_INVOKE_INTERFACE_targets), .val (.int (0 : Int32)), .val (.int (0 : Int32)), .val (.int (0 : Int32)), .val (.int (1 : Int32)), .unset] [(.int (1 : Int32))]))
      refine Go.by (fun _ kont => XS.istore X247.here hx rfl (hb hby at_141) rfl (l' := #[.val (.int k0), .val (.int mv), .val (.int (9 : Int32)), .val (.ref s_INVOKE_INTERFACE), .val (.ref s_INVOKE_INTERFACE_targets), .val (.int (0 : Int32)), .val (.int (0 : Int32)), .val (.int (0 : Int32)), .val (.int (1 : Int32)), .val (.int (1 : Int32))]) rfl (XS.aload X247.here hx rfl (hb hby at_143) rfl rfl kont)) ?_
      show Go _ _ _ _ _ _ _ (T247.setTop (mkF m 145 #[.val (.int k0), .val (.int mv), .val (.int (9 : Int32)), .val (.ref s_INVOKE_INTERFACE), .val (.ref s_INVOKE_INTERFACE_targets), .val (.int (0 : Int32)), .val (.int (0 : Int32)), .val (.int (0 : Int32)), .val (.int (1 : Int32)), .val (.int (1 : Int32))] [(.ref s_INVOKE_INTERFACE_targets)]))
      obtain ⟨T248, X248, e248, st248⟩ := getS2 X247 hx hZ hown (host := "") (Or.inl (hw _ (List.mem_of_getElem? (i := 26) rfl))) Via.refl eh247 S_FIELDREF (g := (mkF m 145 #[.val (.int k0), .val (.int mv), .val (.int (9 : Int32)), .val (.ref s_INVOKE_INTERFACE), .val (.ref s_INVOKE_INTERFACE_targets), .val (.int (0 : Int32)), .val (.int (0 : Int32)), .val (.int (0 : Int32)), .val (.int (1 : Int32)), .val (.int (1 : Int32))] [(.ref s_INVOKE_INTERFACE_targets)])) rfl (hb hby at_145)
      refine Go.by st248 ?_
      show Go _ _ _ _ _ _ _ (T248.setTop (mkF m 148 #[.val (.int k0), .val (.int mv), .val (.int (9 : Int32)), .val (.ref s_INVOKE_INTERFACE), .val (.ref s_INVOKE_INTERFACE_targets), .val (.int (0 : Int32)), .val (.int (0 : Int32)), .val (.int (0 : Int32)), .val (.int (1 : Int32)), .val (.int (1 : Int32))] [(.ref s_FIELDREF), (.ref s_INVOKE_INTERFACE_targets)]))
      obtain ⟨cq249, kq249, q249a, q249b, q249c⟩ := isOf hZ e248 E_s_INVOKE_INTERFACE_targets
      obtain ⟨_, _, ⟨T249, L249, k249, n249⟩, -, X249, ⟨Lc249, hQ249, l249, y249, z249⟩, st249⟩ := X248.virtualBack hx (y := (⟨"com/example/classwright/classwright/KindSet", "contains", "(Ljava/lang/Object;)Z"⟩ : MethodName)) (z := (⟨"com/example/classwright/classwright/KindSet", "contains", "(Ljava/lang/Object;)Z"⟩ : MethodName)) hown (mvT hZ (hw _ (List.mem_of_getElem? (i := 29) rfl))) (mvT hZ (hw _ (List.mem_of_getElem? (i := 30) rfl))) (notFace_of_selects (args := #[]) (mvT hZ (hw _ (List.mem_of_getElem? (i := 32) rfl)))) (mvT hZ (hw _ (List.mem_of_getElem? (i := 32) rfl))) (mvT hZ (hw _ (List.mem_of_getElem? (i := 31) rfl))) (by decide) (backOf (W := 0) (rmC512_7 l Z a0 hw [] s_INVOKE_INTERFACE_targets s_FIELDREF h0 n0 Z0 E_s_INVOKE_INTERFACE_targets F_s_INVOKE_INTERFACE_targets_bits E_s_FIELDREF F_s_FIELDREF_ordinal) hZ (hw _ (List.mem_of_getElem? (i := 34) rfl)) (hw _ (List.mem_of_getElem? (i := 33) rfl)) (by decide) (by decide)) q249a q249c (g := (mkF m 148 #[.val (.int k0), .val (.int mv), .val (.int (9 : Int32)), .val (.ref s_INVOKE_INTERFACE), .val (.ref s_INVOKE_INTERFACE_targets), .val (.int (0 : Int32)), .val (.int (0 : Int32)), .val (.int (0 : Int32)), .val (.int (1 : Int32)), .val (.int (1 : Int32))] [(.ref s_FIELDREF), (.ref s_INVOKE_INTERFACE_targets)])) rfl (by rw [hml]; rfl) (Steps.refl _) (argsL := [(.ref s_FIELDREF)]) (rest := []) (lenOf pd0_3 rfl) rfl (by show 2 * 0 + _ ≤ _; exact Nat.le_of_eq rfl) (hb hby at_148) (fun _ _ => ⟨rfl, e248, (by decide : 0 + 0 ≤ _), (by decide : 0 + 0 ≤ _)⟩)
      dsimp only [Pt.U, Pt.locs, Pt.cells, Pt.slots] at X249 l249 y249 z249 st249 hQ249
      subst l249 y249 z249
      obtain ⟨rfl, N249q, eh249⟩ := hQ249
      have N249 := Fr.app N247 N249q
      refine Go.tr st249 ?_
      show Go _ _ _ _ _ _ _ (T249.setTop (mkF m 151 #[.val (.int k0), .val (.int mv), .val (.int (9 : Int32)), .val (.ref s_INVOKE_INTERFACE), .val (.ref s_INVOKE_INTERFACE_targets), .val (.int (0 : Int32)), .val (.int (0 : Int32)), .val (.int (0 : Int32)), .val (.int (1 : Int32)), .val (.int (1 : Int32))] [(.int (0 : Int32))]))
      refine Go.by (fun _ kont => XS.iload X249.here hx rfl (hb hby at_151) rfl (XS.icmpNo X249.here hx rfl (hb hby at_153) rfl (by decide) (XS.aload X249.here hx rfl (hb hby at_156) rfl rfl kont))) ?_
      show Go _ _ _ _ _ _ _ (T249.setTop (mkF m 158 #[.val (.int k0), .val (.int mv), .val (.int (9 : Int32)), .val (.ref s_INVOKE_INTERFACE), .val (.ref s_INVOKE_INTERFACE_targets), .val (.int (0 : Int32)), .val (.int (0 : Int32)), .val (.int (0 : Int32)), .val (.int (1 : Int32)), .val (.int (1 : Int32))] [(.ref s_INVOKE_INTERFACE_targets)]))
      obtain ⟨T250, X250, e250, st250⟩ := getS2 X249 hx hZ hown (host := "") (Or.inl (hw _ (List.mem_of_getElem? (i := 48) rfl))) Via.refl eh249 S_METHODREF (g := (mkF m 158 #[.val (.int k0), .val (.int mv), .val (.int (9 : Int32)), .val (.ref s_INVOKE_INTERFACE), .val (.ref s_INVOKE_INTERFACE_targets), .val (.int (0 : Int32)), .val (.int (0 : Int32)), .val (.int (0 : Int32)), .val (.int (1 : Int32)), .val (.int (1 : Int32))] [(.ref s_INVOKE_INTERFACE_targets)])) rfl (hb hby at_158)
      refine Go.by st250 ?_
      show Go _ _ _ _ _ _ _ (T250.setTop (mkF m 161 #[.val (.int k0), .val (.int mv), .val (.int (9 : Int32)), .val (.ref s_INVOKE_INTERFACE), .val (.ref s_INVOKE_INTERFACE_targets), .val (.int (0 : Int32)), .val (.int (0 : Int32)), .val (.int (0 : Int32)), .val (.int (1 : Int32)), .val (.int (1 : Int32))] [(.ref s_METHODREF), (.ref s_INVOKE_INTERFACE_targets)]))
      obtain ⟨cq251, kq251, q251a, q251b, q251c⟩ := isOf hZ e250 E_s_INVOKE_INTERFACE_targets
      obtain ⟨_, _, ⟨T251, L251, k251, n251⟩, -, X251, ⟨Lc251, hQ251, l251, y251, z251⟩, st251⟩ := X250.virtualBack hx (y := (⟨"com/example/classwright/classwright/KindSet", "contains", "(Ljava/lang/Object;)Z"⟩ : MethodName)) (z := (⟨"com/example/classwright/classwright/KindSet", "contains", "(Ljava/lang/Object;)Z"⟩ : MethodName)) hown (mvT hZ (hw _ (List.mem_of_getElem? (i := 29) rfl))) (mvT hZ (hw _ (List.mem_of_getElem? (i := 30) rfl))) (notFace_of_selects (args := #[]) (mvT hZ (hw _ (List.mem_of_getElem? (i := 32) rfl)))) (mvT hZ (hw _ (List.mem_of_getElem? (i := 32) rfl))) (mvT hZ (hw _ (List.mem_of_getElem? (i := 31) rfl))) (by decide) (backOf (W := 0) (rmC512_8 l Z a0 hw [] s_INVOKE_INTERFACE_targets s_METHODREF h0 n0 Z0 E_s_INVOKE_INTERFACE_targets F_s_INVOKE_INTERFACE_targets_bits E_s_METHODREF F_s_METHODREF_ordinal) hZ (hw _ (List.mem_of_getElem? (i := 34) rfl)) (hw _ (List.mem_of_getElem? (i := 33) rfl)) (by decide) (by decide)) q251a q251c (g := (mkF m 161 #[.val (.int k0), .val (.int mv), .val (.int (9 : Int32)), .val (.ref s_INVOKE_INTERFACE), .val (.ref s_INVOKE_INTERFACE_targets), .val (.int (0 : Int32)), .val (.int (0 : Int32)), .val (.int (0 : Int32)), .val (.int (1 : Int32)), .val (.int (1 : Int32))] [(.ref s_METHODREF), (.ref s_INVOKE_INTERFACE_targets)])) rfl (by rw [hml]; rfl) (Steps.refl _) (argsL := [(.ref s_METHODREF)]) (rest := []) (lenOf pd0_3 rfl) rfl (by show 2 * 0 + _ ≤ _; exact Nat.le_of_eq rfl) (hb hby at_161) (fun _ _ => ⟨rfl, e250, (by decide : 0 + 0 ≤ _), (by decide : 0 + 0 ≤ _)⟩)
      dsimp only [Pt.U, Pt.locs, Pt.cells, Pt.slots] at X251 l251 y251 z251 st251 hQ251
      subst l251 y251 z251
      obtain ⟨rfl, N251q, eh251⟩ := hQ251
      have N251 := Fr.app N249 N251q
      refine Go.tr st251 ?_
      show Go _ _ _ _ _ _ _ (T251.setTop (mkF m 164 #[.val (.int k0), .val (.int mv), .val (.int (9 : Int32)), .val (.ref s_INVOKE_INTERFACE), .val (.ref s_INVOKE_INTERFACE_targets), .val (.int (0 : Int32)), .val (.int (0 : Int32)), .val (.int (0 : Int32)), .val (.int (1 : Int32)), .val (.int (1 : Int32))] [(.int (0 : Int32))]))
      refine Go.by (fun _ kont => XS.iload X251.here hx rfl (hb hby at_164) rfl (XS.icmpNo X251.here hx rfl (hb hby at_166) rfl (by decide) (XS.aload X251.here hx rfl (hb hby at_169) rfl rfl kont))) ?_
      show Go _ _ _ _ _ _ _ (T251.setTop (mkF m 171 #[.val (.int k0), .val (.int mv), .val (.int (9 : Int32)), .val (.ref s_INVOKE_INTERFACE), .val (.ref s_INVOKE_INTERFACE_targets), .val (.int (0 : Int32)), .val (.int (0 : Int32)), .val (.int (0 : Int32)), .val (.int (1 : Int32)), .val (.int (1 : Int32))] [(.ref s_INVOKE_INTERFACE_targets)]))
      obtain ⟨T252, X252, e252, st252⟩ := getS2 X251 hx hZ hown (host := "") (Or.inl (hw _ (List.mem_of_getElem? (i := 50) rfl))) Via.refl eh251 S_INTERFACE_METHODREF (g := (mkF m 171 #[.val (.int k0), .val (.int mv), .val (.int (9 : Int32)), .val (.ref s_INVOKE_INTERFACE), .val (.ref s_INVOKE_INTERFACE_targets), .val (.int (0 : Int32)), .val (.int (0 : Int32)), .val (.int (0 : Int32)), .val (.int (1 : Int32)), .val (.int (1 : Int32))] [(.ref s_INVOKE_INTERFACE_targets)])) rfl (hb hby at_171)
      refine Go.by st252 ?_
      show Go _ _ _ _ _ _ _ (T252.setTop (mkF m 174 #[.val (.int k0), .val (.int mv), .val (.int (9 : Int32)), .val (.ref s_INVOKE_INTERFACE), .val (.ref s_INVOKE_INTERFACE_targets), .val (.int (0 : Int32)), .val (.int (0 : Int32)), .val (.int (0 : Int32)), .val (.int (1 : Int32)), .val (.int (1 : Int32))] [(.ref s_INTERFACE_METHODREF), (.ref s_INVOKE_INTERFACE_targets)]))
      obtain ⟨cq253, kq253, q253a, q253b, q253c⟩ := isOf hZ e252 E_s_INVOKE_INTERFACE_targets
      obtain ⟨_, _, ⟨T253, L253, k253, n253⟩, -, X253, ⟨Lc253, hQ253, l253, y253, z253⟩, st253⟩ := X252.virtualBack hx (y := (⟨"com/example/classwright/classwright/KindSet", "contains", "(Ljava/lang/Object;)Z"⟩ : MethodName)) (z := (⟨"com/example/classwright/classwright/KindSet", "contains", "(Ljava/lang/Object;)Z"⟩ : MethodName)) hown (mvT hZ (hw _ (List.mem_of_getElem? (i := 29) rfl))) (mvT hZ (hw _ (List.mem_of_getElem? (i := 30) rfl))) (notFace_of_selects (args := #[]) (mvT hZ (hw _ (List.mem_of_getElem? (i := 32) rfl)))) (mvT hZ (hw _ (List.mem_of_getElem? (i := 32) rfl))) (mvT hZ (hw _ (List.mem_of_getElem? (i := 31) rfl))) (by decide) (backOf (W := 0) (rmC512_9 l Z a0 hw [] s_INVOKE_INTERFACE_targets s_INTERFACE_METHODREF h0 n0 Z0 E_s_INVOKE_INTERFACE_targets F_s_INVOKE_INTERFACE_targets_bits E_s_INTERFACE_METHODREF F_s_INTERFACE_METHODREF_ordinal) hZ (hw _ (List.mem_of_getElem? (i := 34) rfl)) (hw _ (List.mem_of_getElem? (i := 33) rfl)) (by decide) (by decide)) q253a q253c (g := (mkF m 174 #[.val (.int k0), .val (.int mv), .val (.int (9 : Int32)), .val (.ref s_INVOKE_INTERFACE), .val (.ref s_INVOKE_INTERFACE_targets), .val (.int (0 : Int32)), .val (.int (0 : Int32)), .val (.int (0 : Int32)), .val (.int (1 : Int32)), .val (.int (1 : Int32))] [(.ref s_INTERFACE_METHODREF), (.ref s_INVOKE_INTERFACE_targets)])) rfl (by rw [hml]; rfl) (Steps.refl _) (argsL := [(.ref s_INTERFACE_METHODREF)]) (rest := []) (lenOf pd0_3 rfl) rfl (by show 2 * 0 + _ ≤ _; exact Nat.le_of_eq rfl) (hb hby at_174) (fun _ _ => ⟨rfl, e252, (by decide : 0 + 0 ≤ _), (by decide : 0 + 0 ≤ _)⟩)
      dsimp only [Pt.U, Pt.locs, Pt.cells, Pt.slots] at X253 l253 y253 z253 st253 hQ253
      subst l253 y253 z253
      obtain ⟨rfl, N253q, eh253⟩ := hQ253
      have N253 := Fr.app N251 N253q
      refine Go.tr st253 ?_
      show Go _ _ _ _ _ _ _ (T253.setTop (mkF m 177 #[.val (.int k0), .val (.int mv), .val (.int (9 : Int32)), .val (.ref s_INVOKE_INTERFACE), .val (.ref s_INVOKE_INTERFACE_targets), .val (.int (0 : Int32)), .val (.int (0 : Int32)), .val (.int (0 : Int32)), .val (.int (1 : Int32)), .val (.int (1 : Int32))] [(.int (1 : Int32))]))
      refine Go.by (fun _ kont => XS.iload X253.here hx rfl (hb hby at_177) rfl (XS.icmpNo X253.here hx rfl (hb hby at_179) rfl (by decide) (XS.aload X253.here hx rfl (hb hby at_182) rfl rfl kont))) ?_
      show Go _ _ _ _ _ _ _ (T253.setTop (mkF m 184 #[.val (.int k0), .val (.int mv), .val (.int (9 : Int32)), .val (.ref s_INVOKE_INTERFACE), .val (.ref s_INVOKE_INTERFACE_targets), .val (.int (0 : Int32)), .val (.int (0 : Int32)), .val (.int (0 : Int32)), .val (.int (1 : Int32)), .val (.int (1 : Int32))] [(.ref s_INVOKE_INTERFACE_targets)]))
      obtain ⟨cq254, kq254, q254a, q254b, q254c⟩ := isOf hZ eh253 E_s_INVOKE_INTERFACE_targets
      obtain ⟨_, _, ⟨T254, L254, k254, n254⟩, -, X254, ⟨Lc254, hQ254, l254, y254, z254⟩, st254⟩ := X253.virtualBack hx (y := (⟨"com/example/classwright/classwright/KindSet", "size", "()I"⟩ : MethodName)) (z := (⟨"com/example/classwright/classwright/KindSet", "size", "()I"⟩ : MethodName)) hown (mvT hZ (hw _ (List.mem_of_getElem? (i := 52) rfl))) (mvT hZ (hw _ (List.mem_of_getElem? (i := 53) rfl))) (notFace_of_selects (args := #[]) (mvT hZ (hw _ (List.mem_of_getElem? (i := 55) rfl)))) (mvT hZ (hw _ (List.mem_of_getElem? (i := 55) rfl))) (mvT hZ (hw _ (List.mem_of_getElem? (i := 54) rfl))) (by decide) (backOf (W := 0) (rmS512 l Z a0 hw [] s_INVOKE_INTERFACE_targets h0 n0 Z0 E_s_INVOKE_INTERFACE_targets F_s_INVOKE_INTERFACE_targets_bits) hZ (hw _ (List.mem_of_getElem? (i := 56) rfl)) (hw _ (List.mem_of_getElem? (i := 33) rfl)) (by decide) (by decide)) q254a q254c (g := (mkF m 184 #[.val (.int k0), .val (.int mv), .val (.int (9 : Int32)), .val (.ref s_INVOKE_INTERFACE), .val (.ref s_INVOKE_INTERFACE_targets), .val (.int (0 : Int32)), .val (.int (0 : Int32)), .val (.int (0 : Int32)), .val (.int (1 : Int32)), .val (.int (1 : Int32))] [(.ref s_INVOKE_INTERFACE_targets)])) rfl (by rw [hml]; rfl) (Steps.refl _) (argsL := []) (rest := []) (lenOf pd0_1 rfl) rfl (by show 2 * 0 + _ ≤ _; exact Nat.le_of_eq rfl) (hb hby at_184) (fun _ _ => ⟨rfl, eh253, (by decide : 0 + 0 ≤ _), (by decide : 0 + 0 ≤ _)⟩)
      dsimp only [Pt.U, Pt.locs, Pt.cells, Pt.slots] at X254 l254 y254 z254 st254 hQ254
      subst l254 y254 z254
      obtain ⟨rfl, N254q, eh254⟩ := hQ254
      have N254 := Fr.app N253 N254q
      refine Go.tr st254 ?_
      show Go _ _ _ _ _ _ _ (T254.setTop (mkF m 187 #[.val (.int k0), .val (.int mv), .val (.int (9 : Int32)), .val (.ref s_INVOKE_INTERFACE), .val (.ref s_INVOKE_INTERFACE_targets), .val (.int (0 : Int32)), .val (.int (0 : Int32)), .val (.int (0 : Int32)), .val (.int (1 : Int32)), .val (.int (1 : Int32))] [(.int (1 : Int32))]))
      refine Go.by (fun _ kont => XS.iload X254.here hx rfl (hb hby at_187) rfl (XS.icmpNo X254.here hx rfl (hb hby at_189) rfl (by decide) (XS.iconst X254.here hx rfl (hb hby at_192) (XS.goto X254.here hx rfl (pc0 := 193) (pc' := 197) rfl (hb hby at_193) (by decide) (by decide) kont)))) ?_
      show Go _ _ _ _ _ _ _ (T254.setTop (mkF m 197 #[.val (.int k0), .val (.int mv), .val (.int (9 : Int32)), .val (.ref s_INVOKE_INTERFACE), .val (.ref s_INVOKE_INTERFACE_targets), .val (.int (0 : Int32)), .val (.int (0 : Int32)), .val (.int (0 : Int32)), .val (.int (1 : Int32)), .val (.int (1 : Int32))] [(.int (1 : Int32))]))
      refine Go.retN X254 hx (t := .boolean) hret (by simp) hlk (hb hby at_197) ?_ (by decide) (by decide)
      show Q0 Z h0 n0 (some (.int (1 : Int32))) T254.heap _
      rw [eh254]
      exact ⟨rfl, N254⟩
    · show Go _ _ _ _ _ _ _ (T246.setTop (mkF m 29 #[.val (.int k0), .val (.int mv), .val (.int (9 : Int32)), .val (.ref s_INVOKE_INTERFACE), .unset, .unset, .unset, .unset, .unset, .unset] []))
      refine Go.by (fun _ kont => XS.aloadN X246.here hx rfl (hb hby at_29) rfl rfl (XS.iloadN X246.here hx rfl (hb hby at_30) rfl kont)) ?_
      show Go _ _ _ _ _ _ _ (T246.setTop (mkF m 31 #[.val (.int k0), .val (.int mv), .val (.int (9 : Int32)), .val (.ref s_INVOKE_INTERFACE), .unset, .unset, .unset, .unset, .unset, .unset] [(.int mv), (.ref s_INVOKE_INTERFACE)]))
      obtain ⟨cq255, kq255, q255a, q255b, q255c⟩ := isOf hZ eh246 E_s_INVOKE_INTERFACE
      obtain ⟨_, _, ⟨T255, L255, k255, n255⟩, -, X255, ⟨Lc255, hQ255, l255, y255, z255⟩, st255⟩ := X246.virtualBack hx (y := (⟨"com/example/classwright/classwright/ReferenceKind", "targetKinds", "(I)Lcom/example/classwright/classwright/KindSet;"⟩ : MethodName)) (z := (⟨"com/example/classwright/classwright/ReferenceKind", "targetKinds", "(I)Lcom/example/classwright/classwright/KindSet;"⟩ : MethodName)) hown (mvT hZ (hw _ (List.mem_of_getElem? (i := 15) rfl))) (mvT hZ (hw _ (List.mem_of_getElem? (i := 16) rfl))) (notFace_of_selects (args := #[]) (mvT hZ (hw _ (List.mem_of_getElem? (i := 18) rfl)))) (mvT hZ (hw _ (List.mem_of_getElem? (i := 18) rfl))) (mvT hZ (hw _ (List.mem_of_getElem? (i := 17) rfl))) (by decide) (backOf (W := 0) (rmTm l Z a0 hw [] s_INVOKE_INTERFACE mv s_INVOKE_INTERFACE_targets h0 n0 Z0 E_s_INVOKE_INTERFACE F_s_INVOKE_INTERFACE_targets hmv) hZ (hw _ (List.mem_of_getElem? (i := 19) rfl)) (hw _ (List.mem_of_getElem? (i := 3) rfl)) (by decide) (by decide)) q255a q255c (g := (mkF m 31 #[.val (.int k0), .val (.int mv), .val (.int (9 : Int32)), .val (.ref s_INVOKE_INTERFACE), .unset, .unset, .unset, .unset, .unset, .unset] [(.int mv), (.ref s_INVOKE_INTERFACE)])) rfl (by rw [hml]; rfl) (Steps.refl _) (argsL := [(.int mv)]) (rest := []) (lenOf pd0_2 rfl) rfl (by show 2 * 0 + _ ≤ _; exact Nat.le_of_eq rfl) (hb hby at_31) (fun _ _ => ⟨rfl, eh246, (by decide : 0 + 0 ≤ _), (by decide : 0 + 0 ≤ _)⟩)
      dsimp only [Pt.U, Pt.locs, Pt.cells, Pt.slots] at X255 l255 y255 z255 st255 hQ255
      subst l255 y255 z255
      obtain ⟨rfl, N255q, eh255⟩ := hQ255
      have N255 := Fr.app N246 N255q
      refine Go.tr st255 ?_
      show Go _ _ _ _ _ _ _ (T255.setTop (mkF m 34 #[.val (.int k0), .val (.int mv), .val (.int (9 : Int32)), .val (.ref s_INVOKE_INTERFACE), .unset, .unset, .unset, .unset, .unset, .unset] [(.ref s_INVOKE_INTERFACE_targets)]))
      refine Go.by (fun _ kont => XS.astore X255.here hx rfl (hb hby at_34) rfl rfl (l' := #[.val (.int k0), .val (.int mv), .val (.int (9 : Int32)), .val (.ref s_INVOKE_INTERFACE), .val (.ref s_INVOKE_INTERFACE_targets), .unset, .unset, .unset, .unset, .unset]) rfl (XS.iloadN X255.here hx rfl (hb hby at_36) rfl (XS.bipush X255.here hx rfl (hb hby at_37) kont))) ?_
      show Go _ _ _ _ _ _ _ (T255.setTop (mkF m 39 #[.val (.int k0), .val (.int mv), .val (.int (9 : Int32)), .val (.ref s_INVOKE_INTERFACE), .val (.ref s_INVOKE_INTERFACE_targets), .unset, .unset, .unset, .unset, .unset] [(.int (52 : Int32)), (.int mv)]))
      refine Go.by (fun _ kont => XS.icmpNo X255.here hx rfl (hb hby at_39) rfl (flt hmv).1 kont) ?_
      show Go _ _ _ _ _ _ _ (T255.setTop (mkF m 42 #[.val (.int k0), .val (.int mv), .val (.int (9 : Int32)), .val (.ref s_INVOKE_INTERFACE), .val (.ref s_INVOKE_INTERFACE_targets), .unset, .unset, .unset, .unset, .unset] []))
      refine Go.by (fun _ kont => XS.iconst X255.here hx rfl (hb hby at_42) (XS.goto X255.here hx rfl (pc0 := 43) (pc' := 47) rfl (hb hby at_43) (by decide) (by decide) (XS.istore X255.here hx rfl (hb hby at_47) rfl (l' := #[.val (.int k0), .val (.int mv), .val (.int (9 : Int32)), .val (.ref s_INVOKE_INTERFACE), .val (.ref s_INVOKE_INTERFACE_targets), .val (.int (1 : Int32)), .unset, .unset, .unset, .unset]) rfl (XS.iloadN X255.here hx rfl (hb hby at_49) rfl (XS.iconst X255.here hx rfl (hb hby at_50) (XS.icmpYes X255.here hx rfl (pc0 := 51) (pc' := 58) rfl (hb hby at_51) rfl (by decide) (by decide) (by decide) (XS.iconst X255.here hx rfl (hb hby at_58) (XS.istore X255.here hx rfl (hb hby at_59) rfl (l' := #[.val (.int k0), .val (.int mv), .val (.int (9 : Int32)), .val (.ref s_INVOKE_INTERFACE), .val (.ref s_INVOKE_INTERFACE_targets), .val (.int (1 : Int32)), .val (.int (0 : Int32)), .unset, .unset, .unset]) rfl (XS.iloadN X255.here hx rfl (hb hby at_61) rfl (XS.iconst X255.here hx rfl (hb hby at_62) (XS.icmpNo X255.here hx rfl (hb hby at_63) rfl (by decide) (XS.iloadN X255.here hx rfl (hb hby at_66) rfl kont)))))))))))) ?_
      show Go _ _ _ _ _ _ _ (T255.setTop (mkF m 67 #[.val (.int k0), .val (.int mv), .val (.int (9 : Int32)), .val (.ref s_INVOKE_INTERFACE), .val (.ref s_INVOKE_INTERFACE_targets), .val (.int (1 : Int32)), .val (.int (0 : Int32)), .unset, .unset, .unset] [(.int (9 : Int32))]))
      refine Go.by (fun _ kont => XS.bipush X255.here hx rfl (hb hby at_67) (XS.icmpYes X255.here hx rfl (pc0 := 69) (pc' := 76) rfl (hb hby at_69) rfl (by decide) (by decide) (by decide) (XS.iconst X255.here hx rfl (hb hby at_76) (XS.istore X255.here hx rfl (hb hby at_77) rfl (l' := #[.val (.int k0), .val (.int mv), .val (.int (9 : Int32)), .val (.ref s_INVOKE_INTERFACE), .val (.ref s_INVOKE_INTERFACE_targets), .val (.int (1 : Int32)), .val (.int (0 : Int32)), .val (.int (0 : Int32)), .unset, .unset]) rfl (XS.iloadN X255.here hx rfl (hb hby at_79) rfl (XS.bipush X255.here hx rfl (hb hby at_80) (XS.icmpYes X255.here hx rfl (pc0 := 82) (pc' := 102) rfl (hb hby at_82) rfl (by decide) (by decide) (by decide) (XS.iconst X255.here hx rfl (hb hby at_102) (XS.goto X255.here hx rfl (pc0 := 103) (pc' := 107) rfl (hb hby at_103) (by decide) (by decide) (XS.istore X255.here hx rfl (hb hby at_107) rfl (l' := #[.val (.int k0), .val (.int mv), .val (.int (9 : Int32)), .val (.ref s_INVOKE_INTERFACE), .val (.ref s_INVOKE_INTERFACE_targets), .val (.int (1 : Int32)), .val (.int (0 : Int32)), .val (.int (0 : Int32)), .val (.int (1 : Int32)), .unset]) rfl (XS.iload X255.here hx rfl (hb hby at_109) rfl (XS.ifYes X255.here hx rfl (pc0 := 111) (pc' := 118) rfl (hb hby at_111) rfl (by decide) (by decide) (by decide) kont)))))))))))) ?_
      show Go _ _ _ _ _ _ _ (T255.setTop (mkF m 118 #[.val (.int k0), .val (.int mv), .val (.int (9 : Int32)), .val (.ref s_INVOKE_INTERFACE), .val (.ref s_INVOKE_INTERFACE_targets), .val (.int (1 : Int32)), .val (.int (0 : Int32)), .val (.int (0 : Int32)), .val (.int (1 : Int32)), .unset] []))
      refine Go.by (fun _ kont => XS.iconst X255.here hx rfl (hb hby at_118) (XS.iload X255.here hx rfl (hb hby at_119) rfl (XS.ifYes X255.here hx rfl (pc0 := 121) (pc' := 128) rfl (hb hby at_121) rfl (by decide) (by decide) (by decide) (XS.iconst X255.here hx rfl (hb hby at_128) (XS.iadd X255.here hx rfl (hb hby at_129) rfl kont))))) ?_
      show Go _ _ _ _ _ _ _ (T255.setTop (mkF m 130 #[.val (.int k0), .val (.int mv), .val (.int (9 : Int32)), .val (.ref s_INVOKE_INTERFACE), .val (.ref s_INVOKE_INTERFACE_targets), .val (.int (1 : Int32)), .val (.int (0 : Int32)), .val (.int (0 : Int32)), .val (.int (1 : Int32)), .unset] [(.int ((0 : Int32) + (0 : Int32)))]))
      rw [show ((0 : Int32) + (0 : Int32)) = (0 : Int32) from by decide]
      show Go _ _ _ _ _ _ _ (T255.setTop (mkF m 130 #[.val (.int k0), .val (.int mv), .val (.int (9 : Int32)), .val (.ref s_INVOKE_INTERFACE), .val (.ref s_INVOKE_INTERFACE_targets), .val (.int (1 : Int32)), .val (.int (0 : Int32)), .val (.int (0 : Int32)), .val (.int (1 : Int32)), .unset] [(.int (0 : Int32))]))
      refine Go.by (fun _ kont => XS.iload X255.here hx rfl (hb hby at_130) rfl (XS.ifNo X255.here hx rfl (hb hby at_132) rfl (by decide) (XS.iconst X255.here hx rfl (hb hby at_135) (XS.goto X255.here hx rfl (pc0 := 136) (pc' := 140) rfl (hb hby at_136) (by decide) (by decide) (XS.iadd X255.here hx rfl (hb hby at_140) rfl kont))))) ?_
      show Go _ _ _ _ _ _ _ (T255.setTop (mkF m 141 #[.val (.int k0), .val (.int mv), .val (.int (9 : Int32)), .val (.ref s_INVOKE_INTERFACE), .val (.ref s_INVOKE_INTERFACE_targets), .val (.int (1 : Int32)), .val (.int (0 : Int32)), .val (.int (0 : Int32)), .val (.int (1 : Int32)), .unset] [(.int ((0 : Int32) + (1 : Int32)))]))
      rw [show ((0 : Int32) + (1 : Int32)) = (1 : Int32) from by decide]
      show Go _ _ _ _ _ _ _ (T255.setTop (mkF m 141 #[.val (.int k0), .val (.int mv), .val (.int (9 : Int32)), .val (.ref s_INVOKE_INTERFACE), .val (.ref s_INVOKE_INTERFACE_targets), .val (.int (1 : Int32)), .val (.int (0 : Int32)), .val (.int (0 : Int32)), .val (.int (1 : Int32)), .unset] [(.int (1 : Int32))]))
      refine Go.by (fun _ kont => XS.istore X255.here hx rfl (hb hby at_141) rfl (l' := #[.val (.int k0), .val (.int mv), .val (.int (9 : Int32)), .val (.ref s_INVOKE_INTERFACE), .val (.ref s_INVOKE_INTERFACE_targets), .val (.int (1 : Int32)), .val (.int (0 : Int32)), .val (.int (0 : Int32)), .val (.int (1 : Int32)), .val (.int (1 : Int32))]) rfl (XS.aload X255.here hx rfl (hb hby at_143) rfl rfl kont)) ?_
      show Go _ _ _ _ _ _ _ (T255.setTop (mkF m 145 #[.val (.int k0), .val (.int mv), .val (.int (9 : Int32)), .val (.ref s_INVOKE_INTERFACE), .val (.ref s_INVOKE_INTERFACE_targets), .val (.int (1 : Int32)), .val (.int (0 : Int32)), .val (.int (0 : Int32)), .val (.int (1 : Int32)), .val (.int (1 : Int32))] [(.ref s_INVOKE_INTERFACE_targets)]))
      obtain ⟨T256, X256, e256, st256⟩ := getS2 X255 hx hZ hown (host := "") (Or.inl (hw _ (List.mem_of_getElem? (i := 26) rfl))) Via.refl eh255 S_FIELDREF (g := (mkF m 145 #[.val (.int k0), .val (.int mv), .val (.int (9 : Int32)), .val (.ref s_INVOKE_INTERFACE), .val (.ref s_INVOKE_INTERFACE_targets), .val (.int (1 : Int32)), .val (.int (0 : Int32)), .val (.int (0 : Int32)), .val (.int (1 : Int32)), .val (.int (1 : Int32))] [(.ref s_INVOKE_INTERFACE_targets)])) rfl (hb hby at_145)
      refine Go.by st256 ?_
      show Go _ _ _ _ _ _ _ (T256.setTop (mkF m 148 #[.val (.int k0), .val (.int mv), .val (.int (9 : Int32)), .val (.ref s_INVOKE_INTERFACE), .val (.ref s_INVOKE_INTERFACE_targets), .val (.int (1 : Int32)), .val (.int (0 : Int32)), .val (.int (0 : Int32)), .val (.int (1 : Int32)), .val (.int (1 : Int32))] [(.ref s_FIELDREF), (.ref s_INVOKE_INTERFACE_targets)]))
      obtain ⟨cq257, kq257, q257a, q257b, q257c⟩ := isOf hZ e256 E_s_INVOKE_INTERFACE_targets
      obtain ⟨_, _, ⟨T257, L257, k257, n257⟩, -, X257, ⟨Lc257, hQ257, l257, y257, z257⟩, st257⟩ := X256.virtualBack hx (y := (⟨"com/example/classwright/classwright/KindSet", "contains", "(Ljava/lang/Object;)Z"⟩ : MethodName)) (z := (⟨"com/example/classwright/classwright/KindSet", "contains", "(Ljava/lang/Object;)Z"⟩ : MethodName)) hown (mvT hZ (hw _ (List.mem_of_getElem? (i := 29) rfl))) (mvT hZ (hw _ (List.mem_of_getElem? (i := 30) rfl))) (notFace_of_selects (args := #[]) (mvT hZ (hw _ (List.mem_of_getElem? (i := 32) rfl)))) (mvT hZ (hw _ (List.mem_of_getElem? (i := 32) rfl))) (mvT hZ (hw _ (List.mem_of_getElem? (i := 31) rfl))) (by decide) (backOf (W := 0) (rmC512_7 l Z a0 hw [] s_INVOKE_INTERFACE_targets s_FIELDREF h0 n0 Z0 E_s_INVOKE_INTERFACE_targets F_s_INVOKE_INTERFACE_targets_bits E_s_FIELDREF F_s_FIELDREF_ordinal) hZ (hw _ (List.mem_of_getElem? (i := 34) rfl)) (hw _ (List.mem_of_getElem? (i := 33) rfl)) (by decide) (by decide)) q257a q257c (g := (mkF m 148 #[.val (.int k0), .val (.int mv), .val (.int (9 : Int32)), .val (.ref s_INVOKE_INTERFACE), .val (.ref s_INVOKE_INTERFACE_targets), .val (.int (1 : Int32)), .val (.int (0 : Int32)), .val (.int (0 : Int32)), .val (.int (1 : Int32)), .val (.int (1 : Int32))] [(.ref s_FIELDREF), (.ref s_INVOKE_INTERFACE_targets)])) rfl (by rw [hml]; rfl) (Steps.refl _) (argsL := [(.ref s_FIELDREF)]) (rest := []) (lenOf pd0_3 rfl) rfl (by show 2 * 0 + _ ≤ _; exact Nat.le_of_eq rfl) (hb hby at_148) (fun _ _ => ⟨rfl, e256, (by decide : 0 + 0 ≤ _), (by decide : 0 + 0 ≤ _)⟩)
      dsimp only [Pt.U, Pt.locs, Pt.cells, Pt.slots] at X257 l257 y257 z257 st257 hQ257
      subst l257 y257 z257
      obtain ⟨rfl, N257q, eh257⟩ := hQ257
      have N257 := Fr.app N255 N257q
      refine Go.tr st257 ?_
      show Go _ _ _ _ _ _ _ (T257.setTop (mkF m 151 #[.val (.int k0), .val (.int mv), .val (.int (9 : Int32)), .val (.ref s_INVOKE_INTERFACE), .val (.ref s_INVOKE_INTERFACE_targets), .val (.int (1 : Int32)), .val (.int (0 : Int32)), .val (.int (0 : Int32)), .val (.int (1 : Int32)), .val (.int (1 : Int32))] [(.int (0 : Int32))]))
      refine Go.by (fun _ kont => XS.iload X257.here hx rfl (hb hby at_151) rfl (XS.icmpNo X257.here hx rfl (hb hby at_153) rfl (by decide) (XS.aload X257.here hx rfl (hb hby at_156) rfl rfl kont))) ?_
      show Go _ _ _ _ _ _ _ (T257.setTop (mkF m 158 #[.val (.int k0), .val (.int mv), .val (.int (9 : Int32)), .val (.ref s_INVOKE_INTERFACE), .val (.ref s_INVOKE_INTERFACE_targets), .val (.int (1 : Int32)), .val (.int (0 : Int32)), .val (.int (0 : Int32)), .val (.int (1 : Int32)), .val (.int (1 : Int32))] [(.ref s_INVOKE_INTERFACE_targets)]))
      obtain ⟨T258, X258, e258, st258⟩ := getS2 X257 hx hZ hown (host := "") (Or.inl (hw _ (List.mem_of_getElem? (i := 48) rfl))) Via.refl eh257 S_METHODREF (g := (mkF m 158 #[.val (.int k0), .val (.int mv), .val (.int (9 : Int32)), .val (.ref s_INVOKE_INTERFACE), .val (.ref s_INVOKE_INTERFACE_targets), .val (.int (1 : Int32)), .val (.int (0 : Int32)), .val (.int (0 : Int32)), .val (.int (1 : Int32)), .val (.int (1 : Int32))] [(.ref s_INVOKE_INTERFACE_targets)])) rfl (hb hby at_158)
      refine Go.by st258 ?_
      show Go _ _ _ _ _ _ _ (T258.setTop (mkF m 161 #[.val (.int k0), .val (.int mv), .val (.int (9 : Int32)), .val (.ref s_INVOKE_INTERFACE), .val (.ref s_INVOKE_INTERFACE_targets), .val (.int (1 : Int32)), .val (.int (0 : Int32)), .val (.int (0 : Int32)), .val (.int (1 : Int32)), .val (.int (1 : Int32))] [(.ref s_METHODREF), (.ref s_INVOKE_INTERFACE_targets)]))
      obtain ⟨cq259, kq259, q259a, q259b, q259c⟩ := isOf hZ e258 E_s_INVOKE_INTERFACE_targets
      obtain ⟨_, _, ⟨T259, L259, k259, n259⟩, -, X259, ⟨Lc259, hQ259, l259, y259, z259⟩, st259⟩ := X258.virtualBack hx (y := (⟨"com/example/classwright/classwright/KindSet", "contains", "(Ljava/lang/Object;)Z"⟩ : MethodName)) (z := (⟨"com/example/classwright/classwright/KindSet", "contains", "(Ljava/lang/Object;)Z"⟩ : MethodName)) hown (mvT hZ (hw _ (List.mem_of_getElem? (i := 29) rfl))) (mvT hZ (hw _ (List.mem_of_getElem? (i := 30) rfl))) (notFace_of_selects (args := #[]) (mvT hZ (hw _ (List.mem_of_getElem? (i := 32) rfl)))) (mvT hZ (hw _ (List.mem_of_getElem? (i := 32) rfl))) (mvT hZ (hw _ (List.mem_of_getElem? (i := 31) rfl))) (by decide) (backOf (W := 0) (rmC512_8 l Z a0 hw [] s_INVOKE_INTERFACE_targets s_METHODREF h0 n0 Z0 E_s_INVOKE_INTERFACE_targets F_s_INVOKE_INTERFACE_targets_bits E_s_METHODREF F_s_METHODREF_ordinal) hZ (hw _ (List.mem_of_getElem? (i := 34) rfl)) (hw _ (List.mem_of_getElem? (i := 33) rfl)) (by decide) (by decide)) q259a q259c (g := (mkF m 161 #[.val (.int k0), .val (.int mv), .val (.int (9 : Int32)), .val (.ref s_INVOKE_INTERFACE), .val (.ref s_INVOKE_INTERFACE_targets), .val (.int (1 : Int32)), .val (.int (0 : Int32)), .val (.int (0 : Int32)), .val (.int (1 : Int32)), .val (.int (1 : Int32))] [(.ref s_METHODREF), (.ref s_INVOKE_INTERFACE_targets)])) rfl (by rw [hml]; rfl) (Steps.refl _) (argsL := [(.ref s_METHODREF)]) (rest := []) (lenOf pd0_3 rfl) rfl (by show 2 * 0 + _ ≤ _; exact Nat.le_of_eq rfl) (hb hby at_161) (fun _ _ => ⟨rfl, e258, (by decide : 0 + 0 ≤ _), (by decide : 0 + 0 ≤ _)⟩)
      dsimp only [Pt.U, Pt.locs, Pt.cells, Pt.slots] at X259 l259 y259 z259 st259 hQ259
      subst l259 y259 z259
      obtain ⟨rfl, N259q, eh259⟩ := hQ259
      have N259 := Fr.app N257 N259q
      refine Go.tr st259 ?_
      show Go _ _ _ _ _ _ _ (T259.setTop (mkF m 164 #[.val (.int k0), .val (.int mv), .val (.int (9 : Int32)), .val (.ref s_INVOKE_INTERFACE), .val (.ref s_INVOKE_INTERFACE_targets), .val (.int (1 : Int32)), .val (.int (0 : Int32)), .val (.int (0 : Int32)), .val (.int (1 : Int32)), .val (.int (1 : Int32))] [(.int (0 : Int32))]))
      refine Go.by (fun _ kont => XS.iload X259.here hx rfl (hb hby at_164) rfl (XS.icmpNo X259.here hx rfl (hb hby at_166) rfl (by decide) (XS.aload X259.here hx rfl (hb hby at_169) rfl rfl kont))) ?_
      show Go _ _ _ _ _ _ _ (T259.setTop (mkF m 171 #[.val (.int k0), .val (.int mv), .val (.int (9 : Int32)), .val (.ref s_INVOKE_INTERFACE), .val (.ref s_INVOKE_INTERFACE_targets), .val (.int (1 : Int32)), .val (.int (0 : Int32)), .val (.int (0 : Int32)), .val (.int (1 : Int32)), .val (.int (1 : Int32))] [(.ref s_INVOKE_INTERFACE_targets)]))
      obtain ⟨T260, X260, e260, st260⟩ := getS2 X259 hx hZ hown (host := "") (Or.inl (hw _ (List.mem_of_getElem? (i := 50) rfl))) Via.refl eh259 S_INTERFACE_METHODREF (g := (mkF m 171 #[.val (.int k0), .val (.int mv), .val (.int (9 : Int32)), .val (.ref s_INVOKE_INTERFACE), .val (.ref s_INVOKE_INTERFACE_targets), .val (.int (1 : Int32)), .val (.int (0 : Int32)), .val (.int (0 : Int32)), .val (.int (1 : Int32)), .val (.int (1 : Int32))] [(.ref s_INVOKE_INTERFACE_targets)])) rfl (hb hby at_171)
      refine Go.by st260 ?_
      show Go _ _ _ _ _ _ _ (T260.setTop (mkF m 174 #[.val (.int k0), .val (.int mv), .val (.int (9 : Int32)), .val (.ref s_INVOKE_INTERFACE), .val (.ref s_INVOKE_INTERFACE_targets), .val (.int (1 : Int32)), .val (.int (0 : Int32)), .val (.int (0 : Int32)), .val (.int (1 : Int32)), .val (.int (1 : Int32))] [(.ref s_INTERFACE_METHODREF), (.ref s_INVOKE_INTERFACE_targets)]))
      obtain ⟨cq261, kq261, q261a, q261b, q261c⟩ := isOf hZ e260 E_s_INVOKE_INTERFACE_targets
      obtain ⟨_, _, ⟨T261, L261, k261, n261⟩, -, X261, ⟨Lc261, hQ261, l261, y261, z261⟩, st261⟩ := X260.virtualBack hx (y := (⟨"com/example/classwright/classwright/KindSet", "contains", "(Ljava/lang/Object;)Z"⟩ : MethodName)) (z := (⟨"com/example/classwright/classwright/KindSet", "contains", "(Ljava/lang/Object;)Z"⟩ : MethodName)) hown (mvT hZ (hw _ (List.mem_of_getElem? (i := 29) rfl))) (mvT hZ (hw _ (List.mem_of_getElem? (i := 30) rfl))) (notFace_of_selects (args := #[]) (mvT hZ (hw _ (List.mem_of_getElem? (i := 32) rfl)))) (mvT hZ (hw _ (List.mem_of_getElem? (i := 32) rfl))) (mvT hZ (hw _ (List.mem_of_getElem? (i := 31) rfl))) (by decide) (backOf (W := 0) (rmC512_9 l Z a0 hw [] s_INVOKE_INTERFACE_targets s_INTERFACE_METHODREF h0 n0 Z0 E_s_INVOKE_INTERFACE_targets F_s_INVOKE_INTERFACE_targets_bits E_s_INTERFACE_METHODREF F_s_INTERFACE_METHODREF_ordinal) hZ (hw _ (List.mem_of_getElem? (i := 34) rfl)) (hw _ (List.mem_of_getElem? (i := 33) rfl)) (by decide) (by decide)) q261a q261c (g := (mkF m 174 #[.val (.int k0), .val (.int mv), .val (.int (9 : Int32)), .val (.ref s_INVOKE_INTERFACE), .val (.ref s_INVOKE_INTERFACE_targets), .val (.int (1 : Int32)), .val (.int (0 : Int32)), .val (.int (0 : Int32)), .val (.int (1 : Int32)), .val (.int (1 : Int32))] [(.ref s_INTERFACE_METHODREF), (.ref s_INVOKE_INTERFACE_targets)])) rfl (by rw [hml]; rfl) (Steps.refl _) (argsL := [(.ref s_INTERFACE_METHODREF)]) (rest := []) (lenOf pd0_3 rfl) rfl (by show 2 * 0 + _ ≤ _; exact Nat.le_of_eq rfl) (hb hby at_174) (fun _ _ => ⟨rfl, e260, (by decide : 0 + 0 ≤ _), (by decide : 0 + 0 ≤ _)⟩)
      dsimp only [Pt.U, Pt.locs, Pt.cells, Pt.slots] at X261 l261 y261 z261 st261 hQ261
      subst l261 y261 z261
      obtain ⟨rfl, N261q, eh261⟩ := hQ261
      have N261 := Fr.app N259 N261q
      refine Go.tr st261 ?_
      show Go _ _ _ _ _ _ _ (T261.setTop (mkF m 177 #[.val (.int k0), .val (.int mv), .val (.int (9 : Int32)), .val (.ref s_INVOKE_INTERFACE), .val (.ref s_INVOKE_INTERFACE_targets), .val (.int (1 : Int32)), .val (.int (0 : Int32)), .val (.int (0 : Int32)), .val (.int (1 : Int32)), .val (.int (1 : Int32))] [(.int (1 : Int32))]))
      refine Go.by (fun _ kont => XS.iload X261.here hx rfl (hb hby at_177) rfl (XS.icmpNo X261.here hx rfl (hb hby at_179) rfl (by decide) (XS.aload X261.here hx rfl (hb hby at_182) rfl rfl kont))) ?_
      show Go _ _ _ _ _ _ _ (T261.setTop (mkF m 184 #[.val (.int k0), .val (.int mv), .val (.int (9 : Int32)), .val (.ref s_INVOKE_INTERFACE), .val (.ref s_INVOKE_INTERFACE_targets), .val (.int (1 : Int32)), .val (.int (0 : Int32)), .val (.int (0 : Int32)), .val (.int (1 : Int32)), .val (.int (1 : Int32))] [(.ref s_INVOKE_INTERFACE_targets)]))
      obtain ⟨cq262, kq262, q262a, q262b, q262c⟩ := isOf hZ eh261 E_s_INVOKE_INTERFACE_targets
      obtain ⟨_, _, ⟨T262, L262, k262, n262⟩, -, X262, ⟨Lc262, hQ262, l262, y262, z262⟩, st262⟩ := X261.virtualBack hx (y := (⟨"com/example/classwright/classwright/KindSet", "size", "()I"⟩ : MethodName)) (z := (⟨"com/example/classwright/classwright/KindSet", "size", "()I"⟩ : MethodName)) hown (mvT hZ (hw _ (List.mem_of_getElem? (i := 52) rfl))) (mvT hZ (hw _ (List.mem_of_getElem? (i := 53) rfl))) (notFace_of_selects (args := #[]) (mvT hZ (hw _ (List.mem_of_getElem? (i := 55) rfl)))) (mvT hZ (hw _ (List.mem_of_getElem? (i := 55) rfl))) (mvT hZ (hw _ (List.mem_of_getElem? (i := 54) rfl))) (by decide) (backOf (W := 0) (rmS512 l Z a0 hw [] s_INVOKE_INTERFACE_targets h0 n0 Z0 E_s_INVOKE_INTERFACE_targets F_s_INVOKE_INTERFACE_targets_bits) hZ (hw _ (List.mem_of_getElem? (i := 56) rfl)) (hw _ (List.mem_of_getElem? (i := 33) rfl)) (by decide) (by decide)) q262a q262c (g := (mkF m 184 #[.val (.int k0), .val (.int mv), .val (.int (9 : Int32)), .val (.ref s_INVOKE_INTERFACE), .val (.ref s_INVOKE_INTERFACE_targets), .val (.int (1 : Int32)), .val (.int (0 : Int32)), .val (.int (0 : Int32)), .val (.int (1 : Int32)), .val (.int (1 : Int32))] [(.ref s_INVOKE_INTERFACE_targets)])) rfl (by rw [hml]; rfl) (Steps.refl _) (argsL := []) (rest := []) (lenOf pd0_1 rfl) rfl (by show 2 * 0 + _ ≤ _; exact Nat.le_of_eq rfl) (hb hby at_184) (fun _ _ => ⟨rfl, eh261, (by decide : 0 + 0 ≤ _), (by decide : 0 + 0 ≤ _)⟩)
      dsimp only [Pt.U, Pt.locs, Pt.cells, Pt.slots] at X262 l262 y262 z262 st262 hQ262
      subst l262 y262 z262
      obtain ⟨rfl, N262q, eh262⟩ := hQ262
      have N262 := Fr.app N261 N262q
      refine Go.tr st262 ?_
      show Go _ _ _ _ _ _ _ (T262.setTop (mkF m 187 #[.val (.int k0), .val (.int mv), .val (.int (9 : Int32)), .val (.ref s_INVOKE_INTERFACE), .val (.ref s_INVOKE_INTERFACE_targets), .val (.int (1 : Int32)), .val (.int (0 : Int32)), .val (.int (0 : Int32)), .val (.int (1 : Int32)), .val (.int (1 : Int32))] [(.int (1 : Int32))]))
      refine Go.by (fun _ kont => XS.iload X262.here hx rfl (hb hby at_187) rfl (XS.icmpNo X262.here hx rfl (hb hby at_189) rfl (by decide) (XS.iconst X262.here hx rfl (hb hby at_192) (XS.goto X262.here hx rfl (pc0 := 193) (pc' := 197) rfl (hb hby at_193) (by decide) (by decide) kont)))) ?_
      show Go _ _ _ _ _ _ _ (T262.setTop (mkF m 197 #[.val (.int k0), .val (.int mv), .val (.int (9 : Int32)), .val (.ref s_INVOKE_INTERFACE), .val (.ref s_INVOKE_INTERFACE_targets), .val (.int (1 : Int32)), .val (.int (0 : Int32)), .val (.int (0 : Int32)), .val (.int (1 : Int32)), .val (.int (1 : Int32))] [(.int (1 : Int32))]))
      refine Go.retN X262 hx (t := .boolean) hret (by simp) hlk (hb hby at_197) ?_ (by decide) (by decide)
      show Q0 Z h0 n0 (some (.int (1 : Int32))) T262.heap _
      rw [eh262]
      exact ⟨rfl, N262⟩

set_option maxRecDepth 65536 in
set_option maxHeartbeats 40000000 in
theorem comes_1 {Post : Tables → Env → Array Value → State → Outcome → State → Prop} (hpost : ∀ tb e args s v u, (limb_1_1.after args s (.returned v) u = true ∧ limb_1_2.after args s (.returned v) u = true ∧ True) → FrameEnd s (.returned v) u (Jvm.fieldLocs frame_1_writes args s ++ Jvm.arrayLocs frame_1_arrays args s ++ Jvm.staticLocs frame_1_statics s) 0 0 → Post tb e args s (.returned v) u) :
    ArmFor flags0 classFile x code maxLocals ret World_1 tables_1 room_1 Calls_1 rest_1 Pre_1 Post := by
  intro l hfl _ _ p e ha hc hk s m args below hf hA hF happ hP
  obtain ⟨hcalls, hrest, hpre⟩ := hP
  obtain ⟨-, -, -, hnamed, -, -, -, hat⟩ := (Spec.applies_iff hf).mp happ
  obtain ⟨hg, hn⟩ := and_e (Cond.before_iff.mp (show (Jvm.Cond.and given_1 narrow_1).before args s = true from hpre))
  obtain ⟨hh1, hh2⟩ := and_e hg
  obtain ⟨hh3, hh4⟩ := and_e hh2
  obtain ⟨w0, w1, rfl⟩ : ∃ w0 w1 : Value, args = #[w0, w1] := by
    have hs : args.size = 2 := by simpa [Cond.value, given_1] using hh1
    obtain ⟨L⟩ := args
    match L, hs with
    | [w0, w1], _ => exact ⟨w0, w1, rfl⟩
  have hw := fun d (hd : d ∈ tables_1) => atoms_spec (ws := Jvm.Cond.code x code maxLocals ret :: tables_1) hat d (List.mem_cons_of_mem _ hd)
  obtain ⟨i0, ei0⟩ := is_v hh3
  obtain rfl : w0 = (.int i0) := Option.some.inj ei0
  obtain ⟨i1, ei1⟩ := is_v hh4
  obtain rfl : w1 = (.int i1) := Option.some.inj ei1
  have hfit : Fit s := fun {y c} hc i hi => by
    obtain ⟨ha, rfl⟩ := Array.getElem?_eq_some_iff.mp hc
    have q := List.all_eq_true.mp ((Array.all_eq_true_iff_forall_mem.mp hF) _ (Array.getElem_mem ha)) i (List.mem_range.mpr hi)
    simpa [Array.getElem?_eq_getElem hi] using q
  obtain ⟨hm1, hm2⟩ := and_e hn
  obtain ⟨hm3, hm4⟩ := and_e hm2
  obtain ⟨hm5, hm6⟩ := and_e hm4
  obtain ⟨hm7, hm8⟩ := and_e hm6
  obtain ⟨hm9, hm10⟩ := and_e hm8
  obtain ⟨hm11, hm12⟩ := and_e hm10
  obtain ⟨hm13, hm14⟩ := and_e hm12
  obtain ⟨hm15, hm16⟩ := and_e hm14
  obtain ⟨hm17, hm18⟩ := and_e hm16
  obtain ⟨hm19, hm20⟩ := and_e hm18
  obtain ⟨hm21, hm22⟩ := and_e hm20
  obtain ⟨hm23, hm24⟩ := and_e hm22
  obtain ⟨hm25, hm26⟩ := and_e hm24
  obtain ⟨hm27, hm28⟩ := and_e hm26
  obtain ⟨hm29, hm30⟩ := and_e hm28
  obtain ⟨hm31, hm32⟩ := and_e hm30
  obtain ⟨hm33, hm34⟩ := and_e hm32
  obtain ⟨hm35, hm36⟩ := and_e hm34
  obtain ⟨hm37, hm38⟩ := and_e hm36
  obtain ⟨hm39, hm40⟩ := and_e hm38
  obtain ⟨hm41, hm42⟩ := and_e hm40
  obtain ⟨hm43, hm44⟩ := and_e hm42
  obtain ⟨hm45, hm46⟩ := and_e hm44
  obtain ⟨hm47, hm48⟩ := and_e hm46
  obtain ⟨hm49, hm50⟩ := and_e hm48
  obtain ⟨hm51, hm52⟩ := and_e hm50
  obtain ⟨hm53, hm54⟩ := and_e hm52
  obtain ⟨hm55, hm56⟩ := and_e hm54
  obtain ⟨hm57, hm58⟩ := and_e hm56
  obtain ⟨hm59, hm60⟩ := and_e hm58
  obtain ⟨hm61, hm62⟩ := and_e hm60
  obtain ⟨hm63, hm64⟩ := and_e hm62
  obtain ⟨hm65, hm66⟩ := and_e hm64
  obtain ⟨hm67, hm68⟩ := and_e hm66
  obtain ⟨hm69, hm70⟩ := and_e hm68
  obtain ⟨hm71, hm72⟩ := and_e hm70
  obtain ⟨hm73, hm74⟩ := and_e hm72
  obtain ⟨hm75, hm76⟩ := and_e hm74
  obtain ⟨hm77, hm78⟩ := and_e hm76
  obtain ⟨hm79, hm80⟩ := and_e hm78
  obtain ⟨hm81, hm82⟩ := and_e hm80
  obtain ⟨hm83, hm84⟩ := and_e hm82
  obtain ⟨hm85, hm86⟩ := and_e hm84
  obtain ⟨hm87, hm88⟩ := and_e hm86
  obtain ⟨hm89, hm90⟩ := and_e hm88
  obtain ⟨hm91, hm92⟩ := and_e hm90
  obtain ⟨hm93, hm94⟩ := and_e hm92
  obtain ⟨hm95, hm96⟩ := and_e hm94
  obtain ⟨hm97, hm98⟩ := and_e hm96
  obtain ⟨hm99, hm100⟩ := and_e hm98
  obtain ⟨hm101, hm102⟩ := and_e hm100
  obtain ⟨hm103, hm104⟩ := and_e hm102
  obtain ⟨hm105, hm106⟩ := and_e hm104
  obtain ⟨hm107, hm108⟩ := and_e hm106
  obtain ⟨hm109, hm110⟩ := and_e hm108
  obtain ⟨hm111, hm112⟩ := and_e hm110
  obtain ⟨hm113, hm114⟩ := and_e hm112
  obtain ⟨hm115, hm116⟩ := and_e hm114
  obtain ⟨hm117, hm118⟩ := and_e hm116
  obtain ⟨hm119, hm120⟩ := and_e hm118
  obtain ⟨hm121, hm122⟩ := and_e hm120
  obtain ⟨hm123, hm124⟩ := and_e hm122
  obtain ⟨hm125, hm126⟩ := and_e hm124
  obtain ⟨s_BY_VALUE, ev127⟩ := arr_v hm1
  have S_BY_VALUE : Sta s s.heap "com/example/classwright/classwright/ReferenceKind" "BY_VALUE" "[Lcom/example/classwright/classwright/ReferenceKind;" (.ref s_BY_VALUE) := Sta.start ev127 (Or.inr ⟨(hw _ (List.mem_of_getElem? (i := 3) rfl)), (hw _ (List.mem_of_getElem? (i := 6) rfl))⟩)
  obtain ⟨cl_s_BY_VALUE, Ar_s_BY_VALUE⟩ := Arr.start ev127 hm1
  have L_s_BY_VALUE := own_lenv (own_eqI hm3) ev127 Ar_s_BY_VALUE.1
  obtain ⟨s_GET_FIELD, ev129⟩ := exa_v hm5
  have S_GET_FIELD : Sta s s.heap "com/example/classwright/classwright/ReferenceKind" "GET_FIELD" "Lcom/example/classwright/classwright/ReferenceKind;" (.ref s_GET_FIELD) := Sta.start ev129 (Or.inr ⟨(hw _ (List.mem_of_getElem? (i := 3) rfl)), (hw _ (List.mem_of_getElem? (i := 7) rfl))⟩)
  have E_s_GET_FIELD : Exa s s.heap s_GET_FIELD "com/example/classwright/classwright/ReferenceKind" := Exa.start ev129 hm5
  have El_s_BY_VALUE_0 := (elem_in (own_eqR hm7 ev129) ev127 (Term.int_eval _) Ar_s_BY_VALUE.1).2
  have F_s_GET_FIELD_value : Fld s s.heap s_GET_FIELD "com/example/classwright/classwright/ReferenceKind" "value" "I" (.int (1 : Int32)) := Fld.start ((fld_at ev129).symm.trans (own_eqI hm9))
  obtain ⟨s_GET_FIELD_targets, ev132⟩ := exa_v hm11
  have F_s_GET_FIELD_targets : Fld s s.heap s_GET_FIELD "com/example/classwright/classwright/ReferenceKind" "targets" "Lcom/example/classwright/classwright/KindSet;" (.ref s_GET_FIELD_targets) := Fld.start ((fld_at ev129).symm.trans ev132)
  have E_s_GET_FIELD_targets : Exa s s.heap s_GET_FIELD_targets "com/example/classwright/classwright/KindSet" := Exa.start ev132 hm11
  obtain ⟨s_INVOKE_STATIC, ev133⟩ := exa_v hm13
  have S_INVOKE_STATIC : Sta s s.heap "com/example/classwright/classwright/ReferenceKind" "INVOKE_STATIC" "Lcom/example/classwright/classwright/ReferenceKind;" (.ref s_INVOKE_STATIC) := Sta.start ev133 (Or.inr ⟨(hw _ (List.mem_of_getElem? (i := 3) rfl)), (hw _ (List.mem_of_getElem? (i := 23) rfl))⟩)
  have E_s_INVOKE_STATIC : Exa s s.heap s_INVOKE_STATIC "com/example/classwright/classwright/ReferenceKind" := Exa.start ev133 hm13
  have F_s_GET_FIELD_ordinal : Fld s s.heap s_GET_FIELD "java/lang/Enum" "ordinal" "I" (.int (0 : Int32)) := Fld.start ((fld_at ev129).symm.trans (own_eqI hm15))
  have F_s_INVOKE_STATIC_ordinal : Fld s s.heap s_INVOKE_STATIC "java/lang/Enum" "ordinal" "I" (.int (5 : Int32)) := Fld.start ((fld_at ev133).symm.trans (own_eqI hm17))
  obtain ⟨s_INVOKE_SPECIAL, ev136⟩ := exa_v hm19
  have S_INVOKE_SPECIAL : Sta s s.heap "com/example/classwright/classwright/ReferenceKind" "INVOKE_SPECIAL" "Lcom/example/classwright/classwright/ReferenceKind;" (.ref s_INVOKE_SPECIAL) := Sta.start ev136 (Or.inr ⟨(hw _ (List.mem_of_getElem? (i := 3) rfl)), (hw _ (List.mem_of_getElem? (i := 25) rfl))⟩)
  have E_s_INVOKE_SPECIAL : Exa s s.heap s_INVOKE_SPECIAL "com/example/classwright/classwright/ReferenceKind" := Exa.start ev136 hm19
  have F_s_INVOKE_SPECIAL_ordinal : Fld s s.heap s_INVOKE_SPECIAL "java/lang/Enum" "ordinal" "I" (.int (6 : Int32)) := Fld.start ((fld_at ev136).symm.trans (own_eqI hm21))
  obtain ⟨s_FIELDREF, ev138⟩ := exa_v hm23
  have S_FIELDREF : Sta s s.heap "com/example/classwright/classwright/ConstantKind" "FIELDREF" "Lcom/example/classwright/classwright/ConstantKind;" (.ref s_FIELDREF) := Sta.start ev138 (Or.inr ⟨(hw _ (List.mem_of_getElem? (i := 27) rfl)), (hw _ (List.mem_of_getElem? (i := 28) rfl))⟩)
  have E_s_FIELDREF : Exa s s.heap s_FIELDREF "com/example/classwright/classwright/ConstantKind" := Exa.start ev138 hm23
  have F_s_GET_FIELD_targets_bits : Fld s s.heap s_GET_FIELD_targets "com/example/classwright/classwright/KindSet" "bits" "I" (.int (128 : Int32)) := Fld.start ((fld_at ev132).symm.trans (own_eqI hm25))
  have F_s_FIELDREF_ordinal : Fld s s.heap s_FIELDREF "java/lang/Enum" "ordinal" "I" (.int (7 : Int32)) := Fld.start ((fld_at ev138).symm.trans (own_eqI hm27))
  obtain ⟨s_METHODREF, ev141⟩ := exa_v hm29
  have S_METHODREF : Sta s s.heap "com/example/classwright/classwright/ConstantKind" "METHODREF" "Lcom/example/classwright/classwright/ConstantKind;" (.ref s_METHODREF) := Sta.start ev141 (Or.inr ⟨(hw _ (List.mem_of_getElem? (i := 27) rfl)), (hw _ (List.mem_of_getElem? (i := 49) rfl))⟩)
  have E_s_METHODREF : Exa s s.heap s_METHODREF "com/example/classwright/classwright/ConstantKind" := Exa.start ev141 hm29
  have F_s_METHODREF_ordinal : Fld s s.heap s_METHODREF "java/lang/Enum" "ordinal" "I" (.int (8 : Int32)) := Fld.start ((fld_at ev141).symm.trans (own_eqI hm31))
  obtain ⟨s_INTERFACE_METHODREF, ev143⟩ := exa_v hm33
  have S_INTERFACE_METHODREF : Sta s s.heap "com/example/classwright/classwright/ConstantKind" "INTERFACE_METHODREF" "Lcom/example/classwright/classwright/ConstantKind;" (.ref s_INTERFACE_METHODREF) := Sta.start ev143 (Or.inr ⟨(hw _ (List.mem_of_getElem? (i := 27) rfl)), (hw _ (List.mem_of_getElem? (i := 51) rfl))⟩)
  have E_s_INTERFACE_METHODREF : Exa s s.heap s_INTERFACE_METHODREF "com/example/classwright/classwright/ConstantKind" := Exa.start ev143 hm33
  have F_s_INTERFACE_METHODREF_ordinal : Fld s s.heap s_INTERFACE_METHODREF "java/lang/Enum" "ordinal" "I" (.int (9 : Int32)) := Fld.start ((fld_at ev143).symm.trans (own_eqI hm35))
  have El_s_BY_VALUE_5 := (elem_in (own_eqR hm37 ev133) ev127 (Term.int_eval _) Ar_s_BY_VALUE.1).2
  have F_s_INVOKE_STATIC_value : Fld s s.heap s_INVOKE_STATIC "com/example/classwright/classwright/ReferenceKind" "value" "I" (.int (6 : Int32)) := Fld.start ((fld_at ev133).symm.trans (own_eqI hm39))
  obtain ⟨s_INVOKE_STATIC_targets, ev147⟩ := exa_v hm41
  have F_s_INVOKE_STATIC_targets : Fld s s.heap s_INVOKE_STATIC "com/example/classwright/classwright/ReferenceKind" "targets" "Lcom/example/classwright/classwright/KindSet;" (.ref s_INVOKE_STATIC_targets) := Fld.start ((fld_at ev133).symm.trans ev147)
  have E_s_INVOKE_STATIC_targets : Exa s s.heap s_INVOKE_STATIC_targets "com/example/classwright/classwright/KindSet" := Exa.start ev147 hm41
  obtain ⟨s_METHODREF_, ev148⟩ := exa_v hm43
  have S_METHODREF_ : Sta s s.heap "com/example/classwright/classwright/ReferenceKind" "METHODREF" "Lcom/example/classwright/classwright/KindSet;" (.ref s_METHODREF_) := Sta.start ev148 (Or.inr ⟨(hw _ (List.mem_of_getElem? (i := 3) rfl)), (hw _ (List.mem_of_getElem? (i := 65) rfl))⟩)
  have E_s_METHODREF_ : Exa s s.heap s_METHODREF_ "com/example/classwright/classwright/KindSet" := Exa.start ev148 hm43
  have F_s_METHODREF__bits : Fld s s.heap s_METHODREF_ "com/example/classwright/classwright/KindSet" "bits" "I" (.int (256 : Int32)) := Fld.start ((fld_at ev148).symm.trans (own_eqI hm45))
  obtain ⟨s_INVOKE_VIRTUAL, ev150⟩ := exa_v hm47
  have S_INVOKE_VIRTUAL : Sta s s.heap "com/example/classwright/classwright/ReferenceKind" "INVOKE_VIRTUAL" "Lcom/example/classwright/classwright/ReferenceKind;" (.ref s_INVOKE_VIRTUAL) := Sta.start ev150 (Or.inr ⟨(hw _ (List.mem_of_getElem? (i := 3) rfl)), (hw _ (List.mem_of_getElem? (i := 66) rfl))⟩)
  have E_s_INVOKE_VIRTUAL : Exa s s.heap s_INVOKE_VIRTUAL "com/example/classwright/classwright/ReferenceKind" := Exa.start ev150 hm47
  have El_s_BY_VALUE_4 := (elem_in (own_eqR hm49 ev150) ev127 (Term.int_eval _) Ar_s_BY_VALUE.1).2
  have F_s_INVOKE_VIRTUAL_value : Fld s s.heap s_INVOKE_VIRTUAL "com/example/classwright/classwright/ReferenceKind" "value" "I" (.int (5 : Int32)) := Fld.start ((fld_at ev150).symm.trans (own_eqI hm51))
  obtain ⟨s_INVOKE_VIRTUAL_targets, ev153⟩ := exa_v hm53
  have F_s_INVOKE_VIRTUAL_targets : Fld s s.heap s_INVOKE_VIRTUAL "com/example/classwright/classwright/ReferenceKind" "targets" "Lcom/example/classwright/classwright/KindSet;" (.ref s_INVOKE_VIRTUAL_targets) := Fld.start ((fld_at ev150).symm.trans ev153)
  have E_s_INVOKE_VIRTUAL_targets : Exa s s.heap s_INVOKE_VIRTUAL_targets "com/example/classwright/classwright/KindSet" := Exa.start ev153 hm53
  have F_s_INVOKE_VIRTUAL_ordinal : Fld s s.heap s_INVOKE_VIRTUAL "java/lang/Enum" "ordinal" "I" (.int (4 : Int32)) := Fld.start ((fld_at ev150).symm.trans (own_eqI hm55))
  have F_s_INVOKE_VIRTUAL_targets_bits : Fld s s.heap s_INVOKE_VIRTUAL_targets "com/example/classwright/classwright/KindSet" "bits" "I" (.int (256 : Int32)) := Fld.start ((fld_at ev153).symm.trans (own_eqI hm57))
  obtain ⟨s_GET_STATIC, ev156⟩ := exa_v hm59
  have S_GET_STATIC : Sta s s.heap "com/example/classwright/classwright/ReferenceKind" "GET_STATIC" "Lcom/example/classwright/classwright/ReferenceKind;" (.ref s_GET_STATIC) := Sta.start ev156 (Or.inr ⟨(hw _ (List.mem_of_getElem? (i := 3) rfl)), (hw _ (List.mem_of_getElem? (i := 67) rfl))⟩)
  have E_s_GET_STATIC : Exa s s.heap s_GET_STATIC "com/example/classwright/classwright/ReferenceKind" := Exa.start ev156 hm59
  have El_s_BY_VALUE_1 := (elem_in (own_eqR hm61 ev156) ev127 (Term.int_eval _) Ar_s_BY_VALUE.1).2
  have F_s_GET_STATIC_value : Fld s s.heap s_GET_STATIC "com/example/classwright/classwright/ReferenceKind" "value" "I" (.int (2 : Int32)) := Fld.start ((fld_at ev156).symm.trans (own_eqI hm63))
  obtain ⟨s_GET_STATIC_targets, ev159⟩ := exa_v hm65
  have F_s_GET_STATIC_targets : Fld s s.heap s_GET_STATIC "com/example/classwright/classwright/ReferenceKind" "targets" "Lcom/example/classwright/classwright/KindSet;" (.ref s_GET_STATIC_targets) := Fld.start ((fld_at ev156).symm.trans ev159)
  have E_s_GET_STATIC_targets : Exa s s.heap s_GET_STATIC_targets "com/example/classwright/classwright/KindSet" := Exa.start ev159 hm65
  have F_s_GET_STATIC_ordinal : Fld s s.heap s_GET_STATIC "java/lang/Enum" "ordinal" "I" (.int (1 : Int32)) := Fld.start ((fld_at ev156).symm.trans (own_eqI hm67))
  have F_s_GET_STATIC_targets_bits : Fld s s.heap s_GET_STATIC_targets "com/example/classwright/classwright/KindSet" "bits" "I" (.int (128 : Int32)) := Fld.start ((fld_at ev159).symm.trans (own_eqI hm69))
  have El_s_BY_VALUE_6 := (elem_in (own_eqR hm71 ev136) ev127 (Term.int_eval _) Ar_s_BY_VALUE.1).2
  have F_s_INVOKE_SPECIAL_value : Fld s s.heap s_INVOKE_SPECIAL "com/example/classwright/classwright/ReferenceKind" "value" "I" (.int (7 : Int32)) := Fld.start ((fld_at ev136).symm.trans (own_eqI hm73))
  obtain ⟨s_INVOKE_SPECIAL_targets, ev164⟩ := exa_v hm75
  have F_s_INVOKE_SPECIAL_targets : Fld s s.heap s_INVOKE_SPECIAL "com/example/classwright/classwright/ReferenceKind" "targets" "Lcom/example/classwright/classwright/KindSet;" (.ref s_INVOKE_SPECIAL_targets) := Fld.start ((fld_at ev136).symm.trans ev164)
  have E_s_INVOKE_SPECIAL_targets : Exa s s.heap s_INVOKE_SPECIAL_targets "com/example/classwright/classwright/KindSet" := Exa.start ev164 hm75
  obtain ⟨s_INVOKE_INTERFACE, ev165⟩ := exa_v hm77
  have S_INVOKE_INTERFACE : Sta s s.heap "com/example/classwright/classwright/ReferenceKind" "INVOKE_INTERFACE" "Lcom/example/classwright/classwright/ReferenceKind;" (.ref s_INVOKE_INTERFACE) := Sta.start ev165 (Or.inr ⟨(hw _ (List.mem_of_getElem? (i := 3) rfl)), (hw _ (List.mem_of_getElem? (i := 68) rfl))⟩)
  have E_s_INVOKE_INTERFACE : Exa s s.heap s_INVOKE_INTERFACE "com/example/classwright/classwright/ReferenceKind" := Exa.start ev165 hm77
  have El_s_BY_VALUE_8 := (elem_in (own_eqR hm79 ev165) ev127 (Term.int_eval _) Ar_s_BY_VALUE.1).2
  have F_s_INVOKE_INTERFACE_value : Fld s s.heap s_INVOKE_INTERFACE "com/example/classwright/classwright/ReferenceKind" "value" "I" (.int (9 : Int32)) := Fld.start ((fld_at ev165).symm.trans (own_eqI hm81))
  obtain ⟨s_INVOKE_INTERFACE_targets, ev168⟩ := exa_v hm83
  have F_s_INVOKE_INTERFACE_targets : Fld s s.heap s_INVOKE_INTERFACE "com/example/classwright/classwright/ReferenceKind" "targets" "Lcom/example/classwright/classwright/KindSet;" (.ref s_INVOKE_INTERFACE_targets) := Fld.start ((fld_at ev165).symm.trans ev168)
  have E_s_INVOKE_INTERFACE_targets : Exa s s.heap s_INVOKE_INTERFACE_targets "com/example/classwright/classwright/KindSet" := Exa.start ev168 hm83
  have F_s_INVOKE_INTERFACE_targets_bits : Fld s s.heap s_INVOKE_INTERFACE_targets "com/example/classwright/classwright/KindSet" "bits" "I" (.int (512 : Int32)) := Fld.start ((fld_at ev168).symm.trans (own_eqI hm85))
  obtain ⟨s_PUT_STATIC, ev170⟩ := exa_v hm87
  have S_PUT_STATIC : Sta s s.heap "com/example/classwright/classwright/ReferenceKind" "PUT_STATIC" "Lcom/example/classwright/classwright/ReferenceKind;" (.ref s_PUT_STATIC) := Sta.start ev170 (Or.inr ⟨(hw _ (List.mem_of_getElem? (i := 3) rfl)), (hw _ (List.mem_of_getElem? (i := 69) rfl))⟩)
  have E_s_PUT_STATIC : Exa s s.heap s_PUT_STATIC "com/example/classwright/classwright/ReferenceKind" := Exa.start ev170 hm87
  have El_s_BY_VALUE_3 := (elem_in (own_eqR hm89 ev170) ev127 (Term.int_eval _) Ar_s_BY_VALUE.1).2
  have F_s_PUT_STATIC_value : Fld s s.heap s_PUT_STATIC "com/example/classwright/classwright/ReferenceKind" "value" "I" (.int (4 : Int32)) := Fld.start ((fld_at ev170).symm.trans (own_eqI hm91))
  obtain ⟨s_PUT_STATIC_targets, ev173⟩ := exa_v hm93
  have F_s_PUT_STATIC_targets : Fld s s.heap s_PUT_STATIC "com/example/classwright/classwright/ReferenceKind" "targets" "Lcom/example/classwright/classwright/KindSet;" (.ref s_PUT_STATIC_targets) := Fld.start ((fld_at ev170).symm.trans ev173)
  have E_s_PUT_STATIC_targets : Exa s s.heap s_PUT_STATIC_targets "com/example/classwright/classwright/KindSet" := Exa.start ev173 hm93
  have F_s_PUT_STATIC_ordinal : Fld s s.heap s_PUT_STATIC "java/lang/Enum" "ordinal" "I" (.int (3 : Int32)) := Fld.start ((fld_at ev170).symm.trans (own_eqI hm95))
  have F_s_PUT_STATIC_targets_bits : Fld s s.heap s_PUT_STATIC_targets "com/example/classwright/classwright/KindSet" "bits" "I" (.int (128 : Int32)) := Fld.start ((fld_at ev173).symm.trans (own_eqI hm97))
  obtain ⟨s_PUT_FIELD, ev176⟩ := exa_v hm99
  have S_PUT_FIELD : Sta s s.heap "com/example/classwright/classwright/ReferenceKind" "PUT_FIELD" "Lcom/example/classwright/classwright/ReferenceKind;" (.ref s_PUT_FIELD) := Sta.start ev176 (Or.inr ⟨(hw _ (List.mem_of_getElem? (i := 3) rfl)), (hw _ (List.mem_of_getElem? (i := 70) rfl))⟩)
  have E_s_PUT_FIELD : Exa s s.heap s_PUT_FIELD "com/example/classwright/classwright/ReferenceKind" := Exa.start ev176 hm99
  have El_s_BY_VALUE_2 := (elem_in (own_eqR hm101 ev176) ev127 (Term.int_eval _) Ar_s_BY_VALUE.1).2
  have F_s_PUT_FIELD_value : Fld s s.heap s_PUT_FIELD "com/example/classwright/classwright/ReferenceKind" "value" "I" (.int (3 : Int32)) := Fld.start ((fld_at ev176).symm.trans (own_eqI hm103))
  obtain ⟨s_PUT_FIELD_targets, ev179⟩ := exa_v hm105
  have F_s_PUT_FIELD_targets : Fld s s.heap s_PUT_FIELD "com/example/classwright/classwright/ReferenceKind" "targets" "Lcom/example/classwright/classwright/KindSet;" (.ref s_PUT_FIELD_targets) := Fld.start ((fld_at ev176).symm.trans ev179)
  have E_s_PUT_FIELD_targets : Exa s s.heap s_PUT_FIELD_targets "com/example/classwright/classwright/KindSet" := Exa.start ev179 hm105
  have F_s_PUT_FIELD_targets_bits : Fld s s.heap s_PUT_FIELD_targets "com/example/classwright/classwright/KindSet" "bits" "I" (.int (128 : Int32)) := Fld.start ((fld_at ev179).symm.trans (own_eqI hm107))
  have F_s_INVOKE_INTERFACE_ordinal : Fld s s.heap s_INVOKE_INTERFACE "java/lang/Enum" "ordinal" "I" (.int (8 : Int32)) := Fld.start ((fld_at ev165).symm.trans (own_eqI hm109))
  have F_s_INVOKE_SPECIAL_targets_bits : Fld s s.heap s_INVOKE_SPECIAL_targets "com/example/classwright/classwright/KindSet" "bits" "I" (.int (768 : Int32)) := Fld.start ((fld_at ev164).symm.trans (own_eqI hm111))
  have F_s_PUT_FIELD_ordinal : Fld s s.heap s_PUT_FIELD "java/lang/Enum" "ordinal" "I" (.int (2 : Int32)) := Fld.start ((fld_at ev176).symm.trans (own_eqI hm113))
  obtain ⟨s_NEW_INVOKE_SPECIAL, ev184⟩ := exa_v hm115
  have S_NEW_INVOKE_SPECIAL : Sta s s.heap "com/example/classwright/classwright/ReferenceKind" "NEW_INVOKE_SPECIAL" "Lcom/example/classwright/classwright/ReferenceKind;" (.ref s_NEW_INVOKE_SPECIAL) := Sta.start ev184 (Or.inr ⟨(hw _ (List.mem_of_getElem? (i := 3) rfl)), (hw _ (List.mem_of_getElem? (i := 71) rfl))⟩)
  have E_s_NEW_INVOKE_SPECIAL : Exa s s.heap s_NEW_INVOKE_SPECIAL "com/example/classwright/classwright/ReferenceKind" := Exa.start ev184 hm115
  have El_s_BY_VALUE_7 := (elem_in (own_eqR hm117 ev184) ev127 (Term.int_eval _) Ar_s_BY_VALUE.1).2
  have F_s_NEW_INVOKE_SPECIAL_value : Fld s s.heap s_NEW_INVOKE_SPECIAL "com/example/classwright/classwright/ReferenceKind" "value" "I" (.int (8 : Int32)) := Fld.start ((fld_at ev184).symm.trans (own_eqI hm119))
  obtain ⟨s_NEW_INVOKE_SPECIAL_targets, ev187⟩ := exa_v hm121
  have F_s_NEW_INVOKE_SPECIAL_targets : Fld s s.heap s_NEW_INVOKE_SPECIAL "com/example/classwright/classwright/ReferenceKind" "targets" "Lcom/example/classwright/classwright/KindSet;" (.ref s_NEW_INVOKE_SPECIAL_targets) := Fld.start ((fld_at ev184).symm.trans ev187)
  have E_s_NEW_INVOKE_SPECIAL_targets : Exa s s.heap s_NEW_INVOKE_SPECIAL_targets "com/example/classwright/classwright/KindSet" := Exa.start ev187 hm121
  have F_s_NEW_INVOKE_SPECIAL_targets_bits : Fld s s.heap s_NEW_INVOKE_SPECIAL_targets "com/example/classwright/classwright/KindSet" "bits" "I" (.int (256 : Int32)) := Fld.start ((fld_at ev187).symm.trans (own_eqI hm123))
  have F_s_INVOKE_STATIC_targets_bits : Fld s s.heap s_INVOKE_STATIC_targets "com/example/classwright/classwright/KindSet" "bits" "I" (.int (768 : Int32)) := Fld.start ((fld_at ev147).symm.trans (own_eqI hm125))
  have F_s_NEW_INVOKE_SPECIAL_ordinal : Fld s s.heap s_NEW_INVOKE_SPECIAL "java/lang/Enum" "ordinal" "I" (.int (7 : Int32)) := Fld.start ((fld_at ev184).symm.trans (own_eqI hm126))
  have V_s_BY_VALUE : Arv s s.heap s_BY_VALUE cl_s_BY_VALUE.cls (.object "com/example/classwright/classwright/ReferenceKind") (9 : Int32) [(.ref s_GET_FIELD), (.ref s_GET_STATIC), (.ref s_PUT_FIELD), (.ref s_PUT_STATIC), (.ref s_INVOKE_VIRTUAL), (.ref s_INVOKE_STATIC), (.ref s_INVOKE_SPECIAL), (.ref s_NEW_INVOKE_SPECIAL), (.ref s_INVOKE_INTERFACE)] .null := Arv.start hfit Ar_s_BY_VALUE L_s_BY_VALUE.1 L_s_BY_VALUE.2 (by decide) rfl ⟨El_s_BY_VALUE_0, El_s_BY_VALUE_1, El_s_BY_VALUE_2, El_s_BY_VALUE_3, El_s_BY_VALUE_4, El_s_BY_VALUE_5, El_s_BY_VALUE_6, El_s_BY_VALUE_7, El_s_BY_VALUE_8, trivial⟩
  obtain ⟨n, o, h1, h2, h3, _, L, rfl, ⟨rfl, N⟩, hq⟩ := rm0 l s _ hw tables_1 i0 i1 s_BY_VALUE s_GET_FIELD s_INVOKE_STATIC s_INVOKE_SPECIAL s_FIELDREF s_METHODREF s_INTERFACE_METHODREF s_METHODREF_ s_INVOKE_VIRTUAL s_GET_STATIC s_INVOKE_INTERFACE s_PUT_STATIC s_PUT_FIELD s_NEW_INVOKE_SPECIAL s_GET_FIELD_targets s_INVOKE_STATIC_targets s_INVOKE_VIRTUAL_targets s_GET_STATIC_targets s_INVOKE_SPECIAL_targets s_INVOKE_INTERFACE_targets s_PUT_STATIC_targets s_PUT_FIELD_targets s_NEW_INVOKE_SPECIAL_targets cl_s_BY_VALUE.cls s.heap s.heap.size (Nat.le_refl _) S_BY_VALUE S_GET_FIELD S_INVOKE_STATIC S_INVOKE_SPECIAL S_FIELDREF S_METHODREF S_INTERFACE_METHODREF S_METHODREF_ S_INVOKE_VIRTUAL S_GET_STATIC S_INVOKE_INTERFACE S_PUT_STATIC S_PUT_FIELD S_NEW_INVOKE_SPECIAL E_s_GET_FIELD E_s_GET_FIELD_targets E_s_INVOKE_STATIC E_s_INVOKE_SPECIAL E_s_FIELDREF E_s_METHODREF E_s_INTERFACE_METHODREF E_s_INVOKE_STATIC_targets E_s_METHODREF_ E_s_INVOKE_VIRTUAL E_s_INVOKE_VIRTUAL_targets E_s_GET_STATIC E_s_GET_STATIC_targets E_s_INVOKE_SPECIAL_targets E_s_INVOKE_INTERFACE E_s_INVOKE_INTERFACE_targets E_s_PUT_STATIC E_s_PUT_STATIC_targets E_s_PUT_FIELD E_s_PUT_FIELD_targets E_s_NEW_INVOKE_SPECIAL E_s_NEW_INVOKE_SPECIAL_targets F_s_GET_FIELD_value F_s_GET_FIELD_targets F_s_GET_FIELD_ordinal F_s_INVOKE_STATIC_ordinal F_s_INVOKE_SPECIAL_ordinal F_s_GET_FIELD_targets_bits F_s_FIELDREF_ordinal F_s_METHODREF_ordinal F_s_INTERFACE_METHODREF_ordinal F_s_INVOKE_STATIC_value F_s_INVOKE_STATIC_targets F_s_METHODREF__bits F_s_INVOKE_VIRTUAL_value F_s_INVOKE_VIRTUAL_targets F_s_INVOKE_VIRTUAL_ordinal F_s_INVOKE_VIRTUAL_targets_bits F_s_GET_STATIC_value F_s_GET_STATIC_targets F_s_GET_STATIC_ordinal F_s_GET_STATIC_targets_bits F_s_INVOKE_SPECIAL_value F_s_INVOKE_SPECIAL_targets F_s_INVOKE_INTERFACE_value F_s_INVOKE_INTERFACE_targets F_s_INVOKE_INTERFACE_targets_bits F_s_PUT_STATIC_value F_s_PUT_STATIC_targets F_s_PUT_STATIC_ordinal F_s_PUT_STATIC_targets_bits F_s_PUT_FIELD_value F_s_PUT_FIELD_targets F_s_PUT_FIELD_targets_bits F_s_INVOKE_INTERFACE_ordinal F_s_INVOKE_SPECIAL_targets_bits F_s_PUT_FIELD_ordinal F_s_NEW_INVOKE_SPECIAL_value F_s_NEW_INVOKE_SPECIAL_targets F_s_NEW_INVOKE_SPECIAL_targets_bits F_s_INVOKE_STATIC_targets_bits F_s_NEW_INVOKE_SPECIAL_ordinal V_s_BY_VALUE p e ha hc hk s m _ below hf ((Spec.applies_iff_loose hf).mp happ).1 ⟨rfl, State.Warmed39.refl s, rfl⟩ trivial
  refine ⟨n, _, h1, h2, h3, hpost _ _ _ _ _ _ ⟨Cond.after_iff.mpr rfl, Cond.after_iff.mpr (eq_i res_at (Term.int_eval (1)) rfl), trivial⟩ ⟨hq.1, hq.2.1, (hq.2.2.sift fun y hy => Or.inr (N y hy)).mono (by decide) (by decide)⟩⟩
theorem main_1_1 : Claimed_1_1 := comes_1 fun _ _ _ _ _ _ h hF => ⟨h.1, hF⟩
theorem main_1_2 : Claimed_1_2 := comes_1 fun _ _ _ _ _ _ h hF => ⟨h.2.1, hF⟩

end Jvm.Pilot.@@N@@
namespace Jvm.Pilot.@@N@@
open Jvm Jvm.ClassFile Sem Op Lib Jvm.Free Jvm.Stand Jvm.Pilot.@@N@@.Jvm.D
/-! MADE BY PROGRAM (witnessworld.py) out of the Statement's table words and the real class files: 23 classes; the members and pool entries that the words name. The judged class is class 1, her method 1. -/
namespace start1
open Jvm.ClassFile
def u (s : String) : CpInfo := .utf8 (stringToUtf16 s)
/-- a pool by its gaps: so many unusable entries, then the entry; so many at the end -/
def gap : Nat → List CpInfo → List CpInfo
  | 0, r => r
  | n + 1, r => .unusable :: gap n r
def poolList (es : List (Nat × CpInfo)) (last : Nat) : List CpInfo := es.foldr (fun e r => gap e.1 (e.2 :: r)) (gap last [])
def pool (es : List (Nat × CpInfo)) (last : Nat) : Array CpInfo := ⟨poolList es last⟩
def fileOf (pool : Array CpInfo) (this : Nat) (attrs : Array Attribute := #[]) (ms : Array MethodInfo := #[]) (fl : Nat := 33) (sup : Nat := 0) (ifs : Array Nat := #[]) (fds : Array FieldInfo := #[]) : ClassFile where
  minorVersion := 0
  majorVersion := 65
  constantPool := pool
  accessFlags := fl
  thisClass := this
  superClass := sup
  interfaces := ifs
  fields := fds
  methods := ms
  attributes := attrs
def plain (name : String) (sup : Option ClassId) : Class where
  name := name
  kind := .ordinary
  loader := none
  accessFlags := 33
  super := sup
  interfaces := #[]
  cf := none
  fields := #[]
  methods := #[]
  instanceTypes := #[]
  staticTypes := #[]
  resolved := #[]
  callSites := []
  init := .initialized
  statics := none
  mirror := none

def pool0 : Array CpInfo := pool [(5, u "<init>"), (0, u "()V"), (1, .class_ 10), (1, u "java/lang/Object")] 113

def k0m0 : Method := { name := "<init>", desc := "()V", sig := { parameters := [], returnType := none }, accessFlags := 1, code := none }
/-- java/lang/Object -/
def k0 : Class := { plain "java/lang/Object" none with
  accessFlags := 33
  interfaces := #[]
  cf := some (fileOf pool0 8 #[] #[{ accessFlags := 1, nameIndex := 5, descriptorIndex := 6, attributes := #[] }] 33 0 #[] #[])
  fields := #[]
  methods := #[k0m0]
  instanceTypes := #[]
  staticTypes := #[]
  resolved := Array.replicate 124 none
  statics := none }

def pool1 : Array CpInfo := pool [(2, .class_ 4), (1, u "java/lang/Object"), (0, u "<init>"), (0, u "()V"), (0, .integer 2147483647), (0, .methodref 9 10), (0, .class_ 11), (0, .nameAndType 12 13), (0, u "com/example/classwright/classwright/ReferenceKind"), (0, u "forByte"), (0, u "(I)Lcom/example/classwright/classwright/ReferenceKind;"), (0, .methodref 9 15), (0, .nameAndType 16 17), (0, u "value"), (0, u "()I"), (0, .methodref 9 19), (0, .nameAndType 20 21), (0, u "targetKinds"), (0, u "(I)Lcom/example/classwright/classwright/KindSet;"), (0, .fieldref 23 24), (0, .class_ 25), (0, .nameAndType 26 27), (0, u "com/example/classwright/classwright/ConstantKind"), (0, u "FIELDREF"), (0, u "Lcom/example/classwright/classwright/ConstantKind;"), (0, .methodref 29 30), (0, .class_ 31), (0, .nameAndType 32 33), (0, u "com/example/classwright/classwright/KindSet"), (0, u "contains"), (0, u "(Ljava/lang/Object;)Z"), (0, .fieldref 23 35), (0, .nameAndType 36 27), (0, u "METHODREF"), (0, .fieldref 23 38), (0, .nameAndType 39 27), (0, u "INTERFACE_METHODREF"), (0, .methodref 29 41), (0, .nameAndType 42 17), (0, u "size"), (0, .class_ 44), (0, u "com/example/classwright/classwright/ReferenceKindTargetKindsPinLaw"), (2, u "law"), (0, u "(II)Z")] 3

def k1m0 : Method := { name := "<init>", desc := "()V", sig := { parameters := [], returnType := none }, accessFlags := 1, code := none }
def k1c1 : Code := { maxStack := 2, maxLocals := 10, code := code, exceptionTable := #[], attributes := #[] }
def k1m1 : Method := { name := "law", desc := "(II)Z", sig := { parameters := [.int, .int], returnType := some .boolean }, accessFlags := 9, code := some k1c1 }
/-- com/example/classwright/classwright/ReferenceKindTargetKindsPinLaw -/
def k1 : Class := { plain "com/example/classwright/classwright/ReferenceKindTargetKindsPinLaw" (some 0) with
  accessFlags := 49
  interfaces := #[]
  cf := some (fileOf pool1 43 #[] #[{ accessFlags := 1, nameIndex := 5, descriptorIndex := 6, attributes := #[] }, { accessFlags := 9, nameIndex := 47, descriptorIndex := 48, attributes := #[] }] 49 2 #[] #[])
  fields := #[]
  methods := #[k1m0, k1m1]
  instanceTypes := #[]
  staticTypes := #[]
  resolved := Array.replicate 52 none
  statics := none }

def pool2 : Array CpInfo := pool [(1, .class_ 2), (0, u "java/lang/constant/Constable"), (0, .class_ 4), (0, u "java/lang/Object")] 6

/-- java/lang/constant/Constable -/
def k2 : Class := { plain "java/lang/constant/Constable" (some 0) with
  accessFlags := 1537
  interfaces := #[]
  cf := some (fileOf pool2 1 #[] #[] 1537 3 #[] #[])
  fields := #[]
  methods := #[]
  instanceTypes := #[]
  staticTypes := #[]
  resolved := Array.replicate 11 none
  statics := none }

def pool3 : Array CpInfo := pool [(1, .class_ 2), (0, u "java/lang/Comparable"), (0, .class_ 4), (0, u "java/lang/Object")] 7

/-- java/lang/Comparable -/
def k3 : Class := { plain "java/lang/Comparable" (some 0) with
  accessFlags := 1537
  interfaces := #[]
  cf := some (fileOf pool3 1 #[] #[] 1537 3 #[] #[])
  fields := #[]
  methods := #[]
  instanceTypes := #[]
  staticTypes := #[]
  resolved := Array.replicate 12 none
  statics := none }

def pool4 : Array CpInfo := pool [(1, .class_ 2), (0, u "java/io/Serializable"), (0, .class_ 4), (0, u "java/lang/Object")] 2

/-- java/io/Serializable -/
def k4 : Class := { plain "java/io/Serializable" (some 0) with
  accessFlags := 1537
  interfaces := #[]
  cf := some (fileOf pool4 1 #[] #[] 1537 3 #[] #[])
  fields := #[]
  methods := #[]
  instanceTypes := #[]
  staticTypes := #[]
  resolved := Array.replicate 7 none
  statics := none }

def pool5 : Array CpInfo := pool [(2, .class_ 4), (1, u "java/lang/Enum"), (0, u "name"), (0, u "Ljava/lang/String;"), (0, .fieldref 2 8), (0, .nameAndType 9 10), (0, u "ordinal"), (0, u "I"), (1, .class_ 14), (1, u "java/lang/Object"), (4, u "hash"), (86, .class_ 108), (1, u "java/lang/Enum$EnumDesc"), (2, .class_ 112), (0, u "java/lang/constant/Constable"), (0, .class_ 114), (0, u "java/lang/Comparable"), (0, .class_ 116), (0, u "java/io/Serializable"), (9, u "()I")] 77

def k5c0 : Code := { maxStack := 1, maxLocals := 1, code := jdk_37_method_2_code, exceptionTable := #[], attributes := #[] }
def k5m0 : Method := { name := "ordinal", desc := "()I", sig := { parameters := [], returnType := some .int }, accessFlags := 17, code := some k5c0 }
/-- java/lang/Enum -/
def k5 : Class := { plain "java/lang/Enum" (some 0) with
  accessFlags := 1057
  interfaces := #[2, 3, 4]
  cf := some (fileOf pool5 2 #[.nestMembers #[106]] #[{ accessFlags := 17, nameIndex := 9, descriptorIndex := 126, attributes := #[] }] 1057 12 #[111, 113, 115] #[{ accessFlags := 18, nameIndex := 5, descriptorIndex := 6, attributes := #[] }, { accessFlags := 18, nameIndex := 9, descriptorIndex := 10, attributes := #[] }, { accessFlags := 2, nameIndex := 19, descriptorIndex := 10, attributes := #[] }])
  fields := #[{ name := "name", type := (.object "java/lang/String"), accessFlags := 18, slot := 0, constantValue := 0 }, { name := "ordinal", type := .int, accessFlags := 18, slot := 1, constantValue := 0 }, { name := "hash", type := .int, accessFlags := 2, slot := 2, constantValue := 0 }]
  methods := #[k5m0]
  instanceTypes := #[(.object "java/lang/String"), .int, .int]
  staticTypes := #[]
  resolved := Array.replicate 204 none
  statics := none }

def pool6 : Array CpInfo := pool [(1, .class_ 2), (0, u "com/example/classwright/classwright/ReferenceKind"), (2, u "GET_FIELD"), (0, u "Lcom/example/classwright/classwright/ReferenceKind;"), (2, u "GET_STATIC"), (2, u "PUT_FIELD"), (2, u "PUT_STATIC"), (2, u "INVOKE_VIRTUAL"), (0, .fieldref 1 20), (0, .nameAndType 21 6), (0, u "INVOKE_STATIC"), (0, .fieldref 1 23), (0, .nameAndType 24 6), (0, u "INVOKE_SPECIAL"), (2, u "NEW_INVOKE_SPECIAL"), (2, u "INVOKE_INTERFACE"), (2, u "$VALUES"), (0, u "[Lcom/example/classwright/classwright/ReferenceKind;"), (6, .class_ 43), (1, u "java/lang/Enum"), (6, .fieldref 1 51), (0, .nameAndType 52 53), (0, u "value"), (0, u "I"), (2, u "specName"), (0, u "Ljava/lang/String;"), (6, .fieldref 1 65), (0, .nameAndType 66 67), (0, u "targets"), (0, u "Lcom/example/classwright/classwright/KindSet;"), (2, u "forByte"), (0, u "(I)Lcom/example/classwright/classwright/ReferenceKind;"), (6, .fieldref 1 79), (0, .nameAndType 80 34), (0, u "BY_VALUE"), (2, u "targetKinds"), (0, u "(I)Lcom/example/classwright/classwright/KindSet;"), (2, .fieldref 1 88), (0, .nameAndType 89 67), (0, u "METHODREF"), (58, u "()I")] 9

def k6c0 : Code := { maxStack := 3, maxLocals := 1, code := prog_106_method_5_code, exceptionTable := #[], attributes := #[] }
def k6m0 : Method := { name := "forByte", desc := "(I)Lcom/example/classwright/classwright/ReferenceKind;", sig := { parameters := [.int], returnType := some (.object "com/example/classwright/classwright/ReferenceKind") }, accessFlags := 8, code := some k6c0 }
def k6c1 : Code := { maxStack := 1, maxLocals := 1, code := prog_106_method_6_code, exceptionTable := #[], attributes := #[] }
def k6m1 : Method := { name := "value", desc := "()I", sig := { parameters := [], returnType := some .int }, accessFlags := 1, code := some k6c1 }
def k6c2 : Code := { maxStack := 2, maxLocals := 3, code := prog_106_method_8_code, exceptionTable := #[], attributes := #[] }
def k6m2 : Method := { name := "targetKinds", desc := "(I)Lcom/example/classwright/classwright/KindSet;", sig := { parameters := [.int], returnType := some (.object "com/example/classwright/classwright/KindSet") }, accessFlags := 0, code := some k6c2 }
/-- com/example/classwright/classwright/ReferenceKind -/
def k6 : Class := { plain "com/example/classwright/classwright/ReferenceKind" (some 5) with
  accessFlags := 16433
  interfaces := #[]
  cf := some (fileOf pool6 1 #[] #[{ accessFlags := 8, nameIndex := 70, descriptorIndex := 71, attributes := #[] }, { accessFlags := 1, nameIndex := 52, descriptorIndex := 148, attributes := #[] }, { accessFlags := 0, nameIndex := 83, descriptorIndex := 84, attributes := #[] }] 16433 41 #[] #[{ accessFlags := 16409, nameIndex := 5, descriptorIndex := 6, attributes := #[] }, { accessFlags := 16409, nameIndex := 9, descriptorIndex := 6, attributes := #[] }, { accessFlags := 16409, nameIndex := 12, descriptorIndex := 6, attributes := #[] }, { accessFlags := 16409, nameIndex := 15, descriptorIndex := 6, attributes := #[] }, { accessFlags := 16409, nameIndex := 18, descriptorIndex := 6, attributes := #[] }, { accessFlags := 16409, nameIndex := 21, descriptorIndex := 6, attributes := #[] }, { accessFlags := 16409, nameIndex := 24, descriptorIndex := 6, attributes := #[] }, { accessFlags := 16409, nameIndex := 27, descriptorIndex := 6, attributes := #[] }, { accessFlags := 16409, nameIndex := 30, descriptorIndex := 6, attributes := #[] }, { accessFlags := 26, nameIndex := 80, descriptorIndex := 34, attributes := #[] }, { accessFlags := 26, nameIndex := 89, descriptorIndex := 67, attributes := #[] }, { accessFlags := 18, nameIndex := 52, descriptorIndex := 53, attributes := #[] }, { accessFlags := 18, nameIndex := 56, descriptorIndex := 57, attributes := #[] }, { accessFlags := 18, nameIndex := 66, descriptorIndex := 67, attributes := #[] }, { accessFlags := 4122, nameIndex := 33, descriptorIndex := 34, attributes := #[] }])
  fields := #[{ name := "GET_FIELD", type := (.object "com/example/classwright/classwright/ReferenceKind"), accessFlags := 16409, slot := 0, constantValue := 0 }, { name := "GET_STATIC", type := (.object "com/example/classwright/classwright/ReferenceKind"), accessFlags := 16409, slot := 1, constantValue := 0 }, { name := "PUT_FIELD", type := (.object "com/example/classwright/classwright/ReferenceKind"), accessFlags := 16409, slot := 2, constantValue := 0 }, { name := "PUT_STATIC", type := (.object "com/example/classwright/classwright/ReferenceKind"), accessFlags := 16409, slot := 3, constantValue := 0 }, { name := "INVOKE_VIRTUAL", type := (.object "com/example/classwright/classwright/ReferenceKind"), accessFlags := 16409, slot := 4, constantValue := 0 }, { name := "INVOKE_STATIC", type := (.object "com/example/classwright/classwright/ReferenceKind"), accessFlags := 16409, slot := 5, constantValue := 0 }, { name := "INVOKE_SPECIAL", type := (.object "com/example/classwright/classwright/ReferenceKind"), accessFlags := 16409, slot := 6, constantValue := 0 }, { name := "NEW_INVOKE_SPECIAL", type := (.object "com/example/classwright/classwright/ReferenceKind"), accessFlags := 16409, slot := 7, constantValue := 0 }, { name := "INVOKE_INTERFACE", type := (.object "com/example/classwright/classwright/ReferenceKind"), accessFlags := 16409, slot := 8, constantValue := 0 }, { name := "BY_VALUE", type := (.array (.object "com/example/classwright/classwright/ReferenceKind")), accessFlags := 26, slot := 9, constantValue := 0 }, { name := "METHODREF", type := (.object "com/example/classwright/classwright/KindSet"), accessFlags := 26, slot := 10, constantValue := 0 }, { name := "value", type := .int, accessFlags := 18, slot := 3, constantValue := 0 }, { name := "specName", type := (.object "java/lang/String"), accessFlags := 18, slot := 4, constantValue := 0 }, { name := "targets", type := (.object "com/example/classwright/classwright/KindSet"), accessFlags := 18, slot := 5, constantValue := 0 }, { name := "$VALUES", type := (.array (.object "com/example/classwright/classwright/ReferenceKind")), accessFlags := 4122, slot := 11, constantValue := 0 }]
  methods := #[k6m0, k6m1, k6m2]
  instanceTypes := #[(.object "java/lang/String"), .int, .int, .int, (.object "java/lang/String"), (.object "com/example/classwright/classwright/KindSet")]
  staticTypes := #[(.object "com/example/classwright/classwright/ReferenceKind"), (.object "com/example/classwright/classwright/ReferenceKind"), (.object "com/example/classwright/classwright/ReferenceKind"), (.object "com/example/classwright/classwright/ReferenceKind"), (.object "com/example/classwright/classwright/ReferenceKind"), (.object "com/example/classwright/classwright/ReferenceKind"), (.object "com/example/classwright/classwright/ReferenceKind"), (.object "com/example/classwright/classwright/ReferenceKind"), (.object "com/example/classwright/classwright/ReferenceKind"), (.array (.object "com/example/classwright/classwright/ReferenceKind")), (.object "com/example/classwright/classwright/KindSet"), (.array (.object "com/example/classwright/classwright/ReferenceKind"))]
  resolved := Array.replicate 158 none
  statics := some 0 }

def pool7 : Array CpInfo := pool [(1, .class_ 2), (0, u "com/example/classwright/classwright/ConstantKind"), (2, u "UTF8"), (0, u "Lcom/example/classwright/classwright/ConstantKind;"), (2, u "INTEGER"), (2, u "FLOAT"), (2, u "LONG"), (2, u "DOUBLE"), (2, u "CLASS"), (2, u "STRING"), (2, u "FIELDREF"), (2, u "METHODREF"), (2, u "INTERFACE_METHODREF"), (2, u "NAME_AND_TYPE"), (2, u "METHOD_HANDLE"), (2, u "METHOD_TYPE"), (2, u "DYNAMIC"), (2, u "INVOKE_DYNAMIC"), (2, u "MODULE"), (2, u "PACKAGE"), (2, u "$VALUES"), (0, u "[Lcom/example/classwright/classwright/ConstantKind;"), (6, .class_ 67), (1, u "java/lang/Enum"), (8, u "tag"), (0, u "I"), (2, u "specName"), (0, u "Ljava/lang/String;"), (2, u "slots"), (2, u "firstVersion"), (2, u "fieldBytes"), (2, u "BY_TAG"), (76, u "LOADABLE"), (0, u "Lcom/example/classwright/classwright/KindSet;")] 23

/-- com/example/classwright/classwright/ConstantKind -/
def k7 : Class := { plain "com/example/classwright/classwright/ConstantKind" (some 5) with
  accessFlags := 16433
  interfaces := #[]
  cf := some (fileOf pool7 1 #[] #[] 16433 65 #[] #[{ accessFlags := 16409, nameIndex := 5, descriptorIndex := 6, attributes := #[] }, { accessFlags := 16409, nameIndex := 9, descriptorIndex := 6, attributes := #[] }, { accessFlags := 16409, nameIndex := 12, descriptorIndex := 6, attributes := #[] }, { accessFlags := 16409, nameIndex := 15, descriptorIndex := 6, attributes := #[] }, { accessFlags := 16409, nameIndex := 18, descriptorIndex := 6, attributes := #[] }, { accessFlags := 16409, nameIndex := 21, descriptorIndex := 6, attributes := #[] }, { accessFlags := 16409, nameIndex := 24, descriptorIndex := 6, attributes := #[] }, { accessFlags := 16409, nameIndex := 27, descriptorIndex := 6, attributes := #[] }, { accessFlags := 16409, nameIndex := 30, descriptorIndex := 6, attributes := #[] }, { accessFlags := 16409, nameIndex := 33, descriptorIndex := 6, attributes := #[] }, { accessFlags := 16409, nameIndex := 36, descriptorIndex := 6, attributes := #[] }, { accessFlags := 16409, nameIndex := 39, descriptorIndex := 6, attributes := #[] }, { accessFlags := 16409, nameIndex := 42, descriptorIndex := 6, attributes := #[] }, { accessFlags := 16409, nameIndex := 45, descriptorIndex := 6, attributes := #[] }, { accessFlags := 16409, nameIndex := 48, descriptorIndex := 6, attributes := #[] }, { accessFlags := 16409, nameIndex := 51, descriptorIndex := 6, attributes := #[] }, { accessFlags := 16409, nameIndex := 54, descriptorIndex := 6, attributes := #[] }, { accessFlags := 24, nameIndex := 170, descriptorIndex := 171, attributes := #[] }, { accessFlags := 26, nameIndex := 93, descriptorIndex := 58, attributes := #[] }, { accessFlags := 18, nameIndex := 76, descriptorIndex := 77, attributes := #[] }, { accessFlags := 18, nameIndex := 80, descriptorIndex := 81, attributes := #[] }, { accessFlags := 18, nameIndex := 84, descriptorIndex := 77, attributes := #[] }, { accessFlags := 18, nameIndex := 87, descriptorIndex := 77, attributes := #[] }, { accessFlags := 18, nameIndex := 90, descriptorIndex := 77, attributes := #[] }, { accessFlags := 4122, nameIndex := 57, descriptorIndex := 58, attributes := #[] }])
  fields := #[{ name := "UTF8", type := (.object "com/example/classwright/classwright/ConstantKind"), accessFlags := 16409, slot := 0, constantValue := 0 }, { name := "INTEGER", type := (.object "com/example/classwright/classwright/ConstantKind"), accessFlags := 16409, slot := 1, constantValue := 0 }, { name := "FLOAT", type := (.object "com/example/classwright/classwright/ConstantKind"), accessFlags := 16409, slot := 2, constantValue := 0 }, { name := "LONG", type := (.object "com/example/classwright/classwright/ConstantKind"), accessFlags := 16409, slot := 3, constantValue := 0 }, { name := "DOUBLE", type := (.object "com/example/classwright/classwright/ConstantKind"), accessFlags := 16409, slot := 4, constantValue := 0 }, { name := "CLASS", type := (.object "com/example/classwright/classwright/ConstantKind"), accessFlags := 16409, slot := 5, constantValue := 0 }, { name := "STRING", type := (.object "com/example/classwright/classwright/ConstantKind"), accessFlags := 16409, slot := 6, constantValue := 0 }, { name := "FIELDREF", type := (.object "com/example/classwright/classwright/ConstantKind"), accessFlags := 16409, slot := 7, constantValue := 0 }, { name := "METHODREF", type := (.object "com/example/classwright/classwright/ConstantKind"), accessFlags := 16409, slot := 8, constantValue := 0 }, { name := "INTERFACE_METHODREF", type := (.object "com/example/classwright/classwright/ConstantKind"), accessFlags := 16409, slot := 9, constantValue := 0 }, { name := "NAME_AND_TYPE", type := (.object "com/example/classwright/classwright/ConstantKind"), accessFlags := 16409, slot := 10, constantValue := 0 }, { name := "METHOD_HANDLE", type := (.object "com/example/classwright/classwright/ConstantKind"), accessFlags := 16409, slot := 11, constantValue := 0 }, { name := "METHOD_TYPE", type := (.object "com/example/classwright/classwright/ConstantKind"), accessFlags := 16409, slot := 12, constantValue := 0 }, { name := "DYNAMIC", type := (.object "com/example/classwright/classwright/ConstantKind"), accessFlags := 16409, slot := 13, constantValue := 0 }, { name := "INVOKE_DYNAMIC", type := (.object "com/example/classwright/classwright/ConstantKind"), accessFlags := 16409, slot := 14, constantValue := 0 }, { name := "MODULE", type := (.object "com/example/classwright/classwright/ConstantKind"), accessFlags := 16409, slot := 15, constantValue := 0 }, { name := "PACKAGE", type := (.object "com/example/classwright/classwright/ConstantKind"), accessFlags := 16409, slot := 16, constantValue := 0 }, { name := "LOADABLE", type := (.object "com/example/classwright/classwright/KindSet"), accessFlags := 24, slot := 17, constantValue := 0 }, { name := "BY_TAG", type := (.array (.object "com/example/classwright/classwright/ConstantKind")), accessFlags := 26, slot := 18, constantValue := 0 }, { name := "tag", type := .int, accessFlags := 18, slot := 3, constantValue := 0 }, { name := "specName", type := (.object "java/lang/String"), accessFlags := 18, slot := 4, constantValue := 0 }, { name := "slots", type := .int, accessFlags := 18, slot := 5, constantValue := 0 }, { name := "firstVersion", type := .int, accessFlags := 18, slot := 6, constantValue := 0 }, { name := "fieldBytes", type := .int, accessFlags := 18, slot := 7, constantValue := 0 }, { name := "$VALUES", type := (.array (.object "com/example/classwright/classwright/ConstantKind")), accessFlags := 4122, slot := 19, constantValue := 0 }]
  methods := #[]
  instanceTypes := #[(.object "java/lang/String"), .int, .int, .int, (.object "java/lang/String"), .int, .int, .int]
  staticTypes := #[(.object "com/example/classwright/classwright/ConstantKind"), (.object "com/example/classwright/classwright/ConstantKind"), (.object "com/example/classwright/classwright/ConstantKind"), (.object "com/example/classwright/classwright/ConstantKind"), (.object "com/example/classwright/classwright/ConstantKind"), (.object "com/example/classwright/classwright/ConstantKind"), (.object "com/example/classwright/classwright/ConstantKind"), (.object "com/example/classwright/classwright/ConstantKind"), (.object "com/example/classwright/classwright/ConstantKind"), (.object "com/example/classwright/classwright/ConstantKind"), (.object "com/example/classwright/classwright/ConstantKind"), (.object "com/example/classwright/classwright/ConstantKind"), (.object "com/example/classwright/classwright/ConstantKind"), (.object "com/example/classwright/classwright/ConstantKind"), (.object "com/example/classwright/classwright/ConstantKind"), (.object "com/example/classwright/classwright/ConstantKind"), (.object "com/example/classwright/classwright/ConstantKind"), (.object "com/example/classwright/classwright/KindSet"), (.array (.object "com/example/classwright/classwright/ConstantKind")), (.array (.object "com/example/classwright/classwright/ConstantKind"))]
  resolved := Array.replicate 195 none
  statics := some 1 }

def pool8 : Array CpInfo := pool [(8, .class_ 10), (1, u "java/lang/Iterable"), (24, .class_ 36), (0, u "java/lang/Object")] 25

/-- java/lang/Iterable -/
def k8 : Class := { plain "java/lang/Iterable" (some 0) with
  accessFlags := 1537
  interfaces := #[]
  cf := some (fileOf pool8 8 #[] #[] 1537 35 #[] #[])
  fields := #[]
  methods := #[]
  instanceTypes := #[]
  staticTypes := #[]
  resolved := Array.replicate 62 none
  statics := none }

def pool9 : Array CpInfo := pool [(10, .class_ 12), (1, u "java/util/Collection"), (47, .class_ 61), (0, u "java/lang/Object"), (0, .class_ 63), (0, u "java/lang/Iterable")] 51

/-- java/util/Collection -/
def k9 : Class := { plain "java/util/Collection" (some 0) with
  accessFlags := 1537
  interfaces := #[8]
  cf := some (fileOf pool9 10 #[] #[] 1537 60 #[62] #[])
  fields := #[]
  methods := #[]
  instanceTypes := #[]
  staticTypes := #[]
  resolved := Array.replicate 115 none
  statics := none }

def pool10 : Array CpInfo := pool [(2, .class_ 4), (1, u "java/lang/Object"), (0, u "<init>"), (0, u "()V"), (1, .class_ 10), (1, u "java/util/AbstractCollection"), (66, .class_ 78), (0, u "java/util/Collection")] 81

def k10m0 : Method := { name := "<init>", desc := "()V", sig := { parameters := [], returnType := none }, accessFlags := 4, code := none }
/-- java/util/AbstractCollection -/
def k10 : Class := { plain "java/util/AbstractCollection" (some 0) with
  accessFlags := 1057
  interfaces := #[9]
  cf := some (fileOf pool10 8 #[] #[{ accessFlags := 4, nameIndex := 5, descriptorIndex := 6, attributes := #[] }] 1057 2 #[77] #[])
  fields := #[]
  methods := #[k10m0]
  instanceTypes := #[]
  staticTypes := #[]
  resolved := Array.replicate 160 none
  statics := none }

def pool11 : Array CpInfo := pool [(26, .class_ 27), (0, u "java/lang/Object"), (5, .class_ 34), (0, u "java/util/Set"), (1, .class_ 38), (1, u "java/util/Collection")] 105

/-- java/util/Set -/
def k11 : Class := { plain "java/util/Set" (some 0) with
  accessFlags := 1537
  interfaces := #[9]
  cf := some (fileOf pool11 33 #[] #[] 1537 26 #[36] #[])
  fields := #[]
  methods := #[]
  instanceTypes := #[]
  staticTypes := #[]
  resolved := Array.replicate 144 none
  statics := none }

def pool12 : Array CpInfo := pool [(2, .class_ 4), (1, u "java/util/AbstractCollection"), (0, u "<init>"), (0, u "()V"), (0, .class_ 8), (0, u "java/util/Set"), (7, .class_ 17), (0, u "java/util/AbstractSet")] 78

def k12m0 : Method := { name := "<init>", desc := "()V", sig := { parameters := [], returnType := none }, accessFlags := 4, code := none }
/-- java/util/AbstractSet -/
def k12 : Class := { plain "java/util/AbstractSet" (some 10) with
  accessFlags := 1057
  interfaces := #[11]
  cf := some (fileOf pool12 16 #[] #[{ accessFlags := 4, nameIndex := 5, descriptorIndex := 6, attributes := #[] }] 1057 2 #[7] #[])
  fields := #[]
  methods := #[k12m0]
  instanceTypes := #[]
  staticTypes := #[]
  resolved := Array.replicate 96 none
  statics := none }

def pool13 : Array CpInfo := pool [(2, .class_ 4), (1, u "java/util/AbstractSet"), (2, .fieldref 8 9), (0, .class_ 10), (0, .nameAndType 11 12), (0, u "com/example/classwright/classwright/KindSet"), (0, u "bits"), (0, u "I"), (0, .methodref 14 15), (0, .class_ 16), (0, .nameAndType 17 18), (0, u "com/example/classwright/classwright/ConstantKind"), (0, u "ordinal"), (0, u "()I"), (3, .methodref 23 24), (0, .class_ 25), (0, .nameAndType 26 27), (0, u "java/lang/Integer"), (0, u "bitCount"), (0, u "(I)I"), (0, .class_ 29), (0, u "com/example/classwright/classwright/KindSet$1"), (44, u "KINDS"), (0, u "[Lcom/example/classwright/classwright/ConstantKind;"), (6, u "contains"), (0, u "(Ljava/lang/Object;)Z"), (0, u "size")] 11

def k13c0 : Code := { maxStack := 3, maxLocals := 3, code := prog_67_method_3_code, exceptionTable := #[], attributes := #[] }
def k13m0 : Method := { name := "contains", desc := "(Ljava/lang/Object;)Z", sig := { parameters := [(.object "java/lang/Object")], returnType := some .boolean }, accessFlags := 1, code := some k13c0 }
def k13c1 : Code := { maxStack := 1, maxLocals := 1, code := prog_67_method_4_code, exceptionTable := #[], attributes := #[] }
def k13m1 : Method := { name := "size", desc := "()I", sig := { parameters := [], returnType := some .int }, accessFlags := 1, code := some k13c1 }
/-- com/example/classwright/classwright/KindSet -/
def k13 : Class := { plain "com/example/classwright/classwright/KindSet" (some 12) with
  accessFlags := 48
  interfaces := #[]
  cf := some (fileOf pool13 8 #[.nestMembers #[28]] #[{ accessFlags := 1, nameIndex := 82, descriptorIndex := 83, attributes := #[] }, { accessFlags := 1, nameIndex := 84, descriptorIndex := 18, attributes := #[] }] 48 2 #[] #[{ accessFlags := 26, nameIndex := 74, descriptorIndex := 75, attributes := #[] }, { accessFlags := 18, nameIndex := 11, descriptorIndex := 12, attributes := #[] }])
  fields := #[{ name := "KINDS", type := (.array (.object "com/example/classwright/classwright/ConstantKind")), accessFlags := 26, slot := 0, constantValue := 0 }, { name := "bits", type := .int, accessFlags := 18, slot := 0, constantValue := 0 }]
  methods := #[k13m0, k13m1]
  instanceTypes := #[.int]
  staticTypes := #[(.array (.object "com/example/classwright/classwright/ConstantKind"))]
  resolved := Array.replicate 96 none
  statics := none }

def pool14 : Array CpInfo := pool [(2, .class_ 4), (1, u "java/lang/Object"), (0, u "<init>"), (0, u "()V"), (1, .class_ 10), (1, u "java/lang/Number"), (2, .class_ 14), (0, u "java/io/Serializable"), (0, u "serialVersionUID"), (0, u "J")] 20

def k14m0 : Method := { name := "<init>", desc := "()V", sig := { parameters := [], returnType := none }, accessFlags := 1, code := none }
/-- java/lang/Number -/
def k14 : Class := { plain "java/lang/Number" (some 0) with
  accessFlags := 1057
  interfaces := #[4]
  cf := some (fileOf pool14 8 #[] #[{ accessFlags := 1, nameIndex := 5, descriptorIndex := 6, attributes := #[] }] 1057 2 #[13] #[{ accessFlags := 26, nameIndex := 15, descriptorIndex := 16, attributes := #[] }])
  fields := #[{ name := "serialVersionUID", type := .long, accessFlags := 26, slot := 0, constantValue := 0 }]
  methods := #[k14m0]
  instanceTypes := #[]
  staticTypes := #[.long]
  resolved := Array.replicate 37 none
  statics := none }

def pool15 : Array CpInfo := pool [(1, .class_ 2), (0, u "java/lang/constant/ConstantDesc"), (0, .class_ 4), (0, u "java/lang/Object")] 32

/-- java/lang/constant/ConstantDesc -/
def k15 : Class := { plain "java/lang/constant/ConstantDesc" (some 0) with
  accessFlags := 1537
  interfaces := #[]
  cf := some (fileOf pool15 1 #[] #[] 1537 3 #[] #[])
  fields := #[]
  methods := #[]
  instanceTypes := #[]
  staticTypes := #[]
  resolved := Array.replicate 37 none
  statics := none }

def pool16 : Array CpInfo := pool [(1, .class_ 2), (0, u "java/lang/Integer"), (16, u "digits"), (0, u "[C"), (33, u "(I)I"), (30, u "DigitOnes"), (0, u "[B"), (2, u "DigitTens"), (99, .class_ 190), (0, u "java/lang/Integer$IntegerCache"), (3, u "I"), (8, .class_ 204), (0, u "java/lang/Number"), (2, u "value"), (57, .integer 1431655765), (0, .integer 858993459), (0, .integer 252645135), (34, u "TYPE"), (0, u "Ljava/lang/Class;"), (0, .class_ 305), (0, u "java/lang/Comparable"), (0, .class_ 307), (0, u "java/lang/constant/Constable"), (0, .class_ 309), (0, u "java/lang/constant/ConstantDesc"), (0, u "MIN_VALUE"), (1, u "MAX_VALUE"), (3, u "SIZE"), (1, u "BYTES"), (1, u "serialVersionUID"), (0, u "J"), (85, u "bitCount")] 45

def k16c0 : Code := { maxStack := 3, maxLocals := 1, code := jdk_33_method_49_code, exceptionTable := #[], attributes := #[] }
def k16m0 : Method := { name := "bitCount", desc := "(I)I", sig := { parameters := [.int], returnType := some .int }, accessFlags := 9, code := some k16c0 }
/-- java/lang/Integer -/
def k16 : Class := { plain "java/lang/Integer" (some 14) with
  accessFlags := 49
  interfaces := #[3, 2, 15]
  cf := some (fileOf pool16 1 #[.nestMembers #[189]] #[{ accessFlags := 9, nameIndex := 407, descriptorIndex := 54, attributes := #[] }] 49 203 #[304, 306, 308] #[{ accessFlags := 25, nameIndex := 310, descriptorIndex := 194, attributes := #[] }, { accessFlags := 25, nameIndex := 312, descriptorIndex := 194, attributes := #[] }, { accessFlags := 25, nameIndex := 302, descriptorIndex := 303, attributes := #[] }, { accessFlags := 24, nameIndex := 19, descriptorIndex := 20, attributes := #[] }, { accessFlags := 24, nameIndex := 89, descriptorIndex := 86, attributes := #[] }, { accessFlags := 24, nameIndex := 85, descriptorIndex := 86, attributes := #[] }, { accessFlags := 18, nameIndex := 207, descriptorIndex := 194, attributes := #[] }, { accessFlags := 25, nameIndex := 316, descriptorIndex := 194, attributes := #[] }, { accessFlags := 25, nameIndex := 318, descriptorIndex := 194, attributes := #[] }, { accessFlags := 26, nameIndex := 320, descriptorIndex := 321, attributes := #[] }])
  fields := #[{ name := "MIN_VALUE", type := .int, accessFlags := 25, slot := 0, constantValue := 0 }, { name := "MAX_VALUE", type := .int, accessFlags := 25, slot := 1, constantValue := 0 }, { name := "TYPE", type := (.object "java/lang/Class"), accessFlags := 25, slot := 2, constantValue := 0 }, { name := "digits", type := (.array .char), accessFlags := 24, slot := 3, constantValue := 0 }, { name := "DigitTens", type := (.array .byte), accessFlags := 24, slot := 4, constantValue := 0 }, { name := "DigitOnes", type := (.array .byte), accessFlags := 24, slot := 5, constantValue := 0 }, { name := "value", type := .int, accessFlags := 18, slot := 0, constantValue := 0 }, { name := "SIZE", type := .int, accessFlags := 25, slot := 6, constantValue := 0 }, { name := "BYTES", type := .int, accessFlags := 25, slot := 7, constantValue := 0 }, { name := "serialVersionUID", type := .long, accessFlags := 26, slot := 8, constantValue := 0 }]
  methods := #[k16m0]
  instanceTypes := #[.int]
  staticTypes := #[.int, .int, (.object "java/lang/Class"), (.array .char), (.array .byte), (.array .byte), .int, .int, .long]
  resolved := Array.replicate 453 none
  statics := none }

def pool17 : Array CpInfo := pool [(1, u "java/lang/Cloneable"), (0, .class_ 1), (0, u "java/lang/Object"), (0, .class_ 3)] 3

/-- java/lang/Cloneable -/
def k17 : Class := { plain "java/lang/Cloneable" (some 0) with
  accessFlags := 1537
  interfaces := #[]
  cf := some (fileOf pool17 2 #[] #[] 1537 4 #[] #[])
  fields := #[]
  methods := #[]
  instanceTypes := #[]
  staticTypes := #[]
  resolved := Array.replicate 8 none
  statics := none }

/-- the primitive byte -/
def k18 : Class := { plain "byte" none with kind := .primitive 'B', accessFlags := 0x411 }
/-- [B -/
def k19 : Class := { plain "[B" (some 0) with kind := .array 18 .byte, interfaces := #[17, 4], accessFlags := 1041 }

/-- the primitive int -/
def k20 : Class := { plain "int" none with kind := .primitive 'I', accessFlags := 0x411 }
/-- [I -/
def k21 : Class := { plain "[I" (some 0) with kind := .array 20 .int, interfaces := #[17, 4], accessFlags := 1041 }

/-- [Lcom/example/classwright/classwright/ReferenceKind; -/
def k22 : Class := { plain "[Lcom/example/classwright/classwright/ReferenceKind;" (some 0) with kind := .array 6 (.object "com/example/classwright/classwright/ReferenceKind"), interfaces := #[17, 4], accessFlags := 1041 }

def heap : Heap := #[{ cls := 6, slots := #[.ref 3, .ref 4, .ref 5, .ref 6, .ref 7, .ref 8, .ref 9, .ref 10, .ref 11, .ref 2, .ref 13, .null], vm := .statics 6 },
  { cls := 7, slots := #[.null, .null, .null, .null, .null, .null, .null, .ref 16, .ref 17, .ref 18, .null, .null, .null, .null, .null, .null, .null, .null, .null, .null], vm := .statics 7 },
  { cls := 22, slots := #[.ref 3, .ref 4, .ref 5, .ref 6, .ref 7, .ref 8, .ref 9, .ref 10, .ref 11], vm := .none },
  { cls := 6, slots := #[.null, .int 0, .int 0, .int 1, .null, .ref 12], vm := .none },
  { cls := 6, slots := #[.null, .int 1, .int 0, .int 2, .null, .ref 12], vm := .none },
  { cls := 6, slots := #[.null, .int 2, .int 0, .int 3, .null, .ref 12], vm := .none },
  { cls := 6, slots := #[.null, .int 3, .int 0, .int 4, .null, .ref 12], vm := .none },
  { cls := 6, slots := #[.null, .int 4, .int 0, .int 5, .null, .ref 13], vm := .none },
  { cls := 6, slots := #[.null, .int 5, .int 0, .int 6, .null, .ref 15], vm := .none },
  { cls := 6, slots := #[.null, .int 6, .int 0, .int 7, .null, .ref 15], vm := .none },
  { cls := 6, slots := #[.null, .int 7, .int 0, .int 8, .null, .ref 13], vm := .none },
  { cls := 6, slots := #[.null, .int 8, .int 0, .int 9, .null, .ref 14], vm := .none },
  { cls := 13, slots := #[.int 128], vm := .none },
  { cls := 13, slots := #[.int 256], vm := .none },
  { cls := 13, slots := #[.int 512], vm := .none },
  { cls := 13, slots := #[.int 768], vm := .none },
  { cls := 7, slots := #[.null, .int 7, .int 0, .int 0, .null, .int 0, .int 0, .int 0], vm := .none },
  { cls := 7, slots := #[.null, .int 8, .int 0, .int 0, .null, .int 0, .int 0, .int 0], vm := .none },
  { cls := 7, slots := #[.null, .int 9, .int 0, .int 0, .null, .int 0, .int 0, .int 0], vm := .none }]
def classes : Array Class := #[k0, k1, k2, k3, k4, k5, k6, k7, k8, k9, k10, k11, k12, k13, k14, k15, k16, k17, k18, k19, k20, k21, k22]
def interned : List (Array UInt16 × Addr) := []
def slotsUsed : Nat := 123
def theMethod : MethodId := ⟨1, 1⟩
def args0 : Array Value := #[.int 3, .int 52]
def aboutOver (below : List Frame) : State where
  vm := { classes := classes, interned := interned.toArray }
  heap := heap
  slotsUsed := slotsUsed
  threads := #[{ frames := .invoking theMethod args0 :: below }]
def below0 : List Frame := [.native { method := ⟨0, 0⟩, args := #[] }]
def about1 : State := aboutOver below0
def p0 : Program := .bare "" "" ""
def e0 : Env := launch0.env 0 0 0
theorem w_frames : about1.frames = Frame.invoking theMethod args0 :: below0 := rfl
set_option maxRecDepth 65536 in
theorem w_args : argsFit about1.vm theMethod args0 = true := by decide +kernel
set_option maxRecDepth 65536 in
theorem w_heap : heapFits about1 = true := by decide +kernel
set_option maxRecDepth 65536 in
theorem w_runnable : about1.curStatus? = some .runnable := by decide +kernel
set_option maxRecDepth 65536 in
theorem w_alone : about1.alone = true := by decide +kernel
set_option maxRecDepth 65536 in
theorem w_named : about1.methodNamed? x = some theMethod := by decide +kernel
set_option maxRecDepth 65536 in
theorem w_hears : about1.hears theMethod below0 = true := by decide +kernel
set_option maxRecDepth 65536 in
theorem w_ripe : about1.ripe theMethod args0 below0 = true := by decide +kernel
theorem w_running : about1.status = .running := rfl
set_option maxRecDepth 65536 in
theorem w_room : about1.hasRoom e0.platform room_1 = true :=
  launch0.hasRoom_least _ room_1 (by decide +kernel) (by decide +kernel) (by decide +kernel) (by decide +kernel) (by decide +kernel) (by decide +kernel)
theorem allAtoms_all (ts : List Jvm.Cond) (a : Array Jvm.Value) (st : Jvm.State) : (allAtoms ts).before a st = ts.all (fun c => c.before a st) := by
  induction ts with
  | nil => rfl
  | cons c t ih =>
    show (Jvm.Cond.and c (allAtoms t)).before a st = _
    rw [Jvm.Cond.before_and, ih, List.all_cons]
def words1 : List Jvm.Cond := Jvm.Cond.code x code maxLocals ret :: tables_1
/-- a 'code' word, met by the world's own term for the bytes: nothing is compared byte by byte -/
theorem code_word {y : MethodName} {bytes : ByteArray} {mx : Nat} {rt : Option FieldType} {a : Array Value} {s : State} {m : MethodId} {meth : Method} {c : Code} (h1 : s.methodNamed? y = some m) (h2 : s.vm.method? m = some meth) (h3 : meth.code = some c) (h4 : c.code = bytes)
    (h5 : (c.maxLocals == mx && c.exceptionTable.isEmpty && decide (c.maxStack ≤ mostOperands) && decide (meth.sig.returnType = rt) && !meth.locks && decide (parseMethodDescriptor y.desc = some meth.sig)) = true) : (Jvm.Cond.code y bytes mx rt).before a s = true := by
  simp only [Bool.and_eq_true, beq_iff_eq, Bool.not_eq_true', decide_eq_true_eq] at h5
  obtain ⟨⟨⟨⟨⟨g1, g2⟩, g3⟩, g4⟩, g5⟩, g6⟩ := h5
  simp [Cond.before, Cond.holds, Cond.value, h1, h2, h3, h4, g1, g2, g3, g4, g5, g6]
def isCode : Jvm.Cond → Bool
  | .code _ _ _ _ => true
  | _ => false
theorem all_split {L : List Jvm.Cond} {P : Jvm.Cond → Bool} (h1 : L.all (fun c => isCode c || P c) = true) (h2 : ∀ c ∈ L.filter isCode, P c = true) : L.all P = true := by
  refine List.all_eq_true.mpr fun c hc => ?_
  have h := List.all_eq_true.mp h1 c hc
  rcases Bool.eq_false_or_eq_true (isCode c) with hi | hi
  · exact h2 c (List.mem_filter.mpr ⟨hc, hi⟩)
  · simpa [hi] using h
set_option maxRecDepth 65536 in
theorem w_c0 : (Jvm.Cond.code x code maxLocals ret).before args0 about1 = true := code_word (m := ⟨1, 1⟩) (meth := k1m1) (c := k1c1) (by decide +kernel) rfl rfl rfl (by decide +kernel)
set_option maxRecDepth 65536 in
theorem w_c1 : (Jvm.Cond.code ({ cls := "com/example/classwright/classwright/ReferenceKind", name := "forByte", desc := "(I)Lcom/example/classwright/classwright/ReferenceKind;" } : Jvm.MethodName) prog_106_method_5_code (1 : Nat) (Option.some (Jvm.ClassFile.FieldType.object "com/example/classwright/classwright/ReferenceKind"))).before args0 about1 = true := code_word (m := ⟨6, 0⟩) (meth := k6m0) (c := k6c0) (by decide +kernel) rfl rfl rfl (by decide +kernel)
set_option maxRecDepth 65536 in
theorem w_c2 : (Jvm.Cond.code ({ cls := "com/example/classwright/classwright/ReferenceKind", name := "value", desc := "()I" } : Jvm.MethodName) prog_106_method_6_code (1 : Nat) (Option.some Jvm.ClassFile.FieldType.int)).before args0 about1 = true := code_word (m := ⟨6, 1⟩) (meth := k6m1) (c := k6c1) (by decide +kernel) rfl rfl rfl (by decide +kernel)
set_option maxRecDepth 65536 in
theorem w_c3 : (Jvm.Cond.code ({ cls := "com/example/classwright/classwright/ReferenceKind", name := "targetKinds", desc := "(I)Lcom/example/classwright/classwright/KindSet;" } : Jvm.MethodName) prog_106_method_8_code (3 : Nat) (Option.some (Jvm.ClassFile.FieldType.object "com/example/classwright/classwright/KindSet"))).before args0 about1 = true := code_word (m := ⟨6, 2⟩) (meth := k6m2) (c := k6c2) (by decide +kernel) rfl rfl rfl (by decide +kernel)
set_option maxRecDepth 65536 in
theorem w_c4 : (Jvm.Cond.code ({ cls := "com/example/classwright/classwright/KindSet", name := "contains", desc := "(Ljava/lang/Object;)Z" } : Jvm.MethodName) prog_67_method_3_code (3 : Nat) (Option.some Jvm.ClassFile.FieldType.boolean)).before args0 about1 = true := code_word (m := ⟨13, 0⟩) (meth := k13m0) (c := k13c0) (by decide +kernel) rfl rfl rfl (by decide +kernel)
set_option maxRecDepth 65536 in
theorem w_c5 : (Jvm.Cond.code ({ cls := "java/lang/Enum", name := "ordinal", desc := "()I" } : Jvm.MethodName) jdk_37_method_2_code (1 : Nat) (Option.some Jvm.ClassFile.FieldType.int)).before args0 about1 = true := code_word (m := ⟨5, 0⟩) (meth := k5m0) (c := k5c0) (by decide +kernel) rfl rfl rfl (by decide +kernel)
set_option maxRecDepth 65536 in
theorem w_c6 : (Jvm.Cond.code ({ cls := "com/example/classwright/classwright/KindSet", name := "size", desc := "()I" } : Jvm.MethodName) prog_67_method_4_code (1 : Nat) (Option.some Jvm.ClassFile.FieldType.int)).before args0 about1 = true := code_word (m := ⟨13, 1⟩) (meth := k13m1) (c := k13c1) (by decide +kernel) rfl rfl rfl (by decide +kernel)
set_option maxRecDepth 65536 in
theorem w_c7 : (Jvm.Cond.code ({ cls := "java/lang/Integer", name := "bitCount", desc := "(I)I" } : Jvm.MethodName) jdk_33_method_49_code (1 : Nat) (Option.some Jvm.ClassFile.FieldType.int)).before args0 about1 = true := code_word (m := ⟨16, 0⟩) (meth := k16m0) (c := k16c0) (by decide +kernel) rfl rfl rfl (by decide +kernel)
def codes1 : List Jvm.Cond := [Jvm.Cond.code x code maxLocals ret, Jvm.Cond.code ({ cls := "com/example/classwright/classwright/ReferenceKind", name := "forByte", desc := "(I)Lcom/example/classwright/classwright/ReferenceKind;" } : Jvm.MethodName) prog_106_method_5_code (1 : Nat) (Option.some (Jvm.ClassFile.FieldType.object "com/example/classwright/classwright/ReferenceKind")), Jvm.Cond.code ({ cls := "com/example/classwright/classwright/ReferenceKind", name := "value", desc := "()I" } : Jvm.MethodName) prog_106_method_6_code (1 : Nat) (Option.some Jvm.ClassFile.FieldType.int), Jvm.Cond.code ({ cls := "com/example/classwright/classwright/ReferenceKind", name := "targetKinds", desc := "(I)Lcom/example/classwright/classwright/KindSet;" } : Jvm.MethodName) prog_106_method_8_code (3 : Nat) (Option.some (Jvm.ClassFile.FieldType.object "com/example/classwright/classwright/KindSet")), Jvm.Cond.code ({ cls := "com/example/classwright/classwright/KindSet", name := "contains", desc := "(Ljava/lang/Object;)Z" } : Jvm.MethodName) prog_67_method_3_code (3 : Nat) (Option.some Jvm.ClassFile.FieldType.boolean), Jvm.Cond.code ({ cls := "java/lang/Enum", name := "ordinal", desc := "()I" } : Jvm.MethodName) jdk_37_method_2_code (1 : Nat) (Option.some Jvm.ClassFile.FieldType.int), Jvm.Cond.code ({ cls := "com/example/classwright/classwright/KindSet", name := "size", desc := "()I" } : Jvm.MethodName) prog_67_method_4_code (1 : Nat) (Option.some Jvm.ClassFile.FieldType.int), Jvm.Cond.code ({ cls := "java/lang/Integer", name := "bitCount", desc := "(I)I" } : Jvm.MethodName) jdk_33_method_49_code (1 : Nat) (Option.some Jvm.ClassFile.FieldType.int)]
set_option maxRecDepth 65536 in
theorem codes_eq : words1.filter isCode = codes1 := rfl
theorem w_codes : ∀ c ∈ words1.filter isCode, c.before args0 about1 = true := by
  rw [codes_eq]
  intro c hc
  simp only [codes1, List.mem_cons, List.not_mem_nil, or_false] at hc
  rcases hc with rfl | rfl | rfl | rfl | rfl | rfl | rfl | rfl
  · exact w_c0
  · exact w_c1
  · exact w_c2
  · exact w_c3
  · exact w_c4
  · exact w_c5
  · exact w_c6
  · exact w_c7
set_option maxRecDepth 65536 in
theorem w_t1 : (words1.take 24).all (fun c => isCode c || c.before args0 about1) = true := by decide +kernel
set_option maxRecDepth 65536 in
theorem w_t2 : ((words1.drop 24).take 24).all (fun c => isCode c || c.before args0 about1) = true := by decide +kernel
set_option maxRecDepth 65536 in
theorem w_t3 : (((words1.drop 24).drop 24).take 24).all (fun c => isCode c || c.before args0 about1) = true := by decide +kernel
set_option maxRecDepth 65536 in
theorem w_t4 : (((words1.drop 24).drop 24).drop 24).all (fun c => isCode c || c.before args0 about1) = true := by decide +kernel
theorem w_tables : (allAtoms (Jvm.Cond.code x code maxLocals ret :: tables_1)).before args0 about1 = true := by
  rw [allAtoms_all]
  show words1.all (fun c => c.before args0 about1) = true
  refine all_split ?_ w_codes
  rw [← List.take_append_drop 24 words1, List.all_append, w_t1, ← List.take_append_drop 24 (words1.drop 24), List.all_append, w_t2, ← List.take_append_drop 24 ((words1.drop 24).drop 24), List.all_append, w_t3, w_t4]
  rfl
set_option maxRecDepth 65536 in
theorem w_case : (Jvm.Cond.and given_1 narrow_1).before args0 about1 = true := by decide +kernel
theorem w_applies : (headSpec (Jvm.Cond.code x code maxLocals ret :: tables_1) room_1).applies x e0.platform about1 = true :=
  (Spec.applies_iff w_frames).mpr ⟨w_running, w_runnable, w_alone, w_named, w_hears, w_ripe, w_room, w_tables⟩
theorem atStart : AtStart classFile x code maxLocals ret World_1 tables_1 room_1 Calls_1 rest_1 Pre_1 launch0 p0 e0 about1 theMethod args0 below0 :=
  ⟨lists_1, trivial, launch0.admits_env _ _ _, launch0.least_env, fairChoices_fair.cas, fairChoices_fair.clock, w_frames, w_args, w_heap, w_applies, trivial, trivial, w_case⟩
end start1
theorem witness_1 : WitnessClaimed_1 := ⟨start1.p0, start1.e0, start1.about1, start1.theMethod, start1.args0, start1.below0, start1.atStart⟩
end Jvm.Pilot.@@N@@
