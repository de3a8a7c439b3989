import JvmDerived
import JvmDerived.Pilot.@@N@@Statement
import JvmDerived.Pilot.@@N@@Code
set_option linter.unusedVariables false
set_option linter.unusedSimpArgs false
namespace Jvm.RoadKit
open Sem ClassFile Op Lib Jvm.Stand Jvm.Free Jvm.LawKit
section OwnGo
variable {p : Program} {l : Launch} {e : Env} {R : Room} {s : State} {m : MethodId} {args : Array Value} {below : List Frame} {meth : Method} {c : Code} {T T' : State} {locs : List Loc} {cells slots ck sk : Nat} {Q : Option Value → Heap → List Loc → Prop}
/-- from the state T the body comes to its end, with Q -/
def Go (p : Program) (e : Env) (below : List Frame) (s : State) (ck sk : Nat) (Q : Option Value → Heap → List Loc → Prop) (T : State) : Prop :=
  ∃ s₂ o, Steps p.tables e below T s₂ ∧ s₂.status = .running ∧ Ended s₂ below o ∧ ∃ v L, o = .returned v ∧ Q v s₂.heap L ∧ FrameEnd s o s₂ L ck sk
theorem Go.by (h : ∀ t, Steps p.tables e below T' t → Steps p.tables e below T t) (g : Go p e below s ck sk Q T') : Go p e below s ck sk Q T := by
  obtain ⟨s₂, o, h1, r⟩ := g
  exact ⟨s₂, o, h _ h1, r⟩
theorem Go.tr (h : Steps p.tables e below T T') (g : Go p e below s ck sk Q T') : Go p e below s ck sk Q T := by
  obtain ⟨s₂, o, h1, r⟩ := g
  exact ⟨s₂, o, h.trans h1, r⟩
theorem Go.fin (X : Stand p l e R s m args below meth c T locs cells slots) {v : Option Value} (hv : meth.sig.returnType = none → v = none) (hlk : meth.locks = false)
    (st : ∀ fs : List Frame, (∀ (f : JFrame) (acts : List Action), f.method = m → f.locked = none → f.entered = [] → (doReturn e (T.setTop f) acts v).1 = T.setFrames fs) → Steps p.tables e below T' (T.setFrames fs))
    (hq : Q v T.heap locs) (hc : cells ≤ ck) (hs : slots ≤ sk) : Go p e below s ck sk Q T' := by
  obtain ⟨fs, hr, hrun, hended, hW, hsame⟩ := X.leave hv hlk
  exact ⟨_, _, st fs hr, hrun, hended, _, _, rfl, hq, ⟨_, rfl⟩, hW, hsame.mono hc hs⟩
theorem Go.retV (X : Stand p l e R s m args below meth c T locs cells slots) (hx : p.tables.exec = Jvm.exec) {pc : Nat} {Ls : Array Slot} (hret : meth.sig.returnType = none) (hlk : meth.locks = false) (hd : decode c.code pc = .ok (.return_, 1))
    (hq : Q none T.heap locs) (hc : cells ≤ ck) (hs : slots ≤ sk) : Go p e below s ck sk Q (T.setTop (mkF m pc Ls [])) :=
  Go.fin X (fun _ => rfl) hlk (fun fs hr => X.returnOut hx hret hd hr) hq hc hs
theorem Go.retN (X : Stand p l e R s m args below meth c T locs cells slots) (hx : p.tables.exec = Jvm.exec) {pc : Nat} {Ls : Array Slot} {z : Int32} {t : FieldType} {rest : List Value} (hret : meth.sig.returnType = some t) (ht : t = .boolean ∨ t = .byte ∨ t = .char ∨ t = .short) (hlk : meth.locks = false) (hd : decode c.code pc = .ok (.ireturn, 1))
    (hq : Q (some (.int (nar t z))) T.heap locs) (hc : cells ≤ ck) (hs : slots ≤ sk) : Go p e below s ck sk Q (T.setTop (mkF m pc Ls (.int z :: rest))) :=
  Go.fin X (fun h => by rw [hret] at h; cases h) hlk (fun fs hr => Jvm.RoadKit.retN X hx hret ht hd hr) hq hc hs
theorem Go.retI (X : Stand p l e R s m args below meth c T locs cells slots) (hx : p.tables.exec = Jvm.exec) {pc : Nat} {Ls : Array Slot} {z : Int32} {rest : List Value} (hret : meth.sig.returnType = some .int) (hlk : meth.locks = false) (hd : decode c.code pc = .ok (.ireturn, 1))
    (hq : Q (some (.int z)) T.heap locs) (hc : cells ≤ ck) (hs : slots ≤ sk) : Go p e below s ck sk Q (T.setTop (mkF m pc Ls (.int z :: rest))) :=
  Go.fin X (fun h => by rw [hret] at h; cases h) hlk (fun fs hr => retOut X hx hret rfl (Or.inl ⟨rfl, Or.inl rfl, z, rfl⟩) hd hr) hq hc hs
theorem Go.retJ (X : Stand p l e R s m args below meth c T locs cells slots) (hx : p.tables.exec = Jvm.exec) {pc : Nat} {Ls : Array Slot} {z : Int64} {rest : List Value} (hret : meth.sig.returnType = some .long) (hlk : meth.locks = false) (hd : decode c.code pc = .ok (.lreturn, 1))
    (hq : Q (some (.long z)) T.heap locs) (hc : cells ≤ ck) (hs : slots ≤ sk) : Go p e below s ck sk Q (T.setTop (mkF m pc Ls (.long z :: rest))) :=
  Go.fin X (fun h => by rw [hret] at h; cases h) hlk (fun fs hr => retOut X hx hret rfl (Or.inr (Or.inl ⟨rfl, rfl, z, rfl⟩)) hd hr) hq hc hs
theorem Go.retR (X : Stand p l e R s m args below meth c T locs cells slots) (hx : p.tables.exec = Jvm.exec) {pc : Nat} {Ls : Array Slot} {w : Value} {t : FieldType} {rest : List Value} (hret : meth.sig.returnType = some t) (ht : t.isReference = true) (hw : w.isRef = true) (hlk : meth.locks = false) (hd : decode c.code pc = .ok (.areturn, 1))
    (hq : Q (some w) T.heap locs) (hc : cells ≤ ck) (hs : slots ≤ sk) : Go p e below s ck sk Q (T.setTop (mkF m pc Ls (w :: rest))) := by
  refine Go.fin X (fun h => by rw [hret] at h; cases h) hlk (fun fs hr => retOut X hx hret ?_ (Or.inr (Or.inr (Or.inr (Or.inr ⟨rfl, ht, hw⟩)))) hd hr) hq hc hs
  rcases ref_cases hw with rfl | ⟨a, rfl⟩ <;> cases t <;> first | rfl | cases ht
/-- the same where Strings may be interned on the way -/
def GoW (p : Program) (e : Env) (below : List Frame) (s : State) (ck sk : Nat) (Q : Option Value → Heap → List Loc → Prop) (T : State) : Prop :=
  ∃ s₂ o, Steps p.tables e below T s₂ ∧ s₂.status = .running ∧ Ended s₂ below o ∧ ∃ v L, o = .returned v ∧ Q v s₂.heap L ∧ ReturnedEndW s o s₂ L ck sk
theorem GoW.by (h : ∀ t, Steps p.tables e below T' t → Steps p.tables e below T t) (g : GoW p e below s ck sk Q T') : GoW p e below s ck sk Q T := by
  obtain ⟨s₂, o, h1, r⟩ := g
  exact ⟨s₂, o, h _ h1, r⟩
theorem GoW.tr (h : Steps p.tables e below T T') (g : GoW p e below s ck sk Q T') : GoW p e below s ck sk Q T := by
  obtain ⟨s₂, o, h1, r⟩ := g
  exact ⟨s₂, o, h.trans h1, r⟩
theorem GoW.fin {vm1 : Vm} {k1 : Nat} (X : Stand p l e R (s.setVm vm1) m args below meth c T locs cells slots) (hS : s.Since vm1 k1) (hk : k1 ≤ T.heap.size) {v : Option Value} (hv : meth.sig.returnType = none → v = none) (hlk : meth.locks = false)
    (st : ∀ fs : List Frame, (∀ (f : JFrame) (acts : List Action), f.method = m → f.locked = none → f.entered = [] → (doReturn e (T.setTop f) acts v).1 = T.setFrames fs) → Steps p.tables e below T' (T.setFrames fs))
    (hq : Q v T.heap locs) (hc : cells ≤ ck) (hs : slots ≤ sk) : GoW p e below s ck sk Q T' := by
  obtain ⟨fs, hr, hrun, hended, hW, hsame⟩ := X.leave hv hlk
  obtain ⟨q1, q2, q3⟩ := hS.ended (U := T.setFrames fs) hW hk hsame
  exact ⟨_, _, st fs hr, hrun, hended, _, _, rfl, hq, ⟨_, rfl⟩, q1, q2, q3.mono hc hs⟩
theorem GoW.retV {vm1 : Vm} {k1 : Nat} (X : Stand p l e R (s.setVm vm1) m args below meth c T locs cells slots) (hS : s.Since vm1 k1) (hk : k1 ≤ T.heap.size) (hx : p.tables.exec = Jvm.exec) {pc : Nat} {Ls : Array Slot} (hret : meth.sig.returnType = none) (hlk : meth.locks = false) (hd : decode c.code pc = .ok (.return_, 1))
    (hq : Q none T.heap locs) (hc : cells ≤ ck) (hs : slots ≤ sk) : GoW p e below s ck sk Q (T.setTop (mkF m pc Ls [])) :=
  GoW.fin X hS hk (fun _ => rfl) hlk (fun fs hr => X.returnOut hx hret hd hr) hq hc hs
theorem GoW.retN {vm1 : Vm} {k1 : Nat} (X : Stand p l e R (s.setVm vm1) m args below meth c T locs cells slots) (hS : s.Since vm1 k1) (hk : k1 ≤ T.heap.size) (hx : p.tables.exec = Jvm.exec) {pc : Nat} {Ls : Array Slot} {z : Int32} {t : FieldType} {rest : List Value} (hret : meth.sig.returnType = some t) (ht : t = .boolean ∨ t = .byte ∨ t = .char ∨ t = .short) (hlk : meth.locks = false) (hd : decode c.code pc = .ok (.ireturn, 1))
    (hq : Q (some (.int (nar t z))) T.heap locs) (hc : cells ≤ ck) (hs : slots ≤ sk) : GoW p e below s ck sk Q (T.setTop (mkF m pc Ls (.int z :: rest))) :=
  GoW.fin X hS hk (fun h => by rw [hret] at h; cases h) hlk (fun fs hr => Jvm.RoadKit.retN X hx hret ht hd hr) hq hc hs
theorem GoW.retR {vm1 : Vm} {k1 : Nat} (X : Stand p l e R (s.setVm vm1) m args below meth c T locs cells slots) (hS : s.Since vm1 k1) (hk : k1 ≤ T.heap.size) (hx : p.tables.exec = Jvm.exec) {pc : Nat} {Ls : Array Slot} {w : Value} {t : FieldType} {rest : List Value} (hret : meth.sig.returnType = some t) (ht : t.isReference = true) (hw : w.isRef = true) (hlk : meth.locks = false) (hd : decode c.code pc = .ok (.areturn, 1))
    (hq : Q (some w) T.heap locs) (hc : cells ≤ ck) (hs : slots ≤ sk) : GoW p e below s ck sk Q (T.setTop (mkF m pc Ls (w :: rest))) := by
  refine GoW.fin X hS hk (fun h => by rw [hret] at h; cases h) hlk (fun fs hr => retOut X hx hret ?_ (Or.inr (Or.inr (Or.inr (Or.inr ⟨rfl, ht, hw⟩)))) hd hr) hq hc hs
  rcases ref_cases hw with rfl | ⟨a, rfl⟩ <;> cases t <;> first | rfl | cases ht
end OwnGo
theorem own_selp {Z s : State} {a0 args : Array Value} {y : MethodName} {n : Nat} (hZ : Z.Warmed39 s.vm) (wi : (Cond.instantiable y.cls n).before a0 Z = true) (wp : (Cond.privateMethod y).before a0 Z = true) (wm : (Cond.instanceMethod y).before a0 Z = true) (hy : y.cls ≠ "java/lang/invoke/MethodHandle" ∧ y.cls ≠ "java/lang/invoke/VarHandle") : (Cond.selects y.cls y y).before args s = true := by
  obtain ⟨c, k, h1, h2, -, h4, -⟩ := Cond.instantiable_spec (mv (args := args) hZ wi)
  exact selects_self_of_private h1 h2 (by simpa using (Bool.or_eq_false_iff.mp h4).1) (Cond.privateMethod_at (mvP (args := args) hZ wp)) (mv hZ wm) hy
theorem own_zn {z : Int32} (h : z = (0 : Int32) ∨ z = (1 : Int32)) : narrow .boolean (.int z) = .int z := by rcases h with rfl | rfl <;> rfl
theorem own_zf {z : Int32} (h : z = (0 : Int32) ∨ z = (1 : Int32)) : fits .boolean (.int z) = true := by rcases h with rfl | rfl <;> rfl
theorem own_ns {Z : State} {h : Heap} {b : Addr} {C : String} (E : Exa Z h b C) : ∀ cell : Cell, h[b]? = some cell → cell.vm.isStatics = false := fun cell hc => by
  obtain ⟨c, _, h1, -, -, h4, -⟩ := E
  cases h1.symm.trans hc
  exact h4
theorem own_stakeep {Z : State} {h h' : Heap} {C n d : String} {v : Value} {ws : List Addr} (F : Sta Z h C n d v) (K : Keep h h' ws) (q : ∀ x ∈ ws, ∀ cell : Cell, h[x]? = some cell → cell.vm.isStatics = false) : Sta Z h' C n d v := by
  obtain ⟨cf, i, k, f, st, cell, h1, h2, h3, h4, h5, h6, h7⟩ := F
  refine ⟨cf, i, k, f, st, cell, h1, h2, h3, h4, K.2.1 st cell h5 fun z => ?_, h6, h7⟩
  rw [q st z cell h5] at h6
  cases h6
section OwnLong
variable {Z : State} {h h' : Heap} {a b : Addr} {k : ClassId} {n j : Int32} {x : Int64} {ws : List Addr} {sl : Nat} {v : Value}
/-- a long[] of the length n, whatever it holds -/
def LA (Z : State) (h : Heap) (a : Addr) (k : ClassId) (n : Int32) : Prop := ∃ c : Cell, Arr Z h a c .long ∧ c.cls = k ∧ c.slots.size = n.toNatClampNeg ∧ ¬ n < 0 ∧ ∀ i, i < c.slots.size → ∃ x : Int64, c.slots[i]? = some (.long x)
theorem LA.lt (F : LA Z h a k n) : a < h.size := by obtain ⟨c, A, -⟩ := F; exact A.lt
theorem LA.ext (F : LA Z h a k n) (E : Ext h h') : LA Z h' a k n := by obtain ⟨c, A, r⟩ := F; exact ⟨c, A.ext E, r⟩
theorem LA.other (F : LA Z h b k n) (W : Wr h h' a sl v) (q : b ≠ a) : LA Z h' b k n := by obtain ⟨c, A, r⟩ := F; exact ⟨c, A.other W q, r⟩
theorem LA.keep (F : LA Z h a k n) (K : Keep h h' ws) (q : a ∉ ws) : LA Z h' a k n := by obtain ⟨c, A, r⟩ := F; exact ⟨c, ⟨K.2.1 a c A.1 q, A.2⟩, r⟩
theorem LA.new (A : Arr Z h a (newA k .long n) .long) (q : ¬ n < 0) : LA Z h a k n := ⟨_, A, rfl, sz_new _ _ _, q, fun i hi => ⟨0, by
  have hi' : i < n.toNatClampNeg := by rw [sz_new] at hi; exact hi
  show (Array.replicate n.toNatClampNeg (defaultValue .long))[i]? = _
  simp [hi', defaultValue]⟩⟩
theorem LA.set {c : Cell} (A : Arr Z h a c .long) (q1 : c.cls = k) (S : c.slots.size = n.toNatClampNeg) (q3 : ¬ n < 0) (G : ∀ i, i < c.slots.size → ∃ x : Int64, c.slots[i]? = some (.long x)) (W : Wr h h' a sl (.long x)) : LA Z h' a k n := by
  refine ⟨_, A.same W, q1, by rw [sz_set]; exact S, q3, fun i hi => ?_⟩
  rw [sz_set] at hi
  by_cases e : sl = i
  · subst e; exact ⟨x, by simp [Cell.setSlot, hi]⟩
  · obtain ⟨y, hy⟩ := G i hi
    exact ⟨y, by rw [← hy]; exact Array.getElem?_setIfInBounds_ne e⟩
end OwnLong
section OwnStart
variable {args : Array Value} {s : State} {a b t : Term}
theorem own_eqI {n : Int32} (h : (Cond.eq a (.int n)).value args s none s [] = some true) : a.eval args s none [] s = some (.int n) := by
  cases ha : a.eval args s none [] s with
  | none => simp [Cond.value, ha] at h
  | some x => cases x <;> simp [Cond.value, ha, Term.eval] at h ⊢ <;> exact h
theorem own_eqL {n : Int64} (h : (Cond.eq a (.long n)).value args s none s [] = some true) : a.eval args s none [] s = some (.long n) := by
  cases ha : a.eval args s none [] s with
  | none => simp [Cond.value, ha] at h
  | some x => cases x <;> simp [Cond.value, ha, Term.eval] at h ⊢ <;> exact h
theorem own_eqR {x : Addr} (h : (Cond.eq a b).value args s none s [] = some true) (hb : b.eval args s none [] s = some (.ref x)) : a.eval args s none [] s = some (.ref x) := by
  cases ha : a.eval args s none [] s with
  | none => simp [Cond.value, ha] at h
  | some y => cases y <;> simp [Cond.value, ha, hb] at h ⊢ <;> exact h
theorem own_neR {x y : Addr} (h : (Cond.not (Cond.eq a b)).value args s none s [] = some true) (ha : a.eval args s none [] s = some (.ref x)) (hb : b.eval args s none [] s = some (.ref y)) : x ≠ y := by
  intro e
  subst e
  simp [Cond.value, ha, hb] at h
theorem own_lenv {n : Int32} {x : Addr} {cl : Cell} (h : (Term.length t).eval args s none [] s = some (.int n)) (ht : t.eval args s none [] s = some (.ref x)) (hc : s.heap[x]? = some cl) : cl.slots.size < 2 ^ 31 ∧ cl.slots.size.toInt32 = n := by
  obtain ⟨a', cell, e1, e2, e3⟩ := Term.length_spec h
  cases ht.symm.trans e1
  have hcl : cell = cl := by
    simp only [State.arrayAt?, hc, Option.bind_eq_bind, Option.bind_some] at e2
    cases hk : s.vm.classes[cl.cls]? with
    | none => simp [hk] at e2
    | some k =>
      simp only [hk, Option.bind_some] at e2
      split at e2
      · cases e2
      · split at e2
        · exact (Option.some.inj e2).symm
        · cases e2
  subst hcl
  refine ⟨?_, (Value.int.inj e3).symm⟩
  simp only [Term.eval, ht, e2, Option.bind_eq_bind, Option.bind_some] at h
  split at h
  · assumption
  · cases h
end OwnStart
end Jvm.RoadKit
namespace Jvm.Pilot.@@N@@
open Jvm Jvm.ClassFile Sem Op Lib Jvm.Free Jvm.Stand Jvm.LawKit Jvm.RoadKit Bundle Jvm.Pilot.@@N@@.Jvm.D
theorem dEn_0 : decode prog_26_method_4_code 0 = .ok (.iload_n 0, 1) := by decide +kernel
theorem dEn_1 : decode prog_26_method_4_code 1 = .ok (.sipush 128, 3) := by decide +kernel
theorem dEn_4 : decode prog_26_method_4_code 4 = .ok (.if_icmp .ge 5, 3) := by decide +kernel
theorem dEn_7 : decode prog_26_method_4_code 7 = .ok (.iload_n 0, 1) := by decide +kernel
theorem dEn_8 : decode prog_26_method_4_code 8 = .ok (.ireturn, 1) := by decide +kernel
theorem dEn_9 : decode prog_26_method_4_code 9 = .ok (.iload_n 0, 1) := by decide +kernel
theorem dEn_10 : decode prog_26_method_4_code 10 = .ok (.sipush 2048, 3) := by decide +kernel
theorem dEn_13 : decode prog_26_method_4_code 13 = .ok (.if_icmp .ge 24, 3) := by decide +kernel
theorem dEn_16 : decode prog_26_method_4_code 16 = .ok (.sipush 192, 3) := by decide +kernel
theorem dEn_19 : decode prog_26_method_4_code 19 = .ok (.iload_n 0, 1) := by decide +kernel
theorem dEn_20 : decode prog_26_method_4_code 20 = .ok (.bipush 6, 2) := by decide +kernel
theorem dEn_22 : decode prog_26_method_4_code 22 = .ok (.iushr, 1) := by decide +kernel
theorem dEn_23 : decode prog_26_method_4_code 23 = .ok (.ior, 1) := by decide +kernel
theorem dEn_24 : decode prog_26_method_4_code 24 = .ok (.sipush 128, 3) := by decide +kernel
theorem dEn_27 : decode prog_26_method_4_code 27 = .ok (.iload_n 0, 1) := by decide +kernel
theorem dEn_28 : decode prog_26_method_4_code 28 = .ok (.bipush 63, 2) := by decide +kernel
theorem dEn_30 : decode prog_26_method_4_code 30 = .ok (.iand, 1) := by decide +kernel
theorem dEn_31 : decode prog_26_method_4_code 31 = .ok (.ior, 1) := by decide +kernel
theorem dEn_32 : decode prog_26_method_4_code 32 = .ok (.bipush 8, 2) := by decide +kernel
theorem dEn_34 : decode prog_26_method_4_code 34 = .ok (.ishl, 1) := by decide +kernel
theorem dEn_35 : decode prog_26_method_4_code 35 = .ok (.ior, 1) := by decide +kernel
theorem dEn_36 : decode prog_26_method_4_code 36 = .ok (.ireturn, 1) := by decide +kernel
theorem dEn_37 : decode prog_26_method_4_code 37 = .ok (.iload_n 0, 1) := by decide +kernel
theorem dEn_38 : decode prog_26_method_4_code 38 = .ok (.ldc 53, 2) := by decide +kernel
theorem dEn_40 : decode prog_26_method_4_code 40 = .ok (.if_icmp .ge 39, 3) := by decide +kernel
theorem dEn_43 : decode prog_26_method_4_code 43 = .ok (.sipush 224, 3) := by decide +kernel
theorem dEn_46 : decode prog_26_method_4_code 46 = .ok (.iload_n 0, 1) := by decide +kernel
theorem dEn_47 : decode prog_26_method_4_code 47 = .ok (.bipush 12, 2) := by decide +kernel
theorem dEn_49 : decode prog_26_method_4_code 49 = .ok (.iushr, 1) := by decide +kernel
theorem dEn_50 : decode prog_26_method_4_code 50 = .ok (.ior, 1) := by decide +kernel
theorem dEn_51 : decode prog_26_method_4_code 51 = .ok (.sipush 128, 3) := by decide +kernel
theorem dEn_54 : decode prog_26_method_4_code 54 = .ok (.iload_n 0, 1) := by decide +kernel
theorem dEn_55 : decode prog_26_method_4_code 55 = .ok (.bipush 6, 2) := by decide +kernel
theorem dEn_57 : decode prog_26_method_4_code 57 = .ok (.iushr, 1) := by decide +kernel
theorem dEn_58 : decode prog_26_method_4_code 58 = .ok (.bipush 63, 2) := by decide +kernel
theorem dEn_60 : decode prog_26_method_4_code 60 = .ok (.iand, 1) := by decide +kernel
theorem dEn_61 : decode prog_26_method_4_code 61 = .ok (.ior, 1) := by decide +kernel
theorem dEn_62 : decode prog_26_method_4_code 62 = .ok (.bipush 8, 2) := by decide +kernel
theorem dEn_64 : decode prog_26_method_4_code 64 = .ok (.ishl, 1) := by decide +kernel
theorem dEn_65 : decode prog_26_method_4_code 65 = .ok (.ior, 1) := by decide +kernel
theorem dEn_66 : decode prog_26_method_4_code 66 = .ok (.sipush 128, 3) := by decide +kernel
theorem dEn_69 : decode prog_26_method_4_code 69 = .ok (.iload_n 0, 1) := by decide +kernel
theorem dEn_70 : decode prog_26_method_4_code 70 = .ok (.bipush 63, 2) := by decide +kernel
theorem dEn_72 : decode prog_26_method_4_code 72 = .ok (.iand, 1) := by decide +kernel
theorem dEn_73 : decode prog_26_method_4_code 73 = .ok (.ior, 1) := by decide +kernel
theorem dEn_74 : decode prog_26_method_4_code 74 = .ok (.bipush 16, 2) := by decide +kernel
theorem dEn_76 : decode prog_26_method_4_code 76 = .ok (.ishl, 1) := by decide +kernel
theorem dEn_77 : decode prog_26_method_4_code 77 = .ok (.ior, 1) := by decide +kernel
theorem dEn_78 : decode prog_26_method_4_code 78 = .ok (.ireturn, 1) := by decide +kernel
theorem dEn_79 : decode prog_26_method_4_code 79 = .ok (.sipush 240, 3) := by decide +kernel
theorem dEn_82 : decode prog_26_method_4_code 82 = .ok (.iload_n 0, 1) := by decide +kernel
theorem dEn_83 : decode prog_26_method_4_code 83 = .ok (.bipush 18, 2) := by decide +kernel
theorem dEn_85 : decode prog_26_method_4_code 85 = .ok (.iushr, 1) := by decide +kernel
theorem dEn_86 : decode prog_26_method_4_code 86 = .ok (.ior, 1) := by decide +kernel
theorem dEn_87 : decode prog_26_method_4_code 87 = .ok (.sipush 128, 3) := by decide +kernel
theorem dEn_90 : decode prog_26_method_4_code 90 = .ok (.iload_n 0, 1) := by decide +kernel
theorem dEn_91 : decode prog_26_method_4_code 91 = .ok (.bipush 12, 2) := by decide +kernel
theorem dEn_93 : decode prog_26_method_4_code 93 = .ok (.iushr, 1) := by decide +kernel
theorem dEn_94 : decode prog_26_method_4_code 94 = .ok (.bipush 63, 2) := by decide +kernel
theorem dEn_96 : decode prog_26_method_4_code 96 = .ok (.iand, 1) := by decide +kernel
theorem dEn_97 : decode prog_26_method_4_code 97 = .ok (.ior, 1) := by decide +kernel
theorem dEn_98 : decode prog_26_method_4_code 98 = .ok (.bipush 8, 2) := by decide +kernel
theorem dEn_100 : decode prog_26_method_4_code 100 = .ok (.ishl, 1) := by decide +kernel
theorem dEn_101 : decode prog_26_method_4_code 101 = .ok (.ior, 1) := by decide +kernel
theorem dEn_102 : decode prog_26_method_4_code 102 = .ok (.sipush 128, 3) := by decide +kernel
theorem dEn_105 : decode prog_26_method_4_code 105 = .ok (.iload_n 0, 1) := by decide +kernel
theorem dEn_106 : decode prog_26_method_4_code 106 = .ok (.bipush 6, 2) := by decide +kernel
theorem dEn_108 : decode prog_26_method_4_code 108 = .ok (.iushr, 1) := by decide +kernel
theorem dEn_109 : decode prog_26_method_4_code 109 = .ok (.bipush 63, 2) := by decide +kernel
theorem dEn_111 : decode prog_26_method_4_code 111 = .ok (.iand, 1) := by decide +kernel
theorem dEn_112 : decode prog_26_method_4_code 112 = .ok (.ior, 1) := by decide +kernel
theorem dEn_113 : decode prog_26_method_4_code 113 = .ok (.bipush 16, 2) := by decide +kernel
theorem dEn_115 : decode prog_26_method_4_code 115 = .ok (.ishl, 1) := by decide +kernel
theorem dEn_116 : decode prog_26_method_4_code 116 = .ok (.ior, 1) := by decide +kernel
theorem dEn_117 : decode prog_26_method_4_code 117 = .ok (.sipush 128, 3) := by decide +kernel
theorem dEn_120 : decode prog_26_method_4_code 120 = .ok (.iload_n 0, 1) := by decide +kernel
theorem dEn_121 : decode prog_26_method_4_code 121 = .ok (.bipush 63, 2) := by decide +kernel
theorem dEn_123 : decode prog_26_method_4_code 123 = .ok (.iand, 1) := by decide +kernel
theorem dEn_124 : decode prog_26_method_4_code 124 = .ok (.ior, 1) := by decide +kernel
theorem dEn_125 : decode prog_26_method_4_code 125 = .ok (.bipush 24, 2) := by decide +kernel
theorem dEn_127 : decode prog_26_method_4_code 127 = .ok (.ishl, 1) := by decide +kernel
theorem dEn_128 : decode prog_26_method_4_code 128 = .ok (.ior, 1) := by decide +kernel
theorem dEn_129 : decode prog_26_method_4_code 129 = .ok (.ireturn, 1) := by decide +kernel
theorem pnEn : plainName "com/example/pctenc/pctenc/Utf8" = true := by first | (simp [plainName, overriddenIn]; done) | decide +kernel
theorem efEn (m : MethodId) (cp : Int32) : entryFrame m #[(.int cp)] 1 = mkF m 0 #[.val (.int cp)] [] := by first | (simp [entryFrame, mkF, argsToLocals, Value.category]; done) | rfl
def fEn (cp : Int32) : Int32 := (if cp < (128 : Int32) then cp else (if cp < (2048 : Int32) then (((192 : Int32) ||| ((cp.toUInt32 >>> ((6 : Int32) &&& 31).toUInt32).toInt32)) ||| (((128 : Int32) ||| (cp &&& (63 : Int32))) <<< ((8 : Int32) &&& 31))) else (if cp < (65536 : Int32) then ((((224 : Int32) ||| ((cp.toUInt32 >>> ((12 : Int32) &&& 31).toUInt32).toInt32)) ||| (((128 : Int32) ||| (((cp.toUInt32 >>> ((6 : Int32) &&& 31).toUInt32).toInt32) &&& (63 : Int32))) <<< ((8 : Int32) &&& 31))) ||| (((128 : Int32) ||| (cp &&& (63 : Int32))) <<< ((16 : Int32) &&& 31))) else (((((240 : Int32) ||| ((cp.toUInt32 >>> ((18 : Int32) &&& 31).toUInt32).toInt32)) ||| (((128 : Int32) ||| (((cp.toUInt32 >>> ((12 : Int32) &&& 31).toUInt32).toInt32) &&& (63 : Int32))) <<< ((8 : Int32) &&& 31))) ||| (((128 : Int32) ||| (((cp.toUInt32 >>> ((6 : Int32) &&& 31).toUInt32).toInt32) &&& (63 : Int32))) <<< ((16 : Int32) &&& 31))) ||| (((128 : Int32) ||| (cp &&& (63 : Int32))) <<< ((24 : Int32) &&& 31))))))
def QEn (Z : State) (cp : Int32) (h0 : Heap) (n0 : Nat) (v : Option Value) (h : Heap) (L : List Loc) : Prop := v = some (.int (fEn cp)) ∧ Fr n0 L ∧ h = h0
set_option maxRecDepth 65536 in
set_option maxHeartbeats 40000000 in
theorem rmEn (l : Launch) (Z : State) (a0 : Array Value) (hw : ∀ d ∈ tables_1, d.before a0 Z = true) (ws : List Jvm.Cond) (cp : Int32) (h0 : Heap) (n0 : Nat) (Z0 : n0 ≤ h0.size) :
    MetFree l (⟨"com/example/pctenc/pctenc/Utf8", "encode", "(I)I"⟩ : MethodName) (head1 (Jvm.Cond.code (⟨"com/example/pctenc/pctenc/Utf8", "encode", "(I)I"⟩ : MethodName) prog_26_method_4_code 1 (some .int) :: ws) ({ frames := 0, cells := 0, slots := 0, locals := 0 } : Room)) (fun aa U => aa = #[(.int cp)] ∧ Z.Warmed39 U.vm ∧ U.heap = h0) (fun _ _ _ _ _ => True) (fun _ U o U' => ∃ v L, o = .returned v ∧ QEn Z cp h0 n0 v U'.heap L ∧ FrameEnd U o U' L ({ frames := 0, cells := 0, slots := 0, locals := 0 } : Room).cells ({ frames := 0, cells := 0, slots := 0, locals := 0 } : Room).slots) := by
  refine MetFree.of_bodySF (plainFor_of_name pnEn) hisR ?_
  intro p e s m args below meth c s₁ Bd hml0 hP hK
  obtain ⟨rfl, hZ, hh⟩ := hP
  have hx := Bd.exec
  have hby := Bd.bytes
  have hml : c.maxLocals = 1 := hml0
  have hown : s.vm.findClass "com/example/pctenc/pctenc/Utf8" = some m.cls := findClass_of_methodNamed Bd.named
  have hnm := (name_of_methodNamed Bd.named Bd.method).1
  have hlk : meth.locks = false := BodyLoose.notSynchronized Bd
  have hret : meth.sig.returnType = (some .int) := Bd.returns
  have X0 : Stand p l e ({ frames := 0, cells := 0, slots := 0, locals := 0 } : Room) s m #[(.int cp)] below meth c s₁ [] 0 0 := Stand.of_body Bd
  have e0 : s₁.heap = h0 := by rw [← hh, Bd.state]; rfl
  have N0 := Fr.nil n0
  show Go p e below s ({ frames := 0, cells := 0, slots := 0, locals := 0 } : Room).cells ({ frames := 0, cells := 0, slots := 0, locals := 0 } : Room).slots (QEn Z cp h0 n0) (s₁.setTop (entryFrame m #[(.int cp)] 1))
  rw [efEn]
  refine Go.by (fun _ kont => XS.iloadN X0.here hx rfl (hb hby dEn_0) rfl (XS.sipush X0.here hx rfl (hb hby dEn_1) kont)) ?_
  show Go _ _ _ _ _ _ _ (s₁.setTop (mkF m 4 #[.val (.int cp)] [(.int (128 : Int32)), (.int cp)]))
  by_cases hc101 : cp < (128 : Int32)
  · refine Go.by (fun _ kont => XS.icmpNo X0.here hx rfl (hb hby dEn_4) rfl (tlt hc101).2.1 kont) ?_
    show Go _ _ _ _ _ _ _ (s₁.setTop (mkF m 7 #[.val (.int cp)] []))
    refine Go.by (fun _ kont => XS.iloadN X0.here hx rfl (hb hby dEn_7) rfl kont) ?_
    show Go _ _ _ _ _ _ _ (s₁.setTop (mkF m 8 #[.val (.int cp)] [(.int cp)]))
    refine Go.retI X0 hx hret hlk (hb hby dEn_8) ?_ (by decide) (by decide)
    show QEn Z cp h0 n0 (some (.int cp)) s₁.heap _
    rw [e0]
    refine ⟨?_, N0, rfl⟩
    unfold fEn
    rw [if_pos hc101]
  · refine Go.by (fun _ kont => XS.icmpYes X0.here hx rfl (pc0 := 4) (pc' := 9) rfl (hb hby dEn_4) rfl (flt hc101).2.1 (by decide) (by decide) kont) ?_
    show Go _ _ _ _ _ _ _ (s₁.setTop (mkF m 9 #[.val (.int cp)] []))
    refine Go.by (fun _ kont => XS.iloadN X0.here hx rfl (hb hby dEn_9) rfl (XS.sipush X0.here hx rfl (hb hby dEn_10) kont)) ?_
    show Go _ _ _ _ _ _ _ (s₁.setTop (mkF m 13 #[.val (.int cp)] [(.int (2048 : Int32)), (.int cp)]))
    by_cases hc102 : cp < (2048 : Int32)
    · refine Go.by (fun _ kont => XS.icmpNo X0.here hx rfl (hb hby dEn_13) rfl (tlt hc102).2.1 kont) ?_
      show Go _ _ _ _ _ _ _ (s₁.setTop (mkF m 16 #[.val (.int cp)] []))
      refine Go.by (fun _ kont => XS.sipush X0.here hx rfl (hb hby dEn_16) (XS.iloadN X0.here hx rfl (hb hby dEn_19) rfl (XS.bipush X0.here hx rfl (hb hby dEn_20) (XS.iushr X0.here hx rfl (hb hby dEn_22) rfl (XS.ior X0.here hx rfl (hb hby dEn_23) rfl (XS.sipush X0.here hx rfl (hb hby dEn_24) kont)))))) ?_
      show Go _ _ _ _ _ _ _ (s₁.setTop (mkF m 27 #[.val (.int cp)] [(.int (128 : Int32)), (.int ((192 : Int32) ||| ((cp.toUInt32 >>> ((6 : Int32) &&& 31).toUInt32).toInt32)))]))
      refine Go.by (fun _ kont => XS.iloadN X0.here hx rfl (hb hby dEn_27) rfl (XS.bipush X0.here hx rfl (hb hby dEn_28) (XS.iand X0.here hx rfl (hb hby dEn_30) rfl (XS.ior X0.here hx rfl (hb hby dEn_31) rfl (XS.bipush X0.here hx rfl (hb hby dEn_32) (XS.ishl X0.here hx rfl (hb hby dEn_34) rfl kont)))))) ?_
      show Go _ _ _ _ _ _ _ (s₁.setTop (mkF m 35 #[.val (.int cp)] [(.int (((128 : Int32) ||| (cp &&& (63 : Int32))) <<< ((8 : Int32) &&& 31))), (.int ((192 : Int32) ||| ((cp.toUInt32 >>> ((6 : Int32) &&& 31).toUInt32).toInt32)))]))
      refine Go.by (fun _ kont => XS.ior X0.here hx rfl (hb hby dEn_35) rfl kont) ?_
      show Go _ _ _ _ _ _ _ (s₁.setTop (mkF m 36 #[.val (.int cp)] [(.int (((192 : Int32) ||| ((cp.toUInt32 >>> ((6 : Int32) &&& 31).toUInt32).toInt32)) ||| (((128 : Int32) ||| (cp &&& (63 : Int32))) <<< ((8 : Int32) &&& 31))))]))
      refine Go.retI X0 hx hret hlk (hb hby dEn_36) ?_ (by decide) (by decide)
      show QEn Z cp h0 n0 (some (.int (((192 : Int32) ||| ((cp.toUInt32 >>> ((6 : Int32) &&& 31).toUInt32).toInt32)) ||| (((128 : Int32) ||| (cp &&& (63 : Int32))) <<< ((8 : Int32) &&& 31))))) s₁.heap _
      rw [e0]
      refine ⟨?_, N0, rfl⟩
      unfold fEn
      rw [if_neg hc101, if_pos hc102]
    · refine Go.by (fun _ kont => XS.icmpYes X0.here hx rfl (pc0 := 13) (pc' := 37) rfl (hb hby dEn_13) rfl (flt hc102).2.1 (by decide) (by decide) kont) ?_
      show Go _ _ _ _ _ _ _ (s₁.setTop (mkF m 37 #[.val (.int cp)] []))
      refine Go.by (fun _ kont => XS.iloadN X0.here hx rfl (hb hby dEn_37) rfl (X0.ldcInt hx hown (mvT hZ (hw _ (List.mem_of_getElem? (i := 7) rfl))) (g := (mkF m 38 #[.val (.int cp)] [(.int cp)])) rfl (hb hby dEn_38) _ kont)) ?_
      show Go _ _ _ _ _ _ _ (s₁.setTop (mkF m 40 #[.val (.int cp)] [(.int (65536 : Int32)), (.int cp)]))
      by_cases hc103 : cp < (65536 : Int32)
      · refine Go.by (fun _ kont => XS.icmpNo X0.here hx rfl (hb hby dEn_40) rfl (tlt hc103).2.1 kont) ?_
        show Go _ _ _ _ _ _ _ (s₁.setTop (mkF m 43 #[.val (.int cp)] []))
        refine Go.by (fun _ kont => XS.sipush X0.here hx rfl (hb hby dEn_43) (XS.iloadN X0.here hx rfl (hb hby dEn_46) rfl (XS.bipush X0.here hx rfl (hb hby dEn_47) (XS.iushr X0.here hx rfl (hb hby dEn_49) rfl (XS.ior X0.here hx rfl (hb hby dEn_50) rfl (XS.sipush X0.here hx rfl (hb hby dEn_51) kont)))))) ?_
        show Go _ _ _ _ _ _ _ (s₁.setTop (mkF m 54 #[.val (.int cp)] [(.int (128 : Int32)), (.int ((224 : Int32) ||| ((cp.toUInt32 >>> ((12 : Int32) &&& 31).toUInt32).toInt32)))]))
        refine Go.by (fun _ kont => XS.iloadN X0.here hx rfl (hb hby dEn_54) rfl (XS.bipush X0.here hx rfl (hb hby dEn_55) (XS.iushr X0.here hx rfl (hb hby dEn_57) rfl (XS.bipush X0.here hx rfl (hb hby dEn_58) (XS.iand X0.here hx rfl (hb hby dEn_60) rfl (XS.ior X0.here hx rfl (hb hby dEn_61) rfl kont)))))) ?_
        show Go _ _ _ _ _ _ _ (s₁.setTop (mkF m 62 #[.val (.int cp)] [(.int ((128 : Int32) ||| (((cp.toUInt32 >>> ((6 : Int32) &&& 31).toUInt32).toInt32) &&& (63 : Int32)))), (.int ((224 : Int32) ||| ((cp.toUInt32 >>> ((12 : Int32) &&& 31).toUInt32).toInt32)))]))
        refine Go.by (fun _ kont => XS.bipush X0.here hx rfl (hb hby dEn_62) (XS.ishl X0.here hx rfl (hb hby dEn_64) rfl (XS.ior X0.here hx rfl (hb hby dEn_65) rfl (XS.sipush X0.here hx rfl (hb hby dEn_66) (XS.iloadN X0.here hx rfl (hb hby dEn_69) rfl (XS.bipush X0.here hx rfl (hb hby dEn_70) kont)))))) ?_
        show Go _ _ _ _ _ _ _ (s₁.setTop (mkF m 72 #[.val (.int cp)] [(.int (63 : Int32)), (.int cp), (.int (128 : Int32)), (.int (((224 : Int32) ||| ((cp.toUInt32 >>> ((12 : Int32) &&& 31).toUInt32).toInt32)) ||| (((128 : Int32) ||| (((cp.toUInt32 >>> ((6 : Int32) &&& 31).toUInt32).toInt32) &&& (63 : Int32))) <<< ((8 : Int32) &&& 31))))]))
        refine Go.by (fun _ kont => XS.iand X0.here hx rfl (hb hby dEn_72) rfl (XS.ior X0.here hx rfl (hb hby dEn_73) rfl (XS.bipush X0.here hx rfl (hb hby dEn_74) (XS.ishl X0.here hx rfl (hb hby dEn_76) rfl (XS.ior X0.here hx rfl (hb hby dEn_77) rfl kont))))) ?_
        show Go _ _ _ _ _ _ _ (s₁.setTop (mkF m 78 #[.val (.int cp)] [(.int ((((224 : Int32) ||| ((cp.toUInt32 >>> ((12 : Int32) &&& 31).toUInt32).toInt32)) ||| (((128 : Int32) ||| (((cp.toUInt32 >>> ((6 : Int32) &&& 31).toUInt32).toInt32) &&& (63 : Int32))) <<< ((8 : Int32) &&& 31))) ||| (((128 : Int32) ||| (cp &&& (63 : Int32))) <<< ((16 : Int32) &&& 31))))]))
        refine Go.retI X0 hx hret hlk (hb hby dEn_78) ?_ (by decide) (by decide)
        show QEn Z cp h0 n0 (some (.int ((((224 : Int32) ||| ((cp.toUInt32 >>> ((12 : Int32) &&& 31).toUInt32).toInt32)) ||| (((128 : Int32) ||| (((cp.toUInt32 >>> ((6 : Int32) &&& 31).toUInt32).toInt32) &&& (63 : Int32))) <<< ((8 : Int32) &&& 31))) ||| (((128 : Int32) ||| (cp &&& (63 : Int32))) <<< ((16 : Int32) &&& 31))))) s₁.heap _
        rw [e0]
        refine ⟨?_, N0, rfl⟩
        unfold fEn
        rw [if_neg hc101, if_neg hc102, if_pos hc103]
      · refine Go.by (fun _ kont => XS.icmpYes X0.here hx rfl (pc0 := 40) (pc' := 79) rfl (hb hby dEn_40) rfl (flt hc103).2.1 (by decide) (by decide) kont) ?_
        show Go _ _ _ _ _ _ _ (s₁.setTop (mkF m 79 #[.val (.int cp)] []))
        refine Go.by (fun _ kont => XS.sipush X0.here hx rfl (hb hby dEn_79) (XS.iloadN X0.here hx rfl (hb hby dEn_82) rfl (XS.bipush X0.here hx rfl (hb hby dEn_83) (XS.iushr X0.here hx rfl (hb hby dEn_85) rfl (XS.ior X0.here hx rfl (hb hby dEn_86) rfl (XS.sipush X0.here hx rfl (hb hby dEn_87) kont)))))) ?_
        show Go _ _ _ _ _ _ _ (s₁.setTop (mkF m 90 #[.val (.int cp)] [(.int (128 : Int32)), (.int ((240 : Int32) ||| ((cp.toUInt32 >>> ((18 : Int32) &&& 31).toUInt32).toInt32)))]))
        refine Go.by (fun _ kont => XS.iloadN X0.here hx rfl (hb hby dEn_90) rfl (XS.bipush X0.here hx rfl (hb hby dEn_91) (XS.iushr X0.here hx rfl (hb hby dEn_93) rfl (XS.bipush X0.here hx rfl (hb hby dEn_94) (XS.iand X0.here hx rfl (hb hby dEn_96) rfl (XS.ior X0.here hx rfl (hb hby dEn_97) rfl kont)))))) ?_
        show Go _ _ _ _ _ _ _ (s₁.setTop (mkF m 98 #[.val (.int cp)] [(.int ((128 : Int32) ||| (((cp.toUInt32 >>> ((12 : Int32) &&& 31).toUInt32).toInt32) &&& (63 : Int32)))), (.int ((240 : Int32) ||| ((cp.toUInt32 >>> ((18 : Int32) &&& 31).toUInt32).toInt32)))]))
        refine Go.by (fun _ kont => XS.bipush X0.here hx rfl (hb hby dEn_98) (XS.ishl X0.here hx rfl (hb hby dEn_100) rfl (XS.ior X0.here hx rfl (hb hby dEn_101) rfl (XS.sipush X0.here hx rfl (hb hby dEn_102) (XS.iloadN X0.here hx rfl (hb hby dEn_105) rfl (XS.bipush X0.here hx rfl (hb hby dEn_106) kont)))))) ?_
        show Go _ _ _ _ _ _ _ (s₁.setTop (mkF m 108 #[.val (.int cp)] [(.int (6 : Int32)), (.int cp), (.int (128 : Int32)), (.int (((240 : Int32) ||| ((cp.toUInt32 >>> ((18 : Int32) &&& 31).toUInt32).toInt32)) ||| (((128 : Int32) ||| (((cp.toUInt32 >>> ((12 : Int32) &&& 31).toUInt32).toInt32) &&& (63 : Int32))) <<< ((8 : Int32) &&& 31))))]))
        refine Go.by (fun _ kont => XS.iushr X0.here hx rfl (hb hby dEn_108) rfl (XS.bipush X0.here hx rfl (hb hby dEn_109) (XS.iand X0.here hx rfl (hb hby dEn_111) rfl (XS.ior X0.here hx rfl (hb hby dEn_112) rfl (XS.bipush X0.here hx rfl (hb hby dEn_113) (XS.ishl X0.here hx rfl (hb hby dEn_115) rfl kont)))))) ?_
        show Go _ _ _ _ _ _ _ (s₁.setTop (mkF m 116 #[.val (.int cp)] [(.int (((128 : Int32) ||| (((cp.toUInt32 >>> ((6 : Int32) &&& 31).toUInt32).toInt32) &&& (63 : Int32))) <<< ((16 : Int32) &&& 31))), (.int (((240 : Int32) ||| ((cp.toUInt32 >>> ((18 : Int32) &&& 31).toUInt32).toInt32)) ||| (((128 : Int32) ||| (((cp.toUInt32 >>> ((12 : Int32) &&& 31).toUInt32).toInt32) &&& (63 : Int32))) <<< ((8 : Int32) &&& 31))))]))
        refine Go.by (fun _ kont => XS.ior X0.here hx rfl (hb hby dEn_116) rfl (XS.sipush X0.here hx rfl (hb hby dEn_117) (XS.iloadN X0.here hx rfl (hb hby dEn_120) rfl (XS.bipush X0.here hx rfl (hb hby dEn_121) (XS.iand X0.here hx rfl (hb hby dEn_123) rfl (XS.ior X0.here hx rfl (hb hby dEn_124) rfl kont)))))) ?_
        show Go _ _ _ _ _ _ _ (s₁.setTop (mkF m 125 #[.val (.int cp)] [(.int ((128 : Int32) ||| (cp &&& (63 : Int32)))), (.int ((((240 : Int32) ||| ((cp.toUInt32 >>> ((18 : Int32) &&& 31).toUInt32).toInt32)) ||| (((128 : Int32) ||| (((cp.toUInt32 >>> ((12 : Int32) &&& 31).toUInt32).toInt32) &&& (63 : Int32))) <<< ((8 : Int32) &&& 31))) ||| (((128 : Int32) ||| (((cp.toUInt32 >>> ((6 : Int32) &&& 31).toUInt32).toInt32) &&& (63 : Int32))) <<< ((16 : Int32) &&& 31))))]))
        refine Go.by (fun _ kont => XS.bipush X0.here hx rfl (hb hby dEn_125) (XS.ishl X0.here hx rfl (hb hby dEn_127) rfl (XS.ior X0.here hx rfl (hb hby dEn_128) rfl kont))) ?_
        show Go _ _ _ _ _ _ _ (s₁.setTop (mkF m 129 #[.val (.int cp)] [(.int (((((240 : Int32) ||| ((cp.toUInt32 >>> ((18 : Int32) &&& 31).toUInt32).toInt32)) ||| (((128 : Int32) ||| (((cp.toUInt32 >>> ((12 : Int32) &&& 31).toUInt32).toInt32) &&& (63 : Int32))) <<< ((8 : Int32) &&& 31))) ||| (((128 : Int32) ||| (((cp.toUInt32 >>> ((6 : Int32) &&& 31).toUInt32).toInt32) &&& (63 : Int32))) <<< ((16 : Int32) &&& 31))) ||| (((128 : Int32) ||| (cp &&& (63 : Int32))) <<< ((24 : Int32) &&& 31))))]))
        refine Go.retI X0 hx hret hlk (hb hby dEn_129) ?_ (by decide) (by decide)
        show QEn Z cp h0 n0 (some (.int (((((240 : Int32) ||| ((cp.toUInt32 >>> ((18 : Int32) &&& 31).toUInt32).toInt32)) ||| (((128 : Int32) ||| (((cp.toUInt32 >>> ((12 : Int32) &&& 31).toUInt32).toInt32) &&& (63 : Int32))) <<< ((8 : Int32) &&& 31))) ||| (((128 : Int32) ||| (((cp.toUInt32 >>> ((6 : Int32) &&& 31).toUInt32).toInt32) &&& (63 : Int32))) <<< ((16 : Int32) &&& 31))) ||| (((128 : Int32) ||| (cp &&& (63 : Int32))) <<< ((24 : Int32) &&& 31))))) s₁.heap _
        rw [e0]
        refine ⟨?_, N0, rfl⟩
        unfold fEn
        rw [if_neg hc101, if_neg hc102, if_neg hc103]

theorem dCo_0 : decode method_2_code 0 = .ok (.iload_n 0, 1) := by decide +kernel
theorem dCo_1 : decode method_2_code 1 = .ok (.sipush 192, 3) := by decide +kernel
theorem dCo_4 : decode method_2_code 4 = .ok (.iand, 1) := by decide +kernel
theorem dCo_5 : decode method_2_code 5 = .ok (.sipush 128, 3) := by decide +kernel
theorem dCo_8 : decode method_2_code 8 = .ok (.if_icmp .ne 7, 3) := by decide +kernel
theorem dCo_11 : decode method_2_code 11 = .ok (.iconst 1, 1) := by decide +kernel
theorem dCo_12 : decode method_2_code 12 = .ok (.goto 4, 3) := by decide +kernel
theorem dCo_15 : decode method_2_code 15 = .ok (.iconst 0, 1) := by decide +kernel
theorem dCo_16 : decode method_2_code 16 = .ok (.ireturn, 1) := by decide +kernel
theorem pnCo : plainName "com/example/pctenc/pctenc/Utf8EncodePinLaw" = true := by first | (simp [plainName, overriddenIn]; done) | decide +kernel
theorem efCo (m : MethodId) (b : Int32) : entryFrame m #[(.int b)] 1 = mkF m 0 #[.val (.int b)] [] := by first | (simp [entryFrame, mkF, argsToLocals, Value.category]; done) | rfl
def fCo (b : Int32) : Int32 := (if (b &&& (192 : Int32)) = (128 : Int32) then (1 : Int32) else (0 : Int32))
def QCo (Z : State) (b : Int32) (h0 : Heap) (n0 : Nat) (v : Option Value) (h : Heap) (L : List Loc) : Prop := v = some (.int (fCo b)) ∧ Fr n0 L ∧ h = h0
set_option maxRecDepth 65536 in
set_option maxHeartbeats 40000000 in
theorem rmCo (l : Launch) (Z : State) (a0 : Array Value) (hw : ∀ d ∈ tables_1, d.before a0 Z = true) (ws : List Jvm.Cond) (b : Int32) (h0 : Heap) (n0 : Nat) (Z0 : n0 ≤ h0.size) :
    MetFree l (⟨"com/example/pctenc/pctenc/Utf8EncodePinLaw", "cont", "(I)Z"⟩ : MethodName) (head1 (Jvm.Cond.code (⟨"com/example/pctenc/pctenc/Utf8EncodePinLaw", "cont", "(I)Z"⟩ : MethodName) method_2_code 1 (some .boolean) :: ws) ({ frames := 0, cells := 0, slots := 0, locals := 0 } : Room)) (fun aa U => aa = #[(.int b)] ∧ Z.Warmed39 U.vm ∧ U.heap = h0) (fun _ _ _ _ _ => True) (fun _ U o U' => ∃ v L, o = .returned v ∧ QCo Z b h0 n0 v U'.heap L ∧ FrameEnd U o U' L ({ frames := 0, cells := 0, slots := 0, locals := 0 } : Room).cells ({ frames := 0, cells := 0, slots := 0, locals := 0 } : Room).slots) := by
  refine MetFree.of_bodySF (plainFor_of_name pnCo) hisR ?_
  intro p e s m args below meth c s₁ Bd hml0 hP hK
  obtain ⟨rfl, hZ, hh⟩ := hP
  have hx := Bd.exec
  have hby := Bd.bytes
  have hml : c.maxLocals = 1 := hml0
  have hown : s.vm.findClass "com/example/pctenc/pctenc/Utf8EncodePinLaw" = some m.cls := findClass_of_methodNamed Bd.named
  have hnm := (name_of_methodNamed Bd.named Bd.method).1
  have hlk : meth.locks = false := BodyLoose.notSynchronized Bd
  have hret : meth.sig.returnType = (some .boolean) := Bd.returns
  have X0 : Stand p l e ({ frames := 0, cells := 0, slots := 0, locals := 0 } : Room) s m #[(.int b)] below meth c s₁ [] 0 0 := Stand.of_body Bd
  have e0 : s₁.heap = h0 := by rw [← hh, Bd.state]; rfl
  have N0 := Fr.nil n0
  show Go p e below s ({ frames := 0, cells := 0, slots := 0, locals := 0 } : Room).cells ({ frames := 0, cells := 0, slots := 0, locals := 0 } : Room).slots (QCo Z b h0 n0) (s₁.setTop (entryFrame m #[(.int b)] 1))
  rw [efCo]
  refine Go.by (fun _ kont => XS.iloadN X0.here hx rfl (hb hby dCo_0) rfl (XS.sipush X0.here hx rfl (hb hby dCo_1) (XS.iand X0.here hx rfl (hb hby dCo_4) rfl (XS.sipush X0.here hx rfl (hb hby dCo_5) kont)))) ?_
  show Go _ _ _ _ _ _ _ (s₁.setTop (mkF m 8 #[.val (.int b)] [(.int (128 : Int32)), (.int (b &&& (192 : Int32)))]))
  by_cases hc101 : (b &&& (192 : Int32)) = (128 : Int32)
  · refine Go.by (fun _ kont => XS.icmpNo X0.here hx rfl (hb hby dCo_8) rfl (teq hc101).2 kont) ?_
    show Go _ _ _ _ _ _ _ (s₁.setTop (mkF m 11 #[.val (.int b)] []))
    refine Go.by (fun _ kont => XS.iconst X0.here hx rfl (hb hby dCo_11) (XS.goto X0.here hx rfl (pc0 := 12) (pc' := 16) rfl (hb hby dCo_12) (by decide) (by decide) kont)) ?_
    show Go _ _ _ _ _ _ _ (s₁.setTop (mkF m 16 #[.val (.int b)] [(.int (1 : Int32))]))
    refine Go.retN X0 hx (t := .boolean) hret (by simp) hlk (hb hby dCo_16) ?_ (by decide) (by decide)
    show QCo Z b h0 n0 (some (.int (1 : Int32))) s₁.heap _
    rw [e0]
    refine ⟨?_, N0, rfl⟩
    unfold fCo
    rw [if_pos hc101]
  · refine Go.by (fun _ kont => XS.icmpYes X0.here hx rfl (pc0 := 8) (pc' := 15) rfl (hb hby dCo_8) rfl (feq hc101).2 (by decide) (by decide) kont) ?_
    show Go _ _ _ _ _ _ _ (s₁.setTop (mkF m 15 #[.val (.int b)] []))
    refine Go.by (fun _ kont => XS.iconst X0.here hx rfl (hb hby dCo_15) kont) ?_
    show Go _ _ _ _ _ _ _ (s₁.setTop (mkF m 16 #[.val (.int b)] [(.int (0 : Int32))]))
    refine Go.retN X0 hx (t := .boolean) hret (by simp) hlk (hb hby dCo_16) ?_ (by decide) (by decide)
    show QCo Z b h0 n0 (some (.int (0 : Int32))) s₁.heap _
    rw [e0]
    refine ⟨?_, N0, rfl⟩
    unfold fCo
    rw [if_neg hc101]

theorem own_cont (z : Int32) (h0 : 0 ≤ z.toInt) : ((128 : Int32) ||| (z &&& (63 : Int32))).toInt = 128 + z.toInt % 64 := by
  have h1 := c_mask z 63 6 (by decide) (by decide)
  have e : (128 : Int32).toInt = 128 := by decide
  have h2 := c_or 128 (z &&& 63) 6 (by decide) 64 (by decide) (by rw [e]; decide) (by rw [h1]; omega) (by rw [h1]; omega)
  have h3 := rng32 (128 ||| (z &&& 63))
  rw [e, h1] at h2
  omega
theorem own_sh (z q : Int32) (k : Nat) (P : Int) (hP : P = (2 ^ k : Nat)) (hk : q.toBitVec.toNat % 32 = k) (h0 : 0 < k) (hz : 0 ≤ z.toInt) : ((z.toUInt32 >>> (q &&& 31).toUInt32).toInt32).toInt = z.toInt / P := by
  have h1 := c_iushr z q k hk h0
  have h2 := rng32 z
  have h3 : z.toInt % 4294967296 = z.toInt := by omega
  rw [h3] at h1
  rw [h1, hP]
theorem own_cont2 (z q : Int32) (k : Nat) (P : Int) (hP : P = (2 ^ k : Nat)) (hk : q.toBitVec.toNat % 32 = k) (h0 : 0 < k) (hz : 0 ≤ z.toInt) : ((128 : Int32) ||| (((z.toUInt32 >>> (q &&& 31).toUInt32).toInt32) &&& (63 : Int32))).toInt = 128 + (z.toInt / P) % 64 := by
  have h1 := own_sh z q k P hP hk h0 hz
  have h4 : 0 ≤ z.toInt / P := Int.ediv_nonneg hz (by rw [hP]; exact Int.natCast_nonneg _)
  rw [own_cont _ (by rw [h1]; exact h4), h1]
theorem own_lead (a z q : Int32) (k : Nat) (P : Int) (hP : P = (2 ^ k : Nat)) (n : Nat) (M : Int) (hM : M = (2 ^ n : Nat)) (hn : n ≤ 31) (hk : q.toBitVec.toNat % 32 = k) (h0 : 0 < k) (hz : 0 ≤ z.toInt) (ha : a.toInt % M = 0) (ha2 : 0 ≤ a.toInt ∧ a.toInt < 256) (hlt : z.toInt / P < M) (hlt2 : z.toInt / P < 256) : (a ||| ((z.toUInt32 >>> (q &&& 31).toUInt32).toInt32)).toInt = a.toInt + z.toInt / P := by
  have h1 := own_sh z q k P hP hk h0 hz
  have h4 : 0 ≤ z.toInt / P := Int.ediv_nonneg hz (by rw [hP]; exact Int.natCast_nonneg _)
  have h5 := c_or a ((z.toUInt32 >>> (q &&& 31).toUInt32).toInt32) n hn M hM ha (by rw [h1]; exact h4) (by rw [h1]; exact hlt)
  rw [h1] at h5
  have h6 := rng32 (a ||| ((z.toUInt32 >>> (q &&& 31).toUInt32).toInt32))
  omega
theorem own_orshl (a y q : Int32) (k : Nat) (P : Int) (hP : P = (2 ^ k : Nat)) (hk : q.toBitVec.toNat % 32 = k) (h24 : k ≤ 24) (ha : 0 ≤ a.toInt ∧ a.toInt < P) : ((a ||| (y <<< (q &&& 31))).toInt - (a.toInt + y.toInt * P)) % 4294967296 = 0 := by
  have h1 := c_ishl y q k hk
  rw [← hP] at h1
  have h2 : (y <<< (q &&& 31)).toInt % P = 0 := by
    have hd : P ∣ 4294967296 := by
      have : (2 ^ k : Nat) ∣ 2 ^ 32 := Nat.pow_dvd_pow 2 (by omega)
      rw [hP]
      exact Int.natCast_dvd_natCast.mpr this
    obtain ⟨t, ht⟩ := Int.dvd_of_emod_eq_zero h1
    obtain ⟨r, hr⟩ := hd
    have : (y <<< (q &&& 31)).toInt = P * (y.toInt + r * t) := by
      have e1 : (y <<< (q &&& 31)).toInt = y.toInt * P + 4294967296 * t := by omega
      rw [e1, hr, Int.mul_add, Int.mul_comm y.toInt, Int.mul_assoc]
    rw [this]; exact Int.mul_emod_right _ _
  have h3 := c_or (y <<< (q &&& 31)) a k (by omega) P hP h2 ha.1 ha.2
  rw [Int32.or_comm]
  generalize y.toInt * P = w at *
  omega
theorem own_e1 (cp : Int32) (h0 : 0 ≤ cp.toInt) (h : cp.toInt < 128) : fEn cp = cp := by
  unfold fEn
  rw [if_pos (by rw [Int32.lt_iff_toInt_lt]; exact h)]
theorem own_dig1 (t : Int) : ∃ y D, t = 64 * y + D ∧ 0 ≤ D ∧ D ≤ 63 ∧ t / 64 = y ∧ t % 64 = D := ⟨t / 64, t % 64, by omega, by omega, by omega, rfl, rfl⟩
theorem own_e2 (cp : Int32) (h0 : 128 ≤ cp.toInt) (h : cp.toInt < 2048) : ∃ A B : Int, 2 ≤ A ∧ A ≤ 31 ∧ 0 ≤ B ∧ B ≤ 63 ∧ cp.toInt = 64 * A + B ∧ (fEn cp).toInt = 192 + A + 256 * (128 + B) := by
  unfold fEn
  rw [if_neg (by rw [Int32.lt_iff_toInt_lt]; exact Int.not_lt.mpr h0), if_pos (by rw [Int32.lt_iff_toInt_lt]; exact h)]
  have k1 := own_lead 192 cp 6 6 64 (by decide) 6 64 (by decide) (by decide) (by decide) (by decide) (by omega) (by decide) (by decide) (by omega) (by omega)
  have k2 := own_cont cp (by omega)
  have e1 : (192 : Int32).toInt = 192 := by decide
  rw [e1] at k1
  obtain ⟨A, B, q1, q2, q3, f1, f2⟩ := own_dig1 cp.toInt
  rw [f1] at k1
  rw [f2] at k2
  have k3 := own_orshl _ ((128 : Int32) ||| (cp &&& (63 : Int32))) 8 8 256 (by decide) (by decide) (by decide) (show 0 ≤ ((192 : Int32) ||| ((cp.toUInt32 >>> ((6 : Int32) &&& 31).toUInt32).toInt32)).toInt ∧ _ from by rw [k1]; omega)
  rw [k1, k2] at k3
  have k4 := rng32 (((192 : Int32) ||| ((cp.toUInt32 >>> ((6 : Int32) &&& 31).toUInt32).toInt32)) ||| (((128 : Int32) ||| (cp &&& (63 : Int32))) <<< ((8 : Int32) &&& 31)))
  exact ⟨A, B, by omega, by omega, q2, q3, q1, by omega⟩
theorem own_e3 (cp : Int32) (h0 : 2048 ≤ cp.toInt) (h : cp.toInt < 65536) : ∃ A B C : Int, 0 ≤ A ∧ A ≤ 15 ∧ 0 ≤ B ∧ B ≤ 63 ∧ 0 ≤ C ∧ C ≤ 63 ∧ cp.toInt = 4096 * A + 64 * B + C ∧ (fEn cp).toInt = 224 + A + 256 * (128 + B) + 65536 * (128 + C) := by
  unfold fEn
  rw [if_neg (by rw [Int32.lt_iff_toInt_lt]; show ¬ _ < (128 : Int); omega), if_neg (by rw [Int32.lt_iff_toInt_lt]; exact Int.not_lt.mpr h0), if_pos (by rw [Int32.lt_iff_toInt_lt]; exact h)]
  have k1 := own_lead 224 cp 12 12 4096 (by decide) 5 32 (by decide) (by decide) (by decide) (by decide) (by omega) (by decide) (by decide) (by omega) (by omega)
  have k2 := own_cont cp (by omega)
  have k2' := own_cont2 cp 6 6 64 (by decide) (by decide) (by decide) (by omega)
  have e1 : (224 : Int32).toInt = 224 := by decide
  rw [e1] at k1
  obtain ⟨y, C, q1, q2, q3, f1, f2⟩ := own_dig1 cp.toInt
  obtain ⟨A, B, r1, r2, r3, g1, g2⟩ := own_dig1 y
  have f3 : cp.toInt / 4096 = A := by omega
  rw [f3] at k1
  rw [f2] at k2
  rw [f1, g2] at k2'
  have bA : 0 ≤ A ∧ A ≤ 15 := by omega
  have k3 := own_orshl _ ((128 : Int32) ||| (((cp.toUInt32 >>> ((6 : Int32) &&& 31).toUInt32).toInt32) &&& (63 : Int32))) 8 8 256 (by decide) (by decide) (by decide) (show 0 ≤ ((224 : Int32) ||| ((cp.toUInt32 >>> ((12 : Int32) &&& 31).toUInt32).toInt32)).toInt ∧ _ from by rw [k1]; omega)
  rw [k1, k2'] at k3
  generalize (((224 : Int32) ||| ((cp.toUInt32 >>> ((12 : Int32) &&& 31).toUInt32).toInt32)) ||| (((128 : Int32) ||| (((cp.toUInt32 >>> ((6 : Int32) &&& 31).toUInt32).toInt32) &&& (63 : Int32))) <<< ((8 : Int32) &&& 31))) = u at k3 ⊢
  have r4 := rng32 u
  have k4 : u.toInt = 224 + A + (128 + B) * 256 := by omega
  have k5 := own_orshl u ((128 : Int32) ||| (cp &&& (63 : Int32))) 16 16 65536 (by decide) (by decide) (by decide) (by omega)
  rw [k2, k4] at k5
  have k6 := rng32 (u ||| (((128 : Int32) ||| (cp &&& (63 : Int32))) <<< ((16 : Int32) &&& 31)))
  exact ⟨A, B, C, bA.1, bA.2, r2, r3, q2, q3, by omega, by omega⟩
theorem own_e4 (cp : Int32) (h0 : 65536 ≤ cp.toInt) (h : cp.toInt < 1114112) : ∃ A B C D : Int, 0 ≤ A ∧ A ≤ 4 ∧ 0 ≤ B ∧ B ≤ 63 ∧ 0 ≤ C ∧ C ≤ 63 ∧ 0 ≤ D ∧ D ≤ 63 ∧ cp.toInt = 262144 * A + 4096 * B + 64 * C + D ∧ (fEn cp).toInt % 4294967296 = 240 + A + 256 * (128 + B) + 65536 * (128 + C) + 16777216 * (128 + D) := by
  unfold fEn
  rw [if_neg (by rw [Int32.lt_iff_toInt_lt]; show ¬ _ < (128 : Int); omega), if_neg (by rw [Int32.lt_iff_toInt_lt]; show ¬ _ < (2048 : Int); omega), if_neg (by rw [Int32.lt_iff_toInt_lt]; exact Int.not_lt.mpr h0)]
  have k1 := own_lead 240 cp 18 18 262144 (by decide) 4 16 (by decide) (by decide) (by decide) (by decide) (by omega) (by decide) (by decide) (by omega) (by omega)
  have k2 := own_cont cp (by omega)
  have k2' := own_cont2 cp 12 12 4096 (by decide) (by decide) (by decide) (by omega)
  have k2'' := own_cont2 cp 6 6 64 (by decide) (by decide) (by decide) (by omega)
  have e1 : (240 : Int32).toInt = 240 := by decide
  rw [e1] at k1
  obtain ⟨y, D, q1, q2, q3, f1, f2⟩ := own_dig1 cp.toInt
  obtain ⟨z, C, r1, r2, r3, g1, g2⟩ := own_dig1 y
  obtain ⟨A, B, s1, s2, s3, m1, m2⟩ := own_dig1 z
  have f3 : cp.toInt / 4096 = z := by omega
  have f4 : cp.toInt / 262144 = A := by omega
  rw [f4] at k1
  rw [f2] at k2
  rw [f3, m2] at k2'
  rw [f1, g2] at k2''
  have bA : 0 ≤ A ∧ A ≤ 4 := by omega
  have k3 := own_orshl _ ((128 : Int32) ||| (((cp.toUInt32 >>> ((12 : Int32) &&& 31).toUInt32).toInt32) &&& (63 : Int32))) 8 8 256 (by decide) (by decide) (by decide) (show 0 ≤ ((240 : Int32) ||| ((cp.toUInt32 >>> ((18 : Int32) &&& 31).toUInt32).toInt32)).toInt ∧ _ from by rw [k1]; omega)
  rw [k1, k2'] at k3
  generalize (((240 : Int32) ||| ((cp.toUInt32 >>> ((18 : Int32) &&& 31).toUInt32).toInt32)) ||| (((128 : Int32) ||| (((cp.toUInt32 >>> ((12 : Int32) &&& 31).toUInt32).toInt32) &&& (63 : Int32))) <<< ((8 : Int32) &&& 31))) = u at k3 ⊢
  have r4 := rng32 u
  have k4 : u.toInt = 240 + A + (128 + B) * 256 := by omega
  have k5 := own_orshl u ((128 : Int32) ||| (((cp.toUInt32 >>> ((6 : Int32) &&& 31).toUInt32).toInt32) &&& (63 : Int32))) 16 16 65536 (by decide) (by decide) (by decide) (by omega)
  rw [k2'', k4] at k5
  generalize (u ||| (((128 : Int32) ||| (((cp.toUInt32 >>> ((6 : Int32) &&& 31).toUInt32).toInt32) &&& (63 : Int32))) <<< ((16 : Int32) &&& 31))) = v at k5 ⊢
  have r5 := rng32 v
  have k6 : v.toInt = 240 + A + (128 + B) * 256 + (128 + C) * 65536 := by omega
  have k7 := own_orshl v ((128 : Int32) ||| (cp &&& (63 : Int32))) 24 24 16777216 (by decide) (by decide) (by decide) (by omega)
  rw [k2, k6] at k7
  exact ⟨A, B, C, D, bA.1, bA.2, s2, s3, r2, r3, q2, q3, by omega, by omega⟩
theorem own_dg (d0 d1 d2 d3 n : Int) (h0 : 0 ≤ d0 ∧ d0 < 256) (h1 : 0 ≤ d1 ∧ d1 < 256) (h2 : 0 ≤ d2 ∧ d2 < 256) (h3 : 0 ≤ d3 ∧ d3 < 256) (hn : n = d0 + 256 * (d1 + 256 * (d2 + 256 * d3))) : n % 256 = d0 ∧ n / 256 % 256 = d1 ∧ n / 65536 % 256 = d2 ∧ n / 16777216 = d3 := by
  subst hn
  refine ⟨by omega, ?_, ?_, by omega⟩
  · have : (d0 + 256 * (d1 + 256 * (d2 + 256 * d3))) / 256 = d1 + 256 * (d2 + 256 * d3) := by omega
    rw [this]; omega
  · have : (d0 + 256 * (d1 + 256 * (d2 + 256 * d3))) / 65536 = d2 + 256 * d3 := by omega
    rw [this]; omega
theorem own_bytes (ee : Int32) (d0 d1 d2 d3 : Int) (h0 : 0 ≤ d0 ∧ d0 < 256) (h1 : 0 ≤ d1 ∧ d1 < 256) (h2 : 0 ≤ d2 ∧ d2 < 256) (h3 : 0 ≤ d3 ∧ d3 < 256) (HN : ee.toInt % 4294967296 = d0 + 256 * (d1 + 256 * (d2 + 256 * d3))) :
    (ee &&& (255 : Int32)).toInt = d0 ∧ (((ee.toUInt32 >>> ((8 : Int32) &&& 31).toUInt32).toInt32) &&& (255 : Int32)).toInt = d1 ∧ (((ee.toUInt32 >>> ((16 : Int32) &&& 31).toUInt32).toInt32) &&& (255 : Int32)).toInt = d2 ∧ ((ee.toUInt32 >>> ((24 : Int32) &&& 31).toUInt32).toInt32).toInt = d3 := by
  obtain ⟨g0, g1, g2, g3⟩ := own_dg d0 d1 d2 d3 _ h0 h1 h2 h3 HN
  have m : ∀ b : Int32, (b &&& (255 : Int32)).toInt = b.toInt % 256 := fun b => c_mask b 255 8 (by decide) (by decide)
  have u1 := c_iushr ee 8 8 (by decide) (by decide)
  have u2 := c_iushr ee 16 16 (by decide) (by decide)
  have u3 := c_iushr ee 24 24 (by decide) (by decide)
  refine ⟨?_, ?_, ?_, ?_⟩
  · rw [m, ← g0]; omega
  · rw [m, u1]; exact g1
  · rw [m, u2]; exact g2
  · rw [u3]; exact g3
theorem own_hi5 (b : Int32) (h : 192 ≤ b.toInt ∧ b.toInt < 224) : b &&& (224 : Int32) = 192 := by
  have key : ∀ n : Fin 32, Int32.ofInt (192 + n.val) &&& (224 : Int32) = 192 := by decide +kernel
  have := key ⟨(b.toInt - 192).toNat, by omega⟩
  have e : (192 + ((b.toInt - 192).toNat : Int)) = b.toInt := by omega
  simp only [e, Int32.ofInt_toInt] at this
  exact this
theorem own_hi4 (b : Int32) (h : 224 ≤ b.toInt ∧ b.toInt < 240) : b &&& (240 : Int32) = 224 := by
  have key : ∀ n : Fin 16, Int32.ofInt (224 + n.val) &&& (240 : Int32) = 224 := by decide +kernel
  have := key ⟨(b.toInt - 224).toNat, by omega⟩
  have e : (224 + ((b.toInt - 224).toNat : Int)) = b.toInt := by omega
  simp only [e, Int32.ofInt_toInt] at this
  exact this
theorem own_hi3 (b : Int32) (h : 240 ≤ b.toInt ∧ b.toInt < 248) : b &&& (248 : Int32) = 240 := by
  have key : ∀ n : Fin 8, Int32.ofInt (240 + n.val) &&& (248 : Int32) = 240 := by decide +kernel
  have := key ⟨(b.toInt - 240).toNat, by omega⟩
  have e : (240 + ((b.toInt - 240).toNat : Int)) = b.toInt := by omega
  simp only [e, Int32.ofInt_toInt] at this
  exact this
theorem own_m255 (b : Int32) : (b &&& (255 : Int32)).toInt = b.toInt % 256 := c_mask b 255 8 (by decide) (by decide)
theorem own_ushr0 (z q : Int32) (k : Nat) (hk : q.toBitVec.toNat % 32 = k) (h0 : 0 < k) (hz : 0 ≤ z.toInt) : (((z.toUInt32 >>> (q &&& 31).toUInt32).toInt32) = 0) ↔ z.toInt < (2 ^ k : Nat) := by
  have h1 := c_iushr z q k hk h0
  have h2 := rng32 z
  have h3 : z.toInt % 4294967296 = z.toInt := by omega
  rw [h3] at h1
  have e0 : (0 : Int32).toInt = 0 := by decide
  rw [← Int32.toInt_inj, h1, e0]
  have hp : (0 : Int) < (2 ^ k : Nat) := by have := Nat.two_pow_pos k; omega
  constructor
  · intro h
    exact Int.lt_of_not_ge fun hg => by
      have := Int.le_ediv_of_mul_le hp (show 1 * ((2 ^ k : Nat) : Int) ≤ z.toInt by omega)
      omega
  · intro h
    exact Int.ediv_eq_zero_of_lt hz h
theorem own_m3 (a : Int32) : a &&& (3 : Int32) = 0 ∨ a &&& (3 : Int32) = 1 ∨ a &&& (3 : Int32) = 2 ∨ a &&& (3 : Int32) = 3 := by
  have h := c_mask a 3 2 (by decide) (by decide)
  simp only [← Int32.toInt_inj, h]
  have e0 : (0 : Int32).toInt = 0 := by decide
  have e1 : (1 : Int32).toInt = 1 := by decide
  have e2 : (2 : Int32).toInt = 2 := by decide
  have e3 : (3 : Int32).toInt = 3 := by decide
  rw [e0, e1, e2, e3]; omega
theorem own_r (a y : Int32) (d b : Int) (hy : y.toInt = d) (hd : 0 < d) (c : Int32) (hc : c.toInt = b) (hb : 0 ≤ b ∧ b + d ≤ 2147483647) : b ≤ (c + (a &&& (2147483647 : Int32)) % y).toInt ∧ (c + (a &&& (2147483647 : Int32)) % y).toInt < b + d := by
  have h1 := c_mask a 2147483647 31 (by decide) (by decide)
  have h2 := (c_irem (a &&& 2147483647) y d hy).1 (by rw [h1]; omega)
  have h3 := c_iadd c ((a &&& 2147483647) % y)
  have h4 := rng32 (c + (a &&& 2147483647) % y)
  have h5 : 0 ≤ ((a &&& 2147483647) % y).toInt ∧ ((a &&& 2147483647) % y).toInt < d := by
    rw [h2]; exact ⟨Int.emod_nonneg _ (by omega), Int.emod_lt_of_pos _ hd⟩
  rw [hc] at h3
  omega
theorem own_co (b : Int32) (h : 128 ≤ b.toInt ∧ b.toInt < 192) : fCo b = 1 := by
  have key : ∀ n : Fin 64, Int32.ofInt (128 + n.val) &&& (192 : Int32) = 128 := by decide +kernel
  have h1 := key ⟨(b.toInt - 128).toNat, by omega⟩
  have e : (128 + ((b.toInt - 128).toNat : Int)) = b.toInt := by omega
  simp only [e, Int32.ofInt_toInt] at h1
  unfold fCo
  rw [if_pos h1]
theorem own_shl (y q : Int32) (k : Nat) (P : Int) (hP : P = (2 ^ k : Nat)) (hk : q.toBitVec.toNat % 32 = k) (h : 0 ≤ y.toInt * P ∧ y.toInt * P < 2147483648) : (y <<< (q &&& 31)).toInt = y.toInt * P := by
  have h1 := c_ishl y q k hk
  rw [← hP] at h1
  have h2 := rng32 (y <<< (q &&& 31))
  generalize y.toInt * P = w at *
  omega
theorem own_or (a b : Int32) (k : Nat) (hk : k ≤ 31) (P : Int) (hP : P = (2 ^ k : Nat)) (h1 : a.toInt % P = 0) (h2 : 0 ≤ b.toInt ∧ b.toInt < P) (h3 : 0 ≤ a.toInt ∧ a.toInt + P ≤ 2147483648) : (a ||| b).toInt = a.toInt + b.toInt := by
  have h4 := c_or a b k hk P hP h1 h2.1 h2.2
  have h5 := rng32 (a ||| b)
  omega
theorem own_mk (b m : Int32) (k : Nat) (P : Int) (hP : P = (2 ^ k : Nat)) (hk : k ≤ 31) (hm : m.toBitVec.toNat = 2 ^ k - 1) : (b &&& m).toInt = b.toInt % P := by rw [c_mask b m k hk hm, hP]
theorem own_d2 (b0 b1 cp : Int32) (A B : Int) (a1 : 2 ≤ A) (a2 : A ≤ 31) (a3 : 0 ≤ B) (a4 : B ≤ 63) (hcp : cp.toInt = 64 * A + B) (V0 : b0.toInt = 192 + A) (V1 : b1.toInt = 128 + B) : ((b0 &&& (31 : Int32)) <<< ((6 : Int32) &&& 31)) ||| (b1 &&& (63 : Int32)) = cp := by
  have m0 := own_mk b0 31 5 32 (by decide) (by decide) (by decide)
  have m1 := own_mk b1 63 6 64 (by decide) (by decide) (by decide)
  have n0 : (b0 &&& (31 : Int32)).toInt = A := by rw [m0, V0]; omega
  have n1 : (b1 &&& (63 : Int32)).toInt = B := by rw [m1, V1]; omega
  have s0 := own_shl (b0 &&& 31) 6 6 64 (by decide) (by decide) (by rw [n0]; omega)
  rw [n0] at s0
  have o := own_or ((b0 &&& (31 : Int32)) <<< ((6 : Int32) &&& 31)) (b1 &&& 63) 6 (by decide) 64 (by decide) (by rw [s0]; omega) (by rw [n1]; omega) (by rw [s0]; omega)
  rw [← Int32.toInt_inj, o, s0, n1, hcp]
  omega
theorem own_d3 (b0 b1 b2 cp : Int32) (A B C : Int) (a1 : 0 ≤ A) (a2 : A ≤ 15) (a3 : 0 ≤ B) (a4 : B ≤ 63) (a5 : 0 ≤ C) (a6 : C ≤ 63) (hcp : cp.toInt = 4096 * A + 64 * B + C) (V0 : b0.toInt = 224 + A) (V1 : b1.toInt = 128 + B) (V2 : b2.toInt = 128 + C) : (((b0 &&& (15 : Int32)) <<< ((12 : Int32) &&& 31)) ||| ((b1 &&& (63 : Int32)) <<< ((6 : Int32) &&& 31))) ||| (b2 &&& (63 : Int32)) = cp := by
  have n0 : (b0 &&& (15 : Int32)).toInt = A := by rw [own_mk b0 15 4 16 (by decide) (by decide) (by decide), V0]; omega
  have n1 : (b1 &&& (63 : Int32)).toInt = B := by rw [own_mk b1 63 6 64 (by decide) (by decide) (by decide), V1]; omega
  have n2 : (b2 &&& (63 : Int32)).toInt = C := by rw [own_mk b2 63 6 64 (by decide) (by decide) (by decide), V2]; omega
  have s0 := own_shl (b0 &&& 15) 12 12 4096 (by decide) (by decide) (by rw [n0]; omega)
  have s1 := own_shl (b1 &&& 63) 6 6 64 (by decide) (by decide) (by rw [n1]; omega)
  rw [n0] at s0
  rw [n1] at s1
  have o := own_or ((b0 &&& (15 : Int32)) <<< ((12 : Int32) &&& 31)) ((b1 &&& (63 : Int32)) <<< ((6 : Int32) &&& 31)) 12 (by decide) 4096 (by decide) (by rw [s0]; omega) (by rw [s1]; omega) (by rw [s0]; omega)
  rw [s0, s1] at o
  have o2 := own_or _ (b2 &&& 63) 6 (by decide) 64 (by decide) (show (((b0 &&& (15 : Int32)) <<< ((12 : Int32) &&& 31)) ||| ((b1 &&& (63 : Int32)) <<< ((6 : Int32) &&& 31))).toInt % 64 = 0 by rw [o]; omega) (by rw [n2]; omega) (by rw [o]; omega)
  rw [← Int32.toInt_inj, o2, o, n2, hcp]
  omega
theorem own_d4 (b0 b1 b2 b3 cp : Int32) (A B C D : Int) (a1 : 0 ≤ A) (a2 : A ≤ 4) (a3 : 0 ≤ B) (a4 : B ≤ 63) (a5 : 0 ≤ C) (a6 : C ≤ 63) (a7 : 0 ≤ D) (a8 : D ≤ 63) (hcp : cp.toInt = 262144 * A + 4096 * B + 64 * C + D) (V0 : b0.toInt = 240 + A) (V1 : b1.toInt = 128 + B) (V2 : b2.toInt = 128 + C) (V3 : b3.toInt = 128 + D) : ((((b0 &&& (7 : Int32)) <<< ((18 : Int32) &&& 31)) ||| ((b1 &&& (63 : Int32)) <<< ((12 : Int32) &&& 31))) ||| ((b2 &&& (63 : Int32)) <<< ((6 : Int32) &&& 31))) ||| (b3 &&& (63 : Int32)) = cp := by
  have n0 : (b0 &&& (7 : Int32)).toInt = A := by rw [own_mk b0 7 3 8 (by decide) (by decide) (by decide), V0]; omega
  have n1 : (b1 &&& (63 : Int32)).toInt = B := by rw [own_mk b1 63 6 64 (by decide) (by decide) (by decide), V1]; omega
  have n2 : (b2 &&& (63 : Int32)).toInt = C := by rw [own_mk b2 63 6 64 (by decide) (by decide) (by decide), V2]; omega
  have n3 : (b3 &&& (63 : Int32)).toInt = D := by rw [own_mk b3 63 6 64 (by decide) (by decide) (by decide), V3]; omega
  have s0 := own_shl (b0 &&& 7) 18 18 262144 (by decide) (by decide) (by rw [n0]; omega)
  have s1 := own_shl (b1 &&& 63) 12 12 4096 (by decide) (by decide) (by rw [n1]; omega)
  have s2 := own_shl (b2 &&& 63) 6 6 64 (by decide) (by decide) (by rw [n2]; omega)
  rw [n0] at s0
  rw [n1] at s1
  rw [n2] at s2
  have o := own_or ((b0 &&& (7 : Int32)) <<< ((18 : Int32) &&& 31)) ((b1 &&& (63 : Int32)) <<< ((12 : Int32) &&& 31)) 18 (by decide) 262144 (by decide) (by rw [s0]; omega) (by rw [s1]; omega) (by rw [s0]; omega)
  rw [s0, s1] at o
  have o2 := own_or _ ((b2 &&& (63 : Int32)) <<< ((6 : Int32) &&& 31)) 12 (by decide) 4096 (by decide) (show (((b0 &&& (7 : Int32)) <<< ((18 : Int32) &&& 31)) ||| ((b1 &&& (63 : Int32)) <<< ((12 : Int32) &&& 31))).toInt % 4096 = 0 by rw [o]; omega) (by rw [s2]; omega) (by rw [o]; omega)
  rw [o, s2] at o2
  have o3 := own_or _ (b3 &&& 63) 6 (by decide) 64 (by decide) (show ((((b0 &&& (7 : Int32)) <<< ((18 : Int32) &&& 31)) ||| ((b1 &&& (63 : Int32)) <<< ((12 : Int32) &&& 31))) ||| ((b2 &&& (63 : Int32)) <<< ((6 : Int32) &&& 31))).toInt % 64 = 0 by rw [o2]; omega) (by rw [n3]; omega) (by rw [o2]; omega)
  rw [← Int32.toInt_inj, o3, o2, n3, hcp]
  omega
theorem own_z (b : Int32) (h : b.toInt = 0) : b = 0 := by
  rw [← Int32.toInt_inj, h]; decide

theorem pd0_0 : parseMethodDescriptor "(I)I" = some ⟨[.int], some .int⟩ := by decide +kernel
theorem pd0_1 : parseMethodDescriptor "(I)Z" = some ⟨[.int], some .boolean⟩ := by decide +kernel
theorem pn0 : plainName "com/example/pctenc/pctenc/Utf8EncodePinLaw" = true := by first | (simp [plainName, overriddenIn]; done) | decide +kernel
theorem ef0 (m : MethodId) (s0 : Int32) (x0 : Int32) : entryFrame m #[(.int s0), (.int x0)] maxLocals = mkF m 0 #[.val (.int s0), .val (.int x0), .unset, .unset, .unset, .unset, .unset, .unset, .unset, .unset] [] := by first | (simp [entryFrame, mkF, argsToLocals, Value.category, maxLocals]; done) | rfl
def Q0 (Z : State) (h0 : Heap) (n0 : Nat) (v : Option Value) (h : Heap) (L : List Loc) : Prop := v = some (.int 1) ∧ Fr n0 L
set_option maxRecDepth 65536 in
set_option maxHeartbeats 40000000 in
theorem rm0 (l : Launch) (Z : State) (a0 : Array Value) (hw : ∀ d ∈ tables_1, d.before a0 Z = true) (ws : List Jvm.Cond) (s0 : Int32) (x0 : Int32) (h0 : Heap) (n0 : Nat) (Z0 : n0 ≤ h0.size) :
    MetFree l x (head1 (Jvm.Cond.code x code maxLocals ret :: ws) room_1) (fun aa U => aa = #[(.int s0), (.int x0)] ∧ Z.Warmed39 U.vm ∧ U.heap = h0) (fun _ _ _ _ _ => True) (fun _ U o U' => ∃ v L, o = .returned v ∧ Q0 Z h0 n0 v U'.heap L ∧ FrameEnd U o U' L 0 0) := by
  refine MetFree.of_bodySF (plainFor_of_name pn0) hisR ?_
  intro p e s m args below meth c s₁ Bd hml0 hP hK
  obtain ⟨rfl, hZ, hh⟩ := hP
  have hx := Bd.exec
  have hby := Bd.bytes
  have hml : c.maxLocals = 10 := hml0
  have hown : s.vm.findClass "com/example/pctenc/pctenc/Utf8EncodePinLaw" = some m.cls := findClass_of_methodNamed Bd.named
  have hnm := (name_of_methodNamed Bd.named Bd.method).1
  have hlk : meth.locks = false := BodyLoose.notSynchronized Bd
  have hret : meth.sig.returnType = (some .boolean) := Bd.returns
  have X0 : Stand p l e room_1 s m #[(.int s0), (.int x0)] below meth c s₁ [] 0 0 := Stand.of_body Bd
  have e0 : s₁.heap = h0 := by rw [← hh, Bd.state]; rfl
  have N0 := Fr.nil n0
  show Go p e below s 0 0 (Q0 Z h0 n0) (s₁.setTop (entryFrame m #[(.int s0), (.int x0)] maxLocals))
  rw [ef0]
  refine Go.by (fun _ kont => XS.iloadN X0.here hx rfl (hb hby at_0) rfl (XS.iconst X0.here hx rfl (hb hby at_1) (XS.iand X0.here hx rfl (hb hby at_2) rfl (XS.istoreN X0.here hx rfl (hb hby at_3) rfl (l' := #[.val (.int s0), .val (.int x0), .val (.int (s0 &&& (3 : Int32))), .unset, .unset, .unset, .unset, .unset, .unset, .unset]) rfl (XS.iloadN X0.here hx rfl (hb hby at_4) rfl (X0.ldcInt hx hown (mvT hZ (hw _ (List.mem_of_getElem? (i := 0) rfl))) (g := (mkF m 5 #[.val (.int s0), .val (.int x0), .val (.int (s0 &&& (3 : Int32))), .unset, .unset, .unset, .unset, .unset, .unset, .unset] [(.int x0)])) rfl (hb hby at_5) _ kont)))))) ?_
  show Go _ _ _ _ _ _ _ (s₁.setTop (mkF m 7 #[.val (.int s0), .val (.int x0), .val (.int (s0 &&& (3 : Int32))), .unset, .unset, .unset, .unset, .unset, .unset, .unset] [(.int (2147483647 : Int32)), (.int x0)]))
  refine Go.by (fun _ kont => XS.iand X0.here hx rfl (hb hby at_7) rfl (XS.istoreN X0.here hx rfl (hb hby at_8) rfl (l' := #[.val (.int s0), .val (.int x0), .val (.int (s0 &&& (3 : Int32))), .val (.int (x0 &&& (2147483647 : Int32))), .unset, .unset, .unset, .unset, .unset, .unset]) rfl kont)) ?_
  show Go _ _ _ _ _ _ _ (s₁.setTop (mkF m 9 #[.val (.int s0), .val (.int x0), .val (.int (s0 &&& (3 : Int32))), .val (.int (x0 &&& (2147483647 : Int32))), .unset, .unset, .unset, .unset, .unset, .unset] []))
  have C_kd := own_m3 s0
  generalize hg_kd : (s0 &&& (3 : Int32)) = kd at C_kd ⊢
  rcases C_kd with rfl | rfl | rfl | rfl
  · show Go _ _ _ _ _ _ _ (s₁.setTop (mkF m 9 #[.val (.int s0), .val (.int x0), .val (.int (0 : Int32)), .val (.int (x0 &&& (2147483647 : Int32))), .unset, .unset, .unset, .unset, .unset, .unset] []))
    refine Go.by (fun _ kont => XS.iloadN X0.here hx rfl (hb hby at_9) rfl kont) ?_
    show Go _ _ _ _ _ _ _ (s₁.setTop (mkF m 10 #[.val (.int s0), .val (.int x0), .val (.int (0 : Int32)), .val (.int (x0 &&& (2147483647 : Int32))), .unset, .unset, .unset, .unset, .unset, .unset] [(.int (0 : Int32))]))
    refine Go.by (fun _ kont => XS.ifNo X0.here hx rfl (hb hby at_10) rfl (by decide) kont) ?_
    show Go _ _ _ _ _ _ _ (s₁.setTop (mkF m 13 #[.val (.int s0), .val (.int x0), .val (.int (0 : Int32)), .val (.int (x0 &&& (2147483647 : Int32))), .unset, .unset, .unset, .unset, .unset, .unset] []))
    refine Go.by (fun _ kont => XS.iloadN X0.here hx rfl (hb hby at_13) rfl (XS.bipush X0.here hx rfl (hb hby at_14) (XS.iand X0.here hx rfl (hb hby at_16) rfl (XS.istore X0.here hx rfl (hb hby at_17) rfl (l' := #[.val (.int s0), .val (.int x0), .val (.int (0 : Int32)), .val (.int (x0 &&& (2147483647 : Int32))), .val (.int (x0 &&& (127 : Int32))), .unset, .unset, .unset, .unset, .unset]) rfl (XS.goto X0.here hx rfl (pc0 := 19) (pc' := 90) rfl (hb hby at_19) (by decide) (by decide) kont))))) ?_
    show Go _ _ _ _ _ _ _ (s₁.setTop (mkF m 90 #[.val (.int s0), .val (.int x0), .val (.int (0 : Int32)), .val (.int (x0 &&& (2147483647 : Int32))), .val (.int (x0 &&& (127 : Int32))), .unset, .unset, .unset, .unset, .unset] []))
    have Bcp : 0 ≤ (x0 &&& (127 : Int32)).toInt ∧ (x0 &&& (127 : Int32)).toInt < 128 := by have q := c_mask x0 127 7 (by decide) (by decide); rw [q]; omega
    generalize (x0 &&& (127 : Int32)) = cp at Bcp ⊢
    show Go _ _ _ _ _ _ _ (s₁.setTop (mkF m 90 #[.val (.int s0), .val (.int x0), .val (.int (0 : Int32)), .val (.int (x0 &&& (2147483647 : Int32))), .val (.int cp), .unset, .unset, .unset, .unset, .unset] []))
    refine Go.by (fun _ kont => XS.iload X0.here hx rfl (hb hby at_90) rfl kont) ?_
    show Go _ _ _ _ _ _ _ (s₁.setTop (mkF m 92 #[.val (.int s0), .val (.int x0), .val (.int (0 : Int32)), .val (.int (x0 &&& (2147483647 : Int32))), .val (.int cp), .unset, .unset, .unset, .unset, .unset] [(.int cp)]))
    obtain ⟨_, _, ⟨T101, L101, k101, n101⟩, -, X101, ⟨Lc101, hQ101, l101, y101, z101⟩, st101⟩ := Jvm.LawKit.callS X0 hx (y := (⟨"com/example/pctenc/pctenc/Utf8", "encode", "(I)I"⟩ : MethodName)) hown (mvT hZ (hw _ (List.mem_of_getElem? (i := 1) rfl))) (mvT hZ (hw _ (List.mem_of_getElem? (i := 2) rfl))) (mvT hZ (hw _ (List.mem_of_getElem? (i := 3) rfl))) (mvT hZ (hw _ (List.mem_of_getElem? (i := 4) rfl))) (by decide) (backOf (W := 0) (rmEn l Z a0 hw [] cp h0 n0 Z0 ) hZ (hw _ (List.mem_of_getElem? (i := 4) rfl)) (hw _ (List.mem_of_getElem? (i := 3) rfl)) (by decide) (by decide)) (g := (mkF m 92 #[.val (.int s0), .val (.int x0), .val (.int (0 : Int32)), .val (.int (x0 &&& (2147483647 : Int32))), .val (.int cp), .unset, .unset, .unset, .unset, .unset] [(.int cp)])) rfl (by rw [hml]; rfl) (argsL := [(.int cp)]) (rest := []) (lenOf pd0_0 rfl) rfl (by show 2 * 0 + _ ≤ _; exact Nat.le_of_eq rfl) (hb hby at_92) (fun _ _ => ⟨rfl, e0, (by decide : 0 + 0 ≤ _), (by decide : 0 + 0 ≤ _)⟩)
    dsimp only [Pt.U, Pt.locs, Pt.cells, Pt.slots] at X101 l101 y101 z101 st101 hQ101
    subst l101 y101 z101
    obtain ⟨rfl, N101q, eh101⟩ := hQ101
    have N101 := Fr.app N0 N101q
    refine Go.by st101 ?_
    show Go _ _ _ _ _ _ _ (T101.setTop (mkF m 95 #[.val (.int s0), .val (.int x0), .val (.int (0 : Int32)), .val (.int (x0 &&& (2147483647 : Int32))), .val (.int cp), .unset, .unset, .unset, .unset, .unset] [(.int (fEn cp))]))
    have hE := own_e1 cp Bcp.1 Bcp.2
    have hE : (fEn cp).toInt = cp.toInt := by rw [hE]
    generalize (fEn cp) = ee at hE ⊢
    have rE := rng32 ee
    show Go _ _ _ _ _ _ _ (T101.setTop (mkF m 95 #[.val (.int s0), .val (.int x0), .val (.int (0 : Int32)), .val (.int (x0 &&& (2147483647 : Int32))), .val (.int cp), .unset, .unset, .unset, .unset, .unset] [(.int ee)]))
    refine Go.by (fun _ kont => XS.istore X101.here hx rfl (hb hby at_95) rfl (l' := #[.val (.int s0), .val (.int x0), .val (.int (0 : Int32)), .val (.int (x0 &&& (2147483647 : Int32))), .val (.int cp), .val (.int ee), .unset, .unset, .unset, .unset]) rfl (XS.iload X101.here hx rfl (hb hby at_97) rfl (XS.sipush X101.here hx rfl (hb hby at_99) (XS.iand X101.here hx rfl (hb hby at_102) rfl (XS.istore X101.here hx rfl (hb hby at_103) rfl (l' := #[.val (.int s0), .val (.int x0), .val (.int (0 : Int32)), .val (.int (x0 &&& (2147483647 : Int32))), .val (.int cp), .val (.int ee), .val (.int (ee &&& (255 : Int32))), .unset, .unset, .unset]) rfl (XS.iload X101.here hx rfl (hb hby at_105) rfl kont)))))) ?_
    show Go _ _ _ _ _ _ _ (T101.setTop (mkF m 107 #[.val (.int s0), .val (.int x0), .val (.int (0 : Int32)), .val (.int (x0 &&& (2147483647 : Int32))), .val (.int cp), .val (.int ee), .val (.int (ee &&& (255 : Int32))), .unset, .unset, .unset] [(.int ee)]))
    refine Go.by (fun _ kont => XS.bipush X101.here hx rfl (hb hby at_107) (XS.iushr X101.here hx rfl (hb hby at_109) rfl (XS.sipush X101.here hx rfl (hb hby at_110) (XS.iand X101.here hx rfl (hb hby at_113) rfl (XS.istore X101.here hx rfl (hb hby at_114) rfl (l' := #[.val (.int s0), .val (.int x0), .val (.int (0 : Int32)), .val (.int (x0 &&& (2147483647 : Int32))), .val (.int cp), .val (.int ee), .val (.int (ee &&& (255 : Int32))), .val (.int (((ee.toUInt32 >>> ((8 : Int32) &&& 31).toUInt32).toInt32) &&& (255 : Int32))), .unset, .unset]) rfl (XS.iload X101.here hx rfl (hb hby at_116) rfl kont)))))) ?_
    show Go _ _ _ _ _ _ _ (T101.setTop (mkF m 118 #[.val (.int s0), .val (.int x0), .val (.int (0 : Int32)), .val (.int (x0 &&& (2147483647 : Int32))), .val (.int cp), .val (.int ee), .val (.int (ee &&& (255 : Int32))), .val (.int (((ee.toUInt32 >>> ((8 : Int32) &&& 31).toUInt32).toInt32) &&& (255 : Int32))), .unset, .unset] [(.int ee)]))
    refine Go.by (fun _ kont => XS.bipush X101.here hx rfl (hb hby at_118) (XS.iushr X101.here hx rfl (hb hby at_120) rfl (XS.sipush X101.here hx rfl (hb hby at_121) (XS.iand X101.here hx rfl (hb hby at_124) rfl (XS.istore X101.here hx rfl (hb hby at_125) rfl (l' := #[.val (.int s0), .val (.int x0), .val (.int (0 : Int32)), .val (.int (x0 &&& (2147483647 : Int32))), .val (.int cp), .val (.int ee), .val (.int (ee &&& (255 : Int32))), .val (.int (((ee.toUInt32 >>> ((8 : Int32) &&& 31).toUInt32).toInt32) &&& (255 : Int32))), .val (.int (((ee.toUInt32 >>> ((16 : Int32) &&& 31).toUInt32).toInt32) &&& (255 : Int32))), .unset]) rfl (XS.iload X101.here hx rfl (hb hby at_127) rfl kont)))))) ?_
    show Go _ _ _ _ _ _ _ (T101.setTop (mkF m 129 #[.val (.int s0), .val (.int x0), .val (.int (0 : Int32)), .val (.int (x0 &&& (2147483647 : Int32))), .val (.int cp), .val (.int ee), .val (.int (ee &&& (255 : Int32))), .val (.int (((ee.toUInt32 >>> ((8 : Int32) &&& 31).toUInt32).toInt32) &&& (255 : Int32))), .val (.int (((ee.toUInt32 >>> ((16 : Int32) &&& 31).toUInt32).toInt32) &&& (255 : Int32))), .unset] [(.int ee)]))
    refine Go.by (fun _ kont => XS.bipush X101.here hx rfl (hb hby at_129) (XS.iushr X101.here hx rfl (hb hby at_131) rfl (XS.istore X101.here hx rfl (hb hby at_132) rfl (l' := #[.val (.int s0), .val (.int x0), .val (.int (0 : Int32)), .val (.int (x0 &&& (2147483647 : Int32))), .val (.int cp), .val (.int ee), .val (.int (ee &&& (255 : Int32))), .val (.int (((ee.toUInt32 >>> ((8 : Int32) &&& 31).toUInt32).toInt32) &&& (255 : Int32))), .val (.int (((ee.toUInt32 >>> ((16 : Int32) &&& 31).toUInt32).toInt32) &&& (255 : Int32))), .val (.int ((ee.toUInt32 >>> ((24 : Int32) &&& 31).toUInt32).toInt32))]) rfl kont))) ?_
    show Go _ _ _ _ _ _ _ (T101.setTop (mkF m 134 #[.val (.int s0), .val (.int x0), .val (.int (0 : Int32)), .val (.int (x0 &&& (2147483647 : Int32))), .val (.int cp), .val (.int ee), .val (.int (ee &&& (255 : Int32))), .val (.int (((ee.toUInt32 >>> ((8 : Int32) &&& 31).toUInt32).toInt32) &&& (255 : Int32))), .val (.int (((ee.toUInt32 >>> ((16 : Int32) &&& 31).toUInt32).toInt32) &&& (255 : Int32))), .val (.int ((ee.toUInt32 >>> ((24 : Int32) &&& 31).toUInt32).toInt32))] []))
    have hBY := own_bytes ee cp.toInt 0 0 0 (by omega) (by omega) (by omega) (by omega) (by rw [hE]; omega)
    obtain ⟨V0, V1, V2, V3⟩ := hBY
    generalize ((ee.toUInt32 >>> ((24 : Int32) &&& 31).toUInt32).toInt32) = b3 at V3 ⊢
    generalize (((ee.toUInt32 >>> ((16 : Int32) &&& 31).toUInt32).toInt32) &&& (255 : Int32)) = b2 at V2 ⊢
    generalize (((ee.toUInt32 >>> ((8 : Int32) &&& 31).toUInt32).toInt32) &&& (255 : Int32)) = b1 at V1 ⊢
    generalize (ee &&& (255 : Int32)) = b0 at V0 ⊢
    show Go _ _ _ _ _ _ _ (T101.setTop (mkF m 134 #[.val (.int s0), .val (.int x0), .val (.int (0 : Int32)), .val (.int (x0 &&& (2147483647 : Int32))), .val (.int cp), .val (.int ee), .val (.int b0), .val (.int b1), .val (.int b2), .val (.int b3)] []))
    refine Go.by (fun _ kont => XS.iloadN X101.here hx rfl (hb hby at_134) rfl kont) ?_
    show Go _ _ _ _ _ _ _ (T101.setTop (mkF m 135 #[.val (.int s0), .val (.int x0), .val (.int (0 : Int32)), .val (.int (x0 &&& (2147483647 : Int32))), .val (.int cp), .val (.int ee), .val (.int b0), .val (.int b1), .val (.int b2), .val (.int b3)] [(.int (0 : Int32))]))
    refine Go.by (fun _ kont => XS.ifNo X101.here hx rfl (hb hby at_135) rfl (by decide) kont) ?_
    show Go _ _ _ _ _ _ _ (T101.setTop (mkF m 138 #[.val (.int s0), .val (.int x0), .val (.int (0 : Int32)), .val (.int (x0 &&& (2147483647 : Int32))), .val (.int cp), .val (.int ee), .val (.int b0), .val (.int b1), .val (.int b2), .val (.int b3)] []))
    refine Go.by (fun _ kont => XS.iload X101.here hx rfl (hb hby at_138) rfl (XS.iload X101.here hx rfl (hb hby at_140) rfl kont)) ?_
    show Go _ _ _ _ _ _ _ (T101.setTop (mkF m 142 #[.val (.int s0), .val (.int x0), .val (.int (0 : Int32)), .val (.int (x0 &&& (2147483647 : Int32))), .val (.int cp), .val (.int ee), .val (.int b0), .val (.int b1), .val (.int b2), .val (.int b3)] [(.int cp), (.int b0)]))
    have hd102 : b0 = cp := by rw [← Int32.toInt_inj, V0]
    refine Go.by (fun _ kont => XS.icmpNo X101.here hx rfl (hb hby at_142) rfl (teq hd102).2 kont) ?_
    show Go _ _ _ _ _ _ _ (T101.setTop (mkF m 145 #[.val (.int s0), .val (.int x0), .val (.int (0 : Int32)), .val (.int (x0 &&& (2147483647 : Int32))), .val (.int cp), .val (.int ee), .val (.int b0), .val (.int b1), .val (.int b2), .val (.int b3)] []))
    refine Go.by (fun _ kont => XS.iload X101.here hx rfl (hb hby at_145) rfl kont) ?_
    show Go _ _ _ _ _ _ _ (T101.setTop (mkF m 147 #[.val (.int s0), .val (.int x0), .val (.int (0 : Int32)), .val (.int (x0 &&& (2147483647 : Int32))), .val (.int cp), .val (.int ee), .val (.int b0), .val (.int b1), .val (.int b2), .val (.int b3)] [(.int b1)]))
    have hd103 : b1 = (0 : Int32) := own_z _ V1
    refine Go.by (fun _ kont => XS.ifNo X101.here hx rfl (hb hby at_147) rfl ((if0 _ _).trans (teq hd103).2) kont) ?_
    show Go _ _ _ _ _ _ _ (T101.setTop (mkF m 150 #[.val (.int s0), .val (.int x0), .val (.int (0 : Int32)), .val (.int (x0 &&& (2147483647 : Int32))), .val (.int cp), .val (.int ee), .val (.int b0), .val (.int b1), .val (.int b2), .val (.int b3)] []))
    refine Go.by (fun _ kont => XS.iload X101.here hx rfl (hb hby at_150) rfl kont) ?_
    show Go _ _ _ _ _ _ _ (T101.setTop (mkF m 152 #[.val (.int s0), .val (.int x0), .val (.int (0 : Int32)), .val (.int (x0 &&& (2147483647 : Int32))), .val (.int cp), .val (.int ee), .val (.int b0), .val (.int b1), .val (.int b2), .val (.int b3)] [(.int b2)]))
    have hd104 : b2 = (0 : Int32) := own_z _ V2
    refine Go.by (fun _ kont => XS.ifNo X101.here hx rfl (hb hby at_152) rfl ((if0 _ _).trans (teq hd104).2) kont) ?_
    show Go _ _ _ _ _ _ _ (T101.setTop (mkF m 155 #[.val (.int s0), .val (.int x0), .val (.int (0 : Int32)), .val (.int (x0 &&& (2147483647 : Int32))), .val (.int cp), .val (.int ee), .val (.int b0), .val (.int b1), .val (.int b2), .val (.int b3)] []))
    refine Go.by (fun _ kont => XS.iload X101.here hx rfl (hb hby at_155) rfl kont) ?_
    show Go _ _ _ _ _ _ _ (T101.setTop (mkF m 157 #[.val (.int s0), .val (.int x0), .val (.int (0 : Int32)), .val (.int (x0 &&& (2147483647 : Int32))), .val (.int cp), .val (.int ee), .val (.int b0), .val (.int b1), .val (.int b2), .val (.int b3)] [(.int b3)]))
    have hd105 : b3 = (0 : Int32) := own_z _ V3
    refine Go.by (fun _ kont => XS.ifNo X101.here hx rfl (hb hby at_157) rfl ((if0 _ _).trans (teq hd105).2) kont) ?_
    show Go _ _ _ _ _ _ _ (T101.setTop (mkF m 160 #[.val (.int s0), .val (.int x0), .val (.int (0 : Int32)), .val (.int (x0 &&& (2147483647 : Int32))), .val (.int cp), .val (.int ee), .val (.int b0), .val (.int b1), .val (.int b2), .val (.int b3)] []))
    refine Go.by (fun _ kont => XS.iconst X101.here hx rfl (hb hby at_160) (XS.goto X101.here hx rfl (pc0 := 161) (pc' := 165) rfl (hb hby at_161) (by decide) (by decide) kont)) ?_
    show Go _ _ _ _ _ _ _ (T101.setTop (mkF m 165 #[.val (.int s0), .val (.int x0), .val (.int (0 : Int32)), .val (.int (x0 &&& (2147483647 : Int32))), .val (.int cp), .val (.int ee), .val (.int b0), .val (.int b1), .val (.int b2), .val (.int b3)] [(.int (1 : Int32))]))
    refine Go.retN X101 hx (t := .boolean) hret (by simp) hlk (hb hby at_165) ?_ (by decide) (by decide)
    show Q0 Z h0 n0 (some (.int (1 : Int32))) T101.heap _
    rw [eh101]
    exact ⟨rfl, N101⟩
  · show Go _ _ _ _ _ _ _ (s₁.setTop (mkF m 9 #[.val (.int s0), .val (.int x0), .val (.int (1 : Int32)), .val (.int (x0 &&& (2147483647 : Int32))), .unset, .unset, .unset, .unset, .unset, .unset] []))
    refine Go.by (fun _ kont => XS.iloadN X0.here hx rfl (hb hby at_9) rfl kont) ?_
    show Go _ _ _ _ _ _ _ (s₁.setTop (mkF m 10 #[.val (.int s0), .val (.int x0), .val (.int (1 : Int32)), .val (.int (x0 &&& (2147483647 : Int32))), .unset, .unset, .unset, .unset, .unset, .unset] [(.int (1 : Int32))]))
    refine Go.by (fun _ kont => XS.ifYes X0.here hx rfl (pc0 := 10) (pc' := 22) rfl (hb hby at_10) rfl (by decide) (by decide) (by decide) kont) ?_
    show Go _ _ _ _ _ _ _ (s₁.setTop (mkF m 22 #[.val (.int s0), .val (.int x0), .val (.int (1 : Int32)), .val (.int (x0 &&& (2147483647 : Int32))), .unset, .unset, .unset, .unset, .unset, .unset] []))
    refine Go.by (fun _ kont => XS.iloadN X0.here hx rfl (hb hby at_22) rfl (XS.iconst X0.here hx rfl (hb hby at_23) kont)) ?_
    show Go _ _ _ _ _ _ _ (s₁.setTop (mkF m 24 #[.val (.int s0), .val (.int x0), .val (.int (1 : Int32)), .val (.int (x0 &&& (2147483647 : Int32))), .unset, .unset, .unset, .unset, .unset, .unset] [(.int (1 : Int32)), (.int (1 : Int32))]))
    refine Go.by (fun _ kont => XS.icmpNo X0.here hx rfl (hb hby at_24) rfl (by decide) kont) ?_
    show Go _ _ _ _ _ _ _ (s₁.setTop (mkF m 27 #[.val (.int s0), .val (.int x0), .val (.int (1 : Int32)), .val (.int (x0 &&& (2147483647 : Int32))), .unset, .unset, .unset, .unset, .unset, .unset] []))
    refine Go.by (fun _ kont => XS.sipush X0.here hx rfl (hb hby at_27) (XS.iloadN X0.here hx rfl (hb hby at_30) rfl (XS.sipush X0.here hx rfl (hb hby at_31) (iremM X0 hx rfl (hb hby at_34) rfl (by decide) (XS.iadd X0.here hx rfl (hb hby at_35) rfl (XS.istore X0.here hx rfl (hb hby at_36) rfl (l' := #[.val (.int s0), .val (.int x0), .val (.int (1 : Int32)), .val (.int (x0 &&& (2147483647 : Int32))), .val (.int ((128 : Int32) + ((x0 &&& (2147483647 : Int32)) % (1920 : Int32)))), .unset, .unset, .unset, .unset, .unset]) rfl kont)))))) ?_
    show Go _ _ _ _ _ _ _ (s₁.setTop (mkF m 38 #[.val (.int s0), .val (.int x0), .val (.int (1 : Int32)), .val (.int (x0 &&& (2147483647 : Int32))), .val (.int ((128 : Int32) + ((x0 &&& (2147483647 : Int32)) % (1920 : Int32)))), .unset, .unset, .unset, .unset, .unset] []))
    refine Go.by (fun _ kont => XS.goto X0.here hx rfl (pc0 := 38) (pc' := 90) rfl (hb hby at_38) (by decide) (by decide) kont) ?_
    show Go _ _ _ _ _ _ _ (s₁.setTop (mkF m 90 #[.val (.int s0), .val (.int x0), .val (.int (1 : Int32)), .val (.int (x0 &&& (2147483647 : Int32))), .val (.int ((128 : Int32) + ((x0 &&& (2147483647 : Int32)) % (1920 : Int32)))), .unset, .unset, .unset, .unset, .unset] []))
    have Bcp : 128 ≤ ((128 : Int32) + ((x0 &&& (2147483647 : Int32)) % (1920 : Int32))).toInt ∧ ((128 : Int32) + ((x0 &&& (2147483647 : Int32)) % (1920 : Int32))).toInt < 2048 := own_r x0 1920 1920 128 (by decide) (by decide) 128 (by decide) (by decide)
    generalize ((128 : Int32) + ((x0 &&& (2147483647 : Int32)) % (1920 : Int32))) = cp at Bcp ⊢
    show Go _ _ _ _ _ _ _ (s₁.setTop (mkF m 90 #[.val (.int s0), .val (.int x0), .val (.int (1 : Int32)), .val (.int (x0 &&& (2147483647 : Int32))), .val (.int cp), .unset, .unset, .unset, .unset, .unset] []))
    refine Go.by (fun _ kont => XS.iload X0.here hx rfl (hb hby at_90) rfl kont) ?_
    show Go _ _ _ _ _ _ _ (s₁.setTop (mkF m 92 #[.val (.int s0), .val (.int x0), .val (.int (1 : Int32)), .val (.int (x0 &&& (2147483647 : Int32))), .val (.int cp), .unset, .unset, .unset, .unset, .unset] [(.int cp)]))
    obtain ⟨_, _, ⟨T106, L106, k106, n106⟩, -, X106, ⟨Lc106, hQ106, l106, y106, z106⟩, st106⟩ := Jvm.LawKit.callS X0 hx (y := (⟨"com/example/pctenc/pctenc/Utf8", "encode", "(I)I"⟩ : MethodName)) hown (mvT hZ (hw _ (List.mem_of_getElem? (i := 1) rfl))) (mvT hZ (hw _ (List.mem_of_getElem? (i := 2) rfl))) (mvT hZ (hw _ (List.mem_of_getElem? (i := 3) rfl))) (mvT hZ (hw _ (List.mem_of_getElem? (i := 4) rfl))) (by decide) (backOf (W := 0) (rmEn l Z a0 hw [] cp h0 n0 Z0 ) hZ (hw _ (List.mem_of_getElem? (i := 4) rfl)) (hw _ (List.mem_of_getElem? (i := 3) rfl)) (by decide) (by decide)) (g := (mkF m 92 #[.val (.int s0), .val (.int x0), .val (.int (1 : Int32)), .val (.int (x0 &&& (2147483647 : Int32))), .val (.int cp), .unset, .unset, .unset, .unset, .unset] [(.int cp)])) rfl (by rw [hml]; rfl) (argsL := [(.int cp)]) (rest := []) (lenOf pd0_0 rfl) rfl (by show 2 * 0 + _ ≤ _; exact Nat.le_of_eq rfl) (hb hby at_92) (fun _ _ => ⟨rfl, e0, (by decide : 0 + 0 ≤ _), (by decide : 0 + 0 ≤ _)⟩)
    dsimp only [Pt.U, Pt.locs, Pt.cells, Pt.slots] at X106 l106 y106 z106 st106 hQ106
    subst l106 y106 z106
    obtain ⟨rfl, N106q, eh106⟩ := hQ106
    have N106 := Fr.app N0 N106q
    refine Go.by st106 ?_
    show Go _ _ _ _ _ _ _ (T106.setTop (mkF m 95 #[.val (.int s0), .val (.int x0), .val (.int (1 : Int32)), .val (.int (x0 &&& (2147483647 : Int32))), .val (.int cp), .unset, .unset, .unset, .unset, .unset] [(.int (fEn cp))]))
    obtain ⟨A, B, a1, a2, a3, a4, hcp, hE⟩ := own_e2 cp Bcp.1 Bcp.2
    generalize (fEn cp) = ee at hE ⊢
    have rE := rng32 ee
    show Go _ _ _ _ _ _ _ (T106.setTop (mkF m 95 #[.val (.int s0), .val (.int x0), .val (.int (1 : Int32)), .val (.int (x0 &&& (2147483647 : Int32))), .val (.int cp), .unset, .unset, .unset, .unset, .unset] [(.int ee)]))
    refine Go.by (fun _ kont => XS.istore X106.here hx rfl (hb hby at_95) rfl (l' := #[.val (.int s0), .val (.int x0), .val (.int (1 : Int32)), .val (.int (x0 &&& (2147483647 : Int32))), .val (.int cp), .val (.int ee), .unset, .unset, .unset, .unset]) rfl (XS.iload X106.here hx rfl (hb hby at_97) rfl (XS.sipush X106.here hx rfl (hb hby at_99) (XS.iand X106.here hx rfl (hb hby at_102) rfl (XS.istore X106.here hx rfl (hb hby at_103) rfl (l' := #[.val (.int s0), .val (.int x0), .val (.int (1 : Int32)), .val (.int (x0 &&& (2147483647 : Int32))), .val (.int cp), .val (.int ee), .val (.int (ee &&& (255 : Int32))), .unset, .unset, .unset]) rfl (XS.iload X106.here hx rfl (hb hby at_105) rfl kont)))))) ?_
    show Go _ _ _ _ _ _ _ (T106.setTop (mkF m 107 #[.val (.int s0), .val (.int x0), .val (.int (1 : Int32)), .val (.int (x0 &&& (2147483647 : Int32))), .val (.int cp), .val (.int ee), .val (.int (ee &&& (255 : Int32))), .unset, .unset, .unset] [(.int ee)]))
    refine Go.by (fun _ kont => XS.bipush X106.here hx rfl (hb hby at_107) (XS.iushr X106.here hx rfl (hb hby at_109) rfl (XS.sipush X106.here hx rfl (hb hby at_110) (XS.iand X106.here hx rfl (hb hby at_113) rfl (XS.istore X106.here hx rfl (hb hby at_114) rfl (l' := #[.val (.int s0), .val (.int x0), .val (.int (1 : Int32)), .val (.int (x0 &&& (2147483647 : Int32))), .val (.int cp), .val (.int ee), .val (.int (ee &&& (255 : Int32))), .val (.int (((ee.toUInt32 >>> ((8 : Int32) &&& 31).toUInt32).toInt32) &&& (255 : Int32))), .unset, .unset]) rfl (XS.iload X106.here hx rfl (hb hby at_116) rfl kont)))))) ?_
    show Go _ _ _ _ _ _ _ (T106.setTop (mkF m 118 #[.val (.int s0), .val (.int x0), .val (.int (1 : Int32)), .val (.int (x0 &&& (2147483647 : Int32))), .val (.int cp), .val (.int ee), .val (.int (ee &&& (255 : Int32))), .val (.int (((ee.toUInt32 >>> ((8 : Int32) &&& 31).toUInt32).toInt32) &&& (255 : Int32))), .unset, .unset] [(.int ee)]))
    refine Go.by (fun _ kont => XS.bipush X106.here hx rfl (hb hby at_118) (XS.iushr X106.here hx rfl (hb hby at_120) rfl (XS.sipush X106.here hx rfl (hb hby at_121) (XS.iand X106.here hx rfl (hb hby at_124) rfl (XS.istore X106.here hx rfl (hb hby at_125) rfl (l' := #[.val (.int s0), .val (.int x0), .val (.int (1 : Int32)), .val (.int (x0 &&& (2147483647 : Int32))), .val (.int cp), .val (.int ee), .val (.int (ee &&& (255 : Int32))), .val (.int (((ee.toUInt32 >>> ((8 : Int32) &&& 31).toUInt32).toInt32) &&& (255 : Int32))), .val (.int (((ee.toUInt32 >>> ((16 : Int32) &&& 31).toUInt32).toInt32) &&& (255 : Int32))), .unset]) rfl (XS.iload X106.here hx rfl (hb hby at_127) rfl kont)))))) ?_
    show Go _ _ _ _ _ _ _ (T106.setTop (mkF m 129 #[.val (.int s0), .val (.int x0), .val (.int (1 : Int32)), .val (.int (x0 &&& (2147483647 : Int32))), .val (.int cp), .val (.int ee), .val (.int (ee &&& (255 : Int32))), .val (.int (((ee.toUInt32 >>> ((8 : Int32) &&& 31).toUInt32).toInt32) &&& (255 : Int32))), .val (.int (((ee.toUInt32 >>> ((16 : Int32) &&& 31).toUInt32).toInt32) &&& (255 : Int32))), .unset] [(.int ee)]))
    refine Go.by (fun _ kont => XS.bipush X106.here hx rfl (hb hby at_129) (XS.iushr X106.here hx rfl (hb hby at_131) rfl (XS.istore X106.here hx rfl (hb hby at_132) rfl (l' := #[.val (.int s0), .val (.int x0), .val (.int (1 : Int32)), .val (.int (x0 &&& (2147483647 : Int32))), .val (.int cp), .val (.int ee), .val (.int (ee &&& (255 : Int32))), .val (.int (((ee.toUInt32 >>> ((8 : Int32) &&& 31).toUInt32).toInt32) &&& (255 : Int32))), .val (.int (((ee.toUInt32 >>> ((16 : Int32) &&& 31).toUInt32).toInt32) &&& (255 : Int32))), .val (.int ((ee.toUInt32 >>> ((24 : Int32) &&& 31).toUInt32).toInt32))]) rfl kont))) ?_
    show Go _ _ _ _ _ _ _ (T106.setTop (mkF m 134 #[.val (.int s0), .val (.int x0), .val (.int (1 : Int32)), .val (.int (x0 &&& (2147483647 : Int32))), .val (.int cp), .val (.int ee), .val (.int (ee &&& (255 : Int32))), .val (.int (((ee.toUInt32 >>> ((8 : Int32) &&& 31).toUInt32).toInt32) &&& (255 : Int32))), .val (.int (((ee.toUInt32 >>> ((16 : Int32) &&& 31).toUInt32).toInt32) &&& (255 : Int32))), .val (.int ((ee.toUInt32 >>> ((24 : Int32) &&& 31).toUInt32).toInt32))] []))
    have hBY := own_bytes ee (192 + A) (128 + B) 0 0 (by omega) (by omega) (by omega) (by omega) (by rw [hE]; omega)
    obtain ⟨V0, V1, V2, V3⟩ := hBY
    generalize ((ee.toUInt32 >>> ((24 : Int32) &&& 31).toUInt32).toInt32) = b3 at V3 ⊢
    generalize (((ee.toUInt32 >>> ((16 : Int32) &&& 31).toUInt32).toInt32) &&& (255 : Int32)) = b2 at V2 ⊢
    generalize (((ee.toUInt32 >>> ((8 : Int32) &&& 31).toUInt32).toInt32) &&& (255 : Int32)) = b1 at V1 ⊢
    generalize (ee &&& (255 : Int32)) = b0 at V0 ⊢
    show Go _ _ _ _ _ _ _ (T106.setTop (mkF m 134 #[.val (.int s0), .val (.int x0), .val (.int (1 : Int32)), .val (.int (x0 &&& (2147483647 : Int32))), .val (.int cp), .val (.int ee), .val (.int b0), .val (.int b1), .val (.int b2), .val (.int b3)] []))
    refine Go.by (fun _ kont => XS.iloadN X106.here hx rfl (hb hby at_134) rfl kont) ?_
    show Go _ _ _ _ _ _ _ (T106.setTop (mkF m 135 #[.val (.int s0), .val (.int x0), .val (.int (1 : Int32)), .val (.int (x0 &&& (2147483647 : Int32))), .val (.int cp), .val (.int ee), .val (.int b0), .val (.int b1), .val (.int b2), .val (.int b3)] [(.int (1 : Int32))]))
    refine Go.by (fun _ kont => XS.ifYes X106.here hx rfl (pc0 := 135) (pc' := 166) rfl (hb hby at_135) rfl (by decide) (by decide) (by decide) kont) ?_
    show Go _ _ _ _ _ _ _ (T106.setTop (mkF m 166 #[.val (.int s0), .val (.int x0), .val (.int (1 : Int32)), .val (.int (x0 &&& (2147483647 : Int32))), .val (.int cp), .val (.int ee), .val (.int b0), .val (.int b1), .val (.int b2), .val (.int b3)] []))
    refine Go.by (fun _ kont => XS.iloadN X106.here hx rfl (hb hby at_166) rfl (XS.iconst X106.here hx rfl (hb hby at_167) kont)) ?_
    show Go _ _ _ _ _ _ _ (T106.setTop (mkF m 168 #[.val (.int s0), .val (.int x0), .val (.int (1 : Int32)), .val (.int (x0 &&& (2147483647 : Int32))), .val (.int cp), .val (.int ee), .val (.int b0), .val (.int b1), .val (.int b2), .val (.int b3)] [(.int (1 : Int32)), (.int (1 : Int32))]))
    refine Go.by (fun _ kont => XS.icmpNo X106.here hx rfl (hb hby at_168) rfl (by decide) kont) ?_
    show Go _ _ _ _ _ _ _ (T106.setTop (mkF m 171 #[.val (.int s0), .val (.int x0), .val (.int (1 : Int32)), .val (.int (x0 &&& (2147483647 : Int32))), .val (.int cp), .val (.int ee), .val (.int b0), .val (.int b1), .val (.int b2), .val (.int b3)] []))
    refine Go.by (fun _ kont => XS.iload X106.here hx rfl (hb hby at_171) rfl (XS.sipush X106.here hx rfl (hb hby at_173) (XS.iand X106.here hx rfl (hb hby at_176) rfl (XS.sipush X106.here hx rfl (hb hby at_177) kont)))) ?_
    show Go _ _ _ _ _ _ _ (T106.setTop (mkF m 180 #[.val (.int s0), .val (.int x0), .val (.int (1 : Int32)), .val (.int (x0 &&& (2147483647 : Int32))), .val (.int cp), .val (.int ee), .val (.int b0), .val (.int b1), .val (.int b2), .val (.int b3)] [(.int (192 : Int32)), (.int (b0 &&& (224 : Int32)))]))
    have hd107 : (b0 &&& (224 : Int32)) = (192 : Int32) := own_hi5 _ (by rw [V0]; omega)
    refine Go.by (fun _ kont => XS.icmpNo X106.here hx rfl (hb hby at_180) rfl (teq hd107).2 kont) ?_
    show Go _ _ _ _ _ _ _ (T106.setTop (mkF m 183 #[.val (.int s0), .val (.int x0), .val (.int (1 : Int32)), .val (.int (x0 &&& (2147483647 : Int32))), .val (.int cp), .val (.int ee), .val (.int b0), .val (.int b1), .val (.int b2), .val (.int b3)] []))
    refine Go.by (fun _ kont => XS.iload X106.here hx rfl (hb hby at_183) rfl kont) ?_
    show Go _ _ _ _ _ _ _ (T106.setTop (mkF m 185 #[.val (.int s0), .val (.int x0), .val (.int (1 : Int32)), .val (.int (x0 &&& (2147483647 : Int32))), .val (.int cp), .val (.int ee), .val (.int b0), .val (.int b1), .val (.int b2), .val (.int b3)] [(.int b1)]))
    obtain ⟨_, _, ⟨T108, L108, k108, n108⟩, -, X108, ⟨Lc108, hQ108, l108, y108, z108⟩, st108⟩ := Jvm.LawKit.callS X106 hx (y := (⟨"com/example/pctenc/pctenc/Utf8EncodePinLaw", "cont", "(I)Z"⟩ : MethodName)) hown (mvT hZ (hw _ (List.mem_of_getElem? (i := 8) rfl))) (mvT hZ (hw _ (List.mem_of_getElem? (i := 9) rfl))) (mvT hZ (hw _ (List.mem_of_getElem? (i := 10) rfl))) (mvT hZ (hw _ (List.mem_of_getElem? (i := 11) rfl))) (by decide) (backOf (W := 0) (rmCo l Z a0 hw [] b1 h0 n0 Z0 ) hZ (hw _ (List.mem_of_getElem? (i := 11) rfl)) (hw _ (List.mem_of_getElem? (i := 10) rfl)) (by decide) (by decide)) (g := (mkF m 185 #[.val (.int s0), .val (.int x0), .val (.int (1 : Int32)), .val (.int (x0 &&& (2147483647 : Int32))), .val (.int cp), .val (.int ee), .val (.int b0), .val (.int b1), .val (.int b2), .val (.int b3)] [(.int b1)])) rfl (by rw [hml]; rfl) (argsL := [(.int b1)]) (rest := []) (lenOf pd0_1 rfl) rfl (by show 2 * 0 + _ ≤ _; exact Nat.le_of_eq rfl) (hb hby at_185) (fun _ _ => ⟨rfl, eh106, (by decide : 0 + 0 ≤ _), (by decide : 0 + 0 ≤ _)⟩)
    dsimp only [Pt.U, Pt.locs, Pt.cells, Pt.slots] at X108 l108 y108 z108 st108 hQ108
    subst l108 y108 z108
    obtain ⟨rfl, N108q, eh108⟩ := hQ108
    have N108 := Fr.app N106 N108q
    refine Go.by st108 ?_
    show Go _ _ _ _ _ _ _ (T108.setTop (mkF m 188 #[.val (.int s0), .val (.int x0), .val (.int (1 : Int32)), .val (.int (x0 &&& (2147483647 : Int32))), .val (.int cp), .val (.int ee), .val (.int b0), .val (.int b1), .val (.int b2), .val (.int b3)] [(.int (fCo b1))]))
    have hd109 : ¬ ((fCo b1) = (0 : Int32)) := by rw [own_co _ (by rw [V1]; omega)]; decide
    refine Go.by (fun _ kont => XS.ifNo X108.here hx rfl (hb hby at_188) rfl ((if0 _ _).trans (feq hd109).1) kont) ?_
    show Go _ _ _ _ _ _ _ (T108.setTop (mkF m 191 #[.val (.int s0), .val (.int x0), .val (.int (1 : Int32)), .val (.int (x0 &&& (2147483647 : Int32))), .val (.int cp), .val (.int ee), .val (.int b0), .val (.int b1), .val (.int b2), .val (.int b3)] []))
    refine Go.by (fun _ kont => XS.iload X108.here hx rfl (hb hby at_191) rfl kont) ?_
    show Go _ _ _ _ _ _ _ (T108.setTop (mkF m 193 #[.val (.int s0), .val (.int x0), .val (.int (1 : Int32)), .val (.int (x0 &&& (2147483647 : Int32))), .val (.int cp), .val (.int ee), .val (.int b0), .val (.int b1), .val (.int b2), .val (.int b3)] [(.int b2)]))
    have hd110 : b2 = (0 : Int32) := own_z _ V2
    refine Go.by (fun _ kont => XS.ifNo X108.here hx rfl (hb hby at_193) rfl ((if0 _ _).trans (teq hd110).2) kont) ?_
    show Go _ _ _ _ _ _ _ (T108.setTop (mkF m 196 #[.val (.int s0), .val (.int x0), .val (.int (1 : Int32)), .val (.int (x0 &&& (2147483647 : Int32))), .val (.int cp), .val (.int ee), .val (.int b0), .val (.int b1), .val (.int b2), .val (.int b3)] []))
    refine Go.by (fun _ kont => XS.iload X108.here hx rfl (hb hby at_196) rfl kont) ?_
    show Go _ _ _ _ _ _ _ (T108.setTop (mkF m 198 #[.val (.int s0), .val (.int x0), .val (.int (1 : Int32)), .val (.int (x0 &&& (2147483647 : Int32))), .val (.int cp), .val (.int ee), .val (.int b0), .val (.int b1), .val (.int b2), .val (.int b3)] [(.int b3)]))
    have hd111 : b3 = (0 : Int32) := own_z _ V3
    refine Go.by (fun _ kont => XS.ifNo X108.here hx rfl (hb hby at_198) rfl ((if0 _ _).trans (teq hd111).2) kont) ?_
    show Go _ _ _ _ _ _ _ (T108.setTop (mkF m 201 #[.val (.int s0), .val (.int x0), .val (.int (1 : Int32)), .val (.int (x0 &&& (2147483647 : Int32))), .val (.int cp), .val (.int ee), .val (.int b0), .val (.int b1), .val (.int b2), .val (.int b3)] []))
    refine Go.by (fun _ kont => XS.iload X108.here hx rfl (hb hby at_201) rfl (XS.bipush X108.here hx rfl (hb hby at_203) (XS.iand X108.here hx rfl (hb hby at_205) rfl (XS.bipush X108.here hx rfl (hb hby at_206) (XS.ishl X108.here hx rfl (hb hby at_208) rfl (XS.iload X108.here hx rfl (hb hby at_209) rfl kont)))))) ?_
    show Go _ _ _ _ _ _ _ (T108.setTop (mkF m 211 #[.val (.int s0), .val (.int x0), .val (.int (1 : Int32)), .val (.int (x0 &&& (2147483647 : Int32))), .val (.int cp), .val (.int ee), .val (.int b0), .val (.int b1), .val (.int b2), .val (.int b3)] [(.int b1), (.int ((b0 &&& (31 : Int32)) <<< ((6 : Int32) &&& 31)))]))
    refine Go.by (fun _ kont => XS.bipush X108.here hx rfl (hb hby at_211) (XS.iand X108.here hx rfl (hb hby at_213) rfl (XS.ior X108.here hx rfl (hb hby at_214) rfl (XS.iload X108.here hx rfl (hb hby at_215) rfl kont)))) ?_
    show Go _ _ _ _ _ _ _ (T108.setTop (mkF m 217 #[.val (.int s0), .val (.int x0), .val (.int (1 : Int32)), .val (.int (x0 &&& (2147483647 : Int32))), .val (.int cp), .val (.int ee), .val (.int b0), .val (.int b1), .val (.int b2), .val (.int b3)] [(.int cp), (.int (((b0 &&& (31 : Int32)) <<< ((6 : Int32) &&& 31)) ||| (b1 &&& (63 : Int32))))]))
    have hd112 : (((b0 &&& (31 : Int32)) <<< ((6 : Int32) &&& 31)) ||| (b1 &&& (63 : Int32))) = cp := own_d2 b0 b1 cp A B a1 a2 a3 a4 hcp V0 V1
    refine Go.by (fun _ kont => XS.icmpNo X108.here hx rfl (hb hby at_217) rfl (teq hd112).2 kont) ?_
    show Go _ _ _ _ _ _ _ (T108.setTop (mkF m 220 #[.val (.int s0), .val (.int x0), .val (.int (1 : Int32)), .val (.int (x0 &&& (2147483647 : Int32))), .val (.int cp), .val (.int ee), .val (.int b0), .val (.int b1), .val (.int b2), .val (.int b3)] []))
    refine Go.by (fun _ kont => XS.iconst X108.here hx rfl (hb hby at_220) (XS.goto X108.here hx rfl (pc0 := 221) (pc' := 225) rfl (hb hby at_221) (by decide) (by decide) kont)) ?_
    show Go _ _ _ _ _ _ _ (T108.setTop (mkF m 225 #[.val (.int s0), .val (.int x0), .val (.int (1 : Int32)), .val (.int (x0 &&& (2147483647 : Int32))), .val (.int cp), .val (.int ee), .val (.int b0), .val (.int b1), .val (.int b2), .val (.int b3)] [(.int (1 : Int32))]))
    refine Go.retN X108 hx (t := .boolean) hret (by simp) hlk (hb hby at_225) ?_ (by decide) (by decide)
    show Q0 Z h0 n0 (some (.int (1 : Int32))) T108.heap _
    rw [eh108]
    exact ⟨rfl, N108⟩
  · show Go _ _ _ _ _ _ _ (s₁.setTop (mkF m 9 #[.val (.int s0), .val (.int x0), .val (.int (2 : Int32)), .val (.int (x0 &&& (2147483647 : Int32))), .unset, .unset, .unset, .unset, .unset, .unset] []))
    refine Go.by (fun _ kont => XS.iloadN X0.here hx rfl (hb hby at_9) rfl kont) ?_
    show Go _ _ _ _ _ _ _ (s₁.setTop (mkF m 10 #[.val (.int s0), .val (.int x0), .val (.int (2 : Int32)), .val (.int (x0 &&& (2147483647 : Int32))), .unset, .unset, .unset, .unset, .unset, .unset] [(.int (2 : Int32))]))
    refine Go.by (fun _ kont => XS.ifYes X0.here hx rfl (pc0 := 10) (pc' := 22) rfl (hb hby at_10) rfl (by decide) (by decide) (by decide) kont) ?_
    show Go _ _ _ _ _ _ _ (s₁.setTop (mkF m 22 #[.val (.int s0), .val (.int x0), .val (.int (2 : Int32)), .val (.int (x0 &&& (2147483647 : Int32))), .unset, .unset, .unset, .unset, .unset, .unset] []))
    refine Go.by (fun _ kont => XS.iloadN X0.here hx rfl (hb hby at_22) rfl (XS.iconst X0.here hx rfl (hb hby at_23) kont)) ?_
    show Go _ _ _ _ _ _ _ (s₁.setTop (mkF m 24 #[.val (.int s0), .val (.int x0), .val (.int (2 : Int32)), .val (.int (x0 &&& (2147483647 : Int32))), .unset, .unset, .unset, .unset, .unset, .unset] [(.int (1 : Int32)), (.int (2 : Int32))]))
    refine Go.by (fun _ kont => XS.icmpYes X0.here hx rfl (pc0 := 24) (pc' := 41) rfl (hb hby at_24) rfl (by decide) (by decide) (by decide) kont) ?_
    show Go _ _ _ _ _ _ _ (s₁.setTop (mkF m 41 #[.val (.int s0), .val (.int x0), .val (.int (2 : Int32)), .val (.int (x0 &&& (2147483647 : Int32))), .unset, .unset, .unset, .unset, .unset, .unset] []))
    refine Go.by (fun _ kont => XS.iloadN X0.here hx rfl (hb hby at_41) rfl (XS.iconst X0.here hx rfl (hb hby at_42) kont)) ?_
    show Go _ _ _ _ _ _ _ (s₁.setTop (mkF m 43 #[.val (.int s0), .val (.int x0), .val (.int (2 : Int32)), .val (.int (x0 &&& (2147483647 : Int32))), .unset, .unset, .unset, .unset, .unset, .unset] [(.int (2 : Int32)), (.int (2 : Int32))]))
    refine Go.by (fun _ kont => XS.icmpNo X0.here hx rfl (hb hby at_43) rfl (by decide) kont) ?_
    show Go _ _ _ _ _ _ _ (s₁.setTop (mkF m 46 #[.val (.int s0), .val (.int x0), .val (.int (2 : Int32)), .val (.int (x0 &&& (2147483647 : Int32))), .unset, .unset, .unset, .unset, .unset, .unset] []))
    refine Go.by (fun _ kont => XS.sipush X0.here hx rfl (hb hby at_46) (XS.iloadN X0.here hx rfl (hb hby at_49) rfl (X0.ldcInt hx hown (mvT hZ (hw _ (List.mem_of_getElem? (i := 5) rfl))) (g := (mkF m 50 #[.val (.int s0), .val (.int x0), .val (.int (2 : Int32)), .val (.int (x0 &&& (2147483647 : Int32))), .unset, .unset, .unset, .unset, .unset, .unset] [(.int (x0 &&& (2147483647 : Int32))), (.int (2048 : Int32))])) rfl (hb hby at_50) _ (iremM X0 hx rfl (hb hby at_52) rfl (by decide) (XS.iadd X0.here hx rfl (hb hby at_53) rfl (XS.istore X0.here hx rfl (hb hby at_54) rfl (l' := #[.val (.int s0), .val (.int x0), .val (.int (2 : Int32)), .val (.int (x0 &&& (2147483647 : Int32))), .val (.int ((2048 : Int32) + ((x0 &&& (2147483647 : Int32)) % (63488 : Int32)))), .unset, .unset, .unset, .unset, .unset]) rfl kont)))))) ?_
    show Go _ _ _ _ _ _ _ (s₁.setTop (mkF m 56 #[.val (.int s0), .val (.int x0), .val (.int (2 : Int32)), .val (.int (x0 &&& (2147483647 : Int32))), .val (.int ((2048 : Int32) + ((x0 &&& (2147483647 : Int32)) % (63488 : Int32)))), .unset, .unset, .unset, .unset, .unset] []))
    have B0 := own_r x0 63488 63488 2048 (by decide) (by decide) 2048 (by decide) (by decide)
    generalize ((2048 : Int32) + ((x0 &&& (2147483647 : Int32)) % (63488 : Int32))) = cq at B0 ⊢
    show Go _ _ _ _ _ _ _ (s₁.setTop (mkF m 56 #[.val (.int s0), .val (.int x0), .val (.int (2 : Int32)), .val (.int (x0 &&& (2147483647 : Int32))), .val (.int cq), .unset, .unset, .unset, .unset, .unset] []))
    refine Go.by (fun _ kont => XS.iload X0.here hx rfl (hb hby at_56) rfl (X0.ldcInt hx hown (mvT hZ (hw _ (List.mem_of_getElem? (i := 6) rfl))) (g := (mkF m 58 #[.val (.int s0), .val (.int x0), .val (.int (2 : Int32)), .val (.int (x0 &&& (2147483647 : Int32))), .val (.int cq), .unset, .unset, .unset, .unset, .unset] [(.int cq)])) rfl (hb hby at_58) _ kont)) ?_
    show Go _ _ _ _ _ _ _ (s₁.setTop (mkF m 60 #[.val (.int s0), .val (.int x0), .val (.int (2 : Int32)), .val (.int (x0 &&& (2147483647 : Int32))), .val (.int cq), .unset, .unset, .unset, .unset, .unset] [(.int (55296 : Int32)), (.int cq)]))
    by_cases hc113 : cq < (55296 : Int32)
    · refine Go.by (fun _ kont => XS.icmpYes X0.here hx rfl (pc0 := 60) (pc' := 90) rfl (hb hby at_60) rfl (tlt hc113).1 (by decide) (by decide) kont) ?_
      show Go _ _ _ _ _ _ _ (s₁.setTop (mkF m 90 #[.val (.int s0), .val (.int x0), .val (.int (2 : Int32)), .val (.int (x0 &&& (2147483647 : Int32))), .val (.int cq), .unset, .unset, .unset, .unset, .unset] []))
      have Bcp : 2048 ≤ cq.toInt ∧ cq.toInt < 65536 := B0
      generalize cq = cp at Bcp ⊢
      show Go _ _ _ _ _ _ _ (s₁.setTop (mkF m 90 #[.val (.int s0), .val (.int x0), .val (.int (2 : Int32)), .val (.int (x0 &&& (2147483647 : Int32))), .val (.int cp), .unset, .unset, .unset, .unset, .unset] []))
      refine Go.by (fun _ kont => XS.iload X0.here hx rfl (hb hby at_90) rfl kont) ?_
      show Go _ _ _ _ _ _ _ (s₁.setTop (mkF m 92 #[.val (.int s0), .val (.int x0), .val (.int (2 : Int32)), .val (.int (x0 &&& (2147483647 : Int32))), .val (.int cp), .unset, .unset, .unset, .unset, .unset] [(.int cp)]))
      obtain ⟨_, _, ⟨T114, L114, k114, n114⟩, -, X114, ⟨Lc114, hQ114, l114, y114, z114⟩, st114⟩ := Jvm.LawKit.callS X0 hx (y := (⟨"com/example/pctenc/pctenc/Utf8", "encode", "(I)I"⟩ : MethodName)) hown (mvT hZ (hw _ (List.mem_of_getElem? (i := 1) rfl))) (mvT hZ (hw _ (List.mem_of_getElem? (i := 2) rfl))) (mvT hZ (hw _ (List.mem_of_getElem? (i := 3) rfl))) (mvT hZ (hw _ (List.mem_of_getElem? (i := 4) rfl))) (by decide) (backOf (W := 0) (rmEn l Z a0 hw [] cp h0 n0 Z0 ) hZ (hw _ (List.mem_of_getElem? (i := 4) rfl)) (hw _ (List.mem_of_getElem? (i := 3) rfl)) (by decide) (by decide)) (g := (mkF m 92 #[.val (.int s0), .val (.int x0), .val (.int (2 : Int32)), .val (.int (x0 &&& (2147483647 : Int32))), .val (.int cp), .unset, .unset, .unset, .unset, .unset] [(.int cp)])) rfl (by rw [hml]; rfl) (argsL := [(.int cp)]) (rest := []) (lenOf pd0_0 rfl) rfl (by show 2 * 0 + _ ≤ _; exact Nat.le_of_eq rfl) (hb hby at_92) (fun _ _ => ⟨rfl, e0, (by decide : 0 + 0 ≤ _), (by decide : 0 + 0 ≤ _)⟩)
      dsimp only [Pt.U, Pt.locs, Pt.cells, Pt.slots] at X114 l114 y114 z114 st114 hQ114
      subst l114 y114 z114
      obtain ⟨rfl, N114q, eh114⟩ := hQ114
      have N114 := Fr.app N0 N114q
      refine Go.by st114 ?_
      show Go _ _ _ _ _ _ _ (T114.setTop (mkF m 95 #[.val (.int s0), .val (.int x0), .val (.int (2 : Int32)), .val (.int (x0 &&& (2147483647 : Int32))), .val (.int cp), .unset, .unset, .unset, .unset, .unset] [(.int (fEn cp))]))
      obtain ⟨A, B, C, a1, a2, a3, a4, a5, a6, hcp, hE⟩ := own_e3 cp Bcp.1 Bcp.2
      generalize (fEn cp) = ee at hE ⊢
      have rE := rng32 ee
      show Go _ _ _ _ _ _ _ (T114.setTop (mkF m 95 #[.val (.int s0), .val (.int x0), .val (.int (2 : Int32)), .val (.int (x0 &&& (2147483647 : Int32))), .val (.int cp), .unset, .unset, .unset, .unset, .unset] [(.int ee)]))
      refine Go.by (fun _ kont => XS.istore X114.here hx rfl (hb hby at_95) rfl (l' := #[.val (.int s0), .val (.int x0), .val (.int (2 : Int32)), .val (.int (x0 &&& (2147483647 : Int32))), .val (.int cp), .val (.int ee), .unset, .unset, .unset, .unset]) rfl (XS.iload X114.here hx rfl (hb hby at_97) rfl (XS.sipush X114.here hx rfl (hb hby at_99) (XS.iand X114.here hx rfl (hb hby at_102) rfl (XS.istore X114.here hx rfl (hb hby at_103) rfl (l' := #[.val (.int s0), .val (.int x0), .val (.int (2 : Int32)), .val (.int (x0 &&& (2147483647 : Int32))), .val (.int cp), .val (.int ee), .val (.int (ee &&& (255 : Int32))), .unset, .unset, .unset]) rfl (XS.iload X114.here hx rfl (hb hby at_105) rfl kont)))))) ?_
      show Go _ _ _ _ _ _ _ (T114.setTop (mkF m 107 #[.val (.int s0), .val (.int x0), .val (.int (2 : Int32)), .val (.int (x0 &&& (2147483647 : Int32))), .val (.int cp), .val (.int ee), .val (.int (ee &&& (255 : Int32))), .unset, .unset, .unset] [(.int ee)]))
      refine Go.by (fun _ kont => XS.bipush X114.here hx rfl (hb hby at_107) (XS.iushr X114.here hx rfl (hb hby at_109) rfl (XS.sipush X114.here hx rfl (hb hby at_110) (XS.iand X114.here hx rfl (hb hby at_113) rfl (XS.istore X114.here hx rfl (hb hby at_114) rfl (l' := #[.val (.int s0), .val (.int x0), .val (.int (2 : Int32)), .val (.int (x0 &&& (2147483647 : Int32))), .val (.int cp), .val (.int ee), .val (.int (ee &&& (255 : Int32))), .val (.int (((ee.toUInt32 >>> ((8 : Int32) &&& 31).toUInt32).toInt32) &&& (255 : Int32))), .unset, .unset]) rfl (XS.iload X114.here hx rfl (hb hby at_116) rfl kont)))))) ?_
      show Go _ _ _ _ _ _ _ (T114.setTop (mkF m 118 #[.val (.int s0), .val (.int x0), .val (.int (2 : Int32)), .val (.int (x0 &&& (2147483647 : Int32))), .val (.int cp), .val (.int ee), .val (.int (ee &&& (255 : Int32))), .val (.int (((ee.toUInt32 >>> ((8 : Int32) &&& 31).toUInt32).toInt32) &&& (255 : Int32))), .unset, .unset] [(.int ee)]))
      refine Go.by (fun _ kont => XS.bipush X114.here hx rfl (hb hby at_118) (XS.iushr X114.here hx rfl (hb hby at_120) rfl (XS.sipush X114.here hx rfl (hb hby at_121) (XS.iand X114.here hx rfl (hb hby at_124) rfl (XS.istore X114.here hx rfl (hb hby at_125) rfl (l' := #[.val (.int s0), .val (.int x0), .val (.int (2 : Int32)), .val (.int (x0 &&& (2147483647 : Int32))), .val (.int cp), .val (.int ee), .val (.int (ee &&& (255 : Int32))), .val (.int (((ee.toUInt32 >>> ((8 : Int32) &&& 31).toUInt32).toInt32) &&& (255 : Int32))), .val (.int (((ee.toUInt32 >>> ((16 : Int32) &&& 31).toUInt32).toInt32) &&& (255 : Int32))), .unset]) rfl (XS.iload X114.here hx rfl (hb hby at_127) rfl kont)))))) ?_
      show Go _ _ _ _ _ _ _ (T114.setTop (mkF m 129 #[.val (.int s0), .val (.int x0), .val (.int (2 : Int32)), .val (.int (x0 &&& (2147483647 : Int32))), .val (.int cp), .val (.int ee), .val (.int (ee &&& (255 : Int32))), .val (.int (((ee.toUInt32 >>> ((8 : Int32) &&& 31).toUInt32).toInt32) &&& (255 : Int32))), .val (.int (((ee.toUInt32 >>> ((16 : Int32) &&& 31).toUInt32).toInt32) &&& (255 : Int32))), .unset] [(.int ee)]))
      refine Go.by (fun _ kont => XS.bipush X114.here hx rfl (hb hby at_129) (XS.iushr X114.here hx rfl (hb hby at_131) rfl (XS.istore X114.here hx rfl (hb hby at_132) rfl (l' := #[.val (.int s0), .val (.int x0), .val (.int (2 : Int32)), .val (.int (x0 &&& (2147483647 : Int32))), .val (.int cp), .val (.int ee), .val (.int (ee &&& (255 : Int32))), .val (.int (((ee.toUInt32 >>> ((8 : Int32) &&& 31).toUInt32).toInt32) &&& (255 : Int32))), .val (.int (((ee.toUInt32 >>> ((16 : Int32) &&& 31).toUInt32).toInt32) &&& (255 : Int32))), .val (.int ((ee.toUInt32 >>> ((24 : Int32) &&& 31).toUInt32).toInt32))]) rfl kont))) ?_
      show Go _ _ _ _ _ _ _ (T114.setTop (mkF m 134 #[.val (.int s0), .val (.int x0), .val (.int (2 : Int32)), .val (.int (x0 &&& (2147483647 : Int32))), .val (.int cp), .val (.int ee), .val (.int (ee &&& (255 : Int32))), .val (.int (((ee.toUInt32 >>> ((8 : Int32) &&& 31).toUInt32).toInt32) &&& (255 : Int32))), .val (.int (((ee.toUInt32 >>> ((16 : Int32) &&& 31).toUInt32).toInt32) &&& (255 : Int32))), .val (.int ((ee.toUInt32 >>> ((24 : Int32) &&& 31).toUInt32).toInt32))] []))
      have hBY := own_bytes ee (224 + A) (128 + B) (128 + C) 0 (by omega) (by omega) (by omega) (by omega) (by rw [hE]; omega)
      obtain ⟨V0, V1, V2, V3⟩ := hBY
      generalize ((ee.toUInt32 >>> ((24 : Int32) &&& 31).toUInt32).toInt32) = b3 at V3 ⊢
      generalize (((ee.toUInt32 >>> ((16 : Int32) &&& 31).toUInt32).toInt32) &&& (255 : Int32)) = b2 at V2 ⊢
      generalize (((ee.toUInt32 >>> ((8 : Int32) &&& 31).toUInt32).toInt32) &&& (255 : Int32)) = b1 at V1 ⊢
      generalize (ee &&& (255 : Int32)) = b0 at V0 ⊢
      show Go _ _ _ _ _ _ _ (T114.setTop (mkF m 134 #[.val (.int s0), .val (.int x0), .val (.int (2 : Int32)), .val (.int (x0 &&& (2147483647 : Int32))), .val (.int cp), .val (.int ee), .val (.int b0), .val (.int b1), .val (.int b2), .val (.int b3)] []))
      refine Go.by (fun _ kont => XS.iloadN X114.here hx rfl (hb hby at_134) rfl kont) ?_
      show Go _ _ _ _ _ _ _ (T114.setTop (mkF m 135 #[.val (.int s0), .val (.int x0), .val (.int (2 : Int32)), .val (.int (x0 &&& (2147483647 : Int32))), .val (.int cp), .val (.int ee), .val (.int b0), .val (.int b1), .val (.int b2), .val (.int b3)] [(.int (2 : Int32))]))
      refine Go.by (fun _ kont => XS.ifYes X114.here hx rfl (pc0 := 135) (pc' := 166) rfl (hb hby at_135) rfl (by decide) (by decide) (by decide) kont) ?_
      show Go _ _ _ _ _ _ _ (T114.setTop (mkF m 166 #[.val (.int s0), .val (.int x0), .val (.int (2 : Int32)), .val (.int (x0 &&& (2147483647 : Int32))), .val (.int cp), .val (.int ee), .val (.int b0), .val (.int b1), .val (.int b2), .val (.int b3)] []))
      refine Go.by (fun _ kont => XS.iloadN X114.here hx rfl (hb hby at_166) rfl (XS.iconst X114.here hx rfl (hb hby at_167) kont)) ?_
      show Go _ _ _ _ _ _ _ (T114.setTop (mkF m 168 #[.val (.int s0), .val (.int x0), .val (.int (2 : Int32)), .val (.int (x0 &&& (2147483647 : Int32))), .val (.int cp), .val (.int ee), .val (.int b0), .val (.int b1), .val (.int b2), .val (.int b3)] [(.int (1 : Int32)), (.int (2 : Int32))]))
      refine Go.by (fun _ kont => XS.icmpYes X114.here hx rfl (pc0 := 168) (pc' := 226) rfl (hb hby at_168) rfl (by decide) (by decide) (by decide) kont) ?_
      show Go _ _ _ _ _ _ _ (T114.setTop (mkF m 226 #[.val (.int s0), .val (.int x0), .val (.int (2 : Int32)), .val (.int (x0 &&& (2147483647 : Int32))), .val (.int cp), .val (.int ee), .val (.int b0), .val (.int b1), .val (.int b2), .val (.int b3)] []))
      refine Go.by (fun _ kont => XS.iloadN X114.here hx rfl (hb hby at_226) rfl (XS.iconst X114.here hx rfl (hb hby at_227) kont)) ?_
      show Go _ _ _ _ _ _ _ (T114.setTop (mkF m 228 #[.val (.int s0), .val (.int x0), .val (.int (2 : Int32)), .val (.int (x0 &&& (2147483647 : Int32))), .val (.int cp), .val (.int ee), .val (.int b0), .val (.int b1), .val (.int b2), .val (.int b3)] [(.int (2 : Int32)), (.int (2 : Int32))]))
      refine Go.by (fun _ kont => XS.icmpNo X114.here hx rfl (hb hby at_228) rfl (by decide) kont) ?_
      show Go _ _ _ _ _ _ _ (T114.setTop (mkF m 231 #[.val (.int s0), .val (.int x0), .val (.int (2 : Int32)), .val (.int (x0 &&& (2147483647 : Int32))), .val (.int cp), .val (.int ee), .val (.int b0), .val (.int b1), .val (.int b2), .val (.int b3)] []))
      refine Go.by (fun _ kont => XS.iload X114.here hx rfl (hb hby at_231) rfl (XS.sipush X114.here hx rfl (hb hby at_233) (XS.iand X114.here hx rfl (hb hby at_236) rfl (XS.sipush X114.here hx rfl (hb hby at_237) kont)))) ?_
      show Go _ _ _ _ _ _ _ (T114.setTop (mkF m 240 #[.val (.int s0), .val (.int x0), .val (.int (2 : Int32)), .val (.int (x0 &&& (2147483647 : Int32))), .val (.int cp), .val (.int ee), .val (.int b0), .val (.int b1), .val (.int b2), .val (.int b3)] [(.int (224 : Int32)), (.int (b0 &&& (240 : Int32)))]))
      have hd115 : (b0 &&& (240 : Int32)) = (224 : Int32) := own_hi4 _ (by rw [V0]; omega)
      refine Go.by (fun _ kont => XS.icmpNo X114.here hx rfl (hb hby at_240) rfl (teq hd115).2 kont) ?_
      show Go _ _ _ _ _ _ _ (T114.setTop (mkF m 243 #[.val (.int s0), .val (.int x0), .val (.int (2 : Int32)), .val (.int (x0 &&& (2147483647 : Int32))), .val (.int cp), .val (.int ee), .val (.int b0), .val (.int b1), .val (.int b2), .val (.int b3)] []))
      refine Go.by (fun _ kont => XS.iload X114.here hx rfl (hb hby at_243) rfl kont) ?_
      show Go _ _ _ _ _ _ _ (T114.setTop (mkF m 245 #[.val (.int s0), .val (.int x0), .val (.int (2 : Int32)), .val (.int (x0 &&& (2147483647 : Int32))), .val (.int cp), .val (.int ee), .val (.int b0), .val (.int b1), .val (.int b2), .val (.int b3)] [(.int b1)]))
      obtain ⟨_, _, ⟨T116, L116, k116, n116⟩, -, X116, ⟨Lc116, hQ116, l116, y116, z116⟩, st116⟩ := Jvm.LawKit.callS X114 hx (y := (⟨"com/example/pctenc/pctenc/Utf8EncodePinLaw", "cont", "(I)Z"⟩ : MethodName)) hown (mvT hZ (hw _ (List.mem_of_getElem? (i := 8) rfl))) (mvT hZ (hw _ (List.mem_of_getElem? (i := 9) rfl))) (mvT hZ (hw _ (List.mem_of_getElem? (i := 10) rfl))) (mvT hZ (hw _ (List.mem_of_getElem? (i := 11) rfl))) (by decide) (backOf (W := 0) (rmCo l Z a0 hw [] b1 h0 n0 Z0 ) hZ (hw _ (List.mem_of_getElem? (i := 11) rfl)) (hw _ (List.mem_of_getElem? (i := 10) rfl)) (by decide) (by decide)) (g := (mkF m 245 #[.val (.int s0), .val (.int x0), .val (.int (2 : Int32)), .val (.int (x0 &&& (2147483647 : Int32))), .val (.int cp), .val (.int ee), .val (.int b0), .val (.int b1), .val (.int b2), .val (.int b3)] [(.int b1)])) rfl (by rw [hml]; rfl) (argsL := [(.int b1)]) (rest := []) (lenOf pd0_1 rfl) rfl (by show 2 * 0 + _ ≤ _; exact Nat.le_of_eq rfl) (hb hby at_245) (fun _ _ => ⟨rfl, eh114, (by decide : 0 + 0 ≤ _), (by decide : 0 + 0 ≤ _)⟩)
      dsimp only [Pt.U, Pt.locs, Pt.cells, Pt.slots] at X116 l116 y116 z116 st116 hQ116
      subst l116 y116 z116
      obtain ⟨rfl, N116q, eh116⟩ := hQ116
      have N116 := Fr.app N114 N116q
      refine Go.by st116 ?_
      show Go _ _ _ _ _ _ _ (T116.setTop (mkF m 248 #[.val (.int s0), .val (.int x0), .val (.int (2 : Int32)), .val (.int (x0 &&& (2147483647 : Int32))), .val (.int cp), .val (.int ee), .val (.int b0), .val (.int b1), .val (.int b2), .val (.int b3)] [(.int (fCo b1))]))
      have hd117 : ¬ ((fCo b1) = (0 : Int32)) := by rw [own_co _ (by rw [V1]; omega)]; decide
      refine Go.by (fun _ kont => XS.ifNo X116.here hx rfl (hb hby at_248) rfl ((if0 _ _).trans (feq hd117).1) kont) ?_
      show Go _ _ _ _ _ _ _ (T116.setTop (mkF m 251 #[.val (.int s0), .val (.int x0), .val (.int (2 : Int32)), .val (.int (x0 &&& (2147483647 : Int32))), .val (.int cp), .val (.int ee), .val (.int b0), .val (.int b1), .val (.int b2), .val (.int b3)] []))
      refine Go.by (fun _ kont => XS.iload X116.here hx rfl (hb hby at_251) rfl kont) ?_
      show Go _ _ _ _ _ _ _ (T116.setTop (mkF m 253 #[.val (.int s0), .val (.int x0), .val (.int (2 : Int32)), .val (.int (x0 &&& (2147483647 : Int32))), .val (.int cp), .val (.int ee), .val (.int b0), .val (.int b1), .val (.int b2), .val (.int b3)] [(.int b2)]))
      obtain ⟨_, _, ⟨T118, L118, k118, n118⟩, -, X118, ⟨Lc118, hQ118, l118, y118, z118⟩, st118⟩ := Jvm.LawKit.callS X116 hx (y := (⟨"com/example/pctenc/pctenc/Utf8EncodePinLaw", "cont", "(I)Z"⟩ : MethodName)) hown (mvT hZ (hw _ (List.mem_of_getElem? (i := 8) rfl))) (mvT hZ (hw _ (List.mem_of_getElem? (i := 9) rfl))) (mvT hZ (hw _ (List.mem_of_getElem? (i := 10) rfl))) (mvT hZ (hw _ (List.mem_of_getElem? (i := 11) rfl))) (by decide) (backOf (W := 0) (rmCo l Z a0 hw [] b2 h0 n0 Z0 ) hZ (hw _ (List.mem_of_getElem? (i := 11) rfl)) (hw _ (List.mem_of_getElem? (i := 10) rfl)) (by decide) (by decide)) (g := (mkF m 253 #[.val (.int s0), .val (.int x0), .val (.int (2 : Int32)), .val (.int (x0 &&& (2147483647 : Int32))), .val (.int cp), .val (.int ee), .val (.int b0), .val (.int b1), .val (.int b2), .val (.int b3)] [(.int b2)])) rfl (by rw [hml]; rfl) (argsL := [(.int b2)]) (rest := []) (lenOf pd0_1 rfl) rfl (by show 2 * 0 + _ ≤ _; exact Nat.le_of_eq rfl) (hb hby at_253) (fun _ _ => ⟨rfl, eh116, (by decide : 0 + 0 ≤ _), (by decide : 0 + 0 ≤ _)⟩)
      dsimp only [Pt.U, Pt.locs, Pt.cells, Pt.slots] at X118 l118 y118 z118 st118 hQ118
      subst l118 y118 z118
      obtain ⟨rfl, N118q, eh118⟩ := hQ118
      have N118 := Fr.app N116 N118q
      refine Go.by st118 ?_
      show Go _ _ _ _ _ _ _ (T118.setTop (mkF m 256 #[.val (.int s0), .val (.int x0), .val (.int (2 : Int32)), .val (.int (x0 &&& (2147483647 : Int32))), .val (.int cp), .val (.int ee), .val (.int b0), .val (.int b1), .val (.int b2), .val (.int b3)] [(.int (fCo b2))]))
      have hd119 : ¬ ((fCo b2) = (0 : Int32)) := by rw [own_co _ (by rw [V2]; omega)]; decide
      refine Go.by (fun _ kont => XS.ifNo X118.here hx rfl (hb hby at_256) rfl ((if0 _ _).trans (feq hd119).1) kont) ?_
      show Go _ _ _ _ _ _ _ (T118.setTop (mkF m 259 #[.val (.int s0), .val (.int x0), .val (.int (2 : Int32)), .val (.int (x0 &&& (2147483647 : Int32))), .val (.int cp), .val (.int ee), .val (.int b0), .val (.int b1), .val (.int b2), .val (.int b3)] []))
      refine Go.by (fun _ kont => XS.iload X118.here hx rfl (hb hby at_259) rfl kont) ?_
      show Go _ _ _ _ _ _ _ (T118.setTop (mkF m 261 #[.val (.int s0), .val (.int x0), .val (.int (2 : Int32)), .val (.int (x0 &&& (2147483647 : Int32))), .val (.int cp), .val (.int ee), .val (.int b0), .val (.int b1), .val (.int b2), .val (.int b3)] [(.int b3)]))
      have hd120 : b3 = (0 : Int32) := own_z _ V3
      refine Go.by (fun _ kont => XS.ifNo X118.here hx rfl (hb hby at_261) rfl ((if0 _ _).trans (teq hd120).2) kont) ?_
      show Go _ _ _ _ _ _ _ (T118.setTop (mkF m 264 #[.val (.int s0), .val (.int x0), .val (.int (2 : Int32)), .val (.int (x0 &&& (2147483647 : Int32))), .val (.int cp), .val (.int ee), .val (.int b0), .val (.int b1), .val (.int b2), .val (.int b3)] []))
      refine Go.by (fun _ kont => XS.iload X118.here hx rfl (hb hby at_264) rfl (XS.bipush X118.here hx rfl (hb hby at_266) (XS.iand X118.here hx rfl (hb hby at_268) rfl (XS.bipush X118.here hx rfl (hb hby at_269) (XS.ishl X118.here hx rfl (hb hby at_271) rfl (XS.iload X118.here hx rfl (hb hby at_272) rfl kont)))))) ?_
      show Go _ _ _ _ _ _ _ (T118.setTop (mkF m 274 #[.val (.int s0), .val (.int x0), .val (.int (2 : Int32)), .val (.int (x0 &&& (2147483647 : Int32))), .val (.int cp), .val (.int ee), .val (.int b0), .val (.int b1), .val (.int b2), .val (.int b3)] [(.int b1), (.int ((b0 &&& (15 : Int32)) <<< ((12 : Int32) &&& 31)))]))
      refine Go.by (fun _ kont => XS.bipush X118.here hx rfl (hb hby at_274) (XS.iand X118.here hx rfl (hb hby at_276) rfl (XS.bipush X118.here hx rfl (hb hby at_277) (XS.ishl X118.here hx rfl (hb hby at_279) rfl (XS.ior X118.here hx rfl (hb hby at_280) rfl (XS.iload X118.here hx rfl (hb hby at_281) rfl kont)))))) ?_
      show Go _ _ _ _ _ _ _ (T118.setTop (mkF m 283 #[.val (.int s0), .val (.int x0), .val (.int (2 : Int32)), .val (.int (x0 &&& (2147483647 : Int32))), .val (.int cp), .val (.int ee), .val (.int b0), .val (.int b1), .val (.int b2), .val (.int b3)] [(.int b2), (.int (((b0 &&& (15 : Int32)) <<< ((12 : Int32) &&& 31)) ||| ((b1 &&& (63 : Int32)) <<< ((6 : Int32) &&& 31))))]))
      refine Go.by (fun _ kont => XS.bipush X118.here hx rfl (hb hby at_283) (XS.iand X118.here hx rfl (hb hby at_285) rfl (XS.ior X118.here hx rfl (hb hby at_286) rfl (XS.iload X118.here hx rfl (hb hby at_287) rfl kont)))) ?_
      show Go _ _ _ _ _ _ _ (T118.setTop (mkF m 289 #[.val (.int s0), .val (.int x0), .val (.int (2 : Int32)), .val (.int (x0 &&& (2147483647 : Int32))), .val (.int cp), .val (.int ee), .val (.int b0), .val (.int b1), .val (.int b2), .val (.int b3)] [(.int cp), (.int ((((b0 &&& (15 : Int32)) <<< ((12 : Int32) &&& 31)) ||| ((b1 &&& (63 : Int32)) <<< ((6 : Int32) &&& 31))) ||| (b2 &&& (63 : Int32))))]))
      have hd121 : ((((b0 &&& (15 : Int32)) <<< ((12 : Int32) &&& 31)) ||| ((b1 &&& (63 : Int32)) <<< ((6 : Int32) &&& 31))) ||| (b2 &&& (63 : Int32))) = cp := own_d3 b0 b1 b2 cp A B C a1 a2 a3 a4 a5 a6 hcp V0 V1 V2
      refine Go.by (fun _ kont => XS.icmpNo X118.here hx rfl (hb hby at_289) rfl (teq hd121).2 kont) ?_
      show Go _ _ _ _ _ _ _ (T118.setTop (mkF m 292 #[.val (.int s0), .val (.int x0), .val (.int (2 : Int32)), .val (.int (x0 &&& (2147483647 : Int32))), .val (.int cp), .val (.int ee), .val (.int b0), .val (.int b1), .val (.int b2), .val (.int b3)] []))
      refine Go.by (fun _ kont => XS.iconst X118.here hx rfl (hb hby at_292) (XS.goto X118.here hx rfl (pc0 := 293) (pc' := 297) rfl (hb hby at_293) (by decide) (by decide) kont)) ?_
      show Go _ _ _ _ _ _ _ (T118.setTop (mkF m 297 #[.val (.int s0), .val (.int x0), .val (.int (2 : Int32)), .val (.int (x0 &&& (2147483647 : Int32))), .val (.int cp), .val (.int ee), .val (.int b0), .val (.int b1), .val (.int b2), .val (.int b3)] [(.int (1 : Int32))]))
      refine Go.retN X118 hx (t := .boolean) hret (by simp) hlk (hb hby at_297) ?_ (by decide) (by decide)
      show Q0 Z h0 n0 (some (.int (1 : Int32))) T118.heap _
      rw [eh118]
      exact ⟨rfl, N118⟩
    · refine Go.by (fun _ kont => XS.icmpNo X0.here hx rfl (hb hby at_60) rfl (flt hc113).1 kont) ?_
      show Go _ _ _ _ _ _ _ (s₁.setTop (mkF m 63 #[.val (.int s0), .val (.int x0), .val (.int (2 : Int32)), .val (.int (x0 &&& (2147483647 : Int32))), .val (.int cq), .unset, .unset, .unset, .unset, .unset] []))
      refine Go.by (fun _ kont => XS.iload X0.here hx rfl (hb hby at_63) rfl (X0.ldcInt hx hown (mvT hZ (hw _ (List.mem_of_getElem? (i := 14) rfl))) (g := (mkF m 65 #[.val (.int s0), .val (.int x0), .val (.int (2 : Int32)), .val (.int (x0 &&& (2147483647 : Int32))), .val (.int cq), .unset, .unset, .unset, .unset, .unset] [(.int cq)])) rfl (hb hby at_65) _ kont)) ?_
      show Go _ _ _ _ _ _ _ (s₁.setTop (mkF m 67 #[.val (.int s0), .val (.int x0), .val (.int (2 : Int32)), .val (.int (x0 &&& (2147483647 : Int32))), .val (.int cq), .unset, .unset, .unset, .unset, .unset] [(.int (57343 : Int32)), (.int cq)]))
      by_cases hc122 : (57343 : Int32) < cq
      · refine Go.by (fun _ kont => XS.icmpYes X0.here hx rfl (pc0 := 67) (pc' := 90) rfl (hb hby at_67) rfl (tlt hc122).2.2.1 (by decide) (by decide) kont) ?_
        show Go _ _ _ _ _ _ _ (s₁.setTop (mkF m 90 #[.val (.int s0), .val (.int x0), .val (.int (2 : Int32)), .val (.int (x0 &&& (2147483647 : Int32))), .val (.int cq), .unset, .unset, .unset, .unset, .unset] []))
        have Bcp : 2048 ≤ cq.toInt ∧ cq.toInt < 65536 := B0
        generalize cq = cp at Bcp ⊢
        show Go _ _ _ _ _ _ _ (s₁.setTop (mkF m 90 #[.val (.int s0), .val (.int x0), .val (.int (2 : Int32)), .val (.int (x0 &&& (2147483647 : Int32))), .val (.int cp), .unset, .unset, .unset, .unset, .unset] []))
        refine Go.by (fun _ kont => XS.iload X0.here hx rfl (hb hby at_90) rfl kont) ?_
        show Go _ _ _ _ _ _ _ (s₁.setTop (mkF m 92 #[.val (.int s0), .val (.int x0), .val (.int (2 : Int32)), .val (.int (x0 &&& (2147483647 : Int32))), .val (.int cp), .unset, .unset, .unset, .unset, .unset] [(.int cp)]))
        obtain ⟨_, _, ⟨T123, L123, k123, n123⟩, -, X123, ⟨Lc123, hQ123, l123, y123, z123⟩, st123⟩ := Jvm.LawKit.callS X0 hx (y := (⟨"com/example/pctenc/pctenc/Utf8", "encode", "(I)I"⟩ : MethodName)) hown (mvT hZ (hw _ (List.mem_of_getElem? (i := 1) rfl))) (mvT hZ (hw _ (List.mem_of_getElem? (i := 2) rfl))) (mvT hZ (hw _ (List.mem_of_getElem? (i := 3) rfl))) (mvT hZ (hw _ (List.mem_of_getElem? (i := 4) rfl))) (by decide) (backOf (W := 0) (rmEn l Z a0 hw [] cp h0 n0 Z0 ) hZ (hw _ (List.mem_of_getElem? (i := 4) rfl)) (hw _ (List.mem_of_getElem? (i := 3) rfl)) (by decide) (by decide)) (g := (mkF m 92 #[.val (.int s0), .val (.int x0), .val (.int (2 : Int32)), .val (.int (x0 &&& (2147483647 : Int32))), .val (.int cp), .unset, .unset, .unset, .unset, .unset] [(.int cp)])) rfl (by rw [hml]; rfl) (argsL := [(.int cp)]) (rest := []) (lenOf pd0_0 rfl) rfl (by show 2 * 0 + _ ≤ _; exact Nat.le_of_eq rfl) (hb hby at_92) (fun _ _ => ⟨rfl, e0, (by decide : 0 + 0 ≤ _), (by decide : 0 + 0 ≤ _)⟩)
        dsimp only [Pt.U, Pt.locs, Pt.cells, Pt.slots] at X123 l123 y123 z123 st123 hQ123
        subst l123 y123 z123
        obtain ⟨rfl, N123q, eh123⟩ := hQ123
        have N123 := Fr.app N0 N123q
        refine Go.by st123 ?_
        show Go _ _ _ _ _ _ _ (T123.setTop (mkF m 95 #[.val (.int s0), .val (.int x0), .val (.int (2 : Int32)), .val (.int (x0 &&& (2147483647 : Int32))), .val (.int cp), .unset, .unset, .unset, .unset, .unset] [(.int (fEn cp))]))
        obtain ⟨A, B, C, a1, a2, a3, a4, a5, a6, hcp, hE⟩ := own_e3 cp Bcp.1 Bcp.2
        generalize (fEn cp) = ee at hE ⊢
        have rE := rng32 ee
        show Go _ _ _ _ _ _ _ (T123.setTop (mkF m 95 #[.val (.int s0), .val (.int x0), .val (.int (2 : Int32)), .val (.int (x0 &&& (2147483647 : Int32))), .val (.int cp), .unset, .unset, .unset, .unset, .unset] [(.int ee)]))
        refine Go.by (fun _ kont => XS.istore X123.here hx rfl (hb hby at_95) rfl (l' := #[.val (.int s0), .val (.int x0), .val (.int (2 : Int32)), .val (.int (x0 &&& (2147483647 : Int32))), .val (.int cp), .val (.int ee), .unset, .unset, .unset, .unset]) rfl (XS.iload X123.here hx rfl (hb hby at_97) rfl (XS.sipush X123.here hx rfl (hb hby at_99) (XS.iand X123.here hx rfl (hb hby at_102) rfl (XS.istore X123.here hx rfl (hb hby at_103) rfl (l' := #[.val (.int s0), .val (.int x0), .val (.int (2 : Int32)), .val (.int (x0 &&& (2147483647 : Int32))), .val (.int cp), .val (.int ee), .val (.int (ee &&& (255 : Int32))), .unset, .unset, .unset]) rfl (XS.iload X123.here hx rfl (hb hby at_105) rfl kont)))))) ?_
        show Go _ _ _ _ _ _ _ (T123.setTop (mkF m 107 #[.val (.int s0), .val (.int x0), .val (.int (2 : Int32)), .val (.int (x0 &&& (2147483647 : Int32))), .val (.int cp), .val (.int ee), .val (.int (ee &&& (255 : Int32))), .unset, .unset, .unset] [(.int ee)]))
        refine Go.by (fun _ kont => XS.bipush X123.here hx rfl (hb hby at_107) (XS.iushr X123.here hx rfl (hb hby at_109) rfl (XS.sipush X123.here hx rfl (hb hby at_110) (XS.iand X123.here hx rfl (hb hby at_113) rfl (XS.istore X123.here hx rfl (hb hby at_114) rfl (l' := #[.val (.int s0), .val (.int x0), .val (.int (2 : Int32)), .val (.int (x0 &&& (2147483647 : Int32))), .val (.int cp), .val (.int ee), .val (.int (ee &&& (255 : Int32))), .val (.int (((ee.toUInt32 >>> ((8 : Int32) &&& 31).toUInt32).toInt32) &&& (255 : Int32))), .unset, .unset]) rfl (XS.iload X123.here hx rfl (hb hby at_116) rfl kont)))))) ?_
        show Go _ _ _ _ _ _ _ (T123.setTop (mkF m 118 #[.val (.int s0), .val (.int x0), .val (.int (2 : Int32)), .val (.int (x0 &&& (2147483647 : Int32))), .val (.int cp), .val (.int ee), .val (.int (ee &&& (255 : Int32))), .val (.int (((ee.toUInt32 >>> ((8 : Int32) &&& 31).toUInt32).toInt32) &&& (255 : Int32))), .unset, .unset] [(.int ee)]))
        refine Go.by (fun _ kont => XS.bipush X123.here hx rfl (hb hby at_118) (XS.iushr X123.here hx rfl (hb hby at_120) rfl (XS.sipush X123.here hx rfl (hb hby at_121) (XS.iand X123.here hx rfl (hb hby at_124) rfl (XS.istore X123.here hx rfl (hb hby at_125) rfl (l' := #[.val (.int s0), .val (.int x0), .val (.int (2 : Int32)), .val (.int (x0 &&& (2147483647 : Int32))), .val (.int cp), .val (.int ee), .val (.int (ee &&& (255 : Int32))), .val (.int (((ee.toUInt32 >>> ((8 : Int32) &&& 31).toUInt32).toInt32) &&& (255 : Int32))), .val (.int (((ee.toUInt32 >>> ((16 : Int32) &&& 31).toUInt32).toInt32) &&& (255 : Int32))), .unset]) rfl (XS.iload X123.here hx rfl (hb hby at_127) rfl kont)))))) ?_
        show Go _ _ _ _ _ _ _ (T123.setTop (mkF m 129 #[.val (.int s0), .val (.int x0), .val (.int (2 : Int32)), .val (.int (x0 &&& (2147483647 : Int32))), .val (.int cp), .val (.int ee), .val (.int (ee &&& (255 : Int32))), .val (.int (((ee.toUInt32 >>> ((8 : Int32) &&& 31).toUInt32).toInt32) &&& (255 : Int32))), .val (.int (((ee.toUInt32 >>> ((16 : Int32) &&& 31).toUInt32).toInt32) &&& (255 : Int32))), .unset] [(.int ee)]))
        refine Go.by (fun _ kont => XS.bipush X123.here hx rfl (hb hby at_129) (XS.iushr X123.here hx rfl (hb hby at_131) rfl (XS.istore X123.here hx rfl (hb hby at_132) rfl (l' := #[.val (.int s0), .val (.int x0), .val (.int (2 : Int32)), .val (.int (x0 &&& (2147483647 : Int32))), .val (.int cp), .val (.int ee), .val (.int (ee &&& (255 : Int32))), .val (.int (((ee.toUInt32 >>> ((8 : Int32) &&& 31).toUInt32).toInt32) &&& (255 : Int32))), .val (.int (((ee.toUInt32 >>> ((16 : Int32) &&& 31).toUInt32).toInt32) &&& (255 : Int32))), .val (.int ((ee.toUInt32 >>> ((24 : Int32) &&& 31).toUInt32).toInt32))]) rfl kont))) ?_
        show Go _ _ _ _ _ _ _ (T123.setTop (mkF m 134 #[.val (.int s0), .val (.int x0), .val (.int (2 : Int32)), .val (.int (x0 &&& (2147483647 : Int32))), .val (.int cp), .val (.int ee), .val (.int (ee &&& (255 : Int32))), .val (.int (((ee.toUInt32 >>> ((8 : Int32) &&& 31).toUInt32).toInt32) &&& (255 : Int32))), .val (.int (((ee.toUInt32 >>> ((16 : Int32) &&& 31).toUInt32).toInt32) &&& (255 : Int32))), .val (.int ((ee.toUInt32 >>> ((24 : Int32) &&& 31).toUInt32).toInt32))] []))
        have hBY := own_bytes ee (224 + A) (128 + B) (128 + C) 0 (by omega) (by omega) (by omega) (by omega) (by rw [hE]; omega)
        obtain ⟨V0, V1, V2, V3⟩ := hBY
        generalize ((ee.toUInt32 >>> ((24 : Int32) &&& 31).toUInt32).toInt32) = b3 at V3 ⊢
        generalize (((ee.toUInt32 >>> ((16 : Int32) &&& 31).toUInt32).toInt32) &&& (255 : Int32)) = b2 at V2 ⊢
        generalize (((ee.toUInt32 >>> ((8 : Int32) &&& 31).toUInt32).toInt32) &&& (255 : Int32)) = b1 at V1 ⊢
        generalize (ee &&& (255 : Int32)) = b0 at V0 ⊢
        show Go _ _ _ _ _ _ _ (T123.setTop (mkF m 134 #[.val (.int s0), .val (.int x0), .val (.int (2 : Int32)), .val (.int (x0 &&& (2147483647 : Int32))), .val (.int cp), .val (.int ee), .val (.int b0), .val (.int b1), .val (.int b2), .val (.int b3)] []))
        refine Go.by (fun _ kont => XS.iloadN X123.here hx rfl (hb hby at_134) rfl kont) ?_
        show Go _ _ _ _ _ _ _ (T123.setTop (mkF m 135 #[.val (.int s0), .val (.int x0), .val (.int (2 : Int32)), .val (.int (x0 &&& (2147483647 : Int32))), .val (.int cp), .val (.int ee), .val (.int b0), .val (.int b1), .val (.int b2), .val (.int b3)] [(.int (2 : Int32))]))
        refine Go.by (fun _ kont => XS.ifYes X123.here hx rfl (pc0 := 135) (pc' := 166) rfl (hb hby at_135) rfl (by decide) (by decide) (by decide) kont) ?_
        show Go _ _ _ _ _ _ _ (T123.setTop (mkF m 166 #[.val (.int s0), .val (.int x0), .val (.int (2 : Int32)), .val (.int (x0 &&& (2147483647 : Int32))), .val (.int cp), .val (.int ee), .val (.int b0), .val (.int b1), .val (.int b2), .val (.int b3)] []))
        refine Go.by (fun _ kont => XS.iloadN X123.here hx rfl (hb hby at_166) rfl (XS.iconst X123.here hx rfl (hb hby at_167) kont)) ?_
        show Go _ _ _ _ _ _ _ (T123.setTop (mkF m 168 #[.val (.int s0), .val (.int x0), .val (.int (2 : Int32)), .val (.int (x0 &&& (2147483647 : Int32))), .val (.int cp), .val (.int ee), .val (.int b0), .val (.int b1), .val (.int b2), .val (.int b3)] [(.int (1 : Int32)), (.int (2 : Int32))]))
        refine Go.by (fun _ kont => XS.icmpYes X123.here hx rfl (pc0 := 168) (pc' := 226) rfl (hb hby at_168) rfl (by decide) (by decide) (by decide) kont) ?_
        show Go _ _ _ _ _ _ _ (T123.setTop (mkF m 226 #[.val (.int s0), .val (.int x0), .val (.int (2 : Int32)), .val (.int (x0 &&& (2147483647 : Int32))), .val (.int cp), .val (.int ee), .val (.int b0), .val (.int b1), .val (.int b2), .val (.int b3)] []))
        refine Go.by (fun _ kont => XS.iloadN X123.here hx rfl (hb hby at_226) rfl (XS.iconst X123.here hx rfl (hb hby at_227) kont)) ?_
        show Go _ _ _ _ _ _ _ (T123.setTop (mkF m 228 #[.val (.int s0), .val (.int x0), .val (.int (2 : Int32)), .val (.int (x0 &&& (2147483647 : Int32))), .val (.int cp), .val (.int ee), .val (.int b0), .val (.int b1), .val (.int b2), .val (.int b3)] [(.int (2 : Int32)), (.int (2 : Int32))]))
        refine Go.by (fun _ kont => XS.icmpNo X123.here hx rfl (hb hby at_228) rfl (by decide) kont) ?_
        show Go _ _ _ _ _ _ _ (T123.setTop (mkF m 231 #[.val (.int s0), .val (.int x0), .val (.int (2 : Int32)), .val (.int (x0 &&& (2147483647 : Int32))), .val (.int cp), .val (.int ee), .val (.int b0), .val (.int b1), .val (.int b2), .val (.int b3)] []))
        refine Go.by (fun _ kont => XS.iload X123.here hx rfl (hb hby at_231) rfl (XS.sipush X123.here hx rfl (hb hby at_233) (XS.iand X123.here hx rfl (hb hby at_236) rfl (XS.sipush X123.here hx rfl (hb hby at_237) kont)))) ?_
        show Go _ _ _ _ _ _ _ (T123.setTop (mkF m 240 #[.val (.int s0), .val (.int x0), .val (.int (2 : Int32)), .val (.int (x0 &&& (2147483647 : Int32))), .val (.int cp), .val (.int ee), .val (.int b0), .val (.int b1), .val (.int b2), .val (.int b3)] [(.int (224 : Int32)), (.int (b0 &&& (240 : Int32)))]))
        have hd124 : (b0 &&& (240 : Int32)) = (224 : Int32) := own_hi4 _ (by rw [V0]; omega)
        refine Go.by (fun _ kont => XS.icmpNo X123.here hx rfl (hb hby at_240) rfl (teq hd124).2 kont) ?_
        show Go _ _ _ _ _ _ _ (T123.setTop (mkF m 243 #[.val (.int s0), .val (.int x0), .val (.int (2 : Int32)), .val (.int (x0 &&& (2147483647 : Int32))), .val (.int cp), .val (.int ee), .val (.int b0), .val (.int b1), .val (.int b2), .val (.int b3)] []))
        refine Go.by (fun _ kont => XS.iload X123.here hx rfl (hb hby at_243) rfl kont) ?_
        show Go _ _ _ _ _ _ _ (T123.setTop (mkF m 245 #[.val (.int s0), .val (.int x0), .val (.int (2 : Int32)), .val (.int (x0 &&& (2147483647 : Int32))), .val (.int cp), .val (.int ee), .val (.int b0), .val (.int b1), .val (.int b2), .val (.int b3)] [(.int b1)]))
        obtain ⟨_, _, ⟨T125, L125, k125, n125⟩, -, X125, ⟨Lc125, hQ125, l125, y125, z125⟩, st125⟩ := Jvm.LawKit.callS X123 hx (y := (⟨"com/example/pctenc/pctenc/Utf8EncodePinLaw", "cont", "(I)Z"⟩ : MethodName)) hown (mvT hZ (hw _ (List.mem_of_getElem? (i := 8) rfl))) (mvT hZ (hw _ (List.mem_of_getElem? (i := 9) rfl))) (mvT hZ (hw _ (List.mem_of_getElem? (i := 10) rfl))) (mvT hZ (hw _ (List.mem_of_getElem? (i := 11) rfl))) (by decide) (backOf (W := 0) (rmCo l Z a0 hw [] b1 h0 n0 Z0 ) hZ (hw _ (List.mem_of_getElem? (i := 11) rfl)) (hw _ (List.mem_of_getElem? (i := 10) rfl)) (by decide) (by decide)) (g := (mkF m 245 #[.val (.int s0), .val (.int x0), .val (.int (2 : Int32)), .val (.int (x0 &&& (2147483647 : Int32))), .val (.int cp), .val (.int ee), .val (.int b0), .val (.int b1), .val (.int b2), .val (.int b3)] [(.int b1)])) rfl (by rw [hml]; rfl) (argsL := [(.int b1)]) (rest := []) (lenOf pd0_1 rfl) rfl (by show 2 * 0 + _ ≤ _; exact Nat.le_of_eq rfl) (hb hby at_245) (fun _ _ => ⟨rfl, eh123, (by decide : 0 + 0 ≤ _), (by decide : 0 + 0 ≤ _)⟩)
        dsimp only [Pt.U, Pt.locs, Pt.cells, Pt.slots] at X125 l125 y125 z125 st125 hQ125
        subst l125 y125 z125
        obtain ⟨rfl, N125q, eh125⟩ := hQ125
        have N125 := Fr.app N123 N125q
        refine Go.by st125 ?_
        show Go _ _ _ _ _ _ _ (T125.setTop (mkF m 248 #[.val (.int s0), .val (.int x0), .val (.int (2 : Int32)), .val (.int (x0 &&& (2147483647 : Int32))), .val (.int cp), .val (.int ee), .val (.int b0), .val (.int b1), .val (.int b2), .val (.int b3)] [(.int (fCo b1))]))
        have hd126 : ¬ ((fCo b1) = (0 : Int32)) := by rw [own_co _ (by rw [V1]; omega)]; decide
        refine Go.by (fun _ kont => XS.ifNo X125.here hx rfl (hb hby at_248) rfl ((if0 _ _).trans (feq hd126).1) kont) ?_
        show Go _ _ _ _ _ _ _ (T125.setTop (mkF m 251 #[.val (.int s0), .val (.int x0), .val (.int (2 : Int32)), .val (.int (x0 &&& (2147483647 : Int32))), .val (.int cp), .val (.int ee), .val (.int b0), .val (.int b1), .val (.int b2), .val (.int b3)] []))
        refine Go.by (fun _ kont => XS.iload X125.here hx rfl (hb hby at_251) rfl kont) ?_
        show Go _ _ _ _ _ _ _ (T125.setTop (mkF m 253 #[.val (.int s0), .val (.int x0), .val (.int (2 : Int32)), .val (.int (x0 &&& (2147483647 : Int32))), .val (.int cp), .val (.int ee), .val (.int b0), .val (.int b1), .val (.int b2), .val (.int b3)] [(.int b2)]))
        obtain ⟨_, _, ⟨T127, L127, k127, n127⟩, -, X127, ⟨Lc127, hQ127, l127, y127, z127⟩, st127⟩ := Jvm.LawKit.callS X125 hx (y := (⟨"com/example/pctenc/pctenc/Utf8EncodePinLaw", "cont", "(I)Z"⟩ : MethodName)) hown (mvT hZ (hw _ (List.mem_of_getElem? (i := 8) rfl))) (mvT hZ (hw _ (List.mem_of_getElem? (i := 9) rfl))) (mvT hZ (hw _ (List.mem_of_getElem? (i := 10) rfl))) (mvT hZ (hw _ (List.mem_of_getElem? (i := 11) rfl))) (by decide) (backOf (W := 0) (rmCo l Z a0 hw [] b2 h0 n0 Z0 ) hZ (hw _ (List.mem_of_getElem? (i := 11) rfl)) (hw _ (List.mem_of_getElem? (i := 10) rfl)) (by decide) (by decide)) (g := (mkF m 253 #[.val (.int s0), .val (.int x0), .val (.int (2 : Int32)), .val (.int (x0 &&& (2147483647 : Int32))), .val (.int cp), .val (.int ee), .val (.int b0), .val (.int b1), .val (.int b2), .val (.int b3)] [(.int b2)])) rfl (by rw [hml]; rfl) (argsL := [(.int b2)]) (rest := []) (lenOf pd0_1 rfl) rfl (by show 2 * 0 + _ ≤ _; exact Nat.le_of_eq rfl) (hb hby at_253) (fun _ _ => ⟨rfl, eh125, (by decide : 0 + 0 ≤ _), (by decide : 0 + 0 ≤ _)⟩)
        dsimp only [Pt.U, Pt.locs, Pt.cells, Pt.slots] at X127 l127 y127 z127 st127 hQ127
        subst l127 y127 z127
        obtain ⟨rfl, N127q, eh127⟩ := hQ127
        have N127 := Fr.app N125 N127q
        refine Go.by st127 ?_
        show Go _ _ _ _ _ _ _ (T127.setTop (mkF m 256 #[.val (.int s0), .val (.int x0), .val (.int (2 : Int32)), .val (.int (x0 &&& (2147483647 : Int32))), .val (.int cp), .val (.int ee), .val (.int b0), .val (.int b1), .val (.int b2), .val (.int b3)] [(.int (fCo b2))]))
        have hd128 : ¬ ((fCo b2) = (0 : Int32)) := by rw [own_co _ (by rw [V2]; omega)]; decide
        refine Go.by (fun _ kont => XS.ifNo X127.here hx rfl (hb hby at_256) rfl ((if0 _ _).trans (feq hd128).1) kont) ?_
        show Go _ _ _ _ _ _ _ (T127.setTop (mkF m 259 #[.val (.int s0), .val (.int x0), .val (.int (2 : Int32)), .val (.int (x0 &&& (2147483647 : Int32))), .val (.int cp), .val (.int ee), .val (.int b0), .val (.int b1), .val (.int b2), .val (.int b3)] []))
        refine Go.by (fun _ kont => XS.iload X127.here hx rfl (hb hby at_259) rfl kont) ?_
        show Go _ _ _ _ _ _ _ (T127.setTop (mkF m 261 #[.val (.int s0), .val (.int x0), .val (.int (2 : Int32)), .val (.int (x0 &&& (2147483647 : Int32))), .val (.int cp), .val (.int ee), .val (.int b0), .val (.int b1), .val (.int b2), .val (.int b3)] [(.int b3)]))
        have hd129 : b3 = (0 : Int32) := own_z _ V3
        refine Go.by (fun _ kont => XS.ifNo X127.here hx rfl (hb hby at_261) rfl ((if0 _ _).trans (teq hd129).2) kont) ?_
        show Go _ _ _ _ _ _ _ (T127.setTop (mkF m 264 #[.val (.int s0), .val (.int x0), .val (.int (2 : Int32)), .val (.int (x0 &&& (2147483647 : Int32))), .val (.int cp), .val (.int ee), .val (.int b0), .val (.int b1), .val (.int b2), .val (.int b3)] []))
        refine Go.by (fun _ kont => XS.iload X127.here hx rfl (hb hby at_264) rfl (XS.bipush X127.here hx rfl (hb hby at_266) (XS.iand X127.here hx rfl (hb hby at_268) rfl (XS.bipush X127.here hx rfl (hb hby at_269) (XS.ishl X127.here hx rfl (hb hby at_271) rfl (XS.iload X127.here hx rfl (hb hby at_272) rfl kont)))))) ?_
        show Go _ _ _ _ _ _ _ (T127.setTop (mkF m 274 #[.val (.int s0), .val (.int x0), .val (.int (2 : Int32)), .val (.int (x0 &&& (2147483647 : Int32))), .val (.int cp), .val (.int ee), .val (.int b0), .val (.int b1), .val (.int b2), .val (.int b3)] [(.int b1), (.int ((b0 &&& (15 : Int32)) <<< ((12 : Int32) &&& 31)))]))
        refine Go.by (fun _ kont => XS.bipush X127.here hx rfl (hb hby at_274) (XS.iand X127.here hx rfl (hb hby at_276) rfl (XS.bipush X127.here hx rfl (hb hby at_277) (XS.ishl X127.here hx rfl (hb hby at_279) rfl (XS.ior X127.here hx rfl (hb hby at_280) rfl (XS.iload X127.here hx rfl (hb hby at_281) rfl kont)))))) ?_
        show Go _ _ _ _ _ _ _ (T127.setTop (mkF m 283 #[.val (.int s0), .val (.int x0), .val (.int (2 : Int32)), .val (.int (x0 &&& (2147483647 : Int32))), .val (.int cp), .val (.int ee), .val (.int b0), .val (.int b1), .val (.int b2), .val (.int b3)] [(.int b2), (.int (((b0 &&& (15 : Int32)) <<< ((12 : Int32) &&& 31)) ||| ((b1 &&& (63 : Int32)) <<< ((6 : Int32) &&& 31))))]))
        refine Go.by (fun _ kont => XS.bipush X127.here hx rfl (hb hby at_283) (XS.iand X127.here hx rfl (hb hby at_285) rfl (XS.ior X127.here hx rfl (hb hby at_286) rfl (XS.iload X127.here hx rfl (hb hby at_287) rfl kont)))) ?_
        show Go _ _ _ _ _ _ _ (T127.setTop (mkF m 289 #[.val (.int s0), .val (.int x0), .val (.int (2 : Int32)), .val (.int (x0 &&& (2147483647 : Int32))), .val (.int cp), .val (.int ee), .val (.int b0), .val (.int b1), .val (.int b2), .val (.int b3)] [(.int cp), (.int ((((b0 &&& (15 : Int32)) <<< ((12 : Int32) &&& 31)) ||| ((b1 &&& (63 : Int32)) <<< ((6 : Int32) &&& 31))) ||| (b2 &&& (63 : Int32))))]))
        have hd130 : ((((b0 &&& (15 : Int32)) <<< ((12 : Int32) &&& 31)) ||| ((b1 &&& (63 : Int32)) <<< ((6 : Int32) &&& 31))) ||| (b2 &&& (63 : Int32))) = cp := own_d3 b0 b1 b2 cp A B C a1 a2 a3 a4 a5 a6 hcp V0 V1 V2
        refine Go.by (fun _ kont => XS.icmpNo X127.here hx rfl (hb hby at_289) rfl (teq hd130).2 kont) ?_
        show Go _ _ _ _ _ _ _ (T127.setTop (mkF m 292 #[.val (.int s0), .val (.int x0), .val (.int (2 : Int32)), .val (.int (x0 &&& (2147483647 : Int32))), .val (.int cp), .val (.int ee), .val (.int b0), .val (.int b1), .val (.int b2), .val (.int b3)] []))
        refine Go.by (fun _ kont => XS.iconst X127.here hx rfl (hb hby at_292) (XS.goto X127.here hx rfl (pc0 := 293) (pc' := 297) rfl (hb hby at_293) (by decide) (by decide) kont)) ?_
        show Go _ _ _ _ _ _ _ (T127.setTop (mkF m 297 #[.val (.int s0), .val (.int x0), .val (.int (2 : Int32)), .val (.int (x0 &&& (2147483647 : Int32))), .val (.int cp), .val (.int ee), .val (.int b0), .val (.int b1), .val (.int b2), .val (.int b3)] [(.int (1 : Int32))]))
        refine Go.retN X127 hx (t := .boolean) hret (by simp) hlk (hb hby at_297) ?_ (by decide) (by decide)
        show Q0 Z h0 n0 (some (.int (1 : Int32))) T127.heap _
        rw [eh127]
        exact ⟨rfl, N127⟩
      · refine Go.by (fun _ kont => XS.icmpNo X0.here hx rfl (hb hby at_67) rfl (flt hc122).2.2.1 kont) ?_
        show Go _ _ _ _ _ _ _ (s₁.setTop (mkF m 70 #[.val (.int s0), .val (.int x0), .val (.int (2 : Int32)), .val (.int (x0 &&& (2147483647 : Int32))), .val (.int cq), .unset, .unset, .unset, .unset, .unset] []))
        refine Go.by (fun _ kont => XS.iload X0.here hx rfl (hb hby at_70) rfl (XS.sipush X0.here hx rfl (hb hby at_72) (XS.isub X0.here hx rfl (hb hby at_75) rfl (XS.istore X0.here hx rfl (hb hby at_76) rfl (l' := #[.val (.int s0), .val (.int x0), .val (.int (2 : Int32)), .val (.int (x0 &&& (2147483647 : Int32))), .val (.int (cq - (4096 : Int32))), .unset, .unset, .unset, .unset, .unset]) rfl (XS.goto X0.here hx rfl (pc0 := 78) (pc' := 90) rfl (hb hby at_78) (by decide) (by decide) kont))))) ?_
        show Go _ _ _ _ _ _ _ (s₁.setTop (mkF m 90 #[.val (.int s0), .val (.int x0), .val (.int (2 : Int32)), .val (.int (x0 &&& (2147483647 : Int32))), .val (.int (cq - (4096 : Int32))), .unset, .unset, .unset, .unset, .unset] []))
        have Bcp : 2048 ≤ (cq - (4096 : Int32)).toInt ∧ (cq - (4096 : Int32)).toInt < 65536 := by
          have q1 := c_isub cq 4096
          have q2 := rng32 (cq - 4096)
          have q3 : ¬ (cq.toInt < 55296) := by have := hc113; rw [Int32.lt_iff_toInt_lt] at this; exact this
          have q4 : (4096 : Int32).toInt = 4096 := by decide
          rw [q4] at q1
          omega
        generalize (cq - (4096 : Int32)) = cp at Bcp ⊢
        show Go _ _ _ _ _ _ _ (s₁.setTop (mkF m 90 #[.val (.int s0), .val (.int x0), .val (.int (2 : Int32)), .val (.int (x0 &&& (2147483647 : Int32))), .val (.int cp), .unset, .unset, .unset, .unset, .unset] []))
        refine Go.by (fun _ kont => XS.iload X0.here hx rfl (hb hby at_90) rfl kont) ?_
        show Go _ _ _ _ _ _ _ (s₁.setTop (mkF m 92 #[.val (.int s0), .val (.int x0), .val (.int (2 : Int32)), .val (.int (x0 &&& (2147483647 : Int32))), .val (.int cp), .unset, .unset, .unset, .unset, .unset] [(.int cp)]))
        obtain ⟨_, _, ⟨T131, L131, k131, n131⟩, -, X131, ⟨Lc131, hQ131, l131, y131, z131⟩, st131⟩ := Jvm.LawKit.callS X0 hx (y := (⟨"com/example/pctenc/pctenc/Utf8", "encode", "(I)I"⟩ : MethodName)) hown (mvT hZ (hw _ (List.mem_of_getElem? (i := 1) rfl))) (mvT hZ (hw _ (List.mem_of_getElem? (i := 2) rfl))) (mvT hZ (hw _ (List.mem_of_getElem? (i := 3) rfl))) (mvT hZ (hw _ (List.mem_of_getElem? (i := 4) rfl))) (by decide) (backOf (W := 0) (rmEn l Z a0 hw [] cp h0 n0 Z0 ) hZ (hw _ (List.mem_of_getElem? (i := 4) rfl)) (hw _ (List.mem_of_getElem? (i := 3) rfl)) (by decide) (by decide)) (g := (mkF m 92 #[.val (.int s0), .val (.int x0), .val (.int (2 : Int32)), .val (.int (x0 &&& (2147483647 : Int32))), .val (.int cp), .unset, .unset, .unset, .unset, .unset] [(.int cp)])) rfl (by rw [hml]; rfl) (argsL := [(.int cp)]) (rest := []) (lenOf pd0_0 rfl) rfl (by show 2 * 0 + _ ≤ _; exact Nat.le_of_eq rfl) (hb hby at_92) (fun _ _ => ⟨rfl, e0, (by decide : 0 + 0 ≤ _), (by decide : 0 + 0 ≤ _)⟩)
        dsimp only [Pt.U, Pt.locs, Pt.cells, Pt.slots] at X131 l131 y131 z131 st131 hQ131
        subst l131 y131 z131
        obtain ⟨rfl, N131q, eh131⟩ := hQ131
        have N131 := Fr.app N0 N131q
        refine Go.by st131 ?_
        show Go _ _ _ _ _ _ _ (T131.setTop (mkF m 95 #[.val (.int s0), .val (.int x0), .val (.int (2 : Int32)), .val (.int (x0 &&& (2147483647 : Int32))), .val (.int cp), .unset, .unset, .unset, .unset, .unset] [(.int (fEn cp))]))
        obtain ⟨A, B, C, a1, a2, a3, a4, a5, a6, hcp, hE⟩ := own_e3 cp Bcp.1 Bcp.2
        generalize (fEn cp) = ee at hE ⊢
        have rE := rng32 ee
        show Go _ _ _ _ _ _ _ (T131.setTop (mkF m 95 #[.val (.int s0), .val (.int x0), .val (.int (2 : Int32)), .val (.int (x0 &&& (2147483647 : Int32))), .val (.int cp), .unset, .unset, .unset, .unset, .unset] [(.int ee)]))
        refine Go.by (fun _ kont => XS.istore X131.here hx rfl (hb hby at_95) rfl (l' := #[.val (.int s0), .val (.int x0), .val (.int (2 : Int32)), .val (.int (x0 &&& (2147483647 : Int32))), .val (.int cp), .val (.int ee), .unset, .unset, .unset, .unset]) rfl (XS.iload X131.here hx rfl (hb hby at_97) rfl (XS.sipush X131.here hx rfl (hb hby at_99) (XS.iand X131.here hx rfl (hb hby at_102) rfl (XS.istore X131.here hx rfl (hb hby at_103) rfl (l' := #[.val (.int s0), .val (.int x0), .val (.int (2 : Int32)), .val (.int (x0 &&& (2147483647 : Int32))), .val (.int cp), .val (.int ee), .val (.int (ee &&& (255 : Int32))), .unset, .unset, .unset]) rfl (XS.iload X131.here hx rfl (hb hby at_105) rfl kont)))))) ?_
        show Go _ _ _ _ _ _ _ (T131.setTop (mkF m 107 #[.val (.int s0), .val (.int x0), .val (.int (2 : Int32)), .val (.int (x0 &&& (2147483647 : Int32))), .val (.int cp), .val (.int ee), .val (.int (ee &&& (255 : Int32))), .unset, .unset, .unset] [(.int ee)]))
        refine Go.by (fun _ kont => XS.bipush X131.here hx rfl (hb hby at_107) (XS.iushr X131.here hx rfl (hb hby at_109) rfl (XS.sipush X131.here hx rfl (hb hby at_110) (XS.iand X131.here hx rfl (hb hby at_113) rfl (XS.istore X131.here hx rfl (hb hby at_114) rfl (l' := #[.val (.int s0), .val (.int x0), .val (.int (2 : Int32)), .val (.int (x0 &&& (2147483647 : Int32))), .val (.int cp), .val (.int ee), .val (.int (ee &&& (255 : Int32))), .val (.int (((ee.toUInt32 >>> ((8 : Int32) &&& 31).toUInt32).toInt32) &&& (255 : Int32))), .unset, .unset]) rfl (XS.iload X131.here hx rfl (hb hby at_116) rfl kont)))))) ?_
        show Go _ _ _ _ _ _ _ (T131.setTop (mkF m 118 #[.val (.int s0), .val (.int x0), .val (.int (2 : Int32)), .val (.int (x0 &&& (2147483647 : Int32))), .val (.int cp), .val (.int ee), .val (.int (ee &&& (255 : Int32))), .val (.int (((ee.toUInt32 >>> ((8 : Int32) &&& 31).toUInt32).toInt32) &&& (255 : Int32))), .unset, .unset] [(.int ee)]))
        refine Go.by (fun _ kont => XS.bipush X131.here hx rfl (hb hby at_118) (XS.iushr X131.here hx rfl (hb hby at_120) rfl (XS.sipush X131.here hx rfl (hb hby at_121) (XS.iand X131.here hx rfl (hb hby at_124) rfl (XS.istore X131.here hx rfl (hb hby at_125) rfl (l' := #[.val (.int s0), .val (.int x0), .val (.int (2 : Int32)), .val (.int (x0 &&& (2147483647 : Int32))), .val (.int cp), .val (.int ee), .val (.int (ee &&& (255 : Int32))), .val (.int (((ee.toUInt32 >>> ((8 : Int32) &&& 31).toUInt32).toInt32) &&& (255 : Int32))), .val (.int (((ee.toUInt32 >>> ((16 : Int32) &&& 31).toUInt32).toInt32) &&& (255 : Int32))), .unset]) rfl (XS.iload X131.here hx rfl (hb hby at_127) rfl kont)))))) ?_
        show Go _ _ _ _ _ _ _ (T131.setTop (mkF m 129 #[.val (.int s0), .val (.int x0), .val (.int (2 : Int32)), .val (.int (x0 &&& (2147483647 : Int32))), .val (.int cp), .val (.int ee), .val (.int (ee &&& (255 : Int32))), .val (.int (((ee.toUInt32 >>> ((8 : Int32) &&& 31).toUInt32).toInt32) &&& (255 : Int32))), .val (.int (((ee.toUInt32 >>> ((16 : Int32) &&& 31).toUInt32).toInt32) &&& (255 : Int32))), .unset] [(.int ee)]))
        refine Go.by (fun _ kont => XS.bipush X131.here hx rfl (hb hby at_129) (XS.iushr X131.here hx rfl (hb hby at_131) rfl (XS.istore X131.here hx rfl (hb hby at_132) rfl (l' := #[.val (.int s0), .val (.int x0), .val (.int (2 : Int32)), .val (.int (x0 &&& (2147483647 : Int32))), .val (.int cp), .val (.int ee), .val (.int (ee &&& (255 : Int32))), .val (.int (((ee.toUInt32 >>> ((8 : Int32) &&& 31).toUInt32).toInt32) &&& (255 : Int32))), .val (.int (((ee.toUInt32 >>> ((16 : Int32) &&& 31).toUInt32).toInt32) &&& (255 : Int32))), .val (.int ((ee.toUInt32 >>> ((24 : Int32) &&& 31).toUInt32).toInt32))]) rfl kont))) ?_
        show Go _ _ _ _ _ _ _ (T131.setTop (mkF m 134 #[.val (.int s0), .val (.int x0), .val (.int (2 : Int32)), .val (.int (x0 &&& (2147483647 : Int32))), .val (.int cp), .val (.int ee), .val (.int (ee &&& (255 : Int32))), .val (.int (((ee.toUInt32 >>> ((8 : Int32) &&& 31).toUInt32).toInt32) &&& (255 : Int32))), .val (.int (((ee.toUInt32 >>> ((16 : Int32) &&& 31).toUInt32).toInt32) &&& (255 : Int32))), .val (.int ((ee.toUInt32 >>> ((24 : Int32) &&& 31).toUInt32).toInt32))] []))
        have hBY := own_bytes ee (224 + A) (128 + B) (128 + C) 0 (by omega) (by omega) (by omega) (by omega) (by rw [hE]; omega)
        obtain ⟨V0, V1, V2, V3⟩ := hBY
        generalize ((ee.toUInt32 >>> ((24 : Int32) &&& 31).toUInt32).toInt32) = b3 at V3 ⊢
        generalize (((ee.toUInt32 >>> ((16 : Int32) &&& 31).toUInt32).toInt32) &&& (255 : Int32)) = b2 at V2 ⊢
        generalize (((ee.toUInt32 >>> ((8 : Int32) &&& 31).toUInt32).toInt32) &&& (255 : Int32)) = b1 at V1 ⊢
        generalize (ee &&& (255 : Int32)) = b0 at V0 ⊢
        show Go _ _ _ _ _ _ _ (T131.setTop (mkF m 134 #[.val (.int s0), .val (.int x0), .val (.int (2 : Int32)), .val (.int (x0 &&& (2147483647 : Int32))), .val (.int cp), .val (.int ee), .val (.int b0), .val (.int b1), .val (.int b2), .val (.int b3)] []))
        refine Go.by (fun _ kont => XS.iloadN X131.here hx rfl (hb hby at_134) rfl kont) ?_
        show Go _ _ _ _ _ _ _ (T131.setTop (mkF m 135 #[.val (.int s0), .val (.int x0), .val (.int (2 : Int32)), .val (.int (x0 &&& (2147483647 : Int32))), .val (.int cp), .val (.int ee), .val (.int b0), .val (.int b1), .val (.int b2), .val (.int b3)] [(.int (2 : Int32))]))
        refine Go.by (fun _ kont => XS.ifYes X131.here hx rfl (pc0 := 135) (pc' := 166) rfl (hb hby at_135) rfl (by decide) (by decide) (by decide) kont) ?_
        show Go _ _ _ _ _ _ _ (T131.setTop (mkF m 166 #[.val (.int s0), .val (.int x0), .val (.int (2 : Int32)), .val (.int (x0 &&& (2147483647 : Int32))), .val (.int cp), .val (.int ee), .val (.int b0), .val (.int b1), .val (.int b2), .val (.int b3)] []))
        refine Go.by (fun _ kont => XS.iloadN X131.here hx rfl (hb hby at_166) rfl (XS.iconst X131.here hx rfl (hb hby at_167) kont)) ?_
        show Go _ _ _ _ _ _ _ (T131.setTop (mkF m 168 #[.val (.int s0), .val (.int x0), .val (.int (2 : Int32)), .val (.int (x0 &&& (2147483647 : Int32))), .val (.int cp), .val (.int ee), .val (.int b0), .val (.int b1), .val (.int b2), .val (.int b3)] [(.int (1 : Int32)), (.int (2 : Int32))]))
        refine Go.by (fun _ kont => XS.icmpYes X131.here hx rfl (pc0 := 168) (pc' := 226) rfl (hb hby at_168) rfl (by decide) (by decide) (by decide) kont) ?_
        show Go _ _ _ _ _ _ _ (T131.setTop (mkF m 226 #[.val (.int s0), .val (.int x0), .val (.int (2 : Int32)), .val (.int (x0 &&& (2147483647 : Int32))), .val (.int cp), .val (.int ee), .val (.int b0), .val (.int b1), .val (.int b2), .val (.int b3)] []))
        refine Go.by (fun _ kont => XS.iloadN X131.here hx rfl (hb hby at_226) rfl (XS.iconst X131.here hx rfl (hb hby at_227) kont)) ?_
        show Go _ _ _ _ _ _ _ (T131.setTop (mkF m 228 #[.val (.int s0), .val (.int x0), .val (.int (2 : Int32)), .val (.int (x0 &&& (2147483647 : Int32))), .val (.int cp), .val (.int ee), .val (.int b0), .val (.int b1), .val (.int b2), .val (.int b3)] [(.int (2 : Int32)), (.int (2 : Int32))]))
        refine Go.by (fun _ kont => XS.icmpNo X131.here hx rfl (hb hby at_228) rfl (by decide) kont) ?_
        show Go _ _ _ _ _ _ _ (T131.setTop (mkF m 231 #[.val (.int s0), .val (.int x0), .val (.int (2 : Int32)), .val (.int (x0 &&& (2147483647 : Int32))), .val (.int cp), .val (.int ee), .val (.int b0), .val (.int b1), .val (.int b2), .val (.int b3)] []))
        refine Go.by (fun _ kont => XS.iload X131.here hx rfl (hb hby at_231) rfl (XS.sipush X131.here hx rfl (hb hby at_233) (XS.iand X131.here hx rfl (hb hby at_236) rfl (XS.sipush X131.here hx rfl (hb hby at_237) kont)))) ?_
        show Go _ _ _ _ _ _ _ (T131.setTop (mkF m 240 #[.val (.int s0), .val (.int x0), .val (.int (2 : Int32)), .val (.int (x0 &&& (2147483647 : Int32))), .val (.int cp), .val (.int ee), .val (.int b0), .val (.int b1), .val (.int b2), .val (.int b3)] [(.int (224 : Int32)), (.int (b0 &&& (240 : Int32)))]))
        have hd132 : (b0 &&& (240 : Int32)) = (224 : Int32) := own_hi4 _ (by rw [V0]; omega)
        refine Go.by (fun _ kont => XS.icmpNo X131.here hx rfl (hb hby at_240) rfl (teq hd132).2 kont) ?_
        show Go _ _ _ _ _ _ _ (T131.setTop (mkF m 243 #[.val (.int s0), .val (.int x0), .val (.int (2 : Int32)), .val (.int (x0 &&& (2147483647 : Int32))), .val (.int cp), .val (.int ee), .val (.int b0), .val (.int b1), .val (.int b2), .val (.int b3)] []))
        refine Go.by (fun _ kont => XS.iload X131.here hx rfl (hb hby at_243) rfl kont) ?_
        show Go _ _ _ _ _ _ _ (T131.setTop (mkF m 245 #[.val (.int s0), .val (.int x0), .val (.int (2 : Int32)), .val (.int (x0 &&& (2147483647 : Int32))), .val (.int cp), .val (.int ee), .val (.int b0), .val (.int b1), .val (.int b2), .val (.int b3)] [(.int b1)]))
        obtain ⟨_, _, ⟨T133, L133, k133, n133⟩, -, X133, ⟨Lc133, hQ133, l133, y133, z133⟩, st133⟩ := Jvm.LawKit.callS X131 hx (y := (⟨"com/example/pctenc/pctenc/Utf8EncodePinLaw", "cont", "(I)Z"⟩ : MethodName)) hown (mvT hZ (hw _ (List.mem_of_getElem? (i := 8) rfl))) (mvT hZ (hw _ (List.mem_of_getElem? (i := 9) rfl))) (mvT hZ (hw _ (List.mem_of_getElem? (i := 10) rfl))) (mvT hZ (hw _ (List.mem_of_getElem? (i := 11) rfl))) (by decide) (backOf (W := 0) (rmCo l Z a0 hw [] b1 h0 n0 Z0 ) hZ (hw _ (List.mem_of_getElem? (i := 11) rfl)) (hw _ (List.mem_of_getElem? (i := 10) rfl)) (by decide) (by decide)) (g := (mkF m 245 #[.val (.int s0), .val (.int x0), .val (.int (2 : Int32)), .val (.int (x0 &&& (2147483647 : Int32))), .val (.int cp), .val (.int ee), .val (.int b0), .val (.int b1), .val (.int b2), .val (.int b3)] [(.int b1)])) rfl (by rw [hml]; rfl) (argsL := [(.int b1)]) (rest := []) (lenOf pd0_1 rfl) rfl (by show 2 * 0 + _ ≤ _; exact Nat.le_of_eq rfl) (hb hby at_245) (fun _ _ => ⟨rfl, eh131, (by decide : 0 + 0 ≤ _), (by decide : 0 + 0 ≤ _)⟩)
        dsimp only [Pt.U, Pt.locs, Pt.cells, Pt.slots] at X133 l133 y133 z133 st133 hQ133
        subst l133 y133 z133
        obtain ⟨rfl, N133q, eh133⟩ := hQ133
        have N133 := Fr.app N131 N133q
        refine Go.by st133 ?_
        show Go _ _ _ _ _ _ _ (T133.setTop (mkF m 248 #[.val (.int s0), .val (.int x0), .val (.int (2 : Int32)), .val (.int (x0 &&& (2147483647 : Int32))), .val (.int cp), .val (.int ee), .val (.int b0), .val (.int b1), .val (.int b2), .val (.int b3)] [(.int (fCo b1))]))
        have hd134 : ¬ ((fCo b1) = (0 : Int32)) := by rw [own_co _ (by rw [V1]; omega)]; decide
        refine Go.by (fun _ kont => XS.ifNo X133.here hx rfl (hb hby at_248) rfl ((if0 _ _).trans (feq hd134).1) kont) ?_
        show Go _ _ _ _ _ _ _ (T133.setTop (mkF m 251 #[.val (.int s0), .val (.int x0), .val (.int (2 : Int32)), .val (.int (x0 &&& (2147483647 : Int32))), .val (.int cp), .val (.int ee), .val (.int b0), .val (.int b1), .val (.int b2), .val (.int b3)] []))
        refine Go.by (fun _ kont => XS.iload X133.here hx rfl (hb hby at_251) rfl kont) ?_
        show Go _ _ _ _ _ _ _ (T133.setTop (mkF m 253 #[.val (.int s0), .val (.int x0), .val (.int (2 : Int32)), .val (.int (x0 &&& (2147483647 : Int32))), .val (.int cp), .val (.int ee), .val (.int b0), .val (.int b1), .val (.int b2), .val (.int b3)] [(.int b2)]))
        obtain ⟨_, _, ⟨T135, L135, k135, n135⟩, -, X135, ⟨Lc135, hQ135, l135, y135, z135⟩, st135⟩ := Jvm.LawKit.callS X133 hx (y := (⟨"com/example/pctenc/pctenc/Utf8EncodePinLaw", "cont", "(I)Z"⟩ : MethodName)) hown (mvT hZ (hw _ (List.mem_of_getElem? (i := 8) rfl))) (mvT hZ (hw _ (List.mem_of_getElem? (i := 9) rfl))) (mvT hZ (hw _ (List.mem_of_getElem? (i := 10) rfl))) (mvT hZ (hw _ (List.mem_of_getElem? (i := 11) rfl))) (by decide) (backOf (W := 0) (rmCo l Z a0 hw [] b2 h0 n0 Z0 ) hZ (hw _ (List.mem_of_getElem? (i := 11) rfl)) (hw _ (List.mem_of_getElem? (i := 10) rfl)) (by decide) (by decide)) (g := (mkF m 253 #[.val (.int s0), .val (.int x0), .val (.int (2 : Int32)), .val (.int (x0 &&& (2147483647 : Int32))), .val (.int cp), .val (.int ee), .val (.int b0), .val (.int b1), .val (.int b2), .val (.int b3)] [(.int b2)])) rfl (by rw [hml]; rfl) (argsL := [(.int b2)]) (rest := []) (lenOf pd0_1 rfl) rfl (by show 2 * 0 + _ ≤ _; exact Nat.le_of_eq rfl) (hb hby at_253) (fun _ _ => ⟨rfl, eh133, (by decide : 0 + 0 ≤ _), (by decide : 0 + 0 ≤ _)⟩)
        dsimp only [Pt.U, Pt.locs, Pt.cells, Pt.slots] at X135 l135 y135 z135 st135 hQ135
        subst l135 y135 z135
        obtain ⟨rfl, N135q, eh135⟩ := hQ135
        have N135 := Fr.app N133 N135q
        refine Go.by st135 ?_
        show Go _ _ _ _ _ _ _ (T135.setTop (mkF m 256 #[.val (.int s0), .val (.int x0), .val (.int (2 : Int32)), .val (.int (x0 &&& (2147483647 : Int32))), .val (.int cp), .val (.int ee), .val (.int b0), .val (.int b1), .val (.int b2), .val (.int b3)] [(.int (fCo b2))]))
        have hd136 : ¬ ((fCo b2) = (0 : Int32)) := by rw [own_co _ (by rw [V2]; omega)]; decide
        refine Go.by (fun _ kont => XS.ifNo X135.here hx rfl (hb hby at_256) rfl ((if0 _ _).trans (feq hd136).1) kont) ?_
        show Go _ _ _ _ _ _ _ (T135.setTop (mkF m 259 #[.val (.int s0), .val (.int x0), .val (.int (2 : Int32)), .val (.int (x0 &&& (2147483647 : Int32))), .val (.int cp), .val (.int ee), .val (.int b0), .val (.int b1), .val (.int b2), .val (.int b3)] []))
        refine Go.by (fun _ kont => XS.iload X135.here hx rfl (hb hby at_259) rfl kont) ?_
        show Go _ _ _ _ _ _ _ (T135.setTop (mkF m 261 #[.val (.int s0), .val (.int x0), .val (.int (2 : Int32)), .val (.int (x0 &&& (2147483647 : Int32))), .val (.int cp), .val (.int ee), .val (.int b0), .val (.int b1), .val (.int b2), .val (.int b3)] [(.int b3)]))
        have hd137 : b3 = (0 : Int32) := own_z _ V3
        refine Go.by (fun _ kont => XS.ifNo X135.here hx rfl (hb hby at_261) rfl ((if0 _ _).trans (teq hd137).2) kont) ?_
        show Go _ _ _ _ _ _ _ (T135.setTop (mkF m 264 #[.val (.int s0), .val (.int x0), .val (.int (2 : Int32)), .val (.int (x0 &&& (2147483647 : Int32))), .val (.int cp), .val (.int ee), .val (.int b0), .val (.int b1), .val (.int b2), .val (.int b3)] []))
        refine Go.by (fun _ kont => XS.iload X135.here hx rfl (hb hby at_264) rfl (XS.bipush X135.here hx rfl (hb hby at_266) (XS.iand X135.here hx rfl (hb hby at_268) rfl (XS.bipush X135.here hx rfl (hb hby at_269) (XS.ishl X135.here hx rfl (hb hby at_271) rfl (XS.iload X135.here hx rfl (hb hby at_272) rfl kont)))))) ?_
        show Go _ _ _ _ _ _ _ (T135.setTop (mkF m 274 #[.val (.int s0), .val (.int x0), .val (.int (2 : Int32)), .val (.int (x0 &&& (2147483647 : Int32))), .val (.int cp), .val (.int ee), .val (.int b0), .val (.int b1), .val (.int b2), .val (.int b3)] [(.int b1), (.int ((b0 &&& (15 : Int32)) <<< ((12 : Int32) &&& 31)))]))
        refine Go.by (fun _ kont => XS.bipush X135.here hx rfl (hb hby at_274) (XS.iand X135.here hx rfl (hb hby at_276) rfl (XS.bipush X135.here hx rfl (hb hby at_277) (XS.ishl X135.here hx rfl (hb hby at_279) rfl (XS.ior X135.here hx rfl (hb hby at_280) rfl (XS.iload X135.here hx rfl (hb hby at_281) rfl kont)))))) ?_
        show Go _ _ _ _ _ _ _ (T135.setTop (mkF m 283 #[.val (.int s0), .val (.int x0), .val (.int (2 : Int32)), .val (.int (x0 &&& (2147483647 : Int32))), .val (.int cp), .val (.int ee), .val (.int b0), .val (.int b1), .val (.int b2), .val (.int b3)] [(.int b2), (.int (((b0 &&& (15 : Int32)) <<< ((12 : Int32) &&& 31)) ||| ((b1 &&& (63 : Int32)) <<< ((6 : Int32) &&& 31))))]))
        refine Go.by (fun _ kont => XS.bipush X135.here hx rfl (hb hby at_283) (XS.iand X135.here hx rfl (hb hby at_285) rfl (XS.ior X135.here hx rfl (hb hby at_286) rfl (XS.iload X135.here hx rfl (hb hby at_287) rfl kont)))) ?_
        show Go _ _ _ _ _ _ _ (T135.setTop (mkF m 289 #[.val (.int s0), .val (.int x0), .val (.int (2 : Int32)), .val (.int (x0 &&& (2147483647 : Int32))), .val (.int cp), .val (.int ee), .val (.int b0), .val (.int b1), .val (.int b2), .val (.int b3)] [(.int cp), (.int ((((b0 &&& (15 : Int32)) <<< ((12 : Int32) &&& 31)) ||| ((b1 &&& (63 : Int32)) <<< ((6 : Int32) &&& 31))) ||| (b2 &&& (63 : Int32))))]))
        have hd138 : ((((b0 &&& (15 : Int32)) <<< ((12 : Int32) &&& 31)) ||| ((b1 &&& (63 : Int32)) <<< ((6 : Int32) &&& 31))) ||| (b2 &&& (63 : Int32))) = cp := own_d3 b0 b1 b2 cp A B C a1 a2 a3 a4 a5 a6 hcp V0 V1 V2
        refine Go.by (fun _ kont => XS.icmpNo X135.here hx rfl (hb hby at_289) rfl (teq hd138).2 kont) ?_
        show Go _ _ _ _ _ _ _ (T135.setTop (mkF m 292 #[.val (.int s0), .val (.int x0), .val (.int (2 : Int32)), .val (.int (x0 &&& (2147483647 : Int32))), .val (.int cp), .val (.int ee), .val (.int b0), .val (.int b1), .val (.int b2), .val (.int b3)] []))
        refine Go.by (fun _ kont => XS.iconst X135.here hx rfl (hb hby at_292) (XS.goto X135.here hx rfl (pc0 := 293) (pc' := 297) rfl (hb hby at_293) (by decide) (by decide) kont)) ?_
        show Go _ _ _ _ _ _ _ (T135.setTop (mkF m 297 #[.val (.int s0), .val (.int x0), .val (.int (2 : Int32)), .val (.int (x0 &&& (2147483647 : Int32))), .val (.int cp), .val (.int ee), .val (.int b0), .val (.int b1), .val (.int b2), .val (.int b3)] [(.int (1 : Int32))]))
        refine Go.retN X135 hx (t := .boolean) hret (by simp) hlk (hb hby at_297) ?_ (by decide) (by decide)
        show Q0 Z h0 n0 (some (.int (1 : Int32))) T135.heap _
        rw [eh135]
        exact ⟨rfl, N135⟩
  · show Go _ _ _ _ _ _ _ (s₁.setTop (mkF m 9 #[.val (.int s0), .val (.int x0), .val (.int (3 : Int32)), .val (.int (x0 &&& (2147483647 : Int32))), .unset, .unset, .unset, .unset, .unset, .unset] []))
    refine Go.by (fun _ kont => XS.iloadN X0.here hx rfl (hb hby at_9) rfl kont) ?_
    show Go _ _ _ _ _ _ _ (s₁.setTop (mkF m 10 #[.val (.int s0), .val (.int x0), .val (.int (3 : Int32)), .val (.int (x0 &&& (2147483647 : Int32))), .unset, .unset, .unset, .unset, .unset, .unset] [(.int (3 : Int32))]))
    refine Go.by (fun _ kont => XS.ifYes X0.here hx rfl (pc0 := 10) (pc' := 22) rfl (hb hby at_10) rfl (by decide) (by decide) (by decide) kont) ?_
    show Go _ _ _ _ _ _ _ (s₁.setTop (mkF m 22 #[.val (.int s0), .val (.int x0), .val (.int (3 : Int32)), .val (.int (x0 &&& (2147483647 : Int32))), .unset, .unset, .unset, .unset, .unset, .unset] []))
    refine Go.by (fun _ kont => XS.iloadN X0.here hx rfl (hb hby at_22) rfl (XS.iconst X0.here hx rfl (hb hby at_23) kont)) ?_
    show Go _ _ _ _ _ _ _ (s₁.setTop (mkF m 24 #[.val (.int s0), .val (.int x0), .val (.int (3 : Int32)), .val (.int (x0 &&& (2147483647 : Int32))), .unset, .unset, .unset, .unset, .unset, .unset] [(.int (1 : Int32)), (.int (3 : Int32))]))
    refine Go.by (fun _ kont => XS.icmpYes X0.here hx rfl (pc0 := 24) (pc' := 41) rfl (hb hby at_24) rfl (by decide) (by decide) (by decide) kont) ?_
    show Go _ _ _ _ _ _ _ (s₁.setTop (mkF m 41 #[.val (.int s0), .val (.int x0), .val (.int (3 : Int32)), .val (.int (x0 &&& (2147483647 : Int32))), .unset, .unset, .unset, .unset, .unset, .unset] []))
    refine Go.by (fun _ kont => XS.iloadN X0.here hx rfl (hb hby at_41) rfl (XS.iconst X0.here hx rfl (hb hby at_42) kont)) ?_
    show Go _ _ _ _ _ _ _ (s₁.setTop (mkF m 43 #[.val (.int s0), .val (.int x0), .val (.int (3 : Int32)), .val (.int (x0 &&& (2147483647 : Int32))), .unset, .unset, .unset, .unset, .unset, .unset] [(.int (2 : Int32)), (.int (3 : Int32))]))
    refine Go.by (fun _ kont => XS.icmpYes X0.here hx rfl (pc0 := 43) (pc' := 81) rfl (hb hby at_43) rfl (by decide) (by decide) (by decide) kont) ?_
    show Go _ _ _ _ _ _ _ (s₁.setTop (mkF m 81 #[.val (.int s0), .val (.int x0), .val (.int (3 : Int32)), .val (.int (x0 &&& (2147483647 : Int32))), .unset, .unset, .unset, .unset, .unset, .unset] []))
    refine Go.by (fun _ kont => X0.ldcInt hx hown (mvT hZ (hw _ (List.mem_of_getElem? (i := 12) rfl))) (g := (mkF m 81 #[.val (.int s0), .val (.int x0), .val (.int (3 : Int32)), .val (.int (x0 &&& (2147483647 : Int32))), .unset, .unset, .unset, .unset, .unset, .unset] [])) rfl (hb hby at_81) _ (XS.iloadN X0.here hx rfl (hb hby at_83) rfl (X0.ldcInt hx hown (mvT hZ (hw _ (List.mem_of_getElem? (i := 13) rfl))) (g := (mkF m 84 #[.val (.int s0), .val (.int x0), .val (.int (3 : Int32)), .val (.int (x0 &&& (2147483647 : Int32))), .unset, .unset, .unset, .unset, .unset, .unset] [(.int (x0 &&& (2147483647 : Int32))), (.int (65536 : Int32))])) rfl (hb hby at_84) _ (iremM X0 hx rfl (hb hby at_86) rfl (by decide) (XS.iadd X0.here hx rfl (hb hby at_87) rfl (XS.istore X0.here hx rfl (hb hby at_88) rfl (l' := #[.val (.int s0), .val (.int x0), .val (.int (3 : Int32)), .val (.int (x0 &&& (2147483647 : Int32))), .val (.int ((65536 : Int32) + ((x0 &&& (2147483647 : Int32)) % (1048576 : Int32)))), .unset, .unset, .unset, .unset, .unset]) rfl kont)))))) ?_
    show Go _ _ _ _ _ _ _ (s₁.setTop (mkF m 90 #[.val (.int s0), .val (.int x0), .val (.int (3 : Int32)), .val (.int (x0 &&& (2147483647 : Int32))), .val (.int ((65536 : Int32) + ((x0 &&& (2147483647 : Int32)) % (1048576 : Int32)))), .unset, .unset, .unset, .unset, .unset] []))
    have Bcp : 65536 ≤ ((65536 : Int32) + ((x0 &&& (2147483647 : Int32)) % (1048576 : Int32))).toInt ∧ ((65536 : Int32) + ((x0 &&& (2147483647 : Int32)) % (1048576 : Int32))).toInt < 1114112 := own_r x0 1048576 1048576 65536 (by decide) (by decide) 65536 (by decide) (by decide)
    generalize ((65536 : Int32) + ((x0 &&& (2147483647 : Int32)) % (1048576 : Int32))) = cp at Bcp ⊢
    show Go _ _ _ _ _ _ _ (s₁.setTop (mkF m 90 #[.val (.int s0), .val (.int x0), .val (.int (3 : Int32)), .val (.int (x0 &&& (2147483647 : Int32))), .val (.int cp), .unset, .unset, .unset, .unset, .unset] []))
    refine Go.by (fun _ kont => XS.iload X0.here hx rfl (hb hby at_90) rfl kont) ?_
    show Go _ _ _ _ _ _ _ (s₁.setTop (mkF m 92 #[.val (.int s0), .val (.int x0), .val (.int (3 : Int32)), .val (.int (x0 &&& (2147483647 : Int32))), .val (.int cp), .unset, .unset, .unset, .unset, .unset] [(.int cp)]))
    obtain ⟨_, _, ⟨T139, L139, k139, n139⟩, -, X139, ⟨Lc139, hQ139, l139, y139, z139⟩, st139⟩ := Jvm.LawKit.callS X0 hx (y := (⟨"com/example/pctenc/pctenc/Utf8", "encode", "(I)I"⟩ : MethodName)) hown (mvT hZ (hw _ (List.mem_of_getElem? (i := 1) rfl))) (mvT hZ (hw _ (List.mem_of_getElem? (i := 2) rfl))) (mvT hZ (hw _ (List.mem_of_getElem? (i := 3) rfl))) (mvT hZ (hw _ (List.mem_of_getElem? (i := 4) rfl))) (by decide) (backOf (W := 0) (rmEn l Z a0 hw [] cp h0 n0 Z0 ) hZ (hw _ (List.mem_of_getElem? (i := 4) rfl)) (hw _ (List.mem_of_getElem? (i := 3) rfl)) (by decide) (by decide)) (g := (mkF m 92 #[.val (.int s0), .val (.int x0), .val (.int (3 : Int32)), .val (.int (x0 &&& (2147483647 : Int32))), .val (.int cp), .unset, .unset, .unset, .unset, .unset] [(.int cp)])) rfl (by rw [hml]; rfl) (argsL := [(.int cp)]) (rest := []) (lenOf pd0_0 rfl) rfl (by show 2 * 0 + _ ≤ _; exact Nat.le_of_eq rfl) (hb hby at_92) (fun _ _ => ⟨rfl, e0, (by decide : 0 + 0 ≤ _), (by decide : 0 + 0 ≤ _)⟩)
    dsimp only [Pt.U, Pt.locs, Pt.cells, Pt.slots] at X139 l139 y139 z139 st139 hQ139
    subst l139 y139 z139
    obtain ⟨rfl, N139q, eh139⟩ := hQ139
    have N139 := Fr.app N0 N139q
    refine Go.by st139 ?_
    show Go _ _ _ _ _ _ _ (T139.setTop (mkF m 95 #[.val (.int s0), .val (.int x0), .val (.int (3 : Int32)), .val (.int (x0 &&& (2147483647 : Int32))), .val (.int cp), .unset, .unset, .unset, .unset, .unset] [(.int (fEn cp))]))
    obtain ⟨A, B, C, D, a1, a2, a3, a4, a5, a6, a7, a8, hcp, hE⟩ := own_e4 cp Bcp.1 Bcp.2
    generalize (fEn cp) = ee at hE ⊢
    have rE := rng32 ee
    show Go _ _ _ _ _ _ _ (T139.setTop (mkF m 95 #[.val (.int s0), .val (.int x0), .val (.int (3 : Int32)), .val (.int (x0 &&& (2147483647 : Int32))), .val (.int cp), .unset, .unset, .unset, .unset, .unset] [(.int ee)]))
    refine Go.by (fun _ kont => XS.istore X139.here hx rfl (hb hby at_95) rfl (l' := #[.val (.int s0), .val (.int x0), .val (.int (3 : Int32)), .val (.int (x0 &&& (2147483647 : Int32))), .val (.int cp), .val (.int ee), .unset, .unset, .unset, .unset]) rfl (XS.iload X139.here hx rfl (hb hby at_97) rfl (XS.sipush X139.here hx rfl (hb hby at_99) (XS.iand X139.here hx rfl (hb hby at_102) rfl (XS.istore X139.here hx rfl (hb hby at_103) rfl (l' := #[.val (.int s0), .val (.int x0), .val (.int (3 : Int32)), .val (.int (x0 &&& (2147483647 : Int32))), .val (.int cp), .val (.int ee), .val (.int (ee &&& (255 : Int32))), .unset, .unset, .unset]) rfl (XS.iload X139.here hx rfl (hb hby at_105) rfl kont)))))) ?_
    show Go _ _ _ _ _ _ _ (T139.setTop (mkF m 107 #[.val (.int s0), .val (.int x0), .val (.int (3 : Int32)), .val (.int (x0 &&& (2147483647 : Int32))), .val (.int cp), .val (.int ee), .val (.int (ee &&& (255 : Int32))), .unset, .unset, .unset] [(.int ee)]))
    refine Go.by (fun _ kont => XS.bipush X139.here hx rfl (hb hby at_107) (XS.iushr X139.here hx rfl (hb hby at_109) rfl (XS.sipush X139.here hx rfl (hb hby at_110) (XS.iand X139.here hx rfl (hb hby at_113) rfl (XS.istore X139.here hx rfl (hb hby at_114) rfl (l' := #[.val (.int s0), .val (.int x0), .val (.int (3 : Int32)), .val (.int (x0 &&& (2147483647 : Int32))), .val (.int cp), .val (.int ee), .val (.int (ee &&& (255 : Int32))), .val (.int (((ee.toUInt32 >>> ((8 : Int32) &&& 31).toUInt32).toInt32) &&& (255 : Int32))), .unset, .unset]) rfl (XS.iload X139.here hx rfl (hb hby at_116) rfl kont)))))) ?_
    show Go _ _ _ _ _ _ _ (T139.setTop (mkF m 118 #[.val (.int s0), .val (.int x0), .val (.int (3 : Int32)), .val (.int (x0 &&& (2147483647 : Int32))), .val (.int cp), .val (.int ee), .val (.int (ee &&& (255 : Int32))), .val (.int (((ee.toUInt32 >>> ((8 : Int32) &&& 31).toUInt32).toInt32) &&& (255 : Int32))), .unset, .unset] [(.int ee)]))
    refine Go.by (fun _ kont => XS.bipush X139.here hx rfl (hb hby at_118) (XS.iushr X139.here hx rfl (hb hby at_120) rfl (XS.sipush X139.here hx rfl (hb hby at_121) (XS.iand X139.here hx rfl (hb hby at_124) rfl (XS.istore X139.here hx rfl (hb hby at_125) rfl (l' := #[.val (.int s0), .val (.int x0), .val (.int (3 : Int32)), .val (.int (x0 &&& (2147483647 : Int32))), .val (.int cp), .val (.int ee), .val (.int (ee &&& (255 : Int32))), .val (.int (((ee.toUInt32 >>> ((8 : Int32) &&& 31).toUInt32).toInt32) &&& (255 : Int32))), .val (.int (((ee.toUInt32 >>> ((16 : Int32) &&& 31).toUInt32).toInt32) &&& (255 : Int32))), .unset]) rfl (XS.iload X139.here hx rfl (hb hby at_127) rfl kont)))))) ?_
    show Go _ _ _ _ _ _ _ (T139.setTop (mkF m 129 #[.val (.int s0), .val (.int x0), .val (.int (3 : Int32)), .val (.int (x0 &&& (2147483647 : Int32))), .val (.int cp), .val (.int ee), .val (.int (ee &&& (255 : Int32))), .val (.int (((ee.toUInt32 >>> ((8 : Int32) &&& 31).toUInt32).toInt32) &&& (255 : Int32))), .val (.int (((ee.toUInt32 >>> ((16 : Int32) &&& 31).toUInt32).toInt32) &&& (255 : Int32))), .unset] [(.int ee)]))
    refine Go.by (fun _ kont => XS.bipush X139.here hx rfl (hb hby at_129) (XS.iushr X139.here hx rfl (hb hby at_131) rfl (XS.istore X139.here hx rfl (hb hby at_132) rfl (l' := #[.val (.int s0), .val (.int x0), .val (.int (3 : Int32)), .val (.int (x0 &&& (2147483647 : Int32))), .val (.int cp), .val (.int ee), .val (.int (ee &&& (255 : Int32))), .val (.int (((ee.toUInt32 >>> ((8 : Int32) &&& 31).toUInt32).toInt32) &&& (255 : Int32))), .val (.int (((ee.toUInt32 >>> ((16 : Int32) &&& 31).toUInt32).toInt32) &&& (255 : Int32))), .val (.int ((ee.toUInt32 >>> ((24 : Int32) &&& 31).toUInt32).toInt32))]) rfl kont))) ?_
    show Go _ _ _ _ _ _ _ (T139.setTop (mkF m 134 #[.val (.int s0), .val (.int x0), .val (.int (3 : Int32)), .val (.int (x0 &&& (2147483647 : Int32))), .val (.int cp), .val (.int ee), .val (.int (ee &&& (255 : Int32))), .val (.int (((ee.toUInt32 >>> ((8 : Int32) &&& 31).toUInt32).toInt32) &&& (255 : Int32))), .val (.int (((ee.toUInt32 >>> ((16 : Int32) &&& 31).toUInt32).toInt32) &&& (255 : Int32))), .val (.int ((ee.toUInt32 >>> ((24 : Int32) &&& 31).toUInt32).toInt32))] []))
    have hBY := own_bytes ee (240 + A) (128 + B) (128 + C) (128 + D) (by omega) (by omega) (by omega) (by omega) (by omega)
    obtain ⟨V0, V1, V2, V3⟩ := hBY
    generalize ((ee.toUInt32 >>> ((24 : Int32) &&& 31).toUInt32).toInt32) = b3 at V3 ⊢
    generalize (((ee.toUInt32 >>> ((16 : Int32) &&& 31).toUInt32).toInt32) &&& (255 : Int32)) = b2 at V2 ⊢
    generalize (((ee.toUInt32 >>> ((8 : Int32) &&& 31).toUInt32).toInt32) &&& (255 : Int32)) = b1 at V1 ⊢
    generalize (ee &&& (255 : Int32)) = b0 at V0 ⊢
    show Go _ _ _ _ _ _ _ (T139.setTop (mkF m 134 #[.val (.int s0), .val (.int x0), .val (.int (3 : Int32)), .val (.int (x0 &&& (2147483647 : Int32))), .val (.int cp), .val (.int ee), .val (.int b0), .val (.int b1), .val (.int b2), .val (.int b3)] []))
    refine Go.by (fun _ kont => XS.iloadN X139.here hx rfl (hb hby at_134) rfl kont) ?_
    show Go _ _ _ _ _ _ _ (T139.setTop (mkF m 135 #[.val (.int s0), .val (.int x0), .val (.int (3 : Int32)), .val (.int (x0 &&& (2147483647 : Int32))), .val (.int cp), .val (.int ee), .val (.int b0), .val (.int b1), .val (.int b2), .val (.int b3)] [(.int (3 : Int32))]))
    refine Go.by (fun _ kont => XS.ifYes X139.here hx rfl (pc0 := 135) (pc' := 166) rfl (hb hby at_135) rfl (by decide) (by decide) (by decide) kont) ?_
    show Go _ _ _ _ _ _ _ (T139.setTop (mkF m 166 #[.val (.int s0), .val (.int x0), .val (.int (3 : Int32)), .val (.int (x0 &&& (2147483647 : Int32))), .val (.int cp), .val (.int ee), .val (.int b0), .val (.int b1), .val (.int b2), .val (.int b3)] []))
    refine Go.by (fun _ kont => XS.iloadN X139.here hx rfl (hb hby at_166) rfl (XS.iconst X139.here hx rfl (hb hby at_167) kont)) ?_
    show Go _ _ _ _ _ _ _ (T139.setTop (mkF m 168 #[.val (.int s0), .val (.int x0), .val (.int (3 : Int32)), .val (.int (x0 &&& (2147483647 : Int32))), .val (.int cp), .val (.int ee), .val (.int b0), .val (.int b1), .val (.int b2), .val (.int b3)] [(.int (1 : Int32)), (.int (3 : Int32))]))
    refine Go.by (fun _ kont => XS.icmpYes X139.here hx rfl (pc0 := 168) (pc' := 226) rfl (hb hby at_168) rfl (by decide) (by decide) (by decide) kont) ?_
    show Go _ _ _ _ _ _ _ (T139.setTop (mkF m 226 #[.val (.int s0), .val (.int x0), .val (.int (3 : Int32)), .val (.int (x0 &&& (2147483647 : Int32))), .val (.int cp), .val (.int ee), .val (.int b0), .val (.int b1), .val (.int b2), .val (.int b3)] []))
    refine Go.by (fun _ kont => XS.iloadN X139.here hx rfl (hb hby at_226) rfl (XS.iconst X139.here hx rfl (hb hby at_227) kont)) ?_
    show Go _ _ _ _ _ _ _ (T139.setTop (mkF m 228 #[.val (.int s0), .val (.int x0), .val (.int (3 : Int32)), .val (.int (x0 &&& (2147483647 : Int32))), .val (.int cp), .val (.int ee), .val (.int b0), .val (.int b1), .val (.int b2), .val (.int b3)] [(.int (2 : Int32)), (.int (3 : Int32))]))
    refine Go.by (fun _ kont => XS.icmpYes X139.here hx rfl (pc0 := 228) (pc' := 298) rfl (hb hby at_228) rfl (by decide) (by decide) (by decide) kont) ?_
    show Go _ _ _ _ _ _ _ (T139.setTop (mkF m 298 #[.val (.int s0), .val (.int x0), .val (.int (3 : Int32)), .val (.int (x0 &&& (2147483647 : Int32))), .val (.int cp), .val (.int ee), .val (.int b0), .val (.int b1), .val (.int b2), .val (.int b3)] []))
    refine Go.by (fun _ kont => XS.iload X139.here hx rfl (hb hby at_298) rfl (XS.sipush X139.here hx rfl (hb hby at_300) (XS.iand X139.here hx rfl (hb hby at_303) rfl (XS.sipush X139.here hx rfl (hb hby at_304) kont)))) ?_
    show Go _ _ _ _ _ _ _ (T139.setTop (mkF m 307 #[.val (.int s0), .val (.int x0), .val (.int (3 : Int32)), .val (.int (x0 &&& (2147483647 : Int32))), .val (.int cp), .val (.int ee), .val (.int b0), .val (.int b1), .val (.int b2), .val (.int b3)] [(.int (240 : Int32)), (.int (b0 &&& (248 : Int32)))]))
    have hd140 : (b0 &&& (248 : Int32)) = (240 : Int32) := own_hi3 _ (by rw [V0]; omega)
    refine Go.by (fun _ kont => XS.icmpNo X139.here hx rfl (hb hby at_307) rfl (teq hd140).2 kont) ?_
    show Go _ _ _ _ _ _ _ (T139.setTop (mkF m 310 #[.val (.int s0), .val (.int x0), .val (.int (3 : Int32)), .val (.int (x0 &&& (2147483647 : Int32))), .val (.int cp), .val (.int ee), .val (.int b0), .val (.int b1), .val (.int b2), .val (.int b3)] []))
    refine Go.by (fun _ kont => XS.iload X139.here hx rfl (hb hby at_310) rfl kont) ?_
    show Go _ _ _ _ _ _ _ (T139.setTop (mkF m 312 #[.val (.int s0), .val (.int x0), .val (.int (3 : Int32)), .val (.int (x0 &&& (2147483647 : Int32))), .val (.int cp), .val (.int ee), .val (.int b0), .val (.int b1), .val (.int b2), .val (.int b3)] [(.int b1)]))
    obtain ⟨_, _, ⟨T141, L141, k141, n141⟩, -, X141, ⟨Lc141, hQ141, l141, y141, z141⟩, st141⟩ := Jvm.LawKit.callS X139 hx (y := (⟨"com/example/pctenc/pctenc/Utf8EncodePinLaw", "cont", "(I)Z"⟩ : MethodName)) hown (mvT hZ (hw _ (List.mem_of_getElem? (i := 8) rfl))) (mvT hZ (hw _ (List.mem_of_getElem? (i := 9) rfl))) (mvT hZ (hw _ (List.mem_of_getElem? (i := 10) rfl))) (mvT hZ (hw _ (List.mem_of_getElem? (i := 11) rfl))) (by decide) (backOf (W := 0) (rmCo l Z a0 hw [] b1 h0 n0 Z0 ) hZ (hw _ (List.mem_of_getElem? (i := 11) rfl)) (hw _ (List.mem_of_getElem? (i := 10) rfl)) (by decide) (by decide)) (g := (mkF m 312 #[.val (.int s0), .val (.int x0), .val (.int (3 : Int32)), .val (.int (x0 &&& (2147483647 : Int32))), .val (.int cp), .val (.int ee), .val (.int b0), .val (.int b1), .val (.int b2), .val (.int b3)] [(.int b1)])) rfl (by rw [hml]; rfl) (argsL := [(.int b1)]) (rest := []) (lenOf pd0_1 rfl) rfl (by show 2 * 0 + _ ≤ _; exact Nat.le_of_eq rfl) (hb hby at_312) (fun _ _ => ⟨rfl, eh139, (by decide : 0 + 0 ≤ _), (by decide : 0 + 0 ≤ _)⟩)
    dsimp only [Pt.U, Pt.locs, Pt.cells, Pt.slots] at X141 l141 y141 z141 st141 hQ141
    subst l141 y141 z141
    obtain ⟨rfl, N141q, eh141⟩ := hQ141
    have N141 := Fr.app N139 N141q
    refine Go.by st141 ?_
    show Go _ _ _ _ _ _ _ (T141.setTop (mkF m 315 #[.val (.int s0), .val (.int x0), .val (.int (3 : Int32)), .val (.int (x0 &&& (2147483647 : Int32))), .val (.int cp), .val (.int ee), .val (.int b0), .val (.int b1), .val (.int b2), .val (.int b3)] [(.int (fCo b1))]))
    have hd142 : ¬ ((fCo b1) = (0 : Int32)) := by rw [own_co _ (by rw [V1]; omega)]; decide
    refine Go.by (fun _ kont => XS.ifNo X141.here hx rfl (hb hby at_315) rfl ((if0 _ _).trans (feq hd142).1) kont) ?_
    show Go _ _ _ _ _ _ _ (T141.setTop (mkF m 318 #[.val (.int s0), .val (.int x0), .val (.int (3 : Int32)), .val (.int (x0 &&& (2147483647 : Int32))), .val (.int cp), .val (.int ee), .val (.int b0), .val (.int b1), .val (.int b2), .val (.int b3)] []))
    refine Go.by (fun _ kont => XS.iload X141.here hx rfl (hb hby at_318) rfl kont) ?_
    show Go _ _ _ _ _ _ _ (T141.setTop (mkF m 320 #[.val (.int s0), .val (.int x0), .val (.int (3 : Int32)), .val (.int (x0 &&& (2147483647 : Int32))), .val (.int cp), .val (.int ee), .val (.int b0), .val (.int b1), .val (.int b2), .val (.int b3)] [(.int b2)]))
    obtain ⟨_, _, ⟨T143, L143, k143, n143⟩, -, X143, ⟨Lc143, hQ143, l143, y143, z143⟩, st143⟩ := Jvm.LawKit.callS X141 hx (y := (⟨"com/example/pctenc/pctenc/Utf8EncodePinLaw", "cont", "(I)Z"⟩ : MethodName)) hown (mvT hZ (hw _ (List.mem_of_getElem? (i := 8) rfl))) (mvT hZ (hw _ (List.mem_of_getElem? (i := 9) rfl))) (mvT hZ (hw _ (List.mem_of_getElem? (i := 10) rfl))) (mvT hZ (hw _ (List.mem_of_getElem? (i := 11) rfl))) (by decide) (backOf (W := 0) (rmCo l Z a0 hw [] b2 h0 n0 Z0 ) hZ (hw _ (List.mem_of_getElem? (i := 11) rfl)) (hw _ (List.mem_of_getElem? (i := 10) rfl)) (by decide) (by decide)) (g := (mkF m 320 #[.val (.int s0), .val (.int x0), .val (.int (3 : Int32)), .val (.int (x0 &&& (2147483647 : Int32))), .val (.int cp), .val (.int ee), .val (.int b0), .val (.int b1), .val (.int b2), .val (.int b3)] [(.int b2)])) rfl (by rw [hml]; rfl) (argsL := [(.int b2)]) (rest := []) (lenOf pd0_1 rfl) rfl (by show 2 * 0 + _ ≤ _; exact Nat.le_of_eq rfl) (hb hby at_320) (fun _ _ => ⟨rfl, eh141, (by decide : 0 + 0 ≤ _), (by decide : 0 + 0 ≤ _)⟩)
    dsimp only [Pt.U, Pt.locs, Pt.cells, Pt.slots] at X143 l143 y143 z143 st143 hQ143
    subst l143 y143 z143
    obtain ⟨rfl, N143q, eh143⟩ := hQ143
    have N143 := Fr.app N141 N143q
    refine Go.by st143 ?_
    show Go _ _ _ _ _ _ _ (T143.setTop (mkF m 323 #[.val (.int s0), .val (.int x0), .val (.int (3 : Int32)), .val (.int (x0 &&& (2147483647 : Int32))), .val (.int cp), .val (.int ee), .val (.int b0), .val (.int b1), .val (.int b2), .val (.int b3)] [(.int (fCo b2))]))
    have hd144 : ¬ ((fCo b2) = (0 : Int32)) := by rw [own_co _ (by rw [V2]; omega)]; decide
    refine Go.by (fun _ kont => XS.ifNo X143.here hx rfl (hb hby at_323) rfl ((if0 _ _).trans (feq hd144).1) kont) ?_
    show Go _ _ _ _ _ _ _ (T143.setTop (mkF m 326 #[.val (.int s0), .val (.int x0), .val (.int (3 : Int32)), .val (.int (x0 &&& (2147483647 : Int32))), .val (.int cp), .val (.int ee), .val (.int b0), .val (.int b1), .val (.int b2), .val (.int b3)] []))
    refine Go.by (fun _ kont => XS.iload X143.here hx rfl (hb hby at_326) rfl kont) ?_
    show Go _ _ _ _ _ _ _ (T143.setTop (mkF m 328 #[.val (.int s0), .val (.int x0), .val (.int (3 : Int32)), .val (.int (x0 &&& (2147483647 : Int32))), .val (.int cp), .val (.int ee), .val (.int b0), .val (.int b1), .val (.int b2), .val (.int b3)] [(.int b3)]))
    obtain ⟨_, _, ⟨T145, L145, k145, n145⟩, -, X145, ⟨Lc145, hQ145, l145, y145, z145⟩, st145⟩ := Jvm.LawKit.callS X143 hx (y := (⟨"com/example/pctenc/pctenc/Utf8EncodePinLaw", "cont", "(I)Z"⟩ : MethodName)) hown (mvT hZ (hw _ (List.mem_of_getElem? (i := 8) rfl))) (mvT hZ (hw _ (List.mem_of_getElem? (i := 9) rfl))) (mvT hZ (hw _ (List.mem_of_getElem? (i := 10) rfl))) (mvT hZ (hw _ (List.mem_of_getElem? (i := 11) rfl))) (by decide) (backOf (W := 0) (rmCo l Z a0 hw [] b3 h0 n0 Z0 ) hZ (hw _ (List.mem_of_getElem? (i := 11) rfl)) (hw _ (List.mem_of_getElem? (i := 10) rfl)) (by decide) (by decide)) (g := (mkF m 328 #[.val (.int s0), .val (.int x0), .val (.int (3 : Int32)), .val (.int (x0 &&& (2147483647 : Int32))), .val (.int cp), .val (.int ee), .val (.int b0), .val (.int b1), .val (.int b2), .val (.int b3)] [(.int b3)])) rfl (by rw [hml]; rfl) (argsL := [(.int b3)]) (rest := []) (lenOf pd0_1 rfl) rfl (by show 2 * 0 + _ ≤ _; exact Nat.le_of_eq rfl) (hb hby at_328) (fun _ _ => ⟨rfl, eh143, (by decide : 0 + 0 ≤ _), (by decide : 0 + 0 ≤ _)⟩)
    dsimp only [Pt.U, Pt.locs, Pt.cells, Pt.slots] at X145 l145 y145 z145 st145 hQ145
    subst l145 y145 z145
    obtain ⟨rfl, N145q, eh145⟩ := hQ145
    have N145 := Fr.app N143 N145q
    refine Go.by st145 ?_
    show Go _ _ _ _ _ _ _ (T145.setTop (mkF m 331 #[.val (.int s0), .val (.int x0), .val (.int (3 : Int32)), .val (.int (x0 &&& (2147483647 : Int32))), .val (.int cp), .val (.int ee), .val (.int b0), .val (.int b1), .val (.int b2), .val (.int b3)] [(.int (fCo b3))]))
    have hd146 : ¬ ((fCo b3) = (0 : Int32)) := by rw [own_co _ (by rw [V3]; omega)]; decide
    refine Go.by (fun _ kont => XS.ifNo X145.here hx rfl (hb hby at_331) rfl ((if0 _ _).trans (feq hd146).1) kont) ?_
    show Go _ _ _ _ _ _ _ (T145.setTop (mkF m 334 #[.val (.int s0), .val (.int x0), .val (.int (3 : Int32)), .val (.int (x0 &&& (2147483647 : Int32))), .val (.int cp), .val (.int ee), .val (.int b0), .val (.int b1), .val (.int b2), .val (.int b3)] []))
    refine Go.by (fun _ kont => XS.iload X145.here hx rfl (hb hby at_334) rfl (XS.bipush X145.here hx rfl (hb hby at_336) (XS.iand X145.here hx rfl (hb hby at_338) rfl (XS.bipush X145.here hx rfl (hb hby at_339) (XS.ishl X145.here hx rfl (hb hby at_341) rfl (XS.iload X145.here hx rfl (hb hby at_342) rfl kont)))))) ?_
    show Go _ _ _ _ _ _ _ (T145.setTop (mkF m 344 #[.val (.int s0), .val (.int x0), .val (.int (3 : Int32)), .val (.int (x0 &&& (2147483647 : Int32))), .val (.int cp), .val (.int ee), .val (.int b0), .val (.int b1), .val (.int b2), .val (.int b3)] [(.int b1), (.int ((b0 &&& (7 : Int32)) <<< ((18 : Int32) &&& 31)))]))
    refine Go.by (fun _ kont => XS.bipush X145.here hx rfl (hb hby at_344) (XS.iand X145.here hx rfl (hb hby at_346) rfl (XS.bipush X145.here hx rfl (hb hby at_347) (XS.ishl X145.here hx rfl (hb hby at_349) rfl (XS.ior X145.here hx rfl (hb hby at_350) rfl (XS.iload X145.here hx rfl (hb hby at_351) rfl kont)))))) ?_
    show Go _ _ _ _ _ _ _ (T145.setTop (mkF m 353 #[.val (.int s0), .val (.int x0), .val (.int (3 : Int32)), .val (.int (x0 &&& (2147483647 : Int32))), .val (.int cp), .val (.int ee), .val (.int b0), .val (.int b1), .val (.int b2), .val (.int b3)] [(.int b2), (.int (((b0 &&& (7 : Int32)) <<< ((18 : Int32) &&& 31)) ||| ((b1 &&& (63 : Int32)) <<< ((12 : Int32) &&& 31))))]))
    refine Go.by (fun _ kont => XS.bipush X145.here hx rfl (hb hby at_353) (XS.iand X145.here hx rfl (hb hby at_355) rfl (XS.bipush X145.here hx rfl (hb hby at_356) (XS.ishl X145.here hx rfl (hb hby at_358) rfl (XS.ior X145.here hx rfl (hb hby at_359) rfl (XS.iload X145.here hx rfl (hb hby at_360) rfl kont)))))) ?_
    show Go _ _ _ _ _ _ _ (T145.setTop (mkF m 362 #[.val (.int s0), .val (.int x0), .val (.int (3 : Int32)), .val (.int (x0 &&& (2147483647 : Int32))), .val (.int cp), .val (.int ee), .val (.int b0), .val (.int b1), .val (.int b2), .val (.int b3)] [(.int b3), (.int ((((b0 &&& (7 : Int32)) <<< ((18 : Int32) &&& 31)) ||| ((b1 &&& (63 : Int32)) <<< ((12 : Int32) &&& 31))) ||| ((b2 &&& (63 : Int32)) <<< ((6 : Int32) &&& 31))))]))
    refine Go.by (fun _ kont => XS.bipush X145.here hx rfl (hb hby at_362) (XS.iand X145.here hx rfl (hb hby at_364) rfl (XS.ior X145.here hx rfl (hb hby at_365) rfl (XS.iload X145.here hx rfl (hb hby at_366) rfl kont)))) ?_
    show Go _ _ _ _ _ _ _ (T145.setTop (mkF m 368 #[.val (.int s0), .val (.int x0), .val (.int (3 : Int32)), .val (.int (x0 &&& (2147483647 : Int32))), .val (.int cp), .val (.int ee), .val (.int b0), .val (.int b1), .val (.int b2), .val (.int b3)] [(.int cp), (.int (((((b0 &&& (7 : Int32)) <<< ((18 : Int32) &&& 31)) ||| ((b1 &&& (63 : Int32)) <<< ((12 : Int32) &&& 31))) ||| ((b2 &&& (63 : Int32)) <<< ((6 : Int32) &&& 31))) ||| (b3 &&& (63 : Int32))))]))
    have hd147 : (((((b0 &&& (7 : Int32)) <<< ((18 : Int32) &&& 31)) ||| ((b1 &&& (63 : Int32)) <<< ((12 : Int32) &&& 31))) ||| ((b2 &&& (63 : Int32)) <<< ((6 : Int32) &&& 31))) ||| (b3 &&& (63 : Int32))) = cp := own_d4 b0 b1 b2 b3 cp A B C D a1 a2 a3 a4 a5 a6 a7 a8 hcp V0 V1 V2 V3
    refine Go.by (fun _ kont => XS.icmpNo X145.here hx rfl (hb hby at_368) rfl (teq hd147).2 kont) ?_
    show Go _ _ _ _ _ _ _ (T145.setTop (mkF m 371 #[.val (.int s0), .val (.int x0), .val (.int (3 : Int32)), .val (.int (x0 &&& (2147483647 : Int32))), .val (.int cp), .val (.int ee), .val (.int b0), .val (.int b1), .val (.int b2), .val (.int b3)] []))
    refine Go.by (fun _ kont => XS.iconst X145.here hx rfl (hb hby at_371) (XS.goto X145.here hx rfl (pc0 := 372) (pc' := 376) rfl (hb hby at_372) (by decide) (by decide) kont)) ?_
    show Go _ _ _ _ _ _ _ (T145.setTop (mkF m 376 #[.val (.int s0), .val (.int x0), .val (.int (3 : Int32)), .val (.int (x0 &&& (2147483647 : Int32))), .val (.int cp), .val (.int ee), .val (.int b0), .val (.int b1), .val (.int b2), .val (.int b3)] [(.int (1 : Int32))]))
    refine Go.retN X145 hx (t := .boolean) hret (by simp) hlk (hb hby at_376) ?_ (by decide) (by decide)
    show Q0 Z h0 n0 (some (.int (1 : Int32))) T145.heap _
    rw [eh145]
    exact ⟨rfl, N145⟩

set_option maxRecDepth 65536 in
set_option maxHeartbeats 40000000 in
theorem comes_1 {Post : Tables → Env → Array Value → State → Outcome → State → Prop} (hpost : ∀ tb e args s v u, (limb_1_1.after args s (.returned v) u = true ∧ limb_1_2.after args s (.returned v) u = true ∧ True) → FrameEnd s (.returned v) u (Jvm.fieldLocs frame_1_writes args s ++ Jvm.arrayLocs frame_1_arrays args s ++ Jvm.staticLocs frame_1_statics s) 0 0 → Post tb e args s (.returned v) u) :
    ArmFor flags0 classFile x code maxLocals ret World_1 tables_1 room_1 Calls_1 rest_1 Pre_1 Post := by
  intro l hfl _ _ p e ha hc hk s m args below hf hA hF happ hP
  obtain ⟨hcalls, hrest, hpre⟩ := hP
  obtain ⟨-, -, -, hnamed, -, -, -, hat⟩ := (Spec.applies_iff hf).mp happ
  obtain ⟨hg, hn⟩ := and_e (Cond.before_iff.mp (show (Jvm.Cond.and given_1 narrow_1).before args s = true from hpre))
  obtain ⟨hh1, hh2⟩ := and_e hg
  obtain ⟨hh3, hh4⟩ := and_e hh2
  obtain ⟨w0, w1, rfl⟩ : ∃ w0 w1 : Value, args = #[w0, w1] := by
    have hs : args.size = 2 := by simpa [Cond.value, given_1] using hh1
    obtain ⟨L⟩ := args
    match L, hs with
    | [w0, w1], _ => exact ⟨w0, w1, rfl⟩
  have hw := fun d (hd : d ∈ tables_1) => atoms_spec (ws := Jvm.Cond.code x code maxLocals ret :: tables_1) hat d (List.mem_cons_of_mem _ hd)
  obtain ⟨i0, ei0⟩ := is_v hh3
  obtain rfl : w0 = (.int i0) := Option.some.inj ei0
  obtain ⟨i1, ei1⟩ := is_v hh4
  obtain rfl : w1 = (.int i1) := Option.some.inj ei1
  obtain ⟨n, o, h1, h2, h3, _, L, rfl, ⟨rfl, N⟩, hq⟩ := rm0 l s _ hw tables_1 i0 i1  s.heap s.heap.size (Nat.le_refl _)  p e ha hc hk s m _ below hf ((Spec.applies_iff_loose hf).mp happ).1 ⟨rfl, State.Warmed39.refl s, rfl⟩ trivial
  refine ⟨n, _, h1, h2, h3, hpost _ _ _ _ _ _ ⟨Cond.after_iff.mpr rfl, Cond.after_iff.mpr (eq_i res_at (Term.int_eval (1)) rfl), trivial⟩ ⟨hq.1, hq.2.1, (hq.2.2.sift fun y hy => Or.inr (N y hy)).mono (by decide) (by decide)⟩⟩
theorem main_1_1 : Claimed_1_1 := comes_1 fun _ _ _ _ _ _ h hF => ⟨h.1, hF⟩
theorem main_1_2 : Claimed_1_2 := comes_1 fun _ _ _ _ _ _ h hF => ⟨h.2.1, hF⟩

end Jvm.Pilot.@@N@@
namespace Jvm.Pilot.@@N@@
open Jvm Jvm.ClassFile Sem Op Lib Jvm.Free Jvm.Stand Jvm.Pilot.@@N@@.Jvm.D
/-! MADE BY PROGRAM (witnessworld.py) out of the Statement's table words and the real class files: 9 classes; the members and pool entries that the words name. The judged class is class 1, her method 2. -/
namespace start1
open Jvm.ClassFile
def u (s : String) : CpInfo := .utf8 (stringToUtf16 s)
/-- a pool by its gaps: so many unusable entries, then the entry; so many at the end -/
def gap : Nat → List CpInfo → List CpInfo
  | 0, r => r
  | n + 1, r => .unusable :: gap n r
def poolList (es : List (Nat × CpInfo)) (last : Nat) : List CpInfo := es.foldr (fun e r => gap e.1 (e.2 :: r)) (gap last [])
def pool (es : List (Nat × CpInfo)) (last : Nat) : Array CpInfo := ⟨poolList es last⟩
def fileOf (pool : Array CpInfo) (this : Nat) (attrs : Array Attribute := #[]) (ms : Array MethodInfo := #[]) (fl : Nat := 33) (sup : Nat := 0) (ifs : Array Nat := #[]) (fds : Array FieldInfo := #[]) : ClassFile where
  minorVersion := 0
  majorVersion := 65
  constantPool := pool
  accessFlags := fl
  thisClass := this
  superClass := sup
  interfaces := ifs
  fields := fds
  methods := ms
  attributes := attrs
def plain (name : String) (sup : Option ClassId) : Class where
  name := name
  kind := .ordinary
  loader := none
  accessFlags := 33
  super := sup
  interfaces := #[]
  cf := none
  fields := #[]
  methods := #[]
  instanceTypes := #[]
  staticTypes := #[]
  resolved := #[]
  callSites := []
  init := .initialized
  statics := none
  mirror := none

def pool0 : Array CpInfo := pool [(5, u "<init>"), (0, u "()V"), (1, .class_ 10), (1, u "java/lang/Object")] 113

def k0m0 : Method := { name := "<init>", desc := "()V", sig := { parameters := [], returnType := none }, accessFlags := 1, code := none }
/-- java/lang/Object -/
def k0 : Class := { plain "java/lang/Object" none with
  accessFlags := 33
  interfaces := #[]
  cf := some (fileOf pool0 8 #[] #[{ accessFlags := 1, nameIndex := 5, descriptorIndex := 6, attributes := #[] }] 33 0 #[] #[])
  fields := #[]
  methods := #[k0m0]
  instanceTypes := #[]
  staticTypes := #[]
  resolved := Array.replicate 124 none
  statics := none }

def pool1 : Array CpInfo := pool [(2, .class_ 4), (1, u "java/lang/Object"), (0, u "<init>"), (0, u "()V"), (0, .integer 2147483647), (0, .integer 63488), (0, .integer 55296), (0, .integer 57343), (0, .integer 65536), (0, .integer 1048576), (0, .methodref 14 15), (0, .class_ 16), (0, .nameAndType 17 18), (0, u "com/example/pctenc/pctenc/Utf8"), (0, u "encode"), (0, u "(I)I"), (0, .methodref 20 21), (0, .class_ 22), (0, .nameAndType 23 24), (0, u "com/example/pctenc/pctenc/Utf8EncodePinLaw"), (0, u "cont"), (0, u "(I)Z"), (3, u "law"), (0, u "(II)Z")] 2

def k1m0 : Method := { name := "<init>", desc := "()V", sig := { parameters := [], returnType := none }, accessFlags := 2, code := none }
def k1c1 : Code := { maxStack := 2, maxLocals := 1, code := method_2_code, exceptionTable := #[], attributes := #[] }
def k1m1 : Method := { name := "cont", desc := "(I)Z", sig := { parameters := [.int], returnType := some .boolean }, accessFlags := 10, code := some k1c1 }
def k1c2 : Code := { maxStack := 3, maxLocals := 10, code := code, exceptionTable := #[], attributes := #[] }
def k1m2 : Method := { name := "law", desc := "(II)Z", sig := { parameters := [.int, .int], returnType := some .boolean }, accessFlags := 9, code := some k1c2 }
/-- com/example/pctenc/pctenc/Utf8EncodePinLaw -/
def k1 : Class := { plain "com/example/pctenc/pctenc/Utf8EncodePinLaw" (some 0) with
  accessFlags := 49
  interfaces := #[]
  cf := some (fileOf pool1 20 #[] #[{ accessFlags := 2, nameIndex := 5, descriptorIndex := 6, attributes := #[] }, { accessFlags := 10, nameIndex := 23, descriptorIndex := 24, attributes := #[] }, { accessFlags := 9, nameIndex := 28, descriptorIndex := 29, attributes := #[] }] 49 2 #[] #[])
  fields := #[]
  methods := #[k1m0, k1m1, k1m2]
  instanceTypes := #[]
  staticTypes := #[]
  resolved := Array.replicate 32 none
  statics := none }

def pool2 : Array CpInfo := pool [(2, .class_ 4), (1, u "java/lang/Object"), (0, u "<init>"), (0, u "()V"), (37, .class_ 45), (0, u "com/example/pctenc/pctenc/Utf8"), (3, u "encode"), (0, u "(I)I"), (2, .integer 65536), (42, u "REPLACEMENT_CHARACTER"), (0, u "I")] 13

def k2m0 : Method := { name := "<init>", desc := "()V", sig := { parameters := [], returnType := none }, accessFlags := 2, code := none }
def k2c1 : Code := { maxStack := 4, maxLocals := 1, code := prog_26_method_4_code, exceptionTable := #[], attributes := #[] }
def k2m1 : Method := { name := "encode", desc := "(I)I", sig := { parameters := [.int], returnType := some .int }, accessFlags := 8, code := some k2c1 }
/-- com/example/pctenc/pctenc/Utf8 -/
def k2 : Class := { plain "com/example/pctenc/pctenc/Utf8" (some 0) with
  accessFlags := 48
  interfaces := #[]
  cf := some (fileOf pool2 44 #[] #[{ accessFlags := 2, nameIndex := 5, descriptorIndex := 6, attributes := #[] }, { accessFlags := 8, nameIndex := 49, descriptorIndex := 50, attributes := #[] }] 48 2 #[] #[{ accessFlags := 26, nameIndex := 96, descriptorIndex := 97, attributes := #[] }])
  fields := #[{ name := "REPLACEMENT_CHARACTER", type := .int, accessFlags := 26, slot := 0, constantValue := 0 }]
  methods := #[k2m0, k2m1]
  instanceTypes := #[]
  staticTypes := #[.int]
  resolved := Array.replicate 111 none
  statics := none }

def pool3 : Array CpInfo := pool [(1, u "java/lang/Cloneable"), (0, .class_ 1), (0, u "java/lang/Object"), (0, .class_ 3)] 3

/-- java/lang/Cloneable -/
def k3 : Class := { plain "java/lang/Cloneable" (some 0) with
  accessFlags := 1537
  interfaces := #[]
  cf := some (fileOf pool3 2 #[] #[] 1537 4 #[] #[])
  fields := #[]
  methods := #[]
  instanceTypes := #[]
  staticTypes := #[]
  resolved := Array.replicate 8 none
  statics := none }

def pool4 : Array CpInfo := pool [(1, u "java/io/Serializable"), (0, .class_ 1), (0, u "java/lang/Object"), (0, .class_ 3)] 3

/-- java/io/Serializable -/
def k4 : Class := { plain "java/io/Serializable" (some 0) with
  accessFlags := 1537
  interfaces := #[]
  cf := some (fileOf pool4 2 #[] #[] 1537 4 #[] #[])
  fields := #[]
  methods := #[]
  instanceTypes := #[]
  staticTypes := #[]
  resolved := Array.replicate 8 none
  statics := none }

/-- the primitive byte -/
def k5 : Class := { plain "byte" none with kind := .primitive 'B', accessFlags := 0x411 }
/-- [B -/
def k6 : Class := { plain "[B" (some 0) with kind := .array 5 .byte, interfaces := #[3, 4], accessFlags := 1041 }

/-- the primitive int -/
def k7 : Class := { plain "int" none with kind := .primitive 'I', accessFlags := 0x411 }
/-- [I -/
def k8 : Class := { plain "[I" (some 0) with kind := .array 7 .int, interfaces := #[3, 4], accessFlags := 1041 }

def heap : Heap := #[]
def classes : Array Class := #[k0, k1, k2, k3, k4, k5, k6, k7, k8]
def interned : List (Array UInt16 × Addr) := []
def slotsUsed : Nat := 0
def theMethod : MethodId := ⟨1, 2⟩
def args0 : Array Value := #[.int 1, .int 300]
def aboutOver (below : List Frame) : State where
  vm := { classes := classes, interned := interned.toArray }
  heap := heap
  slotsUsed := slotsUsed
  threads := #[{ frames := .invoking theMethod args0 :: below }]
def below0 : List Frame := [.native { method := ⟨0, 0⟩, args := #[] }]
def about1 : State := aboutOver below0
def p0 : Program := .bare "" "" ""
def e0 : Env := launch0.env 0 0 0
theorem w_frames : about1.frames = Frame.invoking theMethod args0 :: below0 := rfl
set_option maxRecDepth 65536 in
theorem w_args : argsFit about1.vm theMethod args0 = true := by decide +kernel
set_option maxRecDepth 65536 in
theorem w_heap : heapFits about1 = true := by decide +kernel
set_option maxRecDepth 65536 in
theorem w_runnable : about1.curStatus? = some .runnable := by decide +kernel
set_option maxRecDepth 65536 in
theorem w_alone : about1.alone = true := by decide +kernel
set_option maxRecDepth 65536 in
theorem w_named : about1.methodNamed? x = some theMethod := by decide +kernel
set_option maxRecDepth 65536 in
theorem w_hears : about1.hears theMethod below0 = true := by decide +kernel
set_option maxRecDepth 65536 in
theorem w_ripe : about1.ripe theMethod args0 below0 = true := by decide +kernel
theorem w_running : about1.status = .running := rfl
set_option maxRecDepth 65536 in
theorem w_room : about1.hasRoom e0.platform room_1 = true :=
  launch0.hasRoom_least _ room_1 (by decide +kernel) (by decide +kernel) (by decide +kernel) (by decide +kernel) (by decide +kernel) (by decide +kernel)
theorem allAtoms_all (ts : List Jvm.Cond) (a : Array Jvm.Value) (st : Jvm.State) : (allAtoms ts).before a st = ts.all (fun c => c.before a st) := by
  induction ts with
  | nil => rfl
  | cons c t ih =>
    show (Jvm.Cond.and c (allAtoms t)).before a st = _
    rw [Jvm.Cond.before_and, ih, List.all_cons]
def words1 : List Jvm.Cond := Jvm.Cond.code x code maxLocals ret :: tables_1
/-- a 'code' word, met by the world's own term for the bytes: nothing is compared byte by byte -/
theorem code_word {y : MethodName} {bytes : ByteArray} {mx : Nat} {rt : Option FieldType} {a : Array Value} {s : State} {m : MethodId} {meth : Method} {c : Code} (h1 : s.methodNamed? y = some m) (h2 : s.vm.method? m = some meth) (h3 : meth.code = some c) (h4 : c.code = bytes)
    (h5 : (c.maxLocals == mx && c.exceptionTable.isEmpty && decide (c.maxStack ≤ mostOperands) && decide (meth.sig.returnType = rt) && !meth.locks && decide (parseMethodDescriptor y.desc = some meth.sig)) = true) : (Jvm.Cond.code y bytes mx rt).before a s = true := by
  simp only [Bool.and_eq_true, beq_iff_eq, Bool.not_eq_true', decide_eq_true_eq] at h5
  obtain ⟨⟨⟨⟨⟨g1, g2⟩, g3⟩, g4⟩, g5⟩, g6⟩ := h5
  simp [Cond.before, Cond.holds, Cond.value, h1, h2, h3, h4, g1, g2, g3, g4, g5, g6]
def isCode : Jvm.Cond → Bool
  | .code _ _ _ _ => true
  | _ => false
theorem all_split {L : List Jvm.Cond} {P : Jvm.Cond → Bool} (h1 : L.all (fun c => isCode c || P c) = true) (h2 : ∀ c ∈ L.filter isCode, P c = true) : L.all P = true := by
  refine List.all_eq_true.mpr fun c hc => ?_
  have h := List.all_eq_true.mp h1 c hc
  rcases Bool.eq_false_or_eq_true (isCode c) with hi | hi
  · exact h2 c (List.mem_filter.mpr ⟨hc, hi⟩)
  · simpa [hi] using h
set_option maxRecDepth 65536 in
theorem w_c0 : (Jvm.Cond.code x code maxLocals ret).before args0 about1 = true := code_word (m := ⟨1, 2⟩) (meth := k1m2) (c := k1c2) (by decide +kernel) rfl rfl rfl (by decide +kernel)
set_option maxRecDepth 65536 in
theorem w_c1 : (Jvm.Cond.code ({ cls := "com/example/pctenc/pctenc/Utf8", name := "encode", desc := "(I)I" } : Jvm.MethodName) prog_26_method_4_code (1 : Nat) (Option.some Jvm.ClassFile.FieldType.int)).before args0 about1 = true := code_word (m := ⟨2, 1⟩) (meth := k2m1) (c := k2c1) (by decide +kernel) rfl rfl rfl (by decide +kernel)
set_option maxRecDepth 65536 in
theorem w_c2 : (Jvm.Cond.code ({ cls := "com/example/pctenc/pctenc/Utf8EncodePinLaw", name := "cont", desc := "(I)Z" } : Jvm.MethodName) method_2_code (1 : Nat) (Option.some Jvm.ClassFile.FieldType.boolean)).before args0 about1 = true := code_word (m := ⟨1, 1⟩) (meth := k1m1) (c := k1c1) (by decide +kernel) rfl rfl rfl (by decide +kernel)
def codes1 : List Jvm.Cond := [Jvm.Cond.code x code maxLocals ret, Jvm.Cond.code ({ cls := "com/example/pctenc/pctenc/Utf8", name := "encode", desc := "(I)I" } : Jvm.MethodName) prog_26_method_4_code (1 : Nat) (Option.some Jvm.ClassFile.FieldType.int), Jvm.Cond.code ({ cls := "com/example/pctenc/pctenc/Utf8EncodePinLaw", name := "cont", desc := "(I)Z" } : Jvm.MethodName) method_2_code (1 : Nat) (Option.some Jvm.ClassFile.FieldType.boolean)]
set_option maxRecDepth 65536 in
theorem codes_eq : words1.filter isCode = codes1 := rfl
theorem w_codes : ∀ c ∈ words1.filter isCode, c.before args0 about1 = true := by
  rw [codes_eq]
  intro c hc
  simp only [codes1, List.mem_cons, List.not_mem_nil, or_false] at hc
  rcases hc with rfl | rfl | rfl
  · exact w_c0
  · exact w_c1
  · exact w_c2
set_option maxRecDepth 65536 in
theorem w_t1 : words1.all (fun c => isCode c || c.before args0 about1) = true := by decide +kernel
theorem w_tables : (allAtoms (Jvm.Cond.code x code maxLocals ret :: tables_1)).before args0 about1 = true := by
  rw [allAtoms_all]
  show words1.all (fun c => c.before args0 about1) = true
  refine all_split ?_ w_codes
  rw [w_t1]
set_option maxRecDepth 65536 in
theorem w_case : (Jvm.Cond.and given_1 narrow_1).before args0 about1 = true := by decide +kernel
theorem w_applies : (headSpec (Jvm.Cond.code x code maxLocals ret :: tables_1) room_1).applies x e0.platform about1 = true :=
  (Spec.applies_iff w_frames).mpr ⟨w_running, w_runnable, w_alone, w_named, w_hears, w_ripe, w_room, w_tables⟩
theorem atStart : AtStart classFile x code maxLocals ret World_1 tables_1 room_1 Calls_1 rest_1 Pre_1 launch0 p0 e0 about1 theMethod args0 below0 :=
  ⟨lists_1, trivial, launch0.admits_env _ _ _, launch0.least_env, fairChoices_fair.cas, fairChoices_fair.clock, w_frames, w_args, w_heap, w_applies, trivial, trivial, w_case⟩
end start1
theorem witness_1 : WitnessClaimed_1 := ⟨start1.p0, start1.e0, start1.about1, start1.theMethod, start1.args0, start1.below0, start1.atStart⟩
end Jvm.Pilot.@@N@@
