import JvmDerived
import JvmDerived.Pilot.@@N@@Statement
import JvmDerived.Pilot.@@N@@Code
set_option linter.unusedVariables false
set_option linter.unusedSimpArgs false
namespace Jvm.RoadKit
open Sem ClassFile Op Lib Jvm.Stand Jvm.Free Jvm.LawKit
section OwnGo
variable {p : Program} {l : Launch} {e : Env} {R : Room} {s : State} {m : MethodId} {args : Array Value} {below : List Frame} {meth : Method} {c : Code} {T T' : State} {locs : List Loc} {cells slots ck sk : Nat} {Q : Option Value → Heap → List Loc → Prop}
/-- from the state T the body comes to its end, with Q -/
def Go (p : Program) (e : Env) (below : List Frame) (s : State) (ck sk : Nat) (Q : Option Value → Heap → List Loc → Prop) (T : State) : Prop :=
  ∃ s₂ o, Steps p.tables e below T s₂ ∧ s₂.status = .running ∧ Ended s₂ below o ∧ ∃ v L, o = .returned v ∧ Q v s₂.heap L ∧ FrameEnd s o s₂ L ck sk
theorem Go.by (h : ∀ t, Steps p.tables e below T' t → Steps p.tables e below T t) (g : Go p e below s ck sk Q T') : Go p e below s ck sk Q T := by
  obtain ⟨s₂, o, h1, r⟩ := g
  exact ⟨s₂, o, h _ h1, r⟩
theorem Go.tr (h : Steps p.tables e below T T') (g : Go p e below s ck sk Q T') : Go p e below s ck sk Q T := by
  obtain ⟨s₂, o, h1, r⟩ := g
  exact ⟨s₂, o, h.trans h1, r⟩
theorem Go.fin (X : Stand p l e R s m args below meth c T locs cells slots) {v : Option Value} (hv : meth.sig.returnType = none → v = none) (hlk : meth.locks = false)
    (st : ∀ fs : List Frame, (∀ (f : JFrame) (acts : List Action), f.method = m → f.locked = none → f.entered = [] → (doReturn e (T.setTop f) acts v).1 = T.setFrames fs) → Steps p.tables e below T' (T.setFrames fs))
    (hq : Q v T.heap locs) (hc : cells ≤ ck) (hs : slots ≤ sk) : Go p e below s ck sk Q T' := by
  obtain ⟨fs, hr, hrun, hended, hW, hsame⟩ := X.leave hv hlk
  exact ⟨_, _, st fs hr, hrun, hended, _, _, rfl, hq, ⟨_, rfl⟩, hW, hsame.mono hc hs⟩
theorem Go.retV (X : Stand p l e R s m args below meth c T locs cells slots) (hx : p.tables.exec = Jvm.exec) {pc : Nat} {Ls : Array Slot} (hret : meth.sig.returnType = none) (hlk : meth.locks = false) (hd : decode c.code pc = .ok (.return_, 1))
    (hq : Q none T.heap locs) (hc : cells ≤ ck) (hs : slots ≤ sk) : Go p e below s ck sk Q (T.setTop (mkF m pc Ls [])) :=
  Go.fin X (fun _ => rfl) hlk (fun fs hr => X.returnOut hx hret hd hr) hq hc hs
theorem Go.retN (X : Stand p l e R s m args below meth c T locs cells slots) (hx : p.tables.exec = Jvm.exec) {pc : Nat} {Ls : Array Slot} {z : Int32} {t : FieldType} {rest : List Value} (hret : meth.sig.returnType = some t) (ht : t = .boolean ∨ t = .byte ∨ t = .char ∨ t = .short) (hlk : meth.locks = false) (hd : decode c.code pc = .ok (.ireturn, 1))
    (hq : Q (some (.int (nar t z))) T.heap locs) (hc : cells ≤ ck) (hs : slots ≤ sk) : Go p e below s ck sk Q (T.setTop (mkF m pc Ls (.int z :: rest))) :=
  Go.fin X (fun h => by rw [hret] at h; cases h) hlk (fun fs hr => Jvm.RoadKit.retN X hx hret ht hd hr) hq hc hs
theorem Go.retI (X : Stand p l e R s m args below meth c T locs cells slots) (hx : p.tables.exec = Jvm.exec) {pc : Nat} {Ls : Array Slot} {z : Int32} {rest : List Value} (hret : meth.sig.returnType = some .int) (hlk : meth.locks = false) (hd : decode c.code pc = .ok (.ireturn, 1))
    (hq : Q (some (.int z)) T.heap locs) (hc : cells ≤ ck) (hs : slots ≤ sk) : Go p e below s ck sk Q (T.setTop (mkF m pc Ls (.int z :: rest))) :=
  Go.fin X (fun h => by rw [hret] at h; cases h) hlk (fun fs hr => retOut X hx hret rfl (Or.inl ⟨rfl, Or.inl rfl, z, rfl⟩) hd hr) hq hc hs
theorem Go.retJ (X : Stand p l e R s m args below meth c T locs cells slots) (hx : p.tables.exec = Jvm.exec) {pc : Nat} {Ls : Array Slot} {z : Int64} {rest : List Value} (hret : meth.sig.returnType = some .long) (hlk : meth.locks = false) (hd : decode c.code pc = .ok (.lreturn, 1))
    (hq : Q (some (.long z)) T.heap locs) (hc : cells ≤ ck) (hs : slots ≤ sk) : Go p e below s ck sk Q (T.setTop (mkF m pc Ls (.long z :: rest))) :=
  Go.fin X (fun h => by rw [hret] at h; cases h) hlk (fun fs hr => retOut X hx hret rfl (Or.inr (Or.inl ⟨rfl, rfl, z, rfl⟩)) hd hr) hq hc hs
theorem Go.retR (X : Stand p l e R s m args below meth c T locs cells slots) (hx : p.tables.exec = Jvm.exec) {pc : Nat} {Ls : Array Slot} {w : Value} {t : FieldType} {rest : List Value} (hret : meth.sig.returnType = some t) (ht : t.isReference = true) (hw : w.isRef = true) (hlk : meth.locks = false) (hd : decode c.code pc = .ok (.areturn, 1))
    (hq : Q (some w) T.heap locs) (hc : cells ≤ ck) (hs : slots ≤ sk) : Go p e below s ck sk Q (T.setTop (mkF m pc Ls (w :: rest))) := by
  refine Go.fin X (fun h => by rw [hret] at h; cases h) hlk (fun fs hr => retOut X hx hret ?_ (Or.inr (Or.inr (Or.inr (Or.inr ⟨rfl, ht, hw⟩)))) hd hr) hq hc hs
  rcases ref_cases hw with rfl | ⟨a, rfl⟩ <;> cases t <;> first | rfl | cases ht
/-- the same where Strings may be interned on the way -/
def GoW (p : Program) (e : Env) (below : List Frame) (s : State) (ck sk : Nat) (Q : Option Value → Heap → List Loc → Prop) (T : State) : Prop :=
  ∃ s₂ o, Steps p.tables e below T s₂ ∧ s₂.status = .running ∧ Ended s₂ below o ∧ ∃ v L, o = .returned v ∧ Q v s₂.heap L ∧ ReturnedEndW s o s₂ L ck sk
theorem GoW.by (h : ∀ t, Steps p.tables e below T' t → Steps p.tables e below T t) (g : GoW p e below s ck sk Q T') : GoW p e below s ck sk Q T := by
  obtain ⟨s₂, o, h1, r⟩ := g
  exact ⟨s₂, o, h _ h1, r⟩
theorem GoW.tr (h : Steps p.tables e below T T') (g : GoW p e below s ck sk Q T') : GoW p e below s ck sk Q T := by
  obtain ⟨s₂, o, h1, r⟩ := g
  exact ⟨s₂, o, h.trans h1, r⟩
theorem GoW.fin {vm1 : Vm} {k1 : Nat} (X : Stand p l e R (s.setVm vm1) m args below meth c T locs cells slots) (hS : s.Since vm1 k1) (hk : k1 ≤ T.heap.size) {v : Option Value} (hv : meth.sig.returnType = none → v = none) (hlk : meth.locks = false)
    (st : ∀ fs : List Frame, (∀ (f : JFrame) (acts : List Action), f.method = m → f.locked = none → f.entered = [] → (doReturn e (T.setTop f) acts v).1 = T.setFrames fs) → Steps p.tables e below T' (T.setFrames fs))
    (hq : Q v T.heap locs) (hc : cells ≤ ck) (hs : slots ≤ sk) : GoW p e below s ck sk Q T' := by
  obtain ⟨fs, hr, hrun, hended, hW, hsame⟩ := X.leave hv hlk
  obtain ⟨q1, q2, q3⟩ := hS.ended (U := T.setFrames fs) hW hk hsame
  exact ⟨_, _, st fs hr, hrun, hended, _, _, rfl, hq, ⟨_, rfl⟩, q1, q2, q3.mono hc hs⟩
theorem GoW.retV {vm1 : Vm} {k1 : Nat} (X : Stand p l e R (s.setVm vm1) m args below meth c T locs cells slots) (hS : s.Since vm1 k1) (hk : k1 ≤ T.heap.size) (hx : p.tables.exec = Jvm.exec) {pc : Nat} {Ls : Array Slot} (hret : meth.sig.returnType = none) (hlk : meth.locks = false) (hd : decode c.code pc = .ok (.return_, 1))
    (hq : Q none T.heap locs) (hc : cells ≤ ck) (hs : slots ≤ sk) : GoW p e below s ck sk Q (T.setTop (mkF m pc Ls [])) :=
  GoW.fin X hS hk (fun _ => rfl) hlk (fun fs hr => X.returnOut hx hret hd hr) hq hc hs
theorem GoW.retN {vm1 : Vm} {k1 : Nat} (X : Stand p l e R (s.setVm vm1) m args below meth c T locs cells slots) (hS : s.Since vm1 k1) (hk : k1 ≤ T.heap.size) (hx : p.tables.exec = Jvm.exec) {pc : Nat} {Ls : Array Slot} {z : Int32} {t : FieldType} {rest : List Value} (hret : meth.sig.returnType = some t) (ht : t = .boolean ∨ t = .byte ∨ t = .char ∨ t = .short) (hlk : meth.locks = false) (hd : decode c.code pc = .ok (.ireturn, 1))
    (hq : Q (some (.int (nar t z))) T.heap locs) (hc : cells ≤ ck) (hs : slots ≤ sk) : GoW p e below s ck sk Q (T.setTop (mkF m pc Ls (.int z :: rest))) :=
  GoW.fin X hS hk (fun h => by rw [hret] at h; cases h) hlk (fun fs hr => Jvm.RoadKit.retN X hx hret ht hd hr) hq hc hs
theorem GoW.retR {vm1 : Vm} {k1 : Nat} (X : Stand p l e R (s.setVm vm1) m args below meth c T locs cells slots) (hS : s.Since vm1 k1) (hk : k1 ≤ T.heap.size) (hx : p.tables.exec = Jvm.exec) {pc : Nat} {Ls : Array Slot} {w : Value} {t : FieldType} {rest : List Value} (hret : meth.sig.returnType = some t) (ht : t.isReference = true) (hw : w.isRef = true) (hlk : meth.locks = false) (hd : decode c.code pc = .ok (.areturn, 1))
    (hq : Q (some w) T.heap locs) (hc : cells ≤ ck) (hs : slots ≤ sk) : GoW p e below s ck sk Q (T.setTop (mkF m pc Ls (w :: rest))) := by
  refine GoW.fin X hS hk (fun h => by rw [hret] at h; cases h) hlk (fun fs hr => retOut X hx hret ?_ (Or.inr (Or.inr (Or.inr (Or.inr ⟨rfl, ht, hw⟩)))) hd hr) hq hc hs
  rcases ref_cases hw with rfl | ⟨a, rfl⟩ <;> cases t <;> first | rfl | cases ht
end OwnGo
theorem own_selp {Z s : State} {a0 args : Array Value} {y : MethodName} {n : Nat} (hZ : Z.Warmed39 s.vm) (wi : (Cond.instantiable y.cls n).before a0 Z = true) (wp : (Cond.privateMethod y).before a0 Z = true) (wm : (Cond.instanceMethod y).before a0 Z = true) (hy : y.cls ≠ "java/lang/invoke/MethodHandle" ∧ y.cls ≠ "java/lang/invoke/VarHandle") : (Cond.selects y.cls y y).before args s = true := by
  obtain ⟨c, k, h1, h2, -, h4, -⟩ := Cond.instantiable_spec (mv (args := args) hZ wi)
  exact selects_self_of_private h1 h2 (by simpa using (Bool.or_eq_false_iff.mp h4).1) (Cond.privateMethod_at (mvP (args := args) hZ wp)) (mv hZ wm) hy
theorem own_zn {z : Int32} (h : z = (0 : Int32) ∨ z = (1 : Int32)) : narrow .boolean (.int z) = .int z := by rcases h with rfl | rfl <;> rfl
theorem own_zf {z : Int32} (h : z = (0 : Int32) ∨ z = (1 : Int32)) : fits .boolean (.int z) = true := by rcases h with rfl | rfl <;> rfl
theorem own_ns {Z : State} {h : Heap} {b : Addr} {C : String} (E : Exa Z h b C) : ∀ cell : Cell, h[b]? = some cell → cell.vm.isStatics = false := fun cell hc => by
  obtain ⟨c, _, h1, -, -, h4, -⟩ := E
  cases h1.symm.trans hc
  exact h4
theorem own_stakeep {Z : State} {h h' : Heap} {C n d : String} {v : Value} {ws : List Addr} (F : Sta Z h C n d v) (K : Keep h h' ws) (q : ∀ x ∈ ws, ∀ cell : Cell, h[x]? = some cell → cell.vm.isStatics = false) : Sta Z h' C n d v := by
  obtain ⟨cf, i, k, f, st, cell, h1, h2, h3, h4, h5, h6, h7⟩ := F
  refine ⟨cf, i, k, f, st, cell, h1, h2, h3, h4, K.2.1 st cell h5 fun z => ?_, h6, h7⟩
  rw [q st z cell h5] at h6
  cases h6
section OwnLong
variable {Z : State} {h h' : Heap} {a b : Addr} {k : ClassId} {n j : Int32} {x : Int64} {ws : List Addr} {sl : Nat} {v : Value}
/-- a long[] of the length n, whatever it holds -/
def LA (Z : State) (h : Heap) (a : Addr) (k : ClassId) (n : Int32) : Prop := ∃ c : Cell, Arr Z h a c .long ∧ c.cls = k ∧ c.slots.size = n.toNatClampNeg ∧ ¬ n < 0 ∧ ∀ i, i < c.slots.size → ∃ x : Int64, c.slots[i]? = some (.long x)
theorem LA.lt (F : LA Z h a k n) : a < h.size := by obtain ⟨c, A, -⟩ := F; exact A.lt
theorem LA.ext (F : LA Z h a k n) (E : Ext h h') : LA Z h' a k n := by obtain ⟨c, A, r⟩ := F; exact ⟨c, A.ext E, r⟩
theorem LA.other (F : LA Z h b k n) (W : Wr h h' a sl v) (q : b ≠ a) : LA Z h' b k n := by obtain ⟨c, A, r⟩ := F; exact ⟨c, A.other W q, r⟩
theorem LA.keep (F : LA Z h a k n) (K : Keep h h' ws) (q : a ∉ ws) : LA Z h' a k n := by obtain ⟨c, A, r⟩ := F; exact ⟨c, ⟨K.2.1 a c A.1 q, A.2⟩, r⟩
theorem LA.new (A : Arr Z h a (newA k .long n) .long) (q : ¬ n < 0) : LA Z h a k n := ⟨_, A, rfl, sz_new _ _ _, q, fun i hi => ⟨0, by
  have hi' : i < n.toNatClampNeg := by rw [sz_new] at hi; exact hi
  show (Array.replicate n.toNatClampNeg (defaultValue .long))[i]? = _
  simp [hi', defaultValue]⟩⟩
theorem LA.set {c : Cell} (A : Arr Z h a c .long) (q1 : c.cls = k) (S : c.slots.size = n.toNatClampNeg) (q3 : ¬ n < 0) (G : ∀ i, i < c.slots.size → ∃ x : Int64, c.slots[i]? = some (.long x)) (W : Wr h h' a sl (.long x)) : LA Z h' a k n := by
  refine ⟨_, A.same W, q1, by rw [sz_set]; exact S, q3, fun i hi => ?_⟩
  rw [sz_set] at hi
  by_cases e : sl = i
  · subst e; exact ⟨x, by simp [Cell.setSlot, hi]⟩
  · obtain ⟨y, hy⟩ := G i hi
    exact ⟨y, by rw [← hy]; exact Array.getElem?_setIfInBounds_ne e⟩
end OwnLong
section OwnStart
variable {args : Array Value} {s : State} {a b t : Term}
theorem own_eqI {n : Int32} (h : (Cond.eq a (.int n)).value args s none s [] = some true) : a.eval args s none [] s = some (.int n) := by
  cases ha : a.eval args s none [] s with
  | none => simp [Cond.value, ha] at h
  | some x => cases x <;> simp [Cond.value, ha, Term.eval] at h ⊢ <;> exact h
theorem own_eqL {n : Int64} (h : (Cond.eq a (.long n)).value args s none s [] = some true) : a.eval args s none [] s = some (.long n) := by
  cases ha : a.eval args s none [] s with
  | none => simp [Cond.value, ha] at h
  | some x => cases x <;> simp [Cond.value, ha, Term.eval] at h ⊢ <;> exact h
theorem own_eqR {x : Addr} (h : (Cond.eq a b).value args s none s [] = some true) (hb : b.eval args s none [] s = some (.ref x)) : a.eval args s none [] s = some (.ref x) := by
  cases ha : a.eval args s none [] s with
  | none => simp [Cond.value, ha] at h
  | some y => cases y <;> simp [Cond.value, ha, hb] at h ⊢ <;> exact h
theorem own_neR {x y : Addr} (h : (Cond.not (Cond.eq a b)).value args s none s [] = some true) (ha : a.eval args s none [] s = some (.ref x)) (hb : b.eval args s none [] s = some (.ref y)) : x ≠ y := by
  intro e
  subst e
  simp [Cond.value, ha, hb] at h
theorem own_lenv {n : Int32} {x : Addr} {cl : Cell} (h : (Term.length t).eval args s none [] s = some (.int n)) (ht : t.eval args s none [] s = some (.ref x)) (hc : s.heap[x]? = some cl) : cl.slots.size < 2 ^ 31 ∧ cl.slots.size.toInt32 = n := by
  obtain ⟨a', cell, e1, e2, e3⟩ := Term.length_spec h
  cases ht.symm.trans e1
  have hcl : cell = cl := by
    simp only [State.arrayAt?, hc, Option.bind_eq_bind, Option.bind_some] at e2
    cases hk : s.vm.classes[cl.cls]? with
    | none => simp [hk] at e2
    | some k =>
      simp only [hk, Option.bind_some] at e2
      split at e2
      · cases e2
      · split at e2
        · exact (Option.some.inj e2).symm
        · cases e2
  subst hcl
  refine ⟨?_, (Value.int.inj e3).symm⟩
  simp only [Term.eval, ht, e2, Option.bind_eq_bind, Option.bind_some] at h
  split at h
  · assumption
  · cases h
end OwnStart
end Jvm.RoadKit
namespace Jvm.Pilot.@@N@@
open Jvm Jvm.ClassFile Sem Op Lib Jvm.Free Jvm.Stand Jvm.LawKit Jvm.RoadKit Bundle Jvm.Pilot.@@N@@.Jvm.D
theorem dLne_0 : decode jdk_43_method_13_code 0 = .ok (.aload_n 0, 1) := by decide +kernel
theorem dLne_1 : decode jdk_43_method_13_code 1 = .ok (.arraylength, 1) := by decide +kernel
theorem dLne_2 : decode jdk_43_method_13_code 2 = .ok (.aload_n 1, 1) := by decide +kernel
theorem dLne_3 : decode jdk_43_method_13_code 3 = .ok (.arraylength, 1) := by decide +kernel
theorem dLne_4 : decode jdk_43_method_13_code 4 = .ok (.if_icmp .ne 30, 3) := by decide +kernel
theorem dLne_7 : decode jdk_43_method_13_code 7 = .ok (.iconst 0, 1) := by decide +kernel
theorem dLne_8 : decode jdk_43_method_13_code 8 = .ok (.istore_n 2, 1) := by decide +kernel
theorem dLne_9 : decode jdk_43_method_13_code 9 = .ok (.iload_n 2, 1) := by decide +kernel
theorem dLne_10 : decode jdk_43_method_13_code 10 = .ok (.aload_n 0, 1) := by decide +kernel
theorem dLne_11 : decode jdk_43_method_13_code 11 = .ok (.arraylength, 1) := by decide +kernel
theorem dLne_12 : decode jdk_43_method_13_code 12 = .ok (.if_icmp .ge 20, 3) := by decide +kernel
theorem dLne_15 : decode jdk_43_method_13_code 15 = .ok (.aload_n 0, 1) := by decide +kernel
theorem dLne_16 : decode jdk_43_method_13_code 16 = .ok (.iload_n 2, 1) := by decide +kernel
theorem dLne_17 : decode jdk_43_method_13_code 17 = .ok (.baload, 1) := by decide +kernel
theorem dLne_18 : decode jdk_43_method_13_code 18 = .ok (.aload_n 1, 1) := by decide +kernel
theorem dLne_19 : decode jdk_43_method_13_code 19 = .ok (.iload_n 2, 1) := by decide +kernel
theorem dLne_20 : decode jdk_43_method_13_code 20 = .ok (.baload, 1) := by decide +kernel
theorem dLne_21 : decode jdk_43_method_13_code 21 = .ok (.if_icmp .eq 5, 3) := by decide +kernel
theorem dLne_24 : decode jdk_43_method_13_code 24 = .ok (.iconst 0, 1) := by decide +kernel
theorem dLne_25 : decode jdk_43_method_13_code 25 = .ok (.ireturn, 1) := by decide +kernel
theorem pnLne : plainName "java/lang/StringLatin1" = true := by first | (simp [plainName, overriddenIn]; done) | decide +kernel
theorem efLne (m : MethodId) (va : Addr) (vb : Addr) : entryFrame m #[(.ref va), (.ref vb)] 3 = mkF m 0 #[.val (.ref va), .val (.ref vb), .unset] [] := by first | (simp [entryFrame, mkF, argsToLocals, Value.category]; done) | rfl
def QLne (Z : State) (va : Addr) (vb : Addr) (kc_va : ClassId) (x1 : Int32) (kc_vb : ClassId) (y1 : Int32) (h0 : Heap) (n0 : Nat) (v : Option Value) (h : Heap) (L : List Loc) : Prop := (v = some (.int (0 : Int32)) ∧ Fr n0 L ∧ h = h0)
set_option maxRecDepth 65536 in
set_option maxHeartbeats 40000000 in
theorem rmLne (l : Launch) (Z : State) (a0 : Array Value) (hw : ∀ d ∈ tables_1, d.before a0 Z = true) (ws : List Jvm.Cond) (va : Addr) (vb : Addr) (kc_va : ClassId) (x1 : Int32) (kc_vb : ClassId) (y1 : Int32) (h0 : Heap) (n0 : Nat) (Z0 : n0 ≤ h0.size) (V0_va : Arv Z h0 va kc_va .byte (1 : Int32) [(.int x1)] (.int (0 : Int32))) (V0_vb : Arv Z h0 vb kc_vb .byte (1 : Int32) [(.int y1)] (.int (0 : Int32))) (hxy : ¬ (x1 = y1)) :
    MetFree l (⟨"java/lang/StringLatin1", "equals", "([B[B)Z"⟩ : MethodName) (head1 (Jvm.Cond.code (⟨"java/lang/StringLatin1", "equals", "([B[B)Z"⟩ : MethodName) jdk_43_method_13_code 3 (some .boolean) :: ws) ({ frames := 0, cells := 0, slots := 0, locals := 0 } : Room)) (fun aa U => aa = #[(.ref va), (.ref vb)] ∧ Z.Warmed39 U.vm ∧ U.heap = h0) (fun _ _ _ _ _ => True) (fun _ U o U' => ∃ v L, o = .returned v ∧ QLne Z va vb kc_va x1 kc_vb y1 h0 n0 v U'.heap L ∧ FrameEnd U o U' L ({ frames := 0, cells := 0, slots := 0, locals := 0 } : Room).cells ({ frames := 0, cells := 0, slots := 0, locals := 0 } : Room).slots) := by
  refine MetFree.of_bodySF (plainFor_of_name pnLne) hisR ?_
  intro p e s m args below meth c s₁ Bd hml0 hP hK
  obtain ⟨rfl, hZ, hh⟩ := hP
  have hx := Bd.exec
  have hby := Bd.bytes
  have hml : c.maxLocals = 3 := hml0
  have hown : s.vm.findClass "java/lang/StringLatin1" = some m.cls := findClass_of_methodNamed Bd.named
  have hnm := (name_of_methodNamed Bd.named Bd.method).1
  have hlk : meth.locks = false := BodyLoose.notSynchronized Bd
  have hret : meth.sig.returnType = (some .boolean) := Bd.returns
  have X0 : Stand p l e ({ frames := 0, cells := 0, slots := 0, locals := 0 } : Room) s m #[(.ref va), (.ref vb)] below meth c s₁ [] 0 0 := Stand.of_body Bd
  have e0 : s₁.heap = h0 := by rw [← hh, Bd.state]; rfl
  have N0 := Fr.nil n0
  show Go p e below s ({ frames := 0, cells := 0, slots := 0, locals := 0 } : Room).cells ({ frames := 0, cells := 0, slots := 0, locals := 0 } : Room).slots (QLne Z va vb kc_va x1 kc_vb y1 h0 n0) (s₁.setTop (entryFrame m #[(.ref va), (.ref vb)] 3))
  rw [efLne]
  refine Go.by (fun _ kont => XS.aloadN X0.here hx rfl (hb hby dLne_0) rfl rfl kont) ?_
  show Go _ _ _ _ _ _ _ (s₁.setTop (mkF m 1 #[.val (.ref va), .val (.ref vb), .unset] [(.ref va)]))
  obtain ⟨cl_q101, Ar_q101, q1_q101, S_q101, N_q101, H_q101, G_q101⟩ := id V0_va
  refine Go.by (X0.arraylength hx (by rw [e0]; exact Ar_q101.1) (State.isArrayOf_alike hZ.alike Ar_q101.2.1) (g := (mkF m 1 #[.val (.ref va), .val (.ref vb), .unset] [(.ref va)])) rfl rfl (hb hby dLne_1)) ?_
  rw [len_of S_q101 N_q101]
  show Go _ _ _ _ _ _ _ (s₁.setTop (mkF m 2 #[.val (.ref va), .val (.ref vb), .unset] [(.int (1 : Int32))]))
  refine Go.by (fun _ kont => XS.aloadN X0.here hx rfl (hb hby dLne_2) rfl rfl kont) ?_
  show Go _ _ _ _ _ _ _ (s₁.setTop (mkF m 3 #[.val (.ref va), .val (.ref vb), .unset] [(.ref vb), (.int (1 : Int32))]))
  obtain ⟨cl_q102, Ar_q102, q1_q102, S_q102, N_q102, H_q102, G_q102⟩ := id V0_vb
  refine Go.by (X0.arraylength hx (by rw [e0]; exact Ar_q102.1) (State.isArrayOf_alike hZ.alike Ar_q102.2.1) (g := (mkF m 3 #[.val (.ref va), .val (.ref vb), .unset] [(.ref vb), (.int (1 : Int32))])) rfl rfl (hb hby dLne_3)) ?_
  rw [len_of S_q102 N_q102]
  show Go _ _ _ _ _ _ _ (s₁.setTop (mkF m 4 #[.val (.ref va), .val (.ref vb), .unset] [(.int (1 : Int32)), (.int (1 : Int32))]))
  refine Go.by (fun _ kont => XS.icmpNo X0.here hx rfl (hb hby dLne_4) rfl (by decide) kont) ?_
  show Go _ _ _ _ _ _ _ (s₁.setTop (mkF m 7 #[.val (.ref va), .val (.ref vb), .unset] []))
  refine Go.by (fun _ kont => XS.iconst X0.here hx rfl (hb hby dLne_7) (XS.istoreN X0.here hx rfl (hb hby dLne_8) rfl (l' := #[.val (.ref va), .val (.ref vb), .val (.int (0 : Int32))]) rfl (XS.iloadN X0.here hx rfl (hb hby dLne_9) rfl (XS.aloadN X0.here hx rfl (hb hby dLne_10) rfl rfl kont)))) ?_
  show Go _ _ _ _ _ _ _ (s₁.setTop (mkF m 11 #[.val (.ref va), .val (.ref vb), .val (.int (0 : Int32))] [(.ref va), (.int (0 : Int32))]))
  obtain ⟨cl_q103, Ar_q103, q1_q103, S_q103, N_q103, H_q103, G_q103⟩ := id V0_va
  refine Go.by (X0.arraylength hx (by rw [e0]; exact Ar_q103.1) (State.isArrayOf_alike hZ.alike Ar_q103.2.1) (g := (mkF m 11 #[.val (.ref va), .val (.ref vb), .val (.int (0 : Int32))] [(.ref va), (.int (0 : Int32))])) rfl rfl (hb hby dLne_11)) ?_
  rw [len_of S_q103 N_q103]
  show Go _ _ _ _ _ _ _ (s₁.setTop (mkF m 12 #[.val (.ref va), .val (.ref vb), .val (.int (0 : Int32))] [(.int (1 : Int32)), (.int (0 : Int32))]))
  refine Go.by (fun _ kont => XS.icmpNo X0.here hx rfl (hb hby dLne_12) rfl (by decide) kont) ?_
  show Go _ _ _ _ _ _ _ (s₁.setTop (mkF m 15 #[.val (.ref va), .val (.ref vb), .val (.int (0 : Int32))] []))
  refine Go.by (fun _ kont => XS.aloadN X0.here hx rfl (hb hby dLne_15) rfl rfl (XS.iloadN X0.here hx rfl (hb hby dLne_16) rfl kont)) ?_
  show Go _ _ _ _ _ _ _ (s₁.setTop (mkF m 17 #[.val (.ref va), .val (.ref vb), .val (.int (0 : Int32))] [(.int (0 : Int32)), (.ref va)]))
  obtain ⟨cl_q104, Ar_q104, q1_q104, S_q104, N_q104, H_q104, G_q104⟩ := id V0_va
  have hin_q104 : ¬ ((0 : Int32) < 0 ∨ cl_q104.slots.size ≤ ((0 : Int32)).toNatClampNeg) := inb_of S_q104 ⟨by decide, by decide⟩
  have hat_q104 : cl_q104.slots[((0 : Int32)).toNatClampNeg]? = some (.int x1) := Has.at H_q104 hin_q104 rfl
  refine Go.by (X0.baloadBytes hx (j := (0 : Int32)) (v := (.int x1)) (by rw [e0]; exact Ar_q104.1) (State.isArrayOf_alike hZ.alike Ar_q104.2.1) Ar_q104.2.2 hin_q104 hat_q104 (g := (mkF m 17 #[.val (.ref va), .val (.ref vb), .val (.int (0 : Int32))] [(.int (0 : Int32)), (.ref va)])) rfl rfl (hb hby dLne_17)) ?_
  show Go _ _ _ _ _ _ _ (s₁.setTop (mkF m 18 #[.val (.ref va), .val (.ref vb), .val (.int (0 : Int32))] [(.int x1)]))
  refine Go.by (fun _ kont => XS.aloadN X0.here hx rfl (hb hby dLne_18) rfl rfl (XS.iloadN X0.here hx rfl (hb hby dLne_19) rfl kont)) ?_
  show Go _ _ _ _ _ _ _ (s₁.setTop (mkF m 20 #[.val (.ref va), .val (.ref vb), .val (.int (0 : Int32))] [(.int (0 : Int32)), (.ref vb), (.int x1)]))
  obtain ⟨cl_q105, Ar_q105, q1_q105, S_q105, N_q105, H_q105, G_q105⟩ := id V0_vb
  have hin_q105 : ¬ ((0 : Int32) < 0 ∨ cl_q105.slots.size ≤ ((0 : Int32)).toNatClampNeg) := inb_of S_q105 ⟨by decide, by decide⟩
  have hat_q105 : cl_q105.slots[((0 : Int32)).toNatClampNeg]? = some (.int y1) := Has.at H_q105 hin_q105 rfl
  refine Go.by (X0.baloadBytes hx (j := (0 : Int32)) (v := (.int y1)) (by rw [e0]; exact Ar_q105.1) (State.isArrayOf_alike hZ.alike Ar_q105.2.1) Ar_q105.2.2 hin_q105 hat_q105 (g := (mkF m 20 #[.val (.ref va), .val (.ref vb), .val (.int (0 : Int32))] [(.int (0 : Int32)), (.ref vb), (.int x1)])) rfl rfl (hb hby dLne_20)) ?_
  show Go _ _ _ _ _ _ _ (s₁.setTop (mkF m 21 #[.val (.ref va), .val (.ref vb), .val (.int (0 : Int32))] [(.int y1), (.int x1)]))
  refine Go.by (fun _ kont => XS.icmpNo X0.here hx rfl (hb hby dLne_21) rfl (feq hxy).1 kont) ?_
  show Go _ _ _ _ _ _ _ (s₁.setTop (mkF m 24 #[.val (.ref va), .val (.ref vb), .val (.int (0 : Int32))] []))
  refine Go.by (fun _ kont => XS.iconst X0.here hx rfl (hb hby dLne_24) kont) ?_
  show Go _ _ _ _ _ _ _ (s₁.setTop (mkF m 25 #[.val (.ref va), .val (.ref vb), .val (.int (0 : Int32))] [(.int (0 : Int32))]))
  refine Go.retN X0 hx (t := .boolean) hret (by simp) hlk (hb hby dLne_25) ?_ (by decide) (by decide)
  show QLne Z va vb kc_va x1 kc_vb y1 h0 n0 (some (.int (0 : Int32))) s₁.heap _
  rw [e0]
  exact ⟨rfl, N0, rfl⟩

theorem dEne_0 : decode jdk_42_method_66_code 0 = .ok (.aload_n 0, 1) := by decide +kernel
theorem dEne_1 : decode jdk_42_method_66_code 1 = .ok (.aload_n 1, 1) := by decide +kernel
theorem dEne_2 : decode jdk_42_method_66_code 2 = .ok (.if_acmp .ne 5, 3) := by decide +kernel
theorem dEne_7 : decode jdk_42_method_66_code 7 = .ok (.aload_n 1, 1) := by decide +kernel
theorem dEne_8 : decode jdk_42_method_66_code 8 = .ok (.instanceof 10, 3) := by decide +kernel
theorem dEne_11 : decode jdk_42_method_66_code 11 = .ok (.ifCond .eq 43, 3) := by decide +kernel
theorem dEne_14 : decode jdk_42_method_66_code 14 = .ok (.aload_n 1, 1) := by decide +kernel
theorem dEne_15 : decode jdk_42_method_66_code 15 = .ok (.checkcast 10, 3) := by decide +kernel
theorem dEne_18 : decode jdk_42_method_66_code 18 = .ok (.astore_n 2, 1) := by decide +kernel
theorem dEne_19 : decode jdk_42_method_66_code 19 = .ok (.getstatic 38, 3) := by decide +kernel
theorem dEne_22 : decode jdk_42_method_66_code 22 = .ok (.ifCond .eq 14, 3) := by decide +kernel
theorem dEne_25 : decode jdk_42_method_66_code 25 = .ok (.aload_n 0, 1) := by decide +kernel
theorem dEne_26 : decode jdk_42_method_66_code 26 = .ok (.getfield 15, 3) := by decide +kernel
theorem dEne_29 : decode jdk_42_method_66_code 29 = .ok (.aload_n 2, 1) := by decide +kernel
theorem dEne_30 : decode jdk_42_method_66_code 30 = .ok (.getfield 15, 3) := by decide +kernel
theorem dEne_33 : decode jdk_42_method_66_code 33 = .ok (.if_icmp .ne 21, 3) := by decide +kernel
theorem dEne_36 : decode jdk_42_method_66_code 36 = .ok (.aload_n 0, 1) := by decide +kernel
theorem dEne_37 : decode jdk_42_method_66_code 37 = .ok (.getfield 9, 3) := by decide +kernel
theorem dEne_40 : decode jdk_42_method_66_code 40 = .ok (.aload_n 2, 1) := by decide +kernel
theorem dEne_41 : decode jdk_42_method_66_code 41 = .ok (.getfield 9, 3) := by decide +kernel
theorem dEne_44 : decode jdk_42_method_66_code 44 = .ok (.invokestatic 541, 3) := by decide +kernel
theorem dEne_47 : decode jdk_42_method_66_code 47 = .ok (.ifCond .eq 7, 3) := by decide +kernel
theorem dEne_54 : decode jdk_42_method_66_code 54 = .ok (.iconst 0, 1) := by decide +kernel
theorem dEne_55 : decode jdk_42_method_66_code 55 = .ok (.ireturn, 1) := by decide +kernel
theorem pdEne_0 : parseMethodDescriptor "([B[B)Z" = some ⟨[(.array .byte), (.array .byte)], some .boolean⟩ := by decide +kernel
theorem pnEne : plainName "java/lang/String" = true := by first | (simp [plainName, overriddenIn]; done) | decide +kernel
theorem efEne (m : MethodId) (a : Addr) (b : Addr) : entryFrame m #[(.ref a), (.ref b)] 3 = mkF m 0 #[.val (.ref a), .val (.ref b), .unset] [] := by first | (simp [entryFrame, mkF, argsToLocals, Value.category]; done) | rfl
def QEne (Z : State) (a : Addr) (b : Addr) (va : Addr) (vb : Addr) (kc_va : ClassId) (x1 : Int32) (kc_vb : ClassId) (y1 : Int32) (cs : Int32) (h0 : Heap) (n0 : Nat) (v : Option Value) (h : Heap) (L : List Loc) : Prop := (v = some (.int (0 : Int32)) ∧ Fr n0 L ∧ h = h0)
set_option maxRecDepth 65536 in
set_option maxHeartbeats 40000000 in
theorem rmEne (l : Launch) (Z : State) (a0 : Array Value) (hw : ∀ d ∈ tables_1, d.before a0 Z = true) (ws : List Jvm.Cond) (a : Addr) (b : Addr) (va : Addr) (vb : Addr) (kc_va : ClassId) (x1 : Int32) (kc_vb : ClassId) (y1 : Int32) (cs : Int32) (h0 : Heap) (n0 : Nat) (Z0 : n0 ≤ h0.size) (E0_a : Exa Z h0 a "java/lang/String") (F0_a_coder : Fld Z h0 a "java/lang/String" "coder" "B" (.int (0 : Int32))) (F0_a_value : Fld Z h0 a "java/lang/String" "value" "[B" (.ref va)) (E0_b : Exa Z h0 b "java/lang/String") (F0_b_coder : Fld Z h0 b "java/lang/String" "coder" "B" (.int (0 : Int32))) (F0_b_value : Fld Z h0 b "java/lang/String" "value" "[B" (.ref vb)) (V0_va : Arv Z h0 va kc_va .byte (1 : Int32) [(.int x1)] (.int (0 : Int32))) (V0_vb : Arv Z h0 vb kc_vb .byte (1 : Int32) [(.int y1)] (.int (0 : Int32))) (ne0_a_b : a ≠ b) (S0_COMPACT_STRINGS : Sta Z h0 "java/lang/String" "COMPACT_STRINGS" "Z" (.int cs)) (hcs : ¬ (cs = (0 : Int32))) (hxy : ¬ (x1 = y1)) :
    MetFree l (⟨"java/lang/String", "equals", "(Ljava/lang/Object;)Z"⟩ : MethodName) (head1 (Jvm.Cond.code (⟨"java/lang/String", "equals", "(Ljava/lang/Object;)Z"⟩ : MethodName) jdk_42_method_66_code 3 (some .boolean) :: ws) ({ frames := 1, cells := 0, slots := 0, locals := 14 } : Room)) (fun aa U => aa = #[(.ref a), (.ref b)] ∧ Z.Warmed39 U.vm ∧ U.heap = h0) (fun _ _ _ _ _ => True) (fun _ U o U' => ∃ v L, o = .returned v ∧ QEne Z a b va vb kc_va x1 kc_vb y1 cs h0 n0 v U'.heap L ∧ FrameEnd U o U' L ({ frames := 1, cells := 0, slots := 0, locals := 14 } : Room).cells ({ frames := 1, cells := 0, slots := 0, locals := 14 } : Room).slots) := by
  refine MetFree.of_bodySF (plainFor_of_name pnEne) hisR ?_
  intro p e s m args below meth c s₁ Bd hml0 hP hK
  obtain ⟨rfl, hZ, hh⟩ := hP
  have hx := Bd.exec
  have hby := Bd.bytes
  have hml : c.maxLocals = 3 := hml0
  have hown : s.vm.findClass "java/lang/String" = some m.cls := findClass_of_methodNamed Bd.named
  have hnm := (name_of_methodNamed Bd.named Bd.method).1
  have hlk : meth.locks = false := BodyLoose.notSynchronized Bd
  have hret : meth.sig.returnType = (some .boolean) := Bd.returns
  have X0 : Stand p l e ({ frames := 1, cells := 0, slots := 0, locals := 14 } : Room) s m #[(.ref a), (.ref b)] below meth c s₁ [] 0 0 := Stand.of_body Bd
  have e0 : s₁.heap = h0 := by rw [← hh, Bd.state]; rfl
  have N0 := Fr.nil n0
  show Go p e below s ({ frames := 1, cells := 0, slots := 0, locals := 14 } : Room).cells ({ frames := 1, cells := 0, slots := 0, locals := 14 } : Room).slots (QEne Z a b va vb kc_va x1 kc_vb y1 cs h0 n0) (s₁.setTop (entryFrame m #[(.ref a), (.ref b)] 3))
  rw [efEne]
  refine Go.by (fun _ kont => XS.aloadN X0.here hx rfl (hb hby dEne_0) rfl rfl (XS.aloadN X0.here hx rfl (hb hby dEne_1) rfl rfl kont)) ?_
  show Go _ _ _ _ _ _ _ (s₁.setTop (mkF m 2 #[.val (.ref a), .val (.ref b), .unset] [(.ref b), (.ref a)]))
  refine Go.by (fun _ kont => Jvm.RoadKit.acmp (g := (mkF m 2 #[.val (.ref a), .val (.ref b), .unset] [(.ref b), (.ref a)])) X0 hx rfl rfl rfl (pc0 := 2) (pc' := 7) (same := false) rfl (hb hby dEne_2) rfl (decide_eq_false fun q => ne0_a_b (Value.ref.inj q)) (by decide) (by decide) kont) ?_
  show Go _ _ _ _ _ _ _ (s₁.setTop (mkF m 7 #[.val (.ref a), .val (.ref b), .unset] []))
  refine Go.by (fun _ kont => XS.aloadN X0.here hx rfl (hb hby dEne_7) rfl rfl kont) ?_
  show Go _ _ _ _ _ _ _ (s₁.setTop (mkF m 8 #[.val (.ref a), .val (.ref b), .unset] [(.ref b)]))
  obtain ⟨T101, X101, e101, st101⟩ := instY X0 hx hZ hown (hw _ (List.mem_of_getElem? (i := 33) rfl)) e0 (Ins.self E0_b) (g := (mkF m 8 #[.val (.ref a), .val (.ref b), .unset] [(.ref b)])) rfl rfl (hb hby dEne_8)
  refine Go.by st101 ?_
  show Go _ _ _ _ _ _ _ (T101.setTop (mkF m 11 #[.val (.ref a), .val (.ref b), .unset] [(.int (1 : Int32))]))
  refine Go.by (fun _ kont => XS.ifNo X101.here hx rfl (hb hby dEne_11) rfl (by decide) kont) ?_
  show Go _ _ _ _ _ _ _ (T101.setTop (mkF m 14 #[.val (.ref a), .val (.ref b), .unset] []))
  refine Go.by (fun _ kont => XS.aloadN X101.here hx rfl (hb hby dEne_14) rfl rfl kont) ?_
  show Go _ _ _ _ _ _ _ (T101.setTop (mkF m 15 #[.val (.ref a), .val (.ref b), .unset] [(.ref b)]))
  obtain ⟨T102, X102, e102, st102⟩ := castY X101 hx hZ hown (hw _ (List.mem_of_getElem? (i := 33) rfl)) e101 (Ins.self E0_b) (g := (mkF m 15 #[.val (.ref a), .val (.ref b), .unset] [(.ref b)])) rfl rfl (hb hby dEne_15)
  refine Go.by st102 ?_
  show Go _ _ _ _ _ _ _ (T102.setTop (mkF m 18 #[.val (.ref a), .val (.ref b), .unset] [(.ref b)]))
  refine Go.by (fun _ kont => XS.astoreN X102.here hx rfl (hb hby dEne_18) rfl rfl (l' := #[.val (.ref a), .val (.ref b), .val (.ref b)]) rfl kont) ?_
  show Go _ _ _ _ _ _ _ (T102.setTop (mkF m 19 #[.val (.ref a), .val (.ref b), .val (.ref b)] []))
  obtain ⟨T103, X103, e103, st103⟩ := getS2 X102 hx hZ hown (host := "") (Or.inl (hw _ (List.mem_of_getElem? (i := 35) rfl))) Via.refl e102 S0_COMPACT_STRINGS (g := (mkF m 19 #[.val (.ref a), .val (.ref b), .val (.ref b)] [])) rfl (hb hby dEne_19)
  refine Go.by st103 ?_
  show Go _ _ _ _ _ _ _ (T103.setTop (mkF m 22 #[.val (.ref a), .val (.ref b), .val (.ref b)] [(.int cs)]))
  refine Go.by (fun _ kont => XS.ifNo X103.here hx rfl (hb hby dEne_22) rfl ((if0 _ _).trans (feq hcs).1) kont) ?_
  show Go _ _ _ _ _ _ _ (T103.setTop (mkF m 25 #[.val (.ref a), .val (.ref b), .val (.ref b)] []))
  refine Go.by (fun _ kont => XS.aloadN X103.here hx rfl (hb hby dEne_25) rfl rfl kont) ?_
  show Go _ _ _ _ _ _ _ (T103.setTop (mkF m 26 #[.val (.ref a), .val (.ref b), .val (.ref b)] [(.ref a)]))
  obtain ⟨T104, X104, e104, st104⟩ := getF X103 hx hZ hown (host := "") (Or.inl (hw _ (List.mem_of_getElem? (i := 36) rfl))) Via.refl e103 F0_a_coder (g := (mkF m 26 #[.val (.ref a), .val (.ref b), .val (.ref b)] [(.ref a)])) rfl rfl (hb hby dEne_26)
  refine Go.by st104 ?_
  show Go _ _ _ _ _ _ _ (T104.setTop (mkF m 29 #[.val (.ref a), .val (.ref b), .val (.ref b)] [(.int (0 : Int32))]))
  refine Go.by (fun _ kont => XS.aloadN X104.here hx rfl (hb hby dEne_29) rfl rfl kont) ?_
  show Go _ _ _ _ _ _ _ (T104.setTop (mkF m 30 #[.val (.ref a), .val (.ref b), .val (.ref b)] [(.ref b), (.int (0 : Int32))]))
  obtain ⟨T105, X105, e105, st105⟩ := getF X104 hx hZ hown (host := "") (Or.inl (hw _ (List.mem_of_getElem? (i := 36) rfl))) Via.refl e104 F0_b_coder (g := (mkF m 30 #[.val (.ref a), .val (.ref b), .val (.ref b)] [(.ref b), (.int (0 : Int32))])) rfl rfl (hb hby dEne_30)
  refine Go.by st105 ?_
  show Go _ _ _ _ _ _ _ (T105.setTop (mkF m 33 #[.val (.ref a), .val (.ref b), .val (.ref b)] [(.int (0 : Int32)), (.int (0 : Int32))]))
  refine Go.by (fun _ kont => XS.icmpNo X105.here hx rfl (hb hby dEne_33) rfl (by decide) kont) ?_
  show Go _ _ _ _ _ _ _ (T105.setTop (mkF m 36 #[.val (.ref a), .val (.ref b), .val (.ref b)] []))
  refine Go.by (fun _ kont => XS.aloadN X105.here hx rfl (hb hby dEne_36) rfl rfl kont) ?_
  show Go _ _ _ _ _ _ _ (T105.setTop (mkF m 37 #[.val (.ref a), .val (.ref b), .val (.ref b)] [(.ref a)]))
  obtain ⟨T106, X106, e106, st106⟩ := getF X105 hx hZ hown (host := "") (Or.inl (hw _ (List.mem_of_getElem? (i := 37) rfl))) Via.refl e105 F0_a_value (g := (mkF m 37 #[.val (.ref a), .val (.ref b), .val (.ref b)] [(.ref a)])) rfl rfl (hb hby dEne_37)
  refine Go.by st106 ?_
  show Go _ _ _ _ _ _ _ (T106.setTop (mkF m 40 #[.val (.ref a), .val (.ref b), .val (.ref b)] [(.ref va)]))
  refine Go.by (fun _ kont => XS.aloadN X106.here hx rfl (hb hby dEne_40) rfl rfl kont) ?_
  show Go _ _ _ _ _ _ _ (T106.setTop (mkF m 41 #[.val (.ref a), .val (.ref b), .val (.ref b)] [(.ref b), (.ref va)]))
  obtain ⟨T107, X107, e107, st107⟩ := getF X106 hx hZ hown (host := "") (Or.inl (hw _ (List.mem_of_getElem? (i := 37) rfl))) Via.refl e106 F0_b_value (g := (mkF m 41 #[.val (.ref a), .val (.ref b), .val (.ref b)] [(.ref b), (.ref va)])) rfl rfl (hb hby dEne_41)
  refine Go.by st107 ?_
  show Go _ _ _ _ _ _ _ (T107.setTop (mkF m 44 #[.val (.ref a), .val (.ref b), .val (.ref b)] [(.ref vb), (.ref va)]))
  obtain ⟨_, _, ⟨T108, L108, k108, n108⟩, -, X108, ⟨Lc108, hQ108, l108, y108, z108⟩, st108⟩ := Jvm.LawKit.callS X107 hx (y := (⟨"java/lang/StringLatin1", "equals", "([B[B)Z"⟩ : MethodName)) hown (mvT hZ (hw _ (List.mem_of_getElem? (i := 38) rfl))) (mvT hZ (hw _ (List.mem_of_getElem? (i := 39) rfl))) (mvT hZ (hw _ (List.mem_of_getElem? (i := 40) rfl))) (mvT hZ (hw _ (List.mem_of_getElem? (i := 41) rfl))) (by decide) (backOf (W := 0) (rmLne l Z a0 hw [] va vb kc_va x1 kc_vb y1 h0 n0 Z0 V0_va V0_vb hxy) hZ (hw _ (List.mem_of_getElem? (i := 41) rfl)) (hw _ (List.mem_of_getElem? (i := 40) rfl)) (by decide) (by decide)) (g := (mkF m 44 #[.val (.ref a), .val (.ref b), .val (.ref b)] [(.ref vb), (.ref va)])) rfl (by rw [hml]; rfl) (argsL := [(.ref va), (.ref vb)]) (rest := []) (lenOf pdEne_0 rfl) rfl (by show 2 * 0 + _ ≤ _; exact Nat.le_of_eq rfl) (hb hby dEne_44) (fun _ _ => ⟨rfl, e107, (by decide : 0 + 0 ≤ _), (by decide : 0 + 0 ≤ _)⟩)
  dsimp only [Pt.U, Pt.locs, Pt.cells, Pt.slots] at X108 l108 y108 z108 st108 hQ108
  subst l108 y108 z108
  obtain ⟨rfl, N108q, eh108⟩ := hQ108
  have N108 := Fr.app N0 N108q
  refine Go.by st108 ?_
  show Go _ _ _ _ _ _ _ (T108.setTop (mkF m 47 #[.val (.ref a), .val (.ref b), .val (.ref b)] [(.int (0 : Int32))]))
  refine Go.by (fun _ kont => XS.ifYes X108.here hx rfl (pc0 := 47) (pc' := 54) rfl (hb hby dEne_47) rfl (by decide) (by decide) (by decide) kont) ?_
  show Go _ _ _ _ _ _ _ (T108.setTop (mkF m 54 #[.val (.ref a), .val (.ref b), .val (.ref b)] []))
  refine Go.by (fun _ kont => XS.iconst X108.here hx rfl (hb hby dEne_54) kont) ?_
  show Go _ _ _ _ _ _ _ (T108.setTop (mkF m 55 #[.val (.ref a), .val (.ref b), .val (.ref b)] [(.int (0 : Int32))]))
  refine Go.retN X108 hx (t := .boolean) hret (by simp) hlk (hb hby dEne_55) ?_ (by decide) (by decide)
  show QEne Z a b va vb kc_va x1 kc_vb y1 cs h0 n0 (some (.int (0 : Int32))) T108.heap _
  rw [eh108]
  exact ⟨rfl, N108, rfl⟩

theorem dLeq_0 : decode jdk_43_method_13_code 0 = .ok (.aload_n 0, 1) := by decide +kernel
theorem dLeq_1 : decode jdk_43_method_13_code 1 = .ok (.arraylength, 1) := by decide +kernel
theorem dLeq_2 : decode jdk_43_method_13_code 2 = .ok (.aload_n 1, 1) := by decide +kernel
theorem dLeq_3 : decode jdk_43_method_13_code 3 = .ok (.arraylength, 1) := by decide +kernel
theorem dLeq_4 : decode jdk_43_method_13_code 4 = .ok (.if_icmp .ne 30, 3) := by decide +kernel
theorem dLeq_7 : decode jdk_43_method_13_code 7 = .ok (.iconst 0, 1) := by decide +kernel
theorem dLeq_8 : decode jdk_43_method_13_code 8 = .ok (.istore_n 2, 1) := by decide +kernel
theorem dLeq_9 : decode jdk_43_method_13_code 9 = .ok (.iload_n 2, 1) := by decide +kernel
theorem dLeq_10 : decode jdk_43_method_13_code 10 = .ok (.aload_n 0, 1) := by decide +kernel
theorem dLeq_11 : decode jdk_43_method_13_code 11 = .ok (.arraylength, 1) := by decide +kernel
theorem dLeq_12 : decode jdk_43_method_13_code 12 = .ok (.if_icmp .ge 20, 3) := by decide +kernel
theorem dLeq_15 : decode jdk_43_method_13_code 15 = .ok (.aload_n 0, 1) := by decide +kernel
theorem dLeq_16 : decode jdk_43_method_13_code 16 = .ok (.iload_n 2, 1) := by decide +kernel
theorem dLeq_17 : decode jdk_43_method_13_code 17 = .ok (.baload, 1) := by decide +kernel
theorem dLeq_18 : decode jdk_43_method_13_code 18 = .ok (.aload_n 1, 1) := by decide +kernel
theorem dLeq_19 : decode jdk_43_method_13_code 19 = .ok (.iload_n 2, 1) := by decide +kernel
theorem dLeq_20 : decode jdk_43_method_13_code 20 = .ok (.baload, 1) := by decide +kernel
theorem dLeq_21 : decode jdk_43_method_13_code 21 = .ok (.if_icmp .eq 5, 3) := by decide +kernel
theorem dLeq_26 : decode jdk_43_method_13_code 26 = .ok (.iinc 2 1, 3) := by decide +kernel
theorem dLeq_29 : decode jdk_43_method_13_code 29 = .ok (.goto (-20), 3) := by decide +kernel
theorem dLeq_32 : decode jdk_43_method_13_code 32 = .ok (.iconst 1, 1) := by decide +kernel
theorem dLeq_33 : decode jdk_43_method_13_code 33 = .ok (.ireturn, 1) := by decide +kernel
theorem pnLeq : plainName "java/lang/StringLatin1" = true := by first | (simp [plainName, overriddenIn]; done) | decide +kernel
theorem efLeq (m : MethodId) (va : Addr) (vb : Addr) : entryFrame m #[(.ref va), (.ref vb)] 3 = mkF m 0 #[.val (.ref va), .val (.ref vb), .unset] [] := by first | (simp [entryFrame, mkF, argsToLocals, Value.category]; done) | rfl
def QLeq (Z : State) (va : Addr) (vb : Addr) (kc_va : ClassId) (x1 : Int32) (kc_vb : ClassId) (h0 : Heap) (n0 : Nat) (v : Option Value) (h : Heap) (L : List Loc) : Prop := (v = some (.int (1 : Int32)) ∧ Fr n0 L ∧ h = h0)
set_option maxRecDepth 65536 in
set_option maxHeartbeats 40000000 in
theorem rmLeq (l : Launch) (Z : State) (a0 : Array Value) (hw : ∀ d ∈ tables_1, d.before a0 Z = true) (ws : List Jvm.Cond) (va : Addr) (vb : Addr) (kc_va : ClassId) (x1 : Int32) (kc_vb : ClassId) (h0 : Heap) (n0 : Nat) (Z0 : n0 ≤ h0.size) (V0_va : Arv Z h0 va kc_va .byte (1 : Int32) [(.int x1)] (.int (0 : Int32))) (V0_vb : Arv Z h0 vb kc_vb .byte (1 : Int32) [(.int x1)] (.int (0 : Int32))) :
    MetFree l (⟨"java/lang/StringLatin1", "equals", "([B[B)Z"⟩ : MethodName) (head1 (Jvm.Cond.code (⟨"java/lang/StringLatin1", "equals", "([B[B)Z"⟩ : MethodName) jdk_43_method_13_code 3 (some .boolean) :: ws) ({ frames := 0, cells := 0, slots := 0, locals := 0 } : Room)) (fun aa U => aa = #[(.ref va), (.ref vb)] ∧ Z.Warmed39 U.vm ∧ U.heap = h0) (fun _ _ _ _ _ => True) (fun _ U o U' => ∃ v L, o = .returned v ∧ QLeq Z va vb kc_va x1 kc_vb h0 n0 v U'.heap L ∧ FrameEnd U o U' L ({ frames := 0, cells := 0, slots := 0, locals := 0 } : Room).cells ({ frames := 0, cells := 0, slots := 0, locals := 0 } : Room).slots) := by
  refine MetFree.of_bodySF (plainFor_of_name pnLeq) hisR ?_
  intro p e s m args below meth c s₁ Bd hml0 hP hK
  obtain ⟨rfl, hZ, hh⟩ := hP
  have hx := Bd.exec
  have hby := Bd.bytes
  have hml : c.maxLocals = 3 := hml0
  have hown : s.vm.findClass "java/lang/StringLatin1" = some m.cls := findClass_of_methodNamed Bd.named
  have hnm := (name_of_methodNamed Bd.named Bd.method).1
  have hlk : meth.locks = false := BodyLoose.notSynchronized Bd
  have hret : meth.sig.returnType = (some .boolean) := Bd.returns
  have X0 : Stand p l e ({ frames := 0, cells := 0, slots := 0, locals := 0 } : Room) s m #[(.ref va), (.ref vb)] below meth c s₁ [] 0 0 := Stand.of_body Bd
  have e0 : s₁.heap = h0 := by rw [← hh, Bd.state]; rfl
  have N0 := Fr.nil n0
  show Go p e below s ({ frames := 0, cells := 0, slots := 0, locals := 0 } : Room).cells ({ frames := 0, cells := 0, slots := 0, locals := 0 } : Room).slots (QLeq Z va vb kc_va x1 kc_vb h0 n0) (s₁.setTop (entryFrame m #[(.ref va), (.ref vb)] 3))
  rw [efLeq]
  refine Go.by (fun _ kont => XS.aloadN X0.here hx rfl (hb hby dLeq_0) rfl rfl kont) ?_
  show Go _ _ _ _ _ _ _ (s₁.setTop (mkF m 1 #[.val (.ref va), .val (.ref vb), .unset] [(.ref va)]))
  obtain ⟨cl_q101, Ar_q101, q1_q101, S_q101, N_q101, H_q101, G_q101⟩ := id V0_va
  refine Go.by (X0.arraylength hx (by rw [e0]; exact Ar_q101.1) (State.isArrayOf_alike hZ.alike Ar_q101.2.1) (g := (mkF m 1 #[.val (.ref va), .val (.ref vb), .unset] [(.ref va)])) rfl rfl (hb hby dLeq_1)) ?_
  rw [len_of S_q101 N_q101]
  show Go _ _ _ _ _ _ _ (s₁.setTop (mkF m 2 #[.val (.ref va), .val (.ref vb), .unset] [(.int (1 : Int32))]))
  refine Go.by (fun _ kont => XS.aloadN X0.here hx rfl (hb hby dLeq_2) rfl rfl kont) ?_
  show Go _ _ _ _ _ _ _ (s₁.setTop (mkF m 3 #[.val (.ref va), .val (.ref vb), .unset] [(.ref vb), (.int (1 : Int32))]))
  obtain ⟨cl_q102, Ar_q102, q1_q102, S_q102, N_q102, H_q102, G_q102⟩ := id V0_vb
  refine Go.by (X0.arraylength hx (by rw [e0]; exact Ar_q102.1) (State.isArrayOf_alike hZ.alike Ar_q102.2.1) (g := (mkF m 3 #[.val (.ref va), .val (.ref vb), .unset] [(.ref vb), (.int (1 : Int32))])) rfl rfl (hb hby dLeq_3)) ?_
  rw [len_of S_q102 N_q102]
  show Go _ _ _ _ _ _ _ (s₁.setTop (mkF m 4 #[.val (.ref va), .val (.ref vb), .unset] [(.int (1 : Int32)), (.int (1 : Int32))]))
  refine Go.by (fun _ kont => XS.icmpNo X0.here hx rfl (hb hby dLeq_4) rfl (by decide) kont) ?_
  show Go _ _ _ _ _ _ _ (s₁.setTop (mkF m 7 #[.val (.ref va), .val (.ref vb), .unset] []))
  refine Go.by (fun _ kont => XS.iconst X0.here hx rfl (hb hby dLeq_7) (XS.istoreN X0.here hx rfl (hb hby dLeq_8) rfl (l' := #[.val (.ref va), .val (.ref vb), .val (.int (0 : Int32))]) rfl (XS.iloadN X0.here hx rfl (hb hby dLeq_9) rfl (XS.aloadN X0.here hx rfl (hb hby dLeq_10) rfl rfl kont)))) ?_
  show Go _ _ _ _ _ _ _ (s₁.setTop (mkF m 11 #[.val (.ref va), .val (.ref vb), .val (.int (0 : Int32))] [(.ref va), (.int (0 : Int32))]))
  obtain ⟨cl_q103, Ar_q103, q1_q103, S_q103, N_q103, H_q103, G_q103⟩ := id V0_va
  refine Go.by (X0.arraylength hx (by rw [e0]; exact Ar_q103.1) (State.isArrayOf_alike hZ.alike Ar_q103.2.1) (g := (mkF m 11 #[.val (.ref va), .val (.ref vb), .val (.int (0 : Int32))] [(.ref va), (.int (0 : Int32))])) rfl rfl (hb hby dLeq_11)) ?_
  rw [len_of S_q103 N_q103]
  show Go _ _ _ _ _ _ _ (s₁.setTop (mkF m 12 #[.val (.ref va), .val (.ref vb), .val (.int (0 : Int32))] [(.int (1 : Int32)), (.int (0 : Int32))]))
  refine Go.by (fun _ kont => XS.icmpNo X0.here hx rfl (hb hby dLeq_12) rfl (by decide) kont) ?_
  show Go _ _ _ _ _ _ _ (s₁.setTop (mkF m 15 #[.val (.ref va), .val (.ref vb), .val (.int (0 : Int32))] []))
  refine Go.by (fun _ kont => XS.aloadN X0.here hx rfl (hb hby dLeq_15) rfl rfl (XS.iloadN X0.here hx rfl (hb hby dLeq_16) rfl kont)) ?_
  show Go _ _ _ _ _ _ _ (s₁.setTop (mkF m 17 #[.val (.ref va), .val (.ref vb), .val (.int (0 : Int32))] [(.int (0 : Int32)), (.ref va)]))
  obtain ⟨cl_q104, Ar_q104, q1_q104, S_q104, N_q104, H_q104, G_q104⟩ := id V0_va
  have hin_q104 : ¬ ((0 : Int32) < 0 ∨ cl_q104.slots.size ≤ ((0 : Int32)).toNatClampNeg) := inb_of S_q104 ⟨by decide, by decide⟩
  have hat_q104 : cl_q104.slots[((0 : Int32)).toNatClampNeg]? = some (.int x1) := Has.at H_q104 hin_q104 rfl
  refine Go.by (X0.baloadBytes hx (j := (0 : Int32)) (v := (.int x1)) (by rw [e0]; exact Ar_q104.1) (State.isArrayOf_alike hZ.alike Ar_q104.2.1) Ar_q104.2.2 hin_q104 hat_q104 (g := (mkF m 17 #[.val (.ref va), .val (.ref vb), .val (.int (0 : Int32))] [(.int (0 : Int32)), (.ref va)])) rfl rfl (hb hby dLeq_17)) ?_
  show Go _ _ _ _ _ _ _ (s₁.setTop (mkF m 18 #[.val (.ref va), .val (.ref vb), .val (.int (0 : Int32))] [(.int x1)]))
  refine Go.by (fun _ kont => XS.aloadN X0.here hx rfl (hb hby dLeq_18) rfl rfl (XS.iloadN X0.here hx rfl (hb hby dLeq_19) rfl kont)) ?_
  show Go _ _ _ _ _ _ _ (s₁.setTop (mkF m 20 #[.val (.ref va), .val (.ref vb), .val (.int (0 : Int32))] [(.int (0 : Int32)), (.ref vb), (.int x1)]))
  obtain ⟨cl_q105, Ar_q105, q1_q105, S_q105, N_q105, H_q105, G_q105⟩ := id V0_vb
  have hin_q105 : ¬ ((0 : Int32) < 0 ∨ cl_q105.slots.size ≤ ((0 : Int32)).toNatClampNeg) := inb_of S_q105 ⟨by decide, by decide⟩
  have hat_q105 : cl_q105.slots[((0 : Int32)).toNatClampNeg]? = some (.int x1) := Has.at H_q105 hin_q105 rfl
  refine Go.by (X0.baloadBytes hx (j := (0 : Int32)) (v := (.int x1)) (by rw [e0]; exact Ar_q105.1) (State.isArrayOf_alike hZ.alike Ar_q105.2.1) Ar_q105.2.2 hin_q105 hat_q105 (g := (mkF m 20 #[.val (.ref va), .val (.ref vb), .val (.int (0 : Int32))] [(.int (0 : Int32)), (.ref vb), (.int x1)])) rfl rfl (hb hby dLeq_20)) ?_
  show Go _ _ _ _ _ _ _ (s₁.setTop (mkF m 21 #[.val (.ref va), .val (.ref vb), .val (.int (0 : Int32))] [(.int x1), (.int x1)]))
  refine Go.by (fun _ kont => XS.icmpYes X0.here hx rfl (pc0 := 21) (pc' := 26) rfl (hb hby dLeq_21) rfl (teq rfl).1 (by decide) (by decide) kont) ?_
  show Go _ _ _ _ _ _ _ (s₁.setTop (mkF m 26 #[.val (.ref va), .val (.ref vb), .val (.int (0 : Int32))] []))
  refine Go.by (fun _ kont => XS.iinc X0.here hx rfl (hb hby dLeq_26) rfl (l' := #[.val (.ref va), .val (.ref vb), .val (.int (1 : Int32))]) rfl (XS.goto X0.here hx rfl (pc0 := 29) (pc' := 9) rfl (hb hby dLeq_29) (by decide) (by decide) (XS.iloadN X0.here hx rfl (hb hby dLeq_9) rfl (XS.aloadN X0.here hx rfl (hb hby dLeq_10) rfl rfl kont)))) ?_
  show Go _ _ _ _ _ _ _ (s₁.setTop (mkF m 11 #[.val (.ref va), .val (.ref vb), .val (.int (1 : Int32))] [(.ref va), (.int (1 : Int32))]))
  obtain ⟨cl_q106, Ar_q106, q1_q106, S_q106, N_q106, H_q106, G_q106⟩ := id V0_va
  refine Go.by (X0.arraylength hx (by rw [e0]; exact Ar_q106.1) (State.isArrayOf_alike hZ.alike Ar_q106.2.1) (g := (mkF m 11 #[.val (.ref va), .val (.ref vb), .val (.int (1 : Int32))] [(.ref va), (.int (1 : Int32))])) rfl rfl (hb hby dLeq_11)) ?_
  rw [len_of S_q106 N_q106]
  show Go _ _ _ _ _ _ _ (s₁.setTop (mkF m 12 #[.val (.ref va), .val (.ref vb), .val (.int (1 : Int32))] [(.int (1 : Int32)), (.int (1 : Int32))]))
  refine Go.by (fun _ kont => XS.icmpYes X0.here hx rfl (pc0 := 12) (pc' := 32) rfl (hb hby dLeq_12) rfl (by decide) (by decide) (by decide) kont) ?_
  show Go _ _ _ _ _ _ _ (s₁.setTop (mkF m 32 #[.val (.ref va), .val (.ref vb), .val (.int (1 : Int32))] []))
  refine Go.by (fun _ kont => XS.iconst X0.here hx rfl (hb hby dLeq_32) kont) ?_
  show Go _ _ _ _ _ _ _ (s₁.setTop (mkF m 33 #[.val (.ref va), .val (.ref vb), .val (.int (1 : Int32))] [(.int (1 : Int32))]))
  refine Go.retN X0 hx (t := .boolean) hret (by simp) hlk (hb hby dLeq_33) ?_ (by decide) (by decide)
  show QLeq Z va vb kc_va x1 kc_vb h0 n0 (some (.int (1 : Int32))) s₁.heap _
  rw [e0]
  exact ⟨rfl, N0, rfl⟩

theorem dEeq_0 : decode jdk_42_method_66_code 0 = .ok (.aload_n 0, 1) := by decide +kernel
theorem dEeq_1 : decode jdk_42_method_66_code 1 = .ok (.aload_n 1, 1) := by decide +kernel
theorem dEeq_2 : decode jdk_42_method_66_code 2 = .ok (.if_acmp .ne 5, 3) := by decide +kernel
theorem dEeq_7 : decode jdk_42_method_66_code 7 = .ok (.aload_n 1, 1) := by decide +kernel
theorem dEeq_8 : decode jdk_42_method_66_code 8 = .ok (.instanceof 10, 3) := by decide +kernel
theorem dEeq_11 : decode jdk_42_method_66_code 11 = .ok (.ifCond .eq 43, 3) := by decide +kernel
theorem dEeq_14 : decode jdk_42_method_66_code 14 = .ok (.aload_n 1, 1) := by decide +kernel
theorem dEeq_15 : decode jdk_42_method_66_code 15 = .ok (.checkcast 10, 3) := by decide +kernel
theorem dEeq_18 : decode jdk_42_method_66_code 18 = .ok (.astore_n 2, 1) := by decide +kernel
theorem dEeq_19 : decode jdk_42_method_66_code 19 = .ok (.getstatic 38, 3) := by decide +kernel
theorem dEeq_22 : decode jdk_42_method_66_code 22 = .ok (.ifCond .eq 14, 3) := by decide +kernel
theorem dEeq_25 : decode jdk_42_method_66_code 25 = .ok (.aload_n 0, 1) := by decide +kernel
theorem dEeq_26 : decode jdk_42_method_66_code 26 = .ok (.getfield 15, 3) := by decide +kernel
theorem dEeq_29 : decode jdk_42_method_66_code 29 = .ok (.aload_n 2, 1) := by decide +kernel
theorem dEeq_30 : decode jdk_42_method_66_code 30 = .ok (.getfield 15, 3) := by decide +kernel
theorem dEeq_33 : decode jdk_42_method_66_code 33 = .ok (.if_icmp .ne 21, 3) := by decide +kernel
theorem dEeq_36 : decode jdk_42_method_66_code 36 = .ok (.aload_n 0, 1) := by decide +kernel
theorem dEeq_37 : decode jdk_42_method_66_code 37 = .ok (.getfield 9, 3) := by decide +kernel
theorem dEeq_40 : decode jdk_42_method_66_code 40 = .ok (.aload_n 2, 1) := by decide +kernel
theorem dEeq_41 : decode jdk_42_method_66_code 41 = .ok (.getfield 9, 3) := by decide +kernel
theorem dEeq_44 : decode jdk_42_method_66_code 44 = .ok (.invokestatic 541, 3) := by decide +kernel
theorem dEeq_47 : decode jdk_42_method_66_code 47 = .ok (.ifCond .eq 7, 3) := by decide +kernel
theorem dEeq_50 : decode jdk_42_method_66_code 50 = .ok (.iconst 1, 1) := by decide +kernel
theorem dEeq_51 : decode jdk_42_method_66_code 51 = .ok (.goto 4, 3) := by decide +kernel
theorem dEeq_55 : decode jdk_42_method_66_code 55 = .ok (.ireturn, 1) := by decide +kernel
theorem pdEeq_0 : parseMethodDescriptor "([B[B)Z" = some ⟨[(.array .byte), (.array .byte)], some .boolean⟩ := by decide +kernel
theorem pnEeq : plainName "java/lang/String" = true := by first | (simp [plainName, overriddenIn]; done) | decide +kernel
theorem efEeq (m : MethodId) (a : Addr) (b : Addr) : entryFrame m #[(.ref a), (.ref b)] 3 = mkF m 0 #[.val (.ref a), .val (.ref b), .unset] [] := by first | (simp [entryFrame, mkF, argsToLocals, Value.category]; done) | rfl
def QEeq (Z : State) (a : Addr) (b : Addr) (va : Addr) (vb : Addr) (kc_va : ClassId) (x1 : Int32) (kc_vb : ClassId) (cs : Int32) (h0 : Heap) (n0 : Nat) (v : Option Value) (h : Heap) (L : List Loc) : Prop := (v = some (.int (1 : Int32)) ∧ Fr n0 L ∧ h = h0)
set_option maxRecDepth 65536 in
set_option maxHeartbeats 40000000 in
theorem rmEeq (l : Launch) (Z : State) (a0 : Array Value) (hw : ∀ d ∈ tables_1, d.before a0 Z = true) (ws : List Jvm.Cond) (a : Addr) (b : Addr) (va : Addr) (vb : Addr) (kc_va : ClassId) (x1 : Int32) (kc_vb : ClassId) (cs : Int32) (h0 : Heap) (n0 : Nat) (Z0 : n0 ≤ h0.size) (E0_a : Exa Z h0 a "java/lang/String") (F0_a_coder : Fld Z h0 a "java/lang/String" "coder" "B" (.int (0 : Int32))) (F0_a_value : Fld Z h0 a "java/lang/String" "value" "[B" (.ref va)) (E0_b : Exa Z h0 b "java/lang/String") (F0_b_coder : Fld Z h0 b "java/lang/String" "coder" "B" (.int (0 : Int32))) (F0_b_value : Fld Z h0 b "java/lang/String" "value" "[B" (.ref vb)) (V0_va : Arv Z h0 va kc_va .byte (1 : Int32) [(.int x1)] (.int (0 : Int32))) (V0_vb : Arv Z h0 vb kc_vb .byte (1 : Int32) [(.int x1)] (.int (0 : Int32))) (ne0_a_b : a ≠ b) (S0_COMPACT_STRINGS : Sta Z h0 "java/lang/String" "COMPACT_STRINGS" "Z" (.int cs)) (hcs : ¬ (cs = (0 : Int32))) :
    MetFree l (⟨"java/lang/String", "equals", "(Ljava/lang/Object;)Z"⟩ : MethodName) (head1 (Jvm.Cond.code (⟨"java/lang/String", "equals", "(Ljava/lang/Object;)Z"⟩ : MethodName) jdk_42_method_66_code 3 (some .boolean) :: ws) ({ frames := 1, cells := 0, slots := 0, locals := 14 } : Room)) (fun aa U => aa = #[(.ref a), (.ref b)] ∧ Z.Warmed39 U.vm ∧ U.heap = h0) (fun _ _ _ _ _ => True) (fun _ U o U' => ∃ v L, o = .returned v ∧ QEeq Z a b va vb kc_va x1 kc_vb cs h0 n0 v U'.heap L ∧ FrameEnd U o U' L ({ frames := 1, cells := 0, slots := 0, locals := 14 } : Room).cells ({ frames := 1, cells := 0, slots := 0, locals := 14 } : Room).slots) := by
  refine MetFree.of_bodySF (plainFor_of_name pnEeq) hisR ?_
  intro p e s m args below meth c s₁ Bd hml0 hP hK
  obtain ⟨rfl, hZ, hh⟩ := hP
  have hx := Bd.exec
  have hby := Bd.bytes
  have hml : c.maxLocals = 3 := hml0
  have hown : s.vm.findClass "java/lang/String" = some m.cls := findClass_of_methodNamed Bd.named
  have hnm := (name_of_methodNamed Bd.named Bd.method).1
  have hlk : meth.locks = false := BodyLoose.notSynchronized Bd
  have hret : meth.sig.returnType = (some .boolean) := Bd.returns
  have X0 : Stand p l e ({ frames := 1, cells := 0, slots := 0, locals := 14 } : Room) s m #[(.ref a), (.ref b)] below meth c s₁ [] 0 0 := Stand.of_body Bd
  have e0 : s₁.heap = h0 := by rw [← hh, Bd.state]; rfl
  have N0 := Fr.nil n0
  show Go p e below s ({ frames := 1, cells := 0, slots := 0, locals := 14 } : Room).cells ({ frames := 1, cells := 0, slots := 0, locals := 14 } : Room).slots (QEeq Z a b va vb kc_va x1 kc_vb cs h0 n0) (s₁.setTop (entryFrame m #[(.ref a), (.ref b)] 3))
  rw [efEeq]
  refine Go.by (fun _ kont => XS.aloadN X0.here hx rfl (hb hby dEeq_0) rfl rfl (XS.aloadN X0.here hx rfl (hb hby dEeq_1) rfl rfl kont)) ?_
  show Go _ _ _ _ _ _ _ (s₁.setTop (mkF m 2 #[.val (.ref a), .val (.ref b), .unset] [(.ref b), (.ref a)]))
  refine Go.by (fun _ kont => Jvm.RoadKit.acmp (g := (mkF m 2 #[.val (.ref a), .val (.ref b), .unset] [(.ref b), (.ref a)])) X0 hx rfl rfl rfl (pc0 := 2) (pc' := 7) (same := false) rfl (hb hby dEeq_2) rfl (decide_eq_false fun q => ne0_a_b (Value.ref.inj q)) (by decide) (by decide) kont) ?_
  show Go _ _ _ _ _ _ _ (s₁.setTop (mkF m 7 #[.val (.ref a), .val (.ref b), .unset] []))
  refine Go.by (fun _ kont => XS.aloadN X0.here hx rfl (hb hby dEeq_7) rfl rfl kont) ?_
  show Go _ _ _ _ _ _ _ (s₁.setTop (mkF m 8 #[.val (.ref a), .val (.ref b), .unset] [(.ref b)]))
  obtain ⟨T101, X101, e101, st101⟩ := instY X0 hx hZ hown (hw _ (List.mem_of_getElem? (i := 33) rfl)) e0 (Ins.self E0_b) (g := (mkF m 8 #[.val (.ref a), .val (.ref b), .unset] [(.ref b)])) rfl rfl (hb hby dEeq_8)
  refine Go.by st101 ?_
  show Go _ _ _ _ _ _ _ (T101.setTop (mkF m 11 #[.val (.ref a), .val (.ref b), .unset] [(.int (1 : Int32))]))
  refine Go.by (fun _ kont => XS.ifNo X101.here hx rfl (hb hby dEeq_11) rfl (by decide) kont) ?_
  show Go _ _ _ _ _ _ _ (T101.setTop (mkF m 14 #[.val (.ref a), .val (.ref b), .unset] []))
  refine Go.by (fun _ kont => XS.aloadN X101.here hx rfl (hb hby dEeq_14) rfl rfl kont) ?_
  show Go _ _ _ _ _ _ _ (T101.setTop (mkF m 15 #[.val (.ref a), .val (.ref b), .unset] [(.ref b)]))
  obtain ⟨T102, X102, e102, st102⟩ := castY X101 hx hZ hown (hw _ (List.mem_of_getElem? (i := 33) rfl)) e101 (Ins.self E0_b) (g := (mkF m 15 #[.val (.ref a), .val (.ref b), .unset] [(.ref b)])) rfl rfl (hb hby dEeq_15)
  refine Go.by st102 ?_
  show Go _ _ _ _ _ _ _ (T102.setTop (mkF m 18 #[.val (.ref a), .val (.ref b), .unset] [(.ref b)]))
  refine Go.by (fun _ kont => XS.astoreN X102.here hx rfl (hb hby dEeq_18) rfl rfl (l' := #[.val (.ref a), .val (.ref b), .val (.ref b)]) rfl kont) ?_
  show Go _ _ _ _ _ _ _ (T102.setTop (mkF m 19 #[.val (.ref a), .val (.ref b), .val (.ref b)] []))
  obtain ⟨T103, X103, e103, st103⟩ := getS2 X102 hx hZ hown (host := "") (Or.inl (hw _ (List.mem_of_getElem? (i := 35) rfl))) Via.refl e102 S0_COMPACT_STRINGS (g := (mkF m 19 #[.val (.ref a), .val (.ref b), .val (.ref b)] [])) rfl (hb hby dEeq_19)
  refine Go.by st103 ?_
  show Go _ _ _ _ _ _ _ (T103.setTop (mkF m 22 #[.val (.ref a), .val (.ref b), .val (.ref b)] [(.int cs)]))
  refine Go.by (fun _ kont => XS.ifNo X103.here hx rfl (hb hby dEeq_22) rfl ((if0 _ _).trans (feq hcs).1) kont) ?_
  show Go _ _ _ _ _ _ _ (T103.setTop (mkF m 25 #[.val (.ref a), .val (.ref b), .val (.ref b)] []))
  refine Go.by (fun _ kont => XS.aloadN X103.here hx rfl (hb hby dEeq_25) rfl rfl kont) ?_
  show Go _ _ _ _ _ _ _ (T103.setTop (mkF m 26 #[.val (.ref a), .val (.ref b), .val (.ref b)] [(.ref a)]))
  obtain ⟨T104, X104, e104, st104⟩ := getF X103 hx hZ hown (host := "") (Or.inl (hw _ (List.mem_of_getElem? (i := 36) rfl))) Via.refl e103 F0_a_coder (g := (mkF m 26 #[.val (.ref a), .val (.ref b), .val (.ref b)] [(.ref a)])) rfl rfl (hb hby dEeq_26)
  refine Go.by st104 ?_
  show Go _ _ _ _ _ _ _ (T104.setTop (mkF m 29 #[.val (.ref a), .val (.ref b), .val (.ref b)] [(.int (0 : Int32))]))
  refine Go.by (fun _ kont => XS.aloadN X104.here hx rfl (hb hby dEeq_29) rfl rfl kont) ?_
  show Go _ _ _ _ _ _ _ (T104.setTop (mkF m 30 #[.val (.ref a), .val (.ref b), .val (.ref b)] [(.ref b), (.int (0 : Int32))]))
  obtain ⟨T105, X105, e105, st105⟩ := getF X104 hx hZ hown (host := "") (Or.inl (hw _ (List.mem_of_getElem? (i := 36) rfl))) Via.refl e104 F0_b_coder (g := (mkF m 30 #[.val (.ref a), .val (.ref b), .val (.ref b)] [(.ref b), (.int (0 : Int32))])) rfl rfl (hb hby dEeq_30)
  refine Go.by st105 ?_
  show Go _ _ _ _ _ _ _ (T105.setTop (mkF m 33 #[.val (.ref a), .val (.ref b), .val (.ref b)] [(.int (0 : Int32)), (.int (0 : Int32))]))
  refine Go.by (fun _ kont => XS.icmpNo X105.here hx rfl (hb hby dEeq_33) rfl (by decide) kont) ?_
  show Go _ _ _ _ _ _ _ (T105.setTop (mkF m 36 #[.val (.ref a), .val (.ref b), .val (.ref b)] []))
  refine Go.by (fun _ kont => XS.aloadN X105.here hx rfl (hb hby dEeq_36) rfl rfl kont) ?_
  show Go _ _ _ _ _ _ _ (T105.setTop (mkF m 37 #[.val (.ref a), .val (.ref b), .val (.ref b)] [(.ref a)]))
  obtain ⟨T106, X106, e106, st106⟩ := getF X105 hx hZ hown (host := "") (Or.inl (hw _ (List.mem_of_getElem? (i := 37) rfl))) Via.refl e105 F0_a_value (g := (mkF m 37 #[.val (.ref a), .val (.ref b), .val (.ref b)] [(.ref a)])) rfl rfl (hb hby dEeq_37)
  refine Go.by st106 ?_
  show Go _ _ _ _ _ _ _ (T106.setTop (mkF m 40 #[.val (.ref a), .val (.ref b), .val (.ref b)] [(.ref va)]))
  refine Go.by (fun _ kont => XS.aloadN X106.here hx rfl (hb hby dEeq_40) rfl rfl kont) ?_
  show Go _ _ _ _ _ _ _ (T106.setTop (mkF m 41 #[.val (.ref a), .val (.ref b), .val (.ref b)] [(.ref b), (.ref va)]))
  obtain ⟨T107, X107, e107, st107⟩ := getF X106 hx hZ hown (host := "") (Or.inl (hw _ (List.mem_of_getElem? (i := 37) rfl))) Via.refl e106 F0_b_value (g := (mkF m 41 #[.val (.ref a), .val (.ref b), .val (.ref b)] [(.ref b), (.ref va)])) rfl rfl (hb hby dEeq_41)
  refine Go.by st107 ?_
  show Go _ _ _ _ _ _ _ (T107.setTop (mkF m 44 #[.val (.ref a), .val (.ref b), .val (.ref b)] [(.ref vb), (.ref va)]))
  obtain ⟨_, _, ⟨T108, L108, k108, n108⟩, -, X108, ⟨Lc108, hQ108, l108, y108, z108⟩, st108⟩ := Jvm.LawKit.callS X107 hx (y := (⟨"java/lang/StringLatin1", "equals", "([B[B)Z"⟩ : MethodName)) hown (mvT hZ (hw _ (List.mem_of_getElem? (i := 38) rfl))) (mvT hZ (hw _ (List.mem_of_getElem? (i := 39) rfl))) (mvT hZ (hw _ (List.mem_of_getElem? (i := 40) rfl))) (mvT hZ (hw _ (List.mem_of_getElem? (i := 41) rfl))) (by decide) (backOf (W := 0) (rmLeq l Z a0 hw [] va vb kc_va x1 kc_vb h0 n0 Z0 V0_va V0_vb) hZ (hw _ (List.mem_of_getElem? (i := 41) rfl)) (hw _ (List.mem_of_getElem? (i := 40) rfl)) (by decide) (by decide)) (g := (mkF m 44 #[.val (.ref a), .val (.ref b), .val (.ref b)] [(.ref vb), (.ref va)])) rfl (by rw [hml]; rfl) (argsL := [(.ref va), (.ref vb)]) (rest := []) (lenOf pdEeq_0 rfl) rfl (by show 2 * 0 + _ ≤ _; exact Nat.le_of_eq rfl) (hb hby dEeq_44) (fun _ _ => ⟨rfl, e107, (by decide : 0 + 0 ≤ _), (by decide : 0 + 0 ≤ _)⟩)
  dsimp only [Pt.U, Pt.locs, Pt.cells, Pt.slots] at X108 l108 y108 z108 st108 hQ108
  subst l108 y108 z108
  obtain ⟨rfl, N108q, eh108⟩ := hQ108
  have N108 := Fr.app N0 N108q
  refine Go.by st108 ?_
  show Go _ _ _ _ _ _ _ (T108.setTop (mkF m 47 #[.val (.ref a), .val (.ref b), .val (.ref b)] [(.int (1 : Int32))]))
  refine Go.by (fun _ kont => XS.ifNo X108.here hx rfl (hb hby dEeq_47) rfl (by decide) kont) ?_
  show Go _ _ _ _ _ _ _ (T108.setTop (mkF m 50 #[.val (.ref a), .val (.ref b), .val (.ref b)] []))
  refine Go.by (fun _ kont => XS.iconst X108.here hx rfl (hb hby dEeq_50) (XS.goto X108.here hx rfl (pc0 := 51) (pc' := 55) rfl (hb hby dEeq_51) (by decide) (by decide) kont)) ?_
  show Go _ _ _ _ _ _ _ (T108.setTop (mkF m 55 #[.val (.ref a), .val (.ref b), .val (.ref b)] [(.int (1 : Int32))]))
  refine Go.retN X108 hx (t := .boolean) hret (by simp) hlk (hb hby dEeq_55) ?_ (by decide) (by decide)
  show QEeq Z a b va vb kc_va x1 kc_vb cs h0 n0 (some (.int (1 : Int32))) T108.heap _
  rw [eh108]
  exact ⟨rfl, N108, rfl⟩

theorem dEsame_0 : decode jdk_42_method_66_code 0 = .ok (.aload_n 0, 1) := by decide +kernel
theorem dEsame_1 : decode jdk_42_method_66_code 1 = .ok (.aload_n 1, 1) := by decide +kernel
theorem dEsame_2 : decode jdk_42_method_66_code 2 = .ok (.if_acmp .ne 5, 3) := by decide +kernel
theorem dEsame_5 : decode jdk_42_method_66_code 5 = .ok (.iconst 1, 1) := by decide +kernel
theorem dEsame_6 : decode jdk_42_method_66_code 6 = .ok (.ireturn, 1) := by decide +kernel
theorem pnEsame : plainName "java/lang/String" = true := by first | (simp [plainName, overriddenIn]; done) | decide +kernel
theorem efEsame (m : MethodId) (a : Addr) : entryFrame m #[(.ref a), (.ref a)] 3 = mkF m 0 #[.val (.ref a), .val (.ref a), .unset] [] := by first | (simp [entryFrame, mkF, argsToLocals, Value.category]; done) | rfl
def QEsame (Z : State) (a : Addr) (h0 : Heap) (n0 : Nat) (v : Option Value) (h : Heap) (L : List Loc) : Prop := (v = some (.int (1 : Int32)) ∧ Fr n0 L ∧ h = h0)
set_option maxRecDepth 65536 in
set_option maxHeartbeats 40000000 in
theorem rmEsame (l : Launch) (Z : State) (a0 : Array Value) (hw : ∀ d ∈ tables_1, d.before a0 Z = true) (ws : List Jvm.Cond) (a : Addr) (h0 : Heap) (n0 : Nat) (Z0 : n0 ≤ h0.size) :
    MetFree l (⟨"java/lang/String", "equals", "(Ljava/lang/Object;)Z"⟩ : MethodName) (head1 (Jvm.Cond.code (⟨"java/lang/String", "equals", "(Ljava/lang/Object;)Z"⟩ : MethodName) jdk_42_method_66_code 3 (some .boolean) :: ws) ({ frames := 0, cells := 0, slots := 0, locals := 0 } : Room)) (fun aa U => aa = #[(.ref a), (.ref a)] ∧ Z.Warmed39 U.vm ∧ U.heap = h0) (fun _ _ _ _ _ => True) (fun _ U o U' => ∃ v L, o = .returned v ∧ QEsame Z a h0 n0 v U'.heap L ∧ FrameEnd U o U' L ({ frames := 0, cells := 0, slots := 0, locals := 0 } : Room).cells ({ frames := 0, cells := 0, slots := 0, locals := 0 } : Room).slots) := by
  refine MetFree.of_bodySF (plainFor_of_name pnEsame) hisR ?_
  intro p e s m args below meth c s₁ Bd hml0 hP hK
  obtain ⟨rfl, hZ, hh⟩ := hP
  have hx := Bd.exec
  have hby := Bd.bytes
  have hml : c.maxLocals = 3 := hml0
  have hown : s.vm.findClass "java/lang/String" = some m.cls := findClass_of_methodNamed Bd.named
  have hnm := (name_of_methodNamed Bd.named Bd.method).1
  have hlk : meth.locks = false := BodyLoose.notSynchronized Bd
  have hret : meth.sig.returnType = (some .boolean) := Bd.returns
  have X0 : Stand p l e ({ frames := 0, cells := 0, slots := 0, locals := 0 } : Room) s m #[(.ref a), (.ref a)] below meth c s₁ [] 0 0 := Stand.of_body Bd
  have e0 : s₁.heap = h0 := by rw [← hh, Bd.state]; rfl
  have N0 := Fr.nil n0
  show Go p e below s ({ frames := 0, cells := 0, slots := 0, locals := 0 } : Room).cells ({ frames := 0, cells := 0, slots := 0, locals := 0 } : Room).slots (QEsame Z a h0 n0) (s₁.setTop (entryFrame m #[(.ref a), (.ref a)] 3))
  rw [efEsame]
  refine Go.by (fun _ kont => XS.aloadN X0.here hx rfl (hb hby dEsame_0) rfl rfl (XS.aloadN X0.here hx rfl (hb hby dEsame_1) rfl rfl kont)) ?_
  show Go _ _ _ _ _ _ _ (s₁.setTop (mkF m 2 #[.val (.ref a), .val (.ref a), .unset] [(.ref a), (.ref a)]))
  refine Go.by (fun _ kont => Jvm.RoadKit.acmp (g := (mkF m 2 #[.val (.ref a), .val (.ref a), .unset] [(.ref a), (.ref a)])) X0 hx rfl rfl rfl (pc0 := 2) (pc' := 5) (same := true) rfl (hb hby dEsame_2) rfl (decide_eq_true rfl) (by decide) (by decide) kont) ?_
  show Go _ _ _ _ _ _ _ (s₁.setTop (mkF m 5 #[.val (.ref a), .val (.ref a), .unset] []))
  refine Go.by (fun _ kont => XS.iconst X0.here hx rfl (hb hby dEsame_5) kont) ?_
  show Go _ _ _ _ _ _ _ (s₁.setTop (mkF m 6 #[.val (.ref a), .val (.ref a), .unset] [(.int (1 : Int32))]))
  refine Go.retN X0 hx (t := .boolean) hret (by simp) hlk (hb hby dEsame_6) ?_ (by decide) (by decide)
  show QEsame Z a h0 n0 (some (.int (1 : Int32))) s₁.heap _
  rw [e0]
  exact ⟨rfl, N0, rfl⟩

theorem dUu_0 : decode prog_36_method_5_code 0 = .ok (.aload_n 0, 1) := by decide +kernel
theorem dUu_1 : decode prog_36_method_5_code 1 = .ok (.getstatic 3, 3) := by decide +kernel
theorem dUu_4 : decode prog_36_method_5_code 4 = .ok (.if_acmp .ne 9, 3) := by decide +kernel
theorem dUu_7 : decode prog_36_method_5_code 7 = .ok (.getstatic 33, 3) := by decide +kernel
theorem dUu_10 : decode prog_36_method_5_code 10 = .ok (.goto 6, 3) := by decide +kernel
theorem dUu_16 : decode prog_36_method_5_code 16 = .ok (.areturn, 1) := by decide +kernel
theorem pnUu : plainName "com/example/lotbook/lotbook/LimitLock" = true := by first | (simp [plainName, overriddenIn]; done) | decide +kernel
theorem efUu (m : MethodId) (up : Addr) : entryFrame m #[(.ref up)] 1 = mkF m 0 #[.val (.ref up)] [] := by first | (simp [entryFrame, mkF, argsToLocals, Value.category]; done) | rfl
def QUu (Z : State) (up : Addr) (bu : Addr) (sl : Addr) (h0 : Heap) (n0 : Nat) (v : Option Value) (h : Heap) (L : List Loc) : Prop := (v = some (.ref bu) ∧ Fr n0 L ∧ h = h0)
set_option maxRecDepth 65536 in
set_option maxHeartbeats 40000000 in
theorem rmUu (l : Launch) (Z : State) (a0 : Array Value) (hw : ∀ d ∈ tables_1, d.before a0 Z = true) (ws : List Jvm.Cond) (up : Addr) (bu : Addr) (sl : Addr) (h0 : Heap) (n0 : Nat) (Z0 : n0 ≤ h0.size) (S0_UP : Sta Z h0 "com/example/lotbook/lotbook/LimitLock" "UP" "Lcom/example/lotbook/lotbook/LimitLock;" (.ref up)) (S0_BUY : Sta Z h0 "com/example/lotbook/lotbook/Side" "BUY" "Lcom/example/lotbook/lotbook/Side;" (.ref bu)) (S0_SELL : Sta Z h0 "com/example/lotbook/lotbook/Side" "SELL" "Lcom/example/lotbook/lotbook/Side;" (.ref sl)) :
    MetFree l (⟨"com/example/lotbook/lotbook/LimitLock", "unfilledSide", "()Lcom/example/lotbook/lotbook/Side;"⟩ : MethodName) (head1 (Jvm.Cond.code (⟨"com/example/lotbook/lotbook/LimitLock", "unfilledSide", "()Lcom/example/lotbook/lotbook/Side;"⟩ : MethodName) prog_36_method_5_code 1 (some (.object "com/example/lotbook/lotbook/Side")) :: ws) ({ frames := 0, cells := 0, slots := 0, locals := 0 } : Room)) (fun aa U => aa = #[(.ref up)] ∧ Z.Warmed39 U.vm ∧ U.heap = h0) (fun _ _ _ _ _ => True) (fun _ U o U' => ∃ v L, o = .returned v ∧ QUu Z up bu sl h0 n0 v U'.heap L ∧ FrameEnd U o U' L ({ frames := 0, cells := 0, slots := 0, locals := 0 } : Room).cells ({ frames := 0, cells := 0, slots := 0, locals := 0 } : Room).slots) := by
  refine MetFree.of_bodySF (plainFor_of_name pnUu) hisR ?_
  intro p e s m args below meth c s₁ Bd hml0 hP hK
  obtain ⟨rfl, hZ, hh⟩ := hP
  have hx := Bd.exec
  have hby := Bd.bytes
  have hml : c.maxLocals = 1 := hml0
  have hown : s.vm.findClass "com/example/lotbook/lotbook/LimitLock" = some m.cls := findClass_of_methodNamed Bd.named
  have hnm := (name_of_methodNamed Bd.named Bd.method).1
  have hlk : meth.locks = false := BodyLoose.notSynchronized Bd
  have hret : meth.sig.returnType = (some (.object "com/example/lotbook/lotbook/Side")) := Bd.returns
  have X0 : Stand p l e ({ frames := 0, cells := 0, slots := 0, locals := 0 } : Room) s m #[(.ref up)] below meth c s₁ [] 0 0 := Stand.of_body Bd
  have e0 : s₁.heap = h0 := by rw [← hh, Bd.state]; rfl
  have N0 := Fr.nil n0
  show Go p e below s ({ frames := 0, cells := 0, slots := 0, locals := 0 } : Room).cells ({ frames := 0, cells := 0, slots := 0, locals := 0 } : Room).slots (QUu Z up bu sl h0 n0) (s₁.setTop (entryFrame m #[(.ref up)] 1))
  rw [efUu]
  refine Go.by (fun _ kont => XS.aloadN X0.here hx rfl (hb hby dUu_0) rfl rfl kont) ?_
  show Go _ _ _ _ _ _ _ (s₁.setTop (mkF m 1 #[.val (.ref up)] [(.ref up)]))
  obtain ⟨T101, X101, e101, st101⟩ := getS2 X0 hx hZ hown (host := "") (Or.inl (hw _ (List.mem_of_getElem? (i := 8) rfl))) Via.refl e0 S0_UP (g := (mkF m 1 #[.val (.ref up)] [(.ref up)])) rfl (hb hby dUu_1)
  refine Go.by st101 ?_
  show Go _ _ _ _ _ _ _ (T101.setTop (mkF m 4 #[.val (.ref up)] [(.ref up), (.ref up)]))
  refine Go.by (fun _ kont => Jvm.RoadKit.acmp (g := (mkF m 4 #[.val (.ref up)] [(.ref up), (.ref up)])) X101 hx rfl rfl rfl (pc0 := 4) (pc' := 7) (same := true) rfl (hb hby dUu_4) rfl (decide_eq_true rfl) (by decide) (by decide) kont) ?_
  show Go _ _ _ _ _ _ _ (T101.setTop (mkF m 7 #[.val (.ref up)] []))
  obtain ⟨T102, X102, e102, st102⟩ := getS2 X101 hx hZ hown (host := "") (Or.inl (hw _ (List.mem_of_getElem? (i := 52) rfl))) Via.refl e101 S0_BUY (g := (mkF m 7 #[.val (.ref up)] [])) rfl (hb hby dUu_7)
  refine Go.by st102 ?_
  show Go _ _ _ _ _ _ _ (T102.setTop (mkF m 10 #[.val (.ref up)] [(.ref bu)]))
  refine Go.by (fun _ kont => XS.goto X102.here hx rfl (pc0 := 10) (pc' := 16) rfl (hb hby dUu_10) (by decide) (by decide) kont) ?_
  show Go _ _ _ _ _ _ _ (T102.setTop (mkF m 16 #[.val (.ref up)] [(.ref bu)]))
  refine Go.retR X102 hx hret rfl rfl hlk (hb hby dUu_16) ?_ (by decide) (by decide)
  show QUu Z up bu sl h0 n0 (some (.ref bu)) T102.heap _
  rw [e102]
  exact ⟨rfl, N0, rfl⟩

theorem dUd_0 : decode prog_36_method_5_code 0 = .ok (.aload_n 0, 1) := by decide +kernel
theorem dUd_1 : decode prog_36_method_5_code 1 = .ok (.getstatic 3, 3) := by decide +kernel
theorem dUd_4 : decode prog_36_method_5_code 4 = .ok (.if_acmp .ne 9, 3) := by decide +kernel
theorem dUd_13 : decode prog_36_method_5_code 13 = .ok (.getstatic 39, 3) := by decide +kernel
theorem dUd_16 : decode prog_36_method_5_code 16 = .ok (.areturn, 1) := by decide +kernel
theorem pnUd : plainName "com/example/lotbook/lotbook/LimitLock" = true := by first | (simp [plainName, overriddenIn]; done) | decide +kernel
theorem efUd (m : MethodId) (dn : Addr) : entryFrame m #[(.ref dn)] 1 = mkF m 0 #[.val (.ref dn)] [] := by first | (simp [entryFrame, mkF, argsToLocals, Value.category]; done) | rfl
def QUd (Z : State) (dn : Addr) (up : Addr) (bu : Addr) (sl : Addr) (h0 : Heap) (n0 : Nat) (v : Option Value) (h : Heap) (L : List Loc) : Prop := (v = some (.ref sl) ∧ Fr n0 L ∧ h = h0)
set_option maxRecDepth 65536 in
set_option maxHeartbeats 40000000 in
theorem rmUd (l : Launch) (Z : State) (a0 : Array Value) (hw : ∀ d ∈ tables_1, d.before a0 Z = true) (ws : List Jvm.Cond) (dn : Addr) (up : Addr) (bu : Addr) (sl : Addr) (h0 : Heap) (n0 : Nat) (Z0 : n0 ≤ h0.size) (ne0_dn_up : dn ≠ up) (S0_UP : Sta Z h0 "com/example/lotbook/lotbook/LimitLock" "UP" "Lcom/example/lotbook/lotbook/LimitLock;" (.ref up)) (S0_BUY : Sta Z h0 "com/example/lotbook/lotbook/Side" "BUY" "Lcom/example/lotbook/lotbook/Side;" (.ref bu)) (S0_SELL : Sta Z h0 "com/example/lotbook/lotbook/Side" "SELL" "Lcom/example/lotbook/lotbook/Side;" (.ref sl)) :
    MetFree l (⟨"com/example/lotbook/lotbook/LimitLock", "unfilledSide", "()Lcom/example/lotbook/lotbook/Side;"⟩ : MethodName) (head1 (Jvm.Cond.code (⟨"com/example/lotbook/lotbook/LimitLock", "unfilledSide", "()Lcom/example/lotbook/lotbook/Side;"⟩ : MethodName) prog_36_method_5_code 1 (some (.object "com/example/lotbook/lotbook/Side")) :: ws) ({ frames := 0, cells := 0, slots := 0, locals := 0 } : Room)) (fun aa U => aa = #[(.ref dn)] ∧ Z.Warmed39 U.vm ∧ U.heap = h0) (fun _ _ _ _ _ => True) (fun _ U o U' => ∃ v L, o = .returned v ∧ QUd Z dn up bu sl h0 n0 v U'.heap L ∧ FrameEnd U o U' L ({ frames := 0, cells := 0, slots := 0, locals := 0 } : Room).cells ({ frames := 0, cells := 0, slots := 0, locals := 0 } : Room).slots) := by
  refine MetFree.of_bodySF (plainFor_of_name pnUd) hisR ?_
  intro p e s m args below meth c s₁ Bd hml0 hP hK
  obtain ⟨rfl, hZ, hh⟩ := hP
  have hx := Bd.exec
  have hby := Bd.bytes
  have hml : c.maxLocals = 1 := hml0
  have hown : s.vm.findClass "com/example/lotbook/lotbook/LimitLock" = some m.cls := findClass_of_methodNamed Bd.named
  have hnm := (name_of_methodNamed Bd.named Bd.method).1
  have hlk : meth.locks = false := BodyLoose.notSynchronized Bd
  have hret : meth.sig.returnType = (some (.object "com/example/lotbook/lotbook/Side")) := Bd.returns
  have X0 : Stand p l e ({ frames := 0, cells := 0, slots := 0, locals := 0 } : Room) s m #[(.ref dn)] below meth c s₁ [] 0 0 := Stand.of_body Bd
  have e0 : s₁.heap = h0 := by rw [← hh, Bd.state]; rfl
  have N0 := Fr.nil n0
  show Go p e below s ({ frames := 0, cells := 0, slots := 0, locals := 0 } : Room).cells ({ frames := 0, cells := 0, slots := 0, locals := 0 } : Room).slots (QUd Z dn up bu sl h0 n0) (s₁.setTop (entryFrame m #[(.ref dn)] 1))
  rw [efUd]
  refine Go.by (fun _ kont => XS.aloadN X0.here hx rfl (hb hby dUd_0) rfl rfl kont) ?_
  show Go _ _ _ _ _ _ _ (s₁.setTop (mkF m 1 #[.val (.ref dn)] [(.ref dn)]))
  obtain ⟨T101, X101, e101, st101⟩ := getS2 X0 hx hZ hown (host := "") (Or.inl (hw _ (List.mem_of_getElem? (i := 8) rfl))) Via.refl e0 S0_UP (g := (mkF m 1 #[.val (.ref dn)] [(.ref dn)])) rfl (hb hby dUd_1)
  refine Go.by st101 ?_
  show Go _ _ _ _ _ _ _ (T101.setTop (mkF m 4 #[.val (.ref dn)] [(.ref up), (.ref dn)]))
  refine Go.by (fun _ kont => Jvm.RoadKit.acmp (g := (mkF m 4 #[.val (.ref dn)] [(.ref up), (.ref dn)])) X101 hx rfl rfl rfl (pc0 := 4) (pc' := 13) (same := false) rfl (hb hby dUd_4) rfl (decide_eq_false fun q => ne0_dn_up (Value.ref.inj q)) (by decide) (by decide) kont) ?_
  show Go _ _ _ _ _ _ _ (T101.setTop (mkF m 13 #[.val (.ref dn)] []))
  obtain ⟨T102, X102, e102, st102⟩ := getS2 X101 hx hZ hown (host := "") (Or.inl (hw _ (List.mem_of_getElem? (i := 10) rfl))) Via.refl e101 S0_SELL (g := (mkF m 13 #[.val (.ref dn)] [])) rfl (hb hby dUd_13)
  refine Go.by st102 ?_
  show Go _ _ _ _ _ _ _ (T102.setTop (mkF m 16 #[.val (.ref dn)] [(.ref sl)]))
  refine Go.retR X102 hx hret rfl rfl hlk (hb hby dUd_16) ?_ (by decide) (by decide)
  show QUd Z dn up bu sl h0 n0 (some (.ref sl)) T102.heap _
  rw [e102]
  exact ⟨rfl, N0, rfl⟩

theorem dLc_0 : decode prog_36_method_4_code 0 = .ok (.aload_n 0, 1) := by decide +kernel
theorem dLc_1 : decode prog_36_method_4_code 1 = .ok (.getfield 29, 3) := by decide +kernel
theorem dLc_4 : decode prog_36_method_4_code 4 = .ok (.areturn, 1) := by decide +kernel
theorem pnLc : plainName "com/example/lotbook/lotbook/LimitLock" = true := by first | (simp [plainName, overriddenIn]; done) | decide +kernel
theorem efLc (m : MethodId) (a : Addr) : entryFrame m #[(.ref a)] 1 = mkF m 0 #[.val (.ref a)] [] := by first | (simp [entryFrame, mkF, argsToLocals, Value.category]; done) | rfl
def QLc (Z : State) (a : Addr) (cd : Addr) (h0 : Heap) (n0 : Nat) (v : Option Value) (h : Heap) (L : List Loc) : Prop := (v = some (.ref cd) ∧ Fr n0 L ∧ h = h0)
set_option maxRecDepth 65536 in
set_option maxHeartbeats 40000000 in
theorem rmLc (l : Launch) (Z : State) (a0 : Array Value) (hw : ∀ d ∈ tables_1, d.before a0 Z = true) (ws : List Jvm.Cond) (a : Addr) (cd : Addr) (h0 : Heap) (n0 : Nat) (Z0 : n0 ≤ h0.size) (E0_a : Exa Z h0 a "com/example/lotbook/lotbook/LimitLock") (F0_a_code : Fld Z h0 a "com/example/lotbook/lotbook/LimitLock" "code" "Ljava/lang/String;" (.ref cd)) :
    MetFree l (⟨"com/example/lotbook/lotbook/LimitLock", "code", "()Ljava/lang/String;"⟩ : MethodName) (head1 (Jvm.Cond.code (⟨"com/example/lotbook/lotbook/LimitLock", "code", "()Ljava/lang/String;"⟩ : MethodName) prog_36_method_4_code 1 (some (.object "java/lang/String")) :: ws) ({ frames := 0, cells := 0, slots := 0, locals := 0 } : Room)) (fun aa U => aa = #[(.ref a)] ∧ Z.Warmed39 U.vm ∧ U.heap = h0) (fun _ _ _ _ _ => True) (fun _ U o U' => ∃ v L, o = .returned v ∧ QLc Z a cd h0 n0 v U'.heap L ∧ FrameEnd U o U' L ({ frames := 0, cells := 0, slots := 0, locals := 0 } : Room).cells ({ frames := 0, cells := 0, slots := 0, locals := 0 } : Room).slots) := by
  refine MetFree.of_bodySF (plainFor_of_name pnLc) hisR ?_
  intro p e s m args below meth c s₁ Bd hml0 hP hK
  obtain ⟨rfl, hZ, hh⟩ := hP
  have hx := Bd.exec
  have hby := Bd.bytes
  have hml : c.maxLocals = 1 := hml0
  have hown : s.vm.findClass "com/example/lotbook/lotbook/LimitLock" = some m.cls := findClass_of_methodNamed Bd.named
  have hnm := (name_of_methodNamed Bd.named Bd.method).1
  have hlk : meth.locks = false := BodyLoose.notSynchronized Bd
  have hret : meth.sig.returnType = (some (.object "java/lang/String")) := Bd.returns
  have X0 : Stand p l e ({ frames := 0, cells := 0, slots := 0, locals := 0 } : Room) s m #[(.ref a)] below meth c s₁ [] 0 0 := Stand.of_body Bd
  have e0 : s₁.heap = h0 := by rw [← hh, Bd.state]; rfl
  have N0 := Fr.nil n0
  show Go p e below s ({ frames := 0, cells := 0, slots := 0, locals := 0 } : Room).cells ({ frames := 0, cells := 0, slots := 0, locals := 0 } : Room).slots (QLc Z a cd h0 n0) (s₁.setTop (entryFrame m #[(.ref a)] 1))
  rw [efLc]
  refine Go.by (fun _ kont => XS.aloadN X0.here hx rfl (hb hby dLc_0) rfl rfl kont) ?_
  show Go _ _ _ _ _ _ _ (s₁.setTop (mkF m 1 #[.val (.ref a)] [(.ref a)]))
  obtain ⟨T101, X101, e101, st101⟩ := getF X0 hx hZ hown (host := "") (Or.inl (hw _ (List.mem_of_getElem? (i := 18) rfl))) Via.refl e0 F0_a_code (g := (mkF m 1 #[.val (.ref a)] [(.ref a)])) rfl rfl (hb hby dLc_1)
  refine Go.by st101 ?_
  show Go _ _ _ _ _ _ _ (T101.setTop (mkF m 4 #[.val (.ref a)] [(.ref cd)]))
  refine Go.retR X101 hx hret rfl rfl hlk (hb hby dLc_4) ?_ (by decide) (by decide)
  show QLc Z a cd h0 n0 (some (.ref cd)) T101.heap _
  rw [e101]
  exact ⟨rfl, N0, rfl⟩

theorem dSc_0 : decode prog_69_method_4_code 0 = .ok (.aload_n 0, 1) := by decide +kernel
theorem dSc_1 : decode prog_69_method_4_code 1 = .ok (.getfield 29, 3) := by decide +kernel
theorem dSc_4 : decode prog_69_method_4_code 4 = .ok (.areturn, 1) := by decide +kernel
theorem pnSc : plainName "com/example/lotbook/lotbook/Side" = true := by first | (simp [plainName, overriddenIn]; done) | decide +kernel
theorem efSc (m : MethodId) (a : Addr) : entryFrame m #[(.ref a)] 1 = mkF m 0 #[.val (.ref a)] [] := by first | (simp [entryFrame, mkF, argsToLocals, Value.category]; done) | rfl
def QSc (Z : State) (a : Addr) (cd : Addr) (h0 : Heap) (n0 : Nat) (v : Option Value) (h : Heap) (L : List Loc) : Prop := (v = some (.ref cd) ∧ Fr n0 L ∧ h = h0)
set_option maxRecDepth 65536 in
set_option maxHeartbeats 40000000 in
theorem rmSc (l : Launch) (Z : State) (a0 : Array Value) (hw : ∀ d ∈ tables_1, d.before a0 Z = true) (ws : List Jvm.Cond) (a : Addr) (cd : Addr) (h0 : Heap) (n0 : Nat) (Z0 : n0 ≤ h0.size) (E0_a : Exa Z h0 a "com/example/lotbook/lotbook/Side") (F0_a_code : Fld Z h0 a "com/example/lotbook/lotbook/Side" "code" "Ljava/lang/String;" (.ref cd)) :
    MetFree l (⟨"com/example/lotbook/lotbook/Side", "code", "()Ljava/lang/String;"⟩ : MethodName) (head1 (Jvm.Cond.code (⟨"com/example/lotbook/lotbook/Side", "code", "()Ljava/lang/String;"⟩ : MethodName) prog_69_method_4_code 1 (some (.object "java/lang/String")) :: ws) ({ frames := 0, cells := 0, slots := 0, locals := 0 } : Room)) (fun aa U => aa = #[(.ref a)] ∧ Z.Warmed39 U.vm ∧ U.heap = h0) (fun _ _ _ _ _ => True) (fun _ U o U' => ∃ v L, o = .returned v ∧ QSc Z a cd h0 n0 v U'.heap L ∧ FrameEnd U o U' L ({ frames := 0, cells := 0, slots := 0, locals := 0 } : Room).cells ({ frames := 0, cells := 0, slots := 0, locals := 0 } : Room).slots) := by
  refine MetFree.of_bodySF (plainFor_of_name pnSc) hisR ?_
  intro p e s m args below meth c s₁ Bd hml0 hP hK
  obtain ⟨rfl, hZ, hh⟩ := hP
  have hx := Bd.exec
  have hby := Bd.bytes
  have hml : c.maxLocals = 1 := hml0
  have hown : s.vm.findClass "com/example/lotbook/lotbook/Side" = some m.cls := findClass_of_methodNamed Bd.named
  have hnm := (name_of_methodNamed Bd.named Bd.method).1
  have hlk : meth.locks = false := BodyLoose.notSynchronized Bd
  have hret : meth.sig.returnType = (some (.object "java/lang/String")) := Bd.returns
  have X0 : Stand p l e ({ frames := 0, cells := 0, slots := 0, locals := 0 } : Room) s m #[(.ref a)] below meth c s₁ [] 0 0 := Stand.of_body Bd
  have e0 : s₁.heap = h0 := by rw [← hh, Bd.state]; rfl
  have N0 := Fr.nil n0
  show Go p e below s ({ frames := 0, cells := 0, slots := 0, locals := 0 } : Room).cells ({ frames := 0, cells := 0, slots := 0, locals := 0 } : Room).slots (QSc Z a cd h0 n0) (s₁.setTop (entryFrame m #[(.ref a)] 1))
  rw [efSc]
  refine Go.by (fun _ kont => XS.aloadN X0.here hx rfl (hb hby dSc_0) rfl rfl kont) ?_
  show Go _ _ _ _ _ _ _ (s₁.setTop (mkF m 1 #[.val (.ref a)] [(.ref a)]))
  obtain ⟨T101, X101, e101, st101⟩ := getF X0 hx hZ hown (host := "") (Or.inl (hw _ (List.mem_of_getElem? (i := 49) rfl))) Via.refl e0 F0_a_code (g := (mkF m 1 #[.val (.ref a)] [(.ref a)])) rfl rfl (hb hby dSc_1)
  refine Go.by st101 ?_
  show Go _ _ _ _ _ _ _ (T101.setTop (mkF m 4 #[.val (.ref a)] [(.ref cd)]))
  refine Go.retR X101 hx hret rfl rfl hlk (hb hby dSc_4) ?_ (by decide) (by decide)
  show QSc Z a cd h0 n0 (some (.ref cd)) T101.heap _
  rw [e101]
  exact ⟨rfl, N0, rfl⟩

theorem own_neq {Z : State} {h : Heap} {a b va vb : Addr} {ka kb : ClassId} {x y : Int32} (F : Fld Z h a "java/lang/String" "value" "[B" (.ref va)) (G : Fld Z h b "java/lang/String" "value" "[B" (.ref vb)) (A : Arv Z h va ka .byte 1 [.int x] (.int 0)) (B : Arv Z h vb kb .byte 1 [.int y] (.int 0)) (q : x ≠ y) : a ≠ b := by
  intro e
  subst e
  have e1 : va = vb := by
    obtain ⟨c1, _, _, _, f1, p1, p2, -, -, -, -, p7⟩ := F
    obtain ⟨c2, _, _, _, f2, r1, r2, -, -, -, -, r7⟩ := G
    cases p1.symm.trans r1
    cases p2.symm.trans r2
    exact Value.ref.inj (Option.some.inj (p7.symm.trans r7))
  subst e1
  obtain ⟨c1, ⟨A1, -⟩, -, s1, -, H1, -⟩ := A
  obtain ⟨c2, ⟨B1, -⟩, -, s2, -, H2, -⟩ := B
  cases A1.symm.trans B1
  have hs : 0 < c1.slots.size := by rw [s1]; decide
  have z1 := H1 0 hs
  have z2 := H2 0 hs
  exact q (Value.int.inj (Option.some.inj (z1.symm.trans z2)))

theorem pd0_0 : parseMethodDescriptor "()Lcom/example/lotbook/lotbook/Side;" = some ⟨[], some (.object "com/example/lotbook/lotbook/Side")⟩ := by decide +kernel
theorem pd0_1 : parseMethodDescriptor "()Ljava/lang/String;" = some ⟨[], some (.object "java/lang/String")⟩ := by decide +kernel
theorem pd0_2 : parseMethodDescriptor "(Ljava/lang/Object;)Z" = some ⟨[(.object "java/lang/Object")], some .boolean⟩ := by decide +kernel
theorem pn0 : plainName "com/example/lotbook/lotbook/LimitLockUnfilledSidePinLaw" = true := by first | (simp [plainName, overriddenIn]; done) | decide +kernel
theorem ef0 (m : MethodId) (fl : Int32) : entryFrame m #[(.int fl)] maxLocals = mkF m 0 #[.val (.int fl), .unset, .unset, .unset, .unset, .unset, .unset] [] := by first | (simp [entryFrame, mkF, argsToLocals, Value.category, maxLocals]; done) | rfl
def Q0 (Z : State) (h0 : Heap) (n0 : Nat) (v : Option Value) (h : Heap) (L : List Loc) : Prop := v = some (.int 1) ∧ Fr n0 L
set_option maxRecDepth 65536 in
set_option maxHeartbeats 40000000 in
theorem rm0 (l : Launch) (Z : State) (a0 : Array Value) (hw : ∀ d ∈ tables_1, d.before a0 Z = true) (ws : List Jvm.Cond) (fl : Int32) (s_DOWN : Addr) (s_UP : Addr) (s_SELL : Addr) (s_BUY : Addr) (s_DOWN_code : Addr) (s_SELL_code : Addr) (s_UP_code : Addr) (s_BUY_code : Addr) (s_DOWN_code_value : Addr) (s_SELL_code_value : Addr) (s_UP_code_value : Addr) (s_BUY_code_value : Addr) (kc_s_DOWN_code_value : ClassId) (kc_s_SELL_code_value : ClassId) (kc_s_UP_code_value : ClassId) (kc_s_BUY_code_value : ClassId) (cs : Int32) (h0 : Heap) (n0 : Nat) (Z0 : n0 ≤ h0.size) (S_DOWN : Sta Z h0 "com/example/lotbook/lotbook/LimitLock" "DOWN" "Lcom/example/lotbook/lotbook/LimitLock;" (.ref s_DOWN)) (S_UP : Sta Z h0 "com/example/lotbook/lotbook/LimitLock" "UP" "Lcom/example/lotbook/lotbook/LimitLock;" (.ref s_UP)) (S_SELL : Sta Z h0 "com/example/lotbook/lotbook/Side" "SELL" "Lcom/example/lotbook/lotbook/Side;" (.ref s_SELL)) (S_BUY : Sta Z h0 "com/example/lotbook/lotbook/Side" "BUY" "Lcom/example/lotbook/lotbook/Side;" (.ref s_BUY)) (E_s_DOWN : Exa Z h0 s_DOWN "com/example/lotbook/lotbook/LimitLock") (E_s_UP : Exa Z h0 s_UP "com/example/lotbook/lotbook/LimitLock") (E_s_SELL : Exa Z h0 s_SELL "com/example/lotbook/lotbook/Side") (E_s_DOWN_code : Exa Z h0 s_DOWN_code "java/lang/String") (E_s_SELL_code : Exa Z h0 s_SELL_code "java/lang/String") (E_s_BUY : Exa Z h0 s_BUY "com/example/lotbook/lotbook/Side") (E_s_UP_code : Exa Z h0 s_UP_code "java/lang/String") (E_s_BUY_code : Exa Z h0 s_BUY_code "java/lang/String") (F_s_DOWN_ordinal : Fld Z h0 s_DOWN "java/lang/Enum" "ordinal" "I" (.int (1 : Int32))) (F_s_UP_ordinal : Fld Z h0 s_UP "java/lang/Enum" "ordinal" "I" (.int (0 : Int32))) (F_s_DOWN_code : Fld Z h0 s_DOWN "com/example/lotbook/lotbook/LimitLock" "code" "Ljava/lang/String;" (.ref s_DOWN_code)) (F_s_DOWN_code_coder : Fld Z h0 s_DOWN_code "java/lang/String" "coder" "B" (.int (0 : Int32))) (F_s_DOWN_code_value : Fld Z h0 s_DOWN_code "java/lang/String" "value" "[B" (.ref s_DOWN_code_value)) (F_s_SELL_code : Fld Z h0 s_SELL "com/example/lotbook/lotbook/Side" "code" "Ljava/lang/String;" (.ref s_SELL_code)) (F_s_SELL_code_coder : Fld Z h0 s_SELL_code "java/lang/String" "coder" "B" (.int (0 : Int32))) (F_s_SELL_code_value : Fld Z h0 s_SELL_code "java/lang/String" "value" "[B" (.ref s_SELL_code_value)) (F_s_UP_code : Fld Z h0 s_UP "com/example/lotbook/lotbook/LimitLock" "code" "Ljava/lang/String;" (.ref s_UP_code)) (F_s_UP_code_coder : Fld Z h0 s_UP_code "java/lang/String" "coder" "B" (.int (0 : Int32))) (F_s_UP_code_value : Fld Z h0 s_UP_code "java/lang/String" "value" "[B" (.ref s_UP_code_value)) (F_s_BUY_code : Fld Z h0 s_BUY "com/example/lotbook/lotbook/Side" "code" "Ljava/lang/String;" (.ref s_BUY_code)) (F_s_BUY_code_coder : Fld Z h0 s_BUY_code "java/lang/String" "coder" "B" (.int (0 : Int32))) (F_s_BUY_code_value : Fld Z h0 s_BUY_code "java/lang/String" "value" "[B" (.ref s_BUY_code_value)) (V_s_DOWN_code_value : Arv Z h0 s_DOWN_code_value kc_s_DOWN_code_value .byte (1 : Int32) [(.int (68 : Int32))] (.int (0 : Int32))) (V_s_SELL_code_value : Arv Z h0 s_SELL_code_value kc_s_SELL_code_value .byte (1 : Int32) [(.int (83 : Int32))] (.int (0 : Int32))) (V_s_UP_code_value : Arv Z h0 s_UP_code_value kc_s_UP_code_value .byte (1 : Int32) [(.int (85 : Int32))] (.int (0 : Int32))) (V_s_BUY_code_value : Arv Z h0 s_BUY_code_value kc_s_BUY_code_value .byte (1 : Int32) [(.int (66 : Int32))] (.int (0 : Int32))) (ne_du : s_DOWN ≠ s_UP) (S_cs : Sta Z h0 "java/lang/String" "COMPACT_STRINGS" "Z" (.int cs)) (hcs : ¬ (cs = (0 : Int32))) (hZh : Z.heap = h0) (hnn : n0 = h0.size) (hcw : Jvm.Lit.compactW.before a0 Z = true) (hhU : Jvm.Lit.constHeld Z "com/example/lotbook/lotbook/LimitLockUnfilledSidePinLaw" 24) (hhB : Jvm.Lit.constHeld Z "com/example/lotbook/lotbook/LimitLockUnfilledSidePinLaw" 32) (hhS : Jvm.Lit.constHeld Z "com/example/lotbook/lotbook/LimitLockUnfilledSidePinLaw" 34) :
    MetFree l x (head1 (Jvm.Cond.code x code maxLocals ret :: ws) room_1) (fun aa U => aa = #[(.int fl)] ∧ Z.Warmed39 U.vm ∧ U.heap = h0 ∧ U.vm = Z.vm) (fun _ _ _ _ _ => True) (fun _ U o U' => ∃ v L, o = .returned v ∧ Q0 Z h0 n0 v U'.heap L ∧ ReturnedEndW U o U' L 8 3136) := by
  refine MetFree.of_bodySF (plainFor_of_name pn0) hisR ?_
  intro p e s m args below meth c s₁ Bd hml0 hP hK
  obtain ⟨rfl, hZ, hh, hvm⟩ := hP
  have hx := Bd.exec
  have hby := Bd.bytes
  have hml : c.maxLocals = 7 := hml0
  have hown : s.vm.findClass "com/example/lotbook/lotbook/LimitLockUnfilledSidePinLaw" = some m.cls := findClass_of_methodNamed Bd.named
  have hnm := (name_of_methodNamed Bd.named Bd.method).1
  have hlk : meth.locks = false := BodyLoose.notSynchronized Bd
  have hret : meth.sig.returnType = (some .boolean) := Bd.returns
  have X0 : Stand p l e room_1 (s.setVm s.vm) m #[(.int fl)] below meth c s₁ [] 0 0 := Stand.of_body Bd
  have e0 : s₁.heap = h0 := by rw [← hh, Bd.state]; rfl
  have N0 := Fr.nil n0
  have hS : s.Since s.vm 0 := (State.WarmedH.refl s).since 0
  have hk0 : 0 ≤ h0.size := Nat.zero_le _
  have IB0 : IB Z s.vm [] := by rw [hvm]; exact IB.start
  show GoW p e below s 8 3136 (Q0 Z h0 n0) (s₁.setTop (entryFrame m #[(.int fl)] maxLocals))
  rw [ef0]
  have hstr : ∀ a ∈ Bundle.stringAtoms, a.before a0 Z = true := by
    intro d hd
    simp only [Bundle.stringAtoms, Bundle.sN, List.mem_cons, List.not_mem_nil, or_false] at hd
    rcases hd with rfl | rfl | rfl | rfl | rfl | rfl | rfl
    · exact (hw _ (List.mem_of_getElem? (i := 21) rfl))
    · exact (hw _ (List.mem_of_getElem? (i := 22) rfl))
    · exact (hw _ (List.mem_of_getElem? (i := 23) rfl))
    · exact (hw _ (List.mem_of_getElem? (i := 24) rfl))
    · exact (hw _ (List.mem_of_getElem? (i := 25) rfl))
    · exact (hw _ (List.mem_of_getElem? (i := 26) rfl))
    · exact (hw _ (List.mem_of_getElem? (i := 27) rfl))
  have hkeep : ∀ (b : Addr) (cl : Cell), Z.heap[b]? = some cl → s.heap[b]? = some cl := fun b cl q => by rw [hh, ← hZh]; exact q
  have hn0 : n0 = s.heap.size := by rw [hnn, hh]
  refine GoW.by (fun _ kont => XS.iloadN X0.here hx rfl (hb hby at_0) rfl (XS.iconst X0.here hx rfl (hb hby at_1) (XS.iand X0.here hx rfl (hb hby at_2) rfl kont))) ?_
  show GoW _ _ _ _ _ _ _ (s₁.setTop (mkF m 3 #[.val (.int fl), .unset, .unset, .unset, .unset, .unset, .unset] [(.int (fl &&& (1 : Int32)))]))
  by_cases hc101 : (fl &&& (1 : Int32)) = (0 : Int32)
  · refine GoW.by (fun _ kont => XS.ifYes X0.here hx rfl (pc0 := 3) (pc' := 10) rfl (hb hby at_3) rfl ((if0 _ _).trans (teq hc101).1) (by decide) (by decide) kont) ?_
    show GoW _ _ _ _ _ _ _ (s₁.setTop (mkF m 10 #[.val (.int fl), .unset, .unset, .unset, .unset, .unset, .unset] []))
    refine GoW.by (fun _ kont => XS.iconst X0.here hx rfl (hb hby at_10) (XS.istoreN X0.here hx rfl (hb hby at_11) rfl (l' := #[.val (.int fl), .val (.int (0 : Int32)), .unset, .unset, .unset, .unset, .unset]) rfl (XS.iloadN X0.here hx rfl (hb hby at_12) rfl kont))) ?_
    show GoW _ _ _ _ _ _ _ (s₁.setTop (mkF m 13 #[.val (.int fl), .val (.int (0 : Int32)), .unset, .unset, .unset, .unset, .unset] [(.int (0 : Int32))]))
    refine GoW.by (fun _ kont => XS.ifYes X0.here hx rfl (pc0 := 13) (pc' := 22) rfl (hb hby at_13) rfl (by decide) (by decide) (by decide) kont) ?_
    show GoW _ _ _ _ _ _ _ (s₁.setTop (mkF m 22 #[.val (.int fl), .val (.int (0 : Int32)), .unset, .unset, .unset, .unset, .unset] []))
    obtain ⟨T102, X102, e102, st102⟩ := getS2 X0 hx hZ hown (host := "") (Or.inl (hw _ (List.mem_of_getElem? (i := 0) rfl))) Via.refl e0 S_DOWN (g := (mkF m 22 #[.val (.int fl), .val (.int (0 : Int32)), .unset, .unset, .unset, .unset, .unset] [])) rfl (hb hby at_22)
    refine GoW.by st102 ?_
    show GoW _ _ _ _ _ _ _ (T102.setTop (mkF m 25 #[.val (.int fl), .val (.int (0 : Int32)), .unset, .unset, .unset, .unset, .unset] [(.ref s_DOWN)]))
    refine GoW.by (fun _ kont => XS.astoreN X102.here hx rfl (hb hby at_25) rfl rfl (l' := #[.val (.int fl), .val (.int (0 : Int32)), .val (.ref s_DOWN), .unset, .unset, .unset, .unset]) rfl (XS.aloadN X102.here hx rfl (hb hby at_26) rfl rfl kont)) ?_
    show GoW _ _ _ _ _ _ _ (T102.setTop (mkF m 27 #[.val (.int fl), .val (.int (0 : Int32)), .val (.ref s_DOWN), .unset, .unset, .unset, .unset] [(.ref s_DOWN)]))
    obtain ⟨cq103, kq103, q103a, q103b, q103c⟩ := isOf hZ e102 E_s_DOWN
    obtain ⟨_, _, ⟨T103, L103, k103, n103⟩, -, X103, ⟨Lc103, hQ103, l103, y103, z103⟩, st103⟩ := X102.virtualBack hx (y := (⟨"com/example/lotbook/lotbook/LimitLock", "unfilledSide", "()Lcom/example/lotbook/lotbook/Side;"⟩ : MethodName)) (z := (⟨"com/example/lotbook/lotbook/LimitLock", "unfilledSide", "()Lcom/example/lotbook/lotbook/Side;"⟩ : MethodName)) hown (mvT hZ (hw _ (List.mem_of_getElem? (i := 3) rfl))) (mvT hZ (hw _ (List.mem_of_getElem? (i := 4) rfl))) (notFace_of_selects (args := #[]) (mvT hZ (hw _ (List.mem_of_getElem? (i := 6) rfl)))) (mvT hZ (hw _ (List.mem_of_getElem? (i := 6) rfl))) (mvT hZ (hw _ (List.mem_of_getElem? (i := 5) rfl))) (by decide) (backOf (W := 0) (rmUd l Z a0 hw [] s_DOWN s_UP s_BUY s_SELL h0 n0 Z0 ne_du S_UP S_BUY S_SELL) hZ (hw _ (List.mem_of_getElem? (i := 7) rfl)) (hw _ (List.mem_of_getElem? (i := 1) rfl)) (by decide) (by decide)) q103a q103c (g := (mkF m 27 #[.val (.int fl), .val (.int (0 : Int32)), .val (.ref s_DOWN), .unset, .unset, .unset, .unset] [(.ref s_DOWN)])) rfl (by rw [hml]; rfl) (Steps.refl _) (argsL := []) (rest := []) (lenOf pd0_0 rfl) rfl (by show 2 * 0 + _ ≤ _; exact Nat.le_of_eq rfl) (hb hby at_27) (fun _ _ => ⟨rfl, e102, (by decide : 0 + 0 ≤ _), (by decide : 0 + 0 ≤ _)⟩)
    dsimp only [Pt.U, Pt.locs, Pt.cells, Pt.slots] at X103 l103 y103 z103 st103 hQ103
    subst l103 y103 z103
    obtain ⟨rfl, N103q, eh103⟩ := hQ103
    have N103 := Fr.app N0 N103q
    refine GoW.tr st103 ?_
    show GoW _ _ _ _ _ _ _ (T103.setTop (mkF m 30 #[.val (.int fl), .val (.int (0 : Int32)), .val (.ref s_DOWN), .unset, .unset, .unset, .unset] [(.ref s_SELL)]))
    refine GoW.by (fun _ kont => XS.astoreN X103.here hx rfl (hb hby at_30) rfl rfl (l' := #[.val (.int fl), .val (.int (0 : Int32)), .val (.ref s_DOWN), .val (.ref s_SELL), .unset, .unset, .unset]) rfl (XS.aloadN X103.here hx rfl (hb hby at_31) rfl rfl (XS.ifnonnullYes X103.here hx rfl (pc0 := 32) (pc' := 37) rfl (hb hby at_32) rfl (by decide) (by decide) (XS.aloadN X103.here hx rfl (hb hby at_37) rfl rfl kont)))) ?_
    show GoW _ _ _ _ _ _ _ (T103.setTop (mkF m 38 #[.val (.int fl), .val (.int (0 : Int32)), .val (.ref s_DOWN), .val (.ref s_SELL), .unset, .unset, .unset] [(.ref s_DOWN)]))
    obtain ⟨cq104, kq104, q104a, q104b, q104c⟩ := isOf hZ eh103 E_s_DOWN
    obtain ⟨_, _, ⟨T104, L104, k104, n104⟩, -, X104, ⟨Lc104, hQ104, l104, y104, z104⟩, st104⟩ := X103.virtualBack hx (y := (⟨"com/example/lotbook/lotbook/LimitLock", "code", "()Ljava/lang/String;"⟩ : MethodName)) (z := (⟨"com/example/lotbook/lotbook/LimitLock", "code", "()Ljava/lang/String;"⟩ : MethodName)) hown (mvT hZ (hw _ (List.mem_of_getElem? (i := 13) rfl))) (mvT hZ (hw _ (List.mem_of_getElem? (i := 14) rfl))) (notFace_of_selects (args := #[]) (mvT hZ (hw _ (List.mem_of_getElem? (i := 16) rfl)))) (mvT hZ (hw _ (List.mem_of_getElem? (i := 16) rfl))) (mvT hZ (hw _ (List.mem_of_getElem? (i := 15) rfl))) (by decide) (backOf (W := 0) (rmLc l Z a0 hw [] s_DOWN s_DOWN_code h0 n0 Z0 E_s_DOWN F_s_DOWN_code) hZ (hw _ (List.mem_of_getElem? (i := 17) rfl)) (hw _ (List.mem_of_getElem? (i := 1) rfl)) (by decide) (by decide)) q104a q104c (g := (mkF m 38 #[.val (.int fl), .val (.int (0 : Int32)), .val (.ref s_DOWN), .val (.ref s_SELL), .unset, .unset, .unset] [(.ref s_DOWN)])) rfl (by rw [hml]; rfl) (Steps.refl _) (argsL := []) (rest := []) (lenOf pd0_1 rfl) rfl (by show 2 * 0 + _ ≤ _; exact Nat.le_of_eq rfl) (hb hby at_38) (fun _ _ => ⟨rfl, eh103, (by decide : 0 + 0 ≤ _), (by decide : 0 + 0 ≤ _)⟩)
    dsimp only [Pt.U, Pt.locs, Pt.cells, Pt.slots] at X104 l104 y104 z104 st104 hQ104
    subst l104 y104 z104
    obtain ⟨rfl, N104q, eh104⟩ := hQ104
    have N104 := Fr.app N103 N104q
    refine GoW.tr st104 ?_
    show GoW _ _ _ _ _ _ _ (T104.setTop (mkF m 41 #[.val (.int fl), .val (.int (0 : Int32)), .val (.ref s_DOWN), .val (.ref s_SELL), .unset, .unset, .unset] [(.ref s_DOWN_code)]))
    obtain ⟨s105, T105, h105, k105, b105, kc105, X105, e105, X_105, hS, hk105, hZ, hown, E105, Fc105, Fv105, V105, -, -, IB105, st105⟩ := ldcSV X104 hx hZ hown (hw _ (List.mem_of_getElem? (i := 20) rfl)) hstr eh104 hS hk0 (hn0 ▸ N104) hkeep IB0 (by decide) hhU hcw (vs := [(.int (85 : Int32))]) (z := 1) (by decide) (by decide) rfl (g := (mkF m 41 #[.val (.int fl), .val (.int (0 : Int32)), .val (.ref s_DOWN), .val (.ref s_SELL), .unset, .unset, .unset] [(.ref s_DOWN_code)])) rfl (hb hby at_41) (n := 4) (by decide) (by decide) (by decide) (by decide)
    have F106_ordinal_s_DOWN := F_s_DOWN_ordinal.ext X_105
    have F106_ordinal_s_UP := F_s_UP_ordinal.ext X_105
    have F106_code_s_DOWN := F_s_DOWN_code.ext X_105
    have F106_coder_s_DOWN_code := F_s_DOWN_code_coder.ext X_105
    have F106_value_s_DOWN_code := F_s_DOWN_code_value.ext X_105
    have F106_code_s_SELL := F_s_SELL_code.ext X_105
    have F106_coder_s_SELL_code := F_s_SELL_code_coder.ext X_105
    have F106_value_s_SELL_code := F_s_SELL_code_value.ext X_105
    have F106_code_s_UP := F_s_UP_code.ext X_105
    have F106_coder_s_UP_code := F_s_UP_code_coder.ext X_105
    have F106_value_s_UP_code := F_s_UP_code_value.ext X_105
    have F106_code_s_BUY := F_s_BUY_code.ext X_105
    have F106_coder_s_BUY_code := F_s_BUY_code_coder.ext X_105
    have F106_value_s_BUY_code := F_s_BUY_code_value.ext X_105
    have E106_s_DOWN := E_s_DOWN.ext X_105
    have E106_s_UP := E_s_UP.ext X_105
    have E106_s_SELL := E_s_SELL.ext X_105
    have E106_s_DOWN_code := E_s_DOWN_code.ext X_105
    have E106_s_SELL_code := E_s_SELL_code.ext X_105
    have E106_s_BUY := E_s_BUY.ext X_105
    have E106_s_UP_code := E_s_UP_code.ext X_105
    have E106_s_BUY_code := E_s_BUY_code.ext X_105
    have V106_s_DOWN_code_value := V_s_DOWN_code_value.ext X_105
    have V106_s_SELL_code_value := V_s_SELL_code_value.ext X_105
    have V106_s_UP_code_value := V_s_UP_code_value.ext X_105
    have V106_s_BUY_code_value := V_s_BUY_code_value.ext X_105
    have S106_DOWN := S_DOWN.ext X_105
    have S106_UP := S_UP.ext X_105
    have S106_SELL := S_SELL.ext X_105
    have S106_BUY := S_BUY.ext X_105
    have S106_COMPACT_STRINGS := S_cs.ext X_105
    have Z106 := Nat.le_trans Z0 X_105.1
    have hk106 := Nat.le_trans hk0 X_105.1
    have K106 : Keep h0 h105 [] := (Keep.refl h0 []).ext X_105
    refine GoW.by st105 ?_
    show GoW _ _ _ _ _ _ _ (T105.setTop (mkF m 43 #[.val (.int fl), .val (.int (0 : Int32)), .val (.ref s_DOWN), .val (.ref s_SELL), .unset, .unset, .unset] [(.ref s105), (.ref s_DOWN_code)]))
    have ne_s_DOWN_code_s105 : s_DOWN_code ≠ s105 := own_neq F106_value_s_DOWN_code Fv105 V106_s_DOWN_code_value V105 (by decide)
    obtain ⟨cq107, kq107, q107a, q107b, q107c⟩ := isOf hZ e105 E106_s_DOWN_code
    obtain ⟨_, _, ⟨T107, L107, k107, n107⟩, -, X107, ⟨Lc107, hQ107, l107, y107, z107⟩, st107⟩ := X105.virtualBack hx (y := (⟨"java/lang/String", "equals", "(Ljava/lang/Object;)Z"⟩ : MethodName)) (z := (⟨"java/lang/String", "equals", "(Ljava/lang/Object;)Z"⟩ : MethodName)) hown (mvT hZ (hw _ (List.mem_of_getElem? (i := 28) rfl))) (mvT hZ (hw _ (List.mem_of_getElem? (i := 29) rfl))) (notFace_of_selects (args := #[]) (mvT hZ (hw _ (List.mem_of_getElem? (i := 31) rfl)))) (mvT hZ (hw _ (List.mem_of_getElem? (i := 31) rfl))) (mvT hZ (hw _ (List.mem_of_getElem? (i := 30) rfl))) (by decide) (backOf (W := 0) (rmEne l Z a0 hw [] s_DOWN_code s105 s_DOWN_code_value b105 kc_s_DOWN_code_value (68 : Int32) kc105 (85 : Int32) cs h105 n0 Z106 E106_s_DOWN_code F106_coder_s_DOWN_code F106_value_s_DOWN_code E105 Fc105 Fv105 V106_s_DOWN_code_value V105 ne_s_DOWN_code_s105 S106_COMPACT_STRINGS hcs (by decide)) hZ (hw _ (List.mem_of_getElem? (i := 32) rfl)) (hw _ (List.mem_of_getElem? (i := 21) rfl)) (by decide) (by decide)) q107a q107c (g := (mkF m 43 #[.val (.int fl), .val (.int (0 : Int32)), .val (.ref s_DOWN), .val (.ref s_SELL), .unset, .unset, .unset] [(.ref s105), (.ref s_DOWN_code)])) rfl (by rw [hml]; rfl) (Steps.refl _) (argsL := [(.ref s105)]) (rest := []) (lenOf pd0_2 rfl) rfl (by show 2 * 0 + _ ≤ _; exact Nat.le_of_eq rfl) (hb hby at_43) (fun _ _ => ⟨rfl, e105, (by decide : 2 + 0 ≤ _), (by decide : 8 + 0 ≤ _)⟩)
    dsimp only [Pt.U, Pt.locs, Pt.cells, Pt.slots] at X107 l107 y107 z107 st107 hQ107
    subst l107 y107 z107
    obtain ⟨rfl, N107q, eh107⟩ := hQ107
    have N107 := Fr.app N104 N107q
    refine GoW.tr st107 ?_
    show GoW _ _ _ _ _ _ _ (T107.setTop (mkF m 46 #[.val (.int fl), .val (.int (0 : Int32)), .val (.ref s_DOWN), .val (.ref s_SELL), .unset, .unset, .unset] [(.int (0 : Int32))]))
    refine GoW.by (fun _ kont => XS.istore X107.here hx rfl (hb hby at_46) rfl (l' := #[.val (.int fl), .val (.int (0 : Int32)), .val (.ref s_DOWN), .val (.ref s_SELL), .val (.int (0 : Int32)), .unset, .unset]) rfl (XS.iload X107.here hx rfl (hb hby at_48) rfl kont)) ?_
    show GoW _ _ _ _ _ _ _ (T107.setTop (mkF m 50 #[.val (.int fl), .val (.int (0 : Int32)), .val (.ref s_DOWN), .val (.ref s_SELL), .val (.int (0 : Int32)), .unset, .unset] [(.int (0 : Int32))]))
    refine GoW.by (fun _ kont => XS.ifYes X107.here hx rfl (pc0 := 50) (pc' := 58) rfl (hb hby at_50) rfl (by decide) (by decide) (by decide) kont) ?_
    show GoW _ _ _ _ _ _ _ (T107.setTop (mkF m 58 #[.val (.int fl), .val (.int (0 : Int32)), .val (.ref s_DOWN), .val (.ref s_SELL), .val (.int (0 : Int32)), .unset, .unset] []))
    obtain ⟨s108, T108, h108, k108, b108, kc108, X108, e108, X_108, hS, hk108, hZ, hown, E108, Fc108, Fv108, V108, -, -, IB108, st108⟩ := ldcSV X107 hx hZ hown (hw _ (List.mem_of_getElem? (i := 42) rfl)) hstr eh107 hS hk105 (hn0 ▸ N107) hkeep IB105 (by decide) hhS hcw (vs := [(.int (83 : Int32))]) (z := 1) (by decide) (by decide) rfl (g := (mkF m 58 #[.val (.int fl), .val (.int (0 : Int32)), .val (.ref s_DOWN), .val (.ref s_SELL), .val (.int (0 : Int32)), .unset, .unset] [])) rfl (hb hby at_58) (n := 4) (by decide) (by decide) (by decide) (by decide)
    have F109_ordinal_s_DOWN := F106_ordinal_s_DOWN.ext X_108
    have F109_ordinal_s_UP := F106_ordinal_s_UP.ext X_108
    have F109_code_s_DOWN := F106_code_s_DOWN.ext X_108
    have F109_coder_s_DOWN_code := F106_coder_s_DOWN_code.ext X_108
    have F109_value_s_DOWN_code := F106_value_s_DOWN_code.ext X_108
    have F109_code_s_SELL := F106_code_s_SELL.ext X_108
    have F109_coder_s_SELL_code := F106_coder_s_SELL_code.ext X_108
    have F109_value_s_SELL_code := F106_value_s_SELL_code.ext X_108
    have F109_code_s_UP := F106_code_s_UP.ext X_108
    have F109_coder_s_UP_code := F106_coder_s_UP_code.ext X_108
    have F109_value_s_UP_code := F106_value_s_UP_code.ext X_108
    have F109_code_s_BUY := F106_code_s_BUY.ext X_108
    have F109_coder_s_BUY_code := F106_coder_s_BUY_code.ext X_108
    have F109_value_s_BUY_code := F106_value_s_BUY_code.ext X_108
    have F109_coder_s105 := Fc105.ext X_108
    have F109_value_s105 := Fv105.ext X_108
    have E109_s_DOWN := E106_s_DOWN.ext X_108
    have E109_s_UP := E106_s_UP.ext X_108
    have E109_s_SELL := E106_s_SELL.ext X_108
    have E109_s_DOWN_code := E106_s_DOWN_code.ext X_108
    have E109_s_SELL_code := E106_s_SELL_code.ext X_108
    have E109_s_BUY := E106_s_BUY.ext X_108
    have E109_s_UP_code := E106_s_UP_code.ext X_108
    have E109_s_BUY_code := E106_s_BUY_code.ext X_108
    have E109_s105 := E105.ext X_108
    have V109_s_DOWN_code_value := V106_s_DOWN_code_value.ext X_108
    have V109_s_SELL_code_value := V106_s_SELL_code_value.ext X_108
    have V109_s_UP_code_value := V106_s_UP_code_value.ext X_108
    have V109_s_BUY_code_value := V106_s_BUY_code_value.ext X_108
    have V109_b105 := V105.ext X_108
    have S109_DOWN := S106_DOWN.ext X_108
    have S109_UP := S106_UP.ext X_108
    have S109_SELL := S106_SELL.ext X_108
    have S109_BUY := S106_BUY.ext X_108
    have S109_COMPACT_STRINGS := S106_COMPACT_STRINGS.ext X_108
    have Z109 := Nat.le_trans Z106 X_108.1
    have hk109 := Nat.le_trans hk105 X_108.1
    have K109 : Keep h0 h108 [] := K106.ext X_108
    refine GoW.by st108 ?_
    show GoW _ _ _ _ _ _ _ (T108.setTop (mkF m 60 #[.val (.int fl), .val (.int (0 : Int32)), .val (.ref s_DOWN), .val (.ref s_SELL), .val (.int (0 : Int32)), .unset, .unset] [(.ref s108)]))
    refine GoW.by (fun _ kont => XS.astore X108.here hx rfl (hb hby at_60) rfl rfl (l' := #[.val (.int fl), .val (.int (0 : Int32)), .val (.ref s_DOWN), .val (.ref s_SELL), .val (.int (0 : Int32)), .val (.ref s108), .unset]) rfl (XS.iloadN X108.here hx rfl (hb hby at_62) rfl kont)) ?_
    show GoW _ _ _ _ _ _ _ (T108.setTop (mkF m 63 #[.val (.int fl), .val (.int (0 : Int32)), .val (.ref s_DOWN), .val (.ref s_SELL), .val (.int (0 : Int32)), .val (.ref s108), .unset] [(.int (0 : Int32))]))
    refine GoW.by (fun _ kont => XS.ifYes X108.here hx rfl (pc0 := 63) (pc' := 72) rfl (hb hby at_63) rfl (by decide) (by decide) (by decide) kont) ?_
    show GoW _ _ _ _ _ _ _ (T108.setTop (mkF m 72 #[.val (.int fl), .val (.int (0 : Int32)), .val (.ref s_DOWN), .val (.ref s_SELL), .val (.int (0 : Int32)), .val (.ref s108), .unset] []))
    obtain ⟨T110, X110, e110, st110⟩ := getS2 X108 hx hZ hown (host := "") (Or.inl (hw _ (List.mem_of_getElem? (i := 43) rfl))) Via.refl e108 S109_SELL (g := (mkF m 72 #[.val (.int fl), .val (.int (0 : Int32)), .val (.ref s_DOWN), .val (.ref s_SELL), .val (.int (0 : Int32)), .val (.ref s108), .unset] [])) rfl (hb hby at_72)
    refine GoW.by st110 ?_
    show GoW _ _ _ _ _ _ _ (T110.setTop (mkF m 75 #[.val (.int fl), .val (.int (0 : Int32)), .val (.ref s_DOWN), .val (.ref s_SELL), .val (.int (0 : Int32)), .val (.ref s108), .unset] [(.ref s_SELL)]))
    refine GoW.by (fun _ kont => XS.astore X110.here hx rfl (hb hby at_75) rfl rfl (l' := #[.val (.int fl), .val (.int (0 : Int32)), .val (.ref s_DOWN), .val (.ref s_SELL), .val (.int (0 : Int32)), .val (.ref s108), .val (.ref s_SELL)]) rfl (XS.iload X110.here hx rfl (hb hby at_77) rfl (XS.iloadN X110.here hx rfl (hb hby at_79) rfl kont))) ?_
    show GoW _ _ _ _ _ _ _ (T110.setTop (mkF m 80 #[.val (.int fl), .val (.int (0 : Int32)), .val (.ref s_DOWN), .val (.ref s_SELL), .val (.int (0 : Int32)), .val (.ref s108), .val (.ref s_SELL)] [(.int (0 : Int32)), (.int (0 : Int32))]))
    refine GoW.by (fun _ kont => XS.icmpNo X110.here hx rfl (hb hby at_80) rfl (by decide) kont) ?_
    show GoW _ _ _ _ _ _ _ (T110.setTop (mkF m 83 #[.val (.int fl), .val (.int (0 : Int32)), .val (.ref s_DOWN), .val (.ref s_SELL), .val (.int (0 : Int32)), .val (.ref s108), .val (.ref s_SELL)] []))
    refine GoW.by (fun _ kont => XS.aloadN X110.here hx rfl (hb hby at_83) rfl rfl (XS.aload X110.here hx rfl (hb hby at_84) rfl rfl kont)) ?_
    show GoW _ _ _ _ _ _ _ (T110.setTop (mkF m 86 #[.val (.int fl), .val (.int (0 : Int32)), .val (.ref s_DOWN), .val (.ref s_SELL), .val (.int (0 : Int32)), .val (.ref s108), .val (.ref s_SELL)] [(.ref s_SELL), (.ref s_SELL)]))
    refine GoW.by (fun _ kont => Jvm.RoadKit.acmp (g := (mkF m 86 #[.val (.int fl), .val (.int (0 : Int32)), .val (.ref s_DOWN), .val (.ref s_SELL), .val (.int (0 : Int32)), .val (.ref s108), .val (.ref s_SELL)] [(.ref s_SELL), (.ref s_SELL)])) X110 hx rfl rfl rfl (pc0 := 86) (pc' := 89) (same := true) rfl (hb hby at_86) rfl (decide_eq_true rfl) (by decide) (by decide) kont) ?_
    show GoW _ _ _ _ _ _ _ (T110.setTop (mkF m 89 #[.val (.int fl), .val (.int (0 : Int32)), .val (.ref s_DOWN), .val (.ref s_SELL), .val (.int (0 : Int32)), .val (.ref s108), .val (.ref s_SELL)] []))
    refine GoW.by (fun _ kont => XS.aloadN X110.here hx rfl (hb hby at_89) rfl rfl kont) ?_
    show GoW _ _ _ _ _ _ _ (T110.setTop (mkF m 90 #[.val (.int fl), .val (.int (0 : Int32)), .val (.ref s_DOWN), .val (.ref s_SELL), .val (.int (0 : Int32)), .val (.ref s108), .val (.ref s_SELL)] [(.ref s_SELL)]))
    obtain ⟨cq111, kq111, q111a, q111b, q111c⟩ := isOf hZ e110 E109_s_SELL
    obtain ⟨_, _, ⟨T111, L111, k111, n111⟩, -, X111, ⟨Lc111, hQ111, l111, y111, z111⟩, st111⟩ := X110.virtualBack hx (y := (⟨"com/example/lotbook/lotbook/Side", "code", "()Ljava/lang/String;"⟩ : MethodName)) (z := (⟨"com/example/lotbook/lotbook/Side", "code", "()Ljava/lang/String;"⟩ : MethodName)) hown (mvT hZ (hw _ (List.mem_of_getElem? (i := 44) rfl))) (mvT hZ (hw _ (List.mem_of_getElem? (i := 45) rfl))) (notFace_of_selects (args := #[]) (mvT hZ (hw _ (List.mem_of_getElem? (i := 47) rfl)))) (mvT hZ (hw _ (List.mem_of_getElem? (i := 47) rfl))) (mvT hZ (hw _ (List.mem_of_getElem? (i := 46) rfl))) (by decide) (backOf (W := 0) (rmSc l Z a0 hw [] s_SELL s_SELL_code h108 n0 Z109 E109_s_SELL F109_code_s_SELL) hZ (hw _ (List.mem_of_getElem? (i := 48) rfl)) (hw _ (List.mem_of_getElem? (i := 11) rfl)) (by decide) (by decide)) q111a q111c (g := (mkF m 90 #[.val (.int fl), .val (.int (0 : Int32)), .val (.ref s_DOWN), .val (.ref s_SELL), .val (.int (0 : Int32)), .val (.ref s108), .val (.ref s_SELL)] [(.ref s_SELL)])) rfl (by rw [hml]; rfl) (Steps.refl _) (argsL := []) (rest := []) (lenOf pd0_1 rfl) rfl (by show 2 * 0 + _ ≤ _; exact Nat.le_of_eq rfl) (hb hby at_90) (fun _ _ => ⟨rfl, e110, (by decide : 4 + 0 ≤ _), (by decide : 16 + 0 ≤ _)⟩)
    dsimp only [Pt.U, Pt.locs, Pt.cells, Pt.slots] at X111 l111 y111 z111 st111 hQ111
    subst l111 y111 z111
    obtain ⟨rfl, N111q, eh111⟩ := hQ111
    have N111 := Fr.app N107 N111q
    refine GoW.tr st111 ?_
    show GoW _ _ _ _ _ _ _ (T111.setTop (mkF m 93 #[.val (.int fl), .val (.int (0 : Int32)), .val (.ref s_DOWN), .val (.ref s_SELL), .val (.int (0 : Int32)), .val (.ref s108), .val (.ref s_SELL)] [(.ref s_SELL_code)]))
    refine GoW.by (fun _ kont => XS.aload X111.here hx rfl (hb hby at_93) rfl rfl kont) ?_
    show GoW _ _ _ _ _ _ _ (T111.setTop (mkF m 95 #[.val (.int fl), .val (.int (0 : Int32)), .val (.ref s_DOWN), .val (.ref s_SELL), .val (.int (0 : Int32)), .val (.ref s108), .val (.ref s_SELL)] [(.ref s108), (.ref s_SELL_code)]))
    by_cases hs95 : s_SELL_code = s108
    · rw [show (mkF m 95 #[.val (.int fl), .val (.int (0 : Int32)), .val (.ref s_DOWN), .val (.ref s_SELL), .val (.int (0 : Int32)), .val (.ref s108), .val (.ref s_SELL)] [(.ref s108), (.ref s_SELL_code)]) = (mkF m 95 #[.val (.int fl), .val (.int (0 : Int32)), .val (.ref s_DOWN), .val (.ref s_SELL), .val (.int (0 : Int32)), .val (.ref s108), .val (.ref s_SELL)] [(.ref s_SELL_code), (.ref s_SELL_code)]) from by rw [hs95]]
      show GoW _ _ _ _ _ _ _ (T111.setTop (mkF m 95 #[.val (.int fl), .val (.int (0 : Int32)), .val (.ref s_DOWN), .val (.ref s_SELL), .val (.int (0 : Int32)), .val (.ref s108), .val (.ref s_SELL)] [(.ref s_SELL_code), (.ref s_SELL_code)]))
      obtain ⟨cq112, kq112, q112a, q112b, q112c⟩ := isOf hZ eh111 E109_s_SELL_code
      obtain ⟨_, _, ⟨T112, L112, k112, n112⟩, -, X112, ⟨Lc112, hQ112, l112, y112, z112⟩, st112⟩ := X111.virtualBack hx (y := (⟨"java/lang/String", "equals", "(Ljava/lang/Object;)Z"⟩ : MethodName)) (z := (⟨"java/lang/String", "equals", "(Ljava/lang/Object;)Z"⟩ : MethodName)) hown (mvT hZ (hw _ (List.mem_of_getElem? (i := 28) rfl))) (mvT hZ (hw _ (List.mem_of_getElem? (i := 29) rfl))) (notFace_of_selects (args := #[]) (mvT hZ (hw _ (List.mem_of_getElem? (i := 31) rfl)))) (mvT hZ (hw _ (List.mem_of_getElem? (i := 31) rfl))) (mvT hZ (hw _ (List.mem_of_getElem? (i := 30) rfl))) (by decide) (backOf (W := 0) (rmEsame l Z a0 hw [] s_SELL_code h108 n0 Z109 ) hZ (hw _ (List.mem_of_getElem? (i := 32) rfl)) (hw _ (List.mem_of_getElem? (i := 21) rfl)) (by decide) (by decide)) q112a q112c (g := (mkF m 95 #[.val (.int fl), .val (.int (0 : Int32)), .val (.ref s_DOWN), .val (.ref s_SELL), .val (.int (0 : Int32)), .val (.ref s108), .val (.ref s_SELL)] [(.ref s_SELL_code), (.ref s_SELL_code)])) rfl (by rw [hml]; rfl) (Steps.refl _) (argsL := [(.ref s_SELL_code)]) (rest := []) (lenOf pd0_2 rfl) rfl (by show 2 * 0 + _ ≤ _; exact Nat.le_of_eq rfl) (hb hby at_95) (fun _ _ => ⟨rfl, eh111, (by decide : 4 + 0 ≤ _), (by decide : 16 + 0 ≤ _)⟩)
      dsimp only [Pt.U, Pt.locs, Pt.cells, Pt.slots] at X112 l112 y112 z112 st112 hQ112
      subst l112 y112 z112
      obtain ⟨rfl, N112q, eh112⟩ := hQ112
      have N112 := Fr.app N111 N112q
      refine GoW.tr st112 ?_
      show GoW _ _ _ _ _ _ _ (T112.setTop (mkF m 98 #[.val (.int fl), .val (.int (0 : Int32)), .val (.ref s_DOWN), .val (.ref s_SELL), .val (.int (0 : Int32)), .val (.ref s108), .val (.ref s_SELL)] [(.int (1 : Int32))]))
      refine GoW.by (fun _ kont => XS.ifNo X112.here hx rfl (hb hby at_98) rfl (by decide) kont) ?_
      show GoW _ _ _ _ _ _ _ (T112.setTop (mkF m 101 #[.val (.int fl), .val (.int (0 : Int32)), .val (.ref s_DOWN), .val (.ref s_SELL), .val (.int (0 : Int32)), .val (.ref s108), .val (.ref s_SELL)] []))
      refine GoW.by (fun _ kont => XS.iconst X112.here hx rfl (hb hby at_101) (XS.goto X112.here hx rfl (pc0 := 102) (pc' := 106) rfl (hb hby at_102) (by decide) (by decide) kont)) ?_
      show GoW _ _ _ _ _ _ _ (T112.setTop (mkF m 106 #[.val (.int fl), .val (.int (0 : Int32)), .val (.ref s_DOWN), .val (.ref s_SELL), .val (.int (0 : Int32)), .val (.ref s108), .val (.ref s_SELL)] [(.int (1 : Int32))]))
      refine GoW.retN X112 hS (by rw [eh112]; exact hk108) hx (t := .boolean) hret (by simp) hlk (hb hby at_106) ?_ (by decide) (by decide)
      show Q0 Z h0 n0 (some (.int (1 : Int32))) T112.heap _
      rw [eh112]
      exact ⟨rfl, N112⟩
    · show GoW _ _ _ _ _ _ _ (T111.setTop (mkF m 95 #[.val (.int fl), .val (.int (0 : Int32)), .val (.ref s_DOWN), .val (.ref s_SELL), .val (.int (0 : Int32)), .val (.ref s108), .val (.ref s_SELL)] [(.ref s108), (.ref s_SELL_code)]))
      obtain ⟨cq113, kq113, q113a, q113b, q113c⟩ := isOf hZ eh111 E109_s_SELL_code
      obtain ⟨_, _, ⟨T113, L113, k113, n113⟩, -, X113, ⟨Lc113, hQ113, l113, y113, z113⟩, st113⟩ := X111.virtualBack hx (y := (⟨"java/lang/String", "equals", "(Ljava/lang/Object;)Z"⟩ : MethodName)) (z := (⟨"java/lang/String", "equals", "(Ljava/lang/Object;)Z"⟩ : MethodName)) hown (mvT hZ (hw _ (List.mem_of_getElem? (i := 28) rfl))) (mvT hZ (hw _ (List.mem_of_getElem? (i := 29) rfl))) (notFace_of_selects (args := #[]) (mvT hZ (hw _ (List.mem_of_getElem? (i := 31) rfl)))) (mvT hZ (hw _ (List.mem_of_getElem? (i := 31) rfl))) (mvT hZ (hw _ (List.mem_of_getElem? (i := 30) rfl))) (by decide) (backOf (W := 0) (rmEeq l Z a0 hw [] s_SELL_code s108 s_SELL_code_value b108 kc_s_SELL_code_value (83 : Int32) kc108 cs h108 n0 Z109 E109_s_SELL_code F109_coder_s_SELL_code F109_value_s_SELL_code E108 Fc108 Fv108 V109_s_SELL_code_value V108 hs95 S109_COMPACT_STRINGS hcs) hZ (hw _ (List.mem_of_getElem? (i := 32) rfl)) (hw _ (List.mem_of_getElem? (i := 21) rfl)) (by decide) (by decide)) q113a q113c (g := (mkF m 95 #[.val (.int fl), .val (.int (0 : Int32)), .val (.ref s_DOWN), .val (.ref s_SELL), .val (.int (0 : Int32)), .val (.ref s108), .val (.ref s_SELL)] [(.ref s108), (.ref s_SELL_code)])) rfl (by rw [hml]; rfl) (Steps.refl _) (argsL := [(.ref s108)]) (rest := []) (lenOf pd0_2 rfl) rfl (by show 2 * 0 + _ ≤ _; exact Nat.le_of_eq rfl) (hb hby at_95) (fun _ _ => ⟨rfl, eh111, (by decide : 4 + 0 ≤ _), (by decide : 16 + 0 ≤ _)⟩)
      dsimp only [Pt.U, Pt.locs, Pt.cells, Pt.slots] at X113 l113 y113 z113 st113 hQ113
      subst l113 y113 z113
      obtain ⟨rfl, N113q, eh113⟩ := hQ113
      have N113 := Fr.app N111 N113q
      refine GoW.tr st113 ?_
      show GoW _ _ _ _ _ _ _ (T113.setTop (mkF m 98 #[.val (.int fl), .val (.int (0 : Int32)), .val (.ref s_DOWN), .val (.ref s_SELL), .val (.int (0 : Int32)), .val (.ref s108), .val (.ref s_SELL)] [(.int (1 : Int32))]))
      refine GoW.by (fun _ kont => XS.ifNo X113.here hx rfl (hb hby at_98) rfl (by decide) kont) ?_
      show GoW _ _ _ _ _ _ _ (T113.setTop (mkF m 101 #[.val (.int fl), .val (.int (0 : Int32)), .val (.ref s_DOWN), .val (.ref s_SELL), .val (.int (0 : Int32)), .val (.ref s108), .val (.ref s_SELL)] []))
      refine GoW.by (fun _ kont => XS.iconst X113.here hx rfl (hb hby at_101) (XS.goto X113.here hx rfl (pc0 := 102) (pc' := 106) rfl (hb hby at_102) (by decide) (by decide) kont)) ?_
      show GoW _ _ _ _ _ _ _ (T113.setTop (mkF m 106 #[.val (.int fl), .val (.int (0 : Int32)), .val (.ref s_DOWN), .val (.ref s_SELL), .val (.int (0 : Int32)), .val (.ref s108), .val (.ref s_SELL)] [(.int (1 : Int32))]))
      refine GoW.retN X113 hS (by rw [eh113]; exact hk108) hx (t := .boolean) hret (by simp) hlk (hb hby at_106) ?_ (by decide) (by decide)
      show Q0 Z h0 n0 (some (.int (1 : Int32))) T113.heap _
      rw [eh113]
      exact ⟨rfl, N113⟩
  · refine GoW.by (fun _ kont => XS.ifNo X0.here hx rfl (hb hby at_3) rfl ((if0 _ _).trans (feq hc101).1) kont) ?_
    show GoW _ _ _ _ _ _ _ (s₁.setTop (mkF m 6 #[.val (.int fl), .unset, .unset, .unset, .unset, .unset, .unset] []))
    refine GoW.by (fun _ kont => XS.iconst X0.here hx rfl (hb hby at_6) (XS.goto X0.here hx rfl (pc0 := 7) (pc' := 11) rfl (hb hby at_7) (by decide) (by decide) (XS.istoreN X0.here hx rfl (hb hby at_11) rfl (l' := #[.val (.int fl), .val (.int (1 : Int32)), .unset, .unset, .unset, .unset, .unset]) rfl (XS.iloadN X0.here hx rfl (hb hby at_12) rfl kont)))) ?_
    show GoW _ _ _ _ _ _ _ (s₁.setTop (mkF m 13 #[.val (.int fl), .val (.int (1 : Int32)), .unset, .unset, .unset, .unset, .unset] [(.int (1 : Int32))]))
    refine GoW.by (fun _ kont => XS.ifNo X0.here hx rfl (hb hby at_13) rfl (by decide) kont) ?_
    show GoW _ _ _ _ _ _ _ (s₁.setTop (mkF m 16 #[.val (.int fl), .val (.int (1 : Int32)), .unset, .unset, .unset, .unset, .unset] []))
    obtain ⟨T114, X114, e114, st114⟩ := getS2 X0 hx hZ hown (host := "") (Or.inl (hw _ (List.mem_of_getElem? (i := 51) rfl))) Via.refl e0 S_UP (g := (mkF m 16 #[.val (.int fl), .val (.int (1 : Int32)), .unset, .unset, .unset, .unset, .unset] [])) rfl (hb hby at_16)
    refine GoW.by st114 ?_
    show GoW _ _ _ _ _ _ _ (T114.setTop (mkF m 19 #[.val (.int fl), .val (.int (1 : Int32)), .unset, .unset, .unset, .unset, .unset] [(.ref s_UP)]))
    refine GoW.by (fun _ kont => XS.goto X114.here hx rfl (pc0 := 19) (pc' := 25) rfl (hb hby at_19) (by decide) (by decide) (XS.astoreN X114.here hx rfl (hb hby at_25) rfl rfl (l' := #[.val (.int fl), .val (.int (1 : Int32)), .val (.ref s_UP), .unset, .unset, .unset, .unset]) rfl (XS.aloadN X114.here hx rfl (hb hby at_26) rfl rfl kont))) ?_
    show GoW _ _ _ _ _ _ _ (T114.setTop (mkF m 27 #[.val (.int fl), .val (.int (1 : Int32)), .val (.ref s_UP), .unset, .unset, .unset, .unset] [(.ref s_UP)]))
    obtain ⟨cq115, kq115, q115a, q115b, q115c⟩ := isOf hZ e114 E_s_UP
    obtain ⟨_, _, ⟨T115, L115, k115, n115⟩, -, X115, ⟨Lc115, hQ115, l115, y115, z115⟩, st115⟩ := X114.virtualBack hx (y := (⟨"com/example/lotbook/lotbook/LimitLock", "unfilledSide", "()Lcom/example/lotbook/lotbook/Side;"⟩ : MethodName)) (z := (⟨"com/example/lotbook/lotbook/LimitLock", "unfilledSide", "()Lcom/example/lotbook/lotbook/Side;"⟩ : MethodName)) hown (mvT hZ (hw _ (List.mem_of_getElem? (i := 3) rfl))) (mvT hZ (hw _ (List.mem_of_getElem? (i := 4) rfl))) (notFace_of_selects (args := #[]) (mvT hZ (hw _ (List.mem_of_getElem? (i := 6) rfl)))) (mvT hZ (hw _ (List.mem_of_getElem? (i := 6) rfl))) (mvT hZ (hw _ (List.mem_of_getElem? (i := 5) rfl))) (by decide) (backOf (W := 0) (rmUu l Z a0 hw [] s_UP s_BUY s_SELL h0 n0 Z0 S_UP S_BUY S_SELL) hZ (hw _ (List.mem_of_getElem? (i := 7) rfl)) (hw _ (List.mem_of_getElem? (i := 1) rfl)) (by decide) (by decide)) q115a q115c (g := (mkF m 27 #[.val (.int fl), .val (.int (1 : Int32)), .val (.ref s_UP), .unset, .unset, .unset, .unset] [(.ref s_UP)])) rfl (by rw [hml]; rfl) (Steps.refl _) (argsL := []) (rest := []) (lenOf pd0_0 rfl) rfl (by show 2 * 0 + _ ≤ _; exact Nat.le_of_eq rfl) (hb hby at_27) (fun _ _ => ⟨rfl, e114, (by decide : 0 + 0 ≤ _), (by decide : 0 + 0 ≤ _)⟩)
    dsimp only [Pt.U, Pt.locs, Pt.cells, Pt.slots] at X115 l115 y115 z115 st115 hQ115
    subst l115 y115 z115
    obtain ⟨rfl, N115q, eh115⟩ := hQ115
    have N115 := Fr.app N0 N115q
    refine GoW.tr st115 ?_
    show GoW _ _ _ _ _ _ _ (T115.setTop (mkF m 30 #[.val (.int fl), .val (.int (1 : Int32)), .val (.ref s_UP), .unset, .unset, .unset, .unset] [(.ref s_BUY)]))
    refine GoW.by (fun _ kont => XS.astoreN X115.here hx rfl (hb hby at_30) rfl rfl (l' := #[.val (.int fl), .val (.int (1 : Int32)), .val (.ref s_UP), .val (.ref s_BUY), .unset, .unset, .unset]) rfl (XS.aloadN X115.here hx rfl (hb hby at_31) rfl rfl (XS.ifnonnullYes X115.here hx rfl (pc0 := 32) (pc' := 37) rfl (hb hby at_32) rfl (by decide) (by decide) (XS.aloadN X115.here hx rfl (hb hby at_37) rfl rfl kont)))) ?_
    show GoW _ _ _ _ _ _ _ (T115.setTop (mkF m 38 #[.val (.int fl), .val (.int (1 : Int32)), .val (.ref s_UP), .val (.ref s_BUY), .unset, .unset, .unset] [(.ref s_UP)]))
    obtain ⟨cq116, kq116, q116a, q116b, q116c⟩ := isOf hZ eh115 E_s_UP
    obtain ⟨_, _, ⟨T116, L116, k116, n116⟩, -, X116, ⟨Lc116, hQ116, l116, y116, z116⟩, st116⟩ := X115.virtualBack hx (y := (⟨"com/example/lotbook/lotbook/LimitLock", "code", "()Ljava/lang/String;"⟩ : MethodName)) (z := (⟨"com/example/lotbook/lotbook/LimitLock", "code", "()Ljava/lang/String;"⟩ : MethodName)) hown (mvT hZ (hw _ (List.mem_of_getElem? (i := 13) rfl))) (mvT hZ (hw _ (List.mem_of_getElem? (i := 14) rfl))) (notFace_of_selects (args := #[]) (mvT hZ (hw _ (List.mem_of_getElem? (i := 16) rfl)))) (mvT hZ (hw _ (List.mem_of_getElem? (i := 16) rfl))) (mvT hZ (hw _ (List.mem_of_getElem? (i := 15) rfl))) (by decide) (backOf (W := 0) (rmLc l Z a0 hw [] s_UP s_UP_code h0 n0 Z0 E_s_UP F_s_UP_code) hZ (hw _ (List.mem_of_getElem? (i := 17) rfl)) (hw _ (List.mem_of_getElem? (i := 1) rfl)) (by decide) (by decide)) q116a q116c (g := (mkF m 38 #[.val (.int fl), .val (.int (1 : Int32)), .val (.ref s_UP), .val (.ref s_BUY), .unset, .unset, .unset] [(.ref s_UP)])) rfl (by rw [hml]; rfl) (Steps.refl _) (argsL := []) (rest := []) (lenOf pd0_1 rfl) rfl (by show 2 * 0 + _ ≤ _; exact Nat.le_of_eq rfl) (hb hby at_38) (fun _ _ => ⟨rfl, eh115, (by decide : 0 + 0 ≤ _), (by decide : 0 + 0 ≤ _)⟩)
    dsimp only [Pt.U, Pt.locs, Pt.cells, Pt.slots] at X116 l116 y116 z116 st116 hQ116
    subst l116 y116 z116
    obtain ⟨rfl, N116q, eh116⟩ := hQ116
    have N116 := Fr.app N115 N116q
    refine GoW.tr st116 ?_
    show GoW _ _ _ _ _ _ _ (T116.setTop (mkF m 41 #[.val (.int fl), .val (.int (1 : Int32)), .val (.ref s_UP), .val (.ref s_BUY), .unset, .unset, .unset] [(.ref s_UP_code)]))
    obtain ⟨s117, T117, h117, k117, b117, kc117, X117, e117, X_117, hS, hk117, hZ, hown, E117, Fc117, Fv117, V117, -, -, IB117, st117⟩ := ldcSV X116 hx hZ hown (hw _ (List.mem_of_getElem? (i := 20) rfl)) hstr eh116 hS hk0 (hn0 ▸ N116) hkeep IB0 (by decide) hhU hcw (vs := [(.int (85 : Int32))]) (z := 1) (by decide) (by decide) rfl (g := (mkF m 41 #[.val (.int fl), .val (.int (1 : Int32)), .val (.ref s_UP), .val (.ref s_BUY), .unset, .unset, .unset] [(.ref s_UP_code)])) rfl (hb hby at_41) (n := 4) (by decide) (by decide) (by decide) (by decide)
    have F118_ordinal_s_DOWN := F_s_DOWN_ordinal.ext X_117
    have F118_ordinal_s_UP := F_s_UP_ordinal.ext X_117
    have F118_code_s_DOWN := F_s_DOWN_code.ext X_117
    have F118_coder_s_DOWN_code := F_s_DOWN_code_coder.ext X_117
    have F118_value_s_DOWN_code := F_s_DOWN_code_value.ext X_117
    have F118_code_s_SELL := F_s_SELL_code.ext X_117
    have F118_coder_s_SELL_code := F_s_SELL_code_coder.ext X_117
    have F118_value_s_SELL_code := F_s_SELL_code_value.ext X_117
    have F118_code_s_UP := F_s_UP_code.ext X_117
    have F118_coder_s_UP_code := F_s_UP_code_coder.ext X_117
    have F118_value_s_UP_code := F_s_UP_code_value.ext X_117
    have F118_code_s_BUY := F_s_BUY_code.ext X_117
    have F118_coder_s_BUY_code := F_s_BUY_code_coder.ext X_117
    have F118_value_s_BUY_code := F_s_BUY_code_value.ext X_117
    have E118_s_DOWN := E_s_DOWN.ext X_117
    have E118_s_UP := E_s_UP.ext X_117
    have E118_s_SELL := E_s_SELL.ext X_117
    have E118_s_DOWN_code := E_s_DOWN_code.ext X_117
    have E118_s_SELL_code := E_s_SELL_code.ext X_117
    have E118_s_BUY := E_s_BUY.ext X_117
    have E118_s_UP_code := E_s_UP_code.ext X_117
    have E118_s_BUY_code := E_s_BUY_code.ext X_117
    have V118_s_DOWN_code_value := V_s_DOWN_code_value.ext X_117
    have V118_s_SELL_code_value := V_s_SELL_code_value.ext X_117
    have V118_s_UP_code_value := V_s_UP_code_value.ext X_117
    have V118_s_BUY_code_value := V_s_BUY_code_value.ext X_117
    have S118_DOWN := S_DOWN.ext X_117
    have S118_UP := S_UP.ext X_117
    have S118_SELL := S_SELL.ext X_117
    have S118_BUY := S_BUY.ext X_117
    have S118_COMPACT_STRINGS := S_cs.ext X_117
    have Z118 := Nat.le_trans Z0 X_117.1
    have hk118 := Nat.le_trans hk0 X_117.1
    have K118 : Keep h0 h117 [] := (Keep.refl h0 []).ext X_117
    refine GoW.by st117 ?_
    show GoW _ _ _ _ _ _ _ (T117.setTop (mkF m 43 #[.val (.int fl), .val (.int (1 : Int32)), .val (.ref s_UP), .val (.ref s_BUY), .unset, .unset, .unset] [(.ref s117), (.ref s_UP_code)]))
    by_cases hs43 : s_UP_code = s117
    · rw [show (mkF m 43 #[.val (.int fl), .val (.int (1 : Int32)), .val (.ref s_UP), .val (.ref s_BUY), .unset, .unset, .unset] [(.ref s117), (.ref s_UP_code)]) = (mkF m 43 #[.val (.int fl), .val (.int (1 : Int32)), .val (.ref s_UP), .val (.ref s_BUY), .unset, .unset, .unset] [(.ref s_UP_code), (.ref s_UP_code)]) from by rw [hs43]]
      show GoW _ _ _ _ _ _ _ (T117.setTop (mkF m 43 #[.val (.int fl), .val (.int (1 : Int32)), .val (.ref s_UP), .val (.ref s_BUY), .unset, .unset, .unset] [(.ref s_UP_code), (.ref s_UP_code)]))
      obtain ⟨cq119, kq119, q119a, q119b, q119c⟩ := isOf hZ e117 E118_s_UP_code
      obtain ⟨_, _, ⟨T119, L119, k119, n119⟩, -, X119, ⟨Lc119, hQ119, l119, y119, z119⟩, st119⟩ := X117.virtualBack hx (y := (⟨"java/lang/String", "equals", "(Ljava/lang/Object;)Z"⟩ : MethodName)) (z := (⟨"java/lang/String", "equals", "(Ljava/lang/Object;)Z"⟩ : MethodName)) hown (mvT hZ (hw _ (List.mem_of_getElem? (i := 28) rfl))) (mvT hZ (hw _ (List.mem_of_getElem? (i := 29) rfl))) (notFace_of_selects (args := #[]) (mvT hZ (hw _ (List.mem_of_getElem? (i := 31) rfl)))) (mvT hZ (hw _ (List.mem_of_getElem? (i := 31) rfl))) (mvT hZ (hw _ (List.mem_of_getElem? (i := 30) rfl))) (by decide) (backOf (W := 0) (rmEsame l Z a0 hw [] s_UP_code h117 n0 Z118 ) hZ (hw _ (List.mem_of_getElem? (i := 32) rfl)) (hw _ (List.mem_of_getElem? (i := 21) rfl)) (by decide) (by decide)) q119a q119c (g := (mkF m 43 #[.val (.int fl), .val (.int (1 : Int32)), .val (.ref s_UP), .val (.ref s_BUY), .unset, .unset, .unset] [(.ref s_UP_code), (.ref s_UP_code)])) rfl (by rw [hml]; rfl) (Steps.refl _) (argsL := [(.ref s_UP_code)]) (rest := []) (lenOf pd0_2 rfl) rfl (by show 2 * 0 + _ ≤ _; exact Nat.le_of_eq rfl) (hb hby at_43) (fun _ _ => ⟨rfl, e117, (by decide : 2 + 0 ≤ _), (by decide : 8 + 0 ≤ _)⟩)
      dsimp only [Pt.U, Pt.locs, Pt.cells, Pt.slots] at X119 l119 y119 z119 st119 hQ119
      subst l119 y119 z119
      obtain ⟨rfl, N119q, eh119⟩ := hQ119
      have N119 := Fr.app N116 N119q
      refine GoW.tr st119 ?_
      show GoW _ _ _ _ _ _ _ (T119.setTop (mkF m 46 #[.val (.int fl), .val (.int (1 : Int32)), .val (.ref s_UP), .val (.ref s_BUY), .unset, .unset, .unset] [(.int (1 : Int32))]))
      refine GoW.by (fun _ kont => XS.istore X119.here hx rfl (hb hby at_46) rfl (l' := #[.val (.int fl), .val (.int (1 : Int32)), .val (.ref s_UP), .val (.ref s_BUY), .val (.int (1 : Int32)), .unset, .unset]) rfl (XS.iload X119.here hx rfl (hb hby at_48) rfl kont)) ?_
      show GoW _ _ _ _ _ _ _ (T119.setTop (mkF m 50 #[.val (.int fl), .val (.int (1 : Int32)), .val (.ref s_UP), .val (.ref s_BUY), .val (.int (1 : Int32)), .unset, .unset] [(.int (1 : Int32))]))
      refine GoW.by (fun _ kont => XS.ifNo X119.here hx rfl (hb hby at_50) rfl (by decide) kont) ?_
      show GoW _ _ _ _ _ _ _ (T119.setTop (mkF m 53 #[.val (.int fl), .val (.int (1 : Int32)), .val (.ref s_UP), .val (.ref s_BUY), .val (.int (1 : Int32)), .unset, .unset] []))
      obtain ⟨s120, T120, h120, k120, b120, kc120, X120, e120, X_120, hS, hk120, hZ, hown, E120, Fc120, Fv120, V120, -, -, IB120, st120⟩ := ldcSV X119 hx hZ hown (hw _ (List.mem_of_getElem? (i := 54) rfl)) hstr eh119 hS hk117 (hn0 ▸ N119) hkeep IB117 (by decide) hhB hcw (vs := [(.int (66 : Int32))]) (z := 1) (by decide) (by decide) rfl (g := (mkF m 53 #[.val (.int fl), .val (.int (1 : Int32)), .val (.ref s_UP), .val (.ref s_BUY), .val (.int (1 : Int32)), .unset, .unset] [])) rfl (hb hby at_53) (n := 4) (by decide) (by decide) (by decide) (by decide)
      have F121_ordinal_s_DOWN := F118_ordinal_s_DOWN.ext X_120
      have F121_ordinal_s_UP := F118_ordinal_s_UP.ext X_120
      have F121_code_s_DOWN := F118_code_s_DOWN.ext X_120
      have F121_coder_s_DOWN_code := F118_coder_s_DOWN_code.ext X_120
      have F121_value_s_DOWN_code := F118_value_s_DOWN_code.ext X_120
      have F121_code_s_SELL := F118_code_s_SELL.ext X_120
      have F121_coder_s_SELL_code := F118_coder_s_SELL_code.ext X_120
      have F121_value_s_SELL_code := F118_value_s_SELL_code.ext X_120
      have F121_code_s_UP := F118_code_s_UP.ext X_120
      have F121_coder_s_UP_code := F118_coder_s_UP_code.ext X_120
      have F121_value_s_UP_code := F118_value_s_UP_code.ext X_120
      have F121_code_s_BUY := F118_code_s_BUY.ext X_120
      have F121_coder_s_BUY_code := F118_coder_s_BUY_code.ext X_120
      have F121_value_s_BUY_code := F118_value_s_BUY_code.ext X_120
      have F121_coder_s117 := Fc117.ext X_120
      have F121_value_s117 := Fv117.ext X_120
      have E121_s_DOWN := E118_s_DOWN.ext X_120
      have E121_s_UP := E118_s_UP.ext X_120
      have E121_s_SELL := E118_s_SELL.ext X_120
      have E121_s_DOWN_code := E118_s_DOWN_code.ext X_120
      have E121_s_SELL_code := E118_s_SELL_code.ext X_120
      have E121_s_BUY := E118_s_BUY.ext X_120
      have E121_s_UP_code := E118_s_UP_code.ext X_120
      have E121_s_BUY_code := E118_s_BUY_code.ext X_120
      have E121_s117 := E117.ext X_120
      have V121_s_DOWN_code_value := V118_s_DOWN_code_value.ext X_120
      have V121_s_SELL_code_value := V118_s_SELL_code_value.ext X_120
      have V121_s_UP_code_value := V118_s_UP_code_value.ext X_120
      have V121_s_BUY_code_value := V118_s_BUY_code_value.ext X_120
      have V121_b117 := V117.ext X_120
      have S121_DOWN := S118_DOWN.ext X_120
      have S121_UP := S118_UP.ext X_120
      have S121_SELL := S118_SELL.ext X_120
      have S121_BUY := S118_BUY.ext X_120
      have S121_COMPACT_STRINGS := S118_COMPACT_STRINGS.ext X_120
      have Z121 := Nat.le_trans Z118 X_120.1
      have hk121 := Nat.le_trans hk117 X_120.1
      have K121 : Keep h0 h120 [] := K118.ext X_120
      refine GoW.by st120 ?_
      show GoW _ _ _ _ _ _ _ (T120.setTop (mkF m 55 #[.val (.int fl), .val (.int (1 : Int32)), .val (.ref s_UP), .val (.ref s_BUY), .val (.int (1 : Int32)), .unset, .unset] [(.ref s120)]))
      refine GoW.by (fun _ kont => XS.goto X120.here hx rfl (pc0 := 55) (pc' := 60) rfl (hb hby at_55) (by decide) (by decide) (XS.astore X120.here hx rfl (hb hby at_60) rfl rfl (l' := #[.val (.int fl), .val (.int (1 : Int32)), .val (.ref s_UP), .val (.ref s_BUY), .val (.int (1 : Int32)), .val (.ref s120), .unset]) rfl (XS.iloadN X120.here hx rfl (hb hby at_62) rfl kont))) ?_
      show GoW _ _ _ _ _ _ _ (T120.setTop (mkF m 63 #[.val (.int fl), .val (.int (1 : Int32)), .val (.ref s_UP), .val (.ref s_BUY), .val (.int (1 : Int32)), .val (.ref s120), .unset] [(.int (1 : Int32))]))
      refine GoW.by (fun _ kont => XS.ifNo X120.here hx rfl (hb hby at_63) rfl (by decide) kont) ?_
      show GoW _ _ _ _ _ _ _ (T120.setTop (mkF m 66 #[.val (.int fl), .val (.int (1 : Int32)), .val (.ref s_UP), .val (.ref s_BUY), .val (.int (1 : Int32)), .val (.ref s120), .unset] []))
      obtain ⟨T122, X122, e122, st122⟩ := getS2 X120 hx hZ hown (host := "") (Or.inl (hw _ (List.mem_of_getElem? (i := 55) rfl))) Via.refl e120 S121_BUY (g := (mkF m 66 #[.val (.int fl), .val (.int (1 : Int32)), .val (.ref s_UP), .val (.ref s_BUY), .val (.int (1 : Int32)), .val (.ref s120), .unset] [])) rfl (hb hby at_66)
      refine GoW.by st122 ?_
      show GoW _ _ _ _ _ _ _ (T122.setTop (mkF m 69 #[.val (.int fl), .val (.int (1 : Int32)), .val (.ref s_UP), .val (.ref s_BUY), .val (.int (1 : Int32)), .val (.ref s120), .unset] [(.ref s_BUY)]))
      refine GoW.by (fun _ kont => XS.goto X122.here hx rfl (pc0 := 69) (pc' := 75) rfl (hb hby at_69) (by decide) (by decide) (XS.astore X122.here hx rfl (hb hby at_75) rfl rfl (l' := #[.val (.int fl), .val (.int (1 : Int32)), .val (.ref s_UP), .val (.ref s_BUY), .val (.int (1 : Int32)), .val (.ref s120), .val (.ref s_BUY)]) rfl (XS.iload X122.here hx rfl (hb hby at_77) rfl (XS.iloadN X122.here hx rfl (hb hby at_79) rfl kont)))) ?_
      show GoW _ _ _ _ _ _ _ (T122.setTop (mkF m 80 #[.val (.int fl), .val (.int (1 : Int32)), .val (.ref s_UP), .val (.ref s_BUY), .val (.int (1 : Int32)), .val (.ref s120), .val (.ref s_BUY)] [(.int (1 : Int32)), (.int (1 : Int32))]))
      refine GoW.by (fun _ kont => XS.icmpNo X122.here hx rfl (hb hby at_80) rfl (by decide) kont) ?_
      show GoW _ _ _ _ _ _ _ (T122.setTop (mkF m 83 #[.val (.int fl), .val (.int (1 : Int32)), .val (.ref s_UP), .val (.ref s_BUY), .val (.int (1 : Int32)), .val (.ref s120), .val (.ref s_BUY)] []))
      refine GoW.by (fun _ kont => XS.aloadN X122.here hx rfl (hb hby at_83) rfl rfl (XS.aload X122.here hx rfl (hb hby at_84) rfl rfl kont)) ?_
      show GoW _ _ _ _ _ _ _ (T122.setTop (mkF m 86 #[.val (.int fl), .val (.int (1 : Int32)), .val (.ref s_UP), .val (.ref s_BUY), .val (.int (1 : Int32)), .val (.ref s120), .val (.ref s_BUY)] [(.ref s_BUY), (.ref s_BUY)]))
      refine GoW.by (fun _ kont => Jvm.RoadKit.acmp (g := (mkF m 86 #[.val (.int fl), .val (.int (1 : Int32)), .val (.ref s_UP), .val (.ref s_BUY), .val (.int (1 : Int32)), .val (.ref s120), .val (.ref s_BUY)] [(.ref s_BUY), (.ref s_BUY)])) X122 hx rfl rfl rfl (pc0 := 86) (pc' := 89) (same := true) rfl (hb hby at_86) rfl (decide_eq_true rfl) (by decide) (by decide) kont) ?_
      show GoW _ _ _ _ _ _ _ (T122.setTop (mkF m 89 #[.val (.int fl), .val (.int (1 : Int32)), .val (.ref s_UP), .val (.ref s_BUY), .val (.int (1 : Int32)), .val (.ref s120), .val (.ref s_BUY)] []))
      refine GoW.by (fun _ kont => XS.aloadN X122.here hx rfl (hb hby at_89) rfl rfl kont) ?_
      show GoW _ _ _ _ _ _ _ (T122.setTop (mkF m 90 #[.val (.int fl), .val (.int (1 : Int32)), .val (.ref s_UP), .val (.ref s_BUY), .val (.int (1 : Int32)), .val (.ref s120), .val (.ref s_BUY)] [(.ref s_BUY)]))
      obtain ⟨cq123, kq123, q123a, q123b, q123c⟩ := isOf hZ e122 E121_s_BUY
      obtain ⟨_, _, ⟨T123, L123, k123, n123⟩, -, X123, ⟨Lc123, hQ123, l123, y123, z123⟩, st123⟩ := X122.virtualBack hx (y := (⟨"com/example/lotbook/lotbook/Side", "code", "()Ljava/lang/String;"⟩ : MethodName)) (z := (⟨"com/example/lotbook/lotbook/Side", "code", "()Ljava/lang/String;"⟩ : MethodName)) hown (mvT hZ (hw _ (List.mem_of_getElem? (i := 44) rfl))) (mvT hZ (hw _ (List.mem_of_getElem? (i := 45) rfl))) (notFace_of_selects (args := #[]) (mvT hZ (hw _ (List.mem_of_getElem? (i := 47) rfl)))) (mvT hZ (hw _ (List.mem_of_getElem? (i := 47) rfl))) (mvT hZ (hw _ (List.mem_of_getElem? (i := 46) rfl))) (by decide) (backOf (W := 0) (rmSc l Z a0 hw [] s_BUY s_BUY_code h120 n0 Z121 E121_s_BUY F121_code_s_BUY) hZ (hw _ (List.mem_of_getElem? (i := 48) rfl)) (hw _ (List.mem_of_getElem? (i := 11) rfl)) (by decide) (by decide)) q123a q123c (g := (mkF m 90 #[.val (.int fl), .val (.int (1 : Int32)), .val (.ref s_UP), .val (.ref s_BUY), .val (.int (1 : Int32)), .val (.ref s120), .val (.ref s_BUY)] [(.ref s_BUY)])) rfl (by rw [hml]; rfl) (Steps.refl _) (argsL := []) (rest := []) (lenOf pd0_1 rfl) rfl (by show 2 * 0 + _ ≤ _; exact Nat.le_of_eq rfl) (hb hby at_90) (fun _ _ => ⟨rfl, e122, (by decide : 4 + 0 ≤ _), (by decide : 16 + 0 ≤ _)⟩)
      dsimp only [Pt.U, Pt.locs, Pt.cells, Pt.slots] at X123 l123 y123 z123 st123 hQ123
      subst l123 y123 z123
      obtain ⟨rfl, N123q, eh123⟩ := hQ123
      have N123 := Fr.app N119 N123q
      refine GoW.tr st123 ?_
      show GoW _ _ _ _ _ _ _ (T123.setTop (mkF m 93 #[.val (.int fl), .val (.int (1 : Int32)), .val (.ref s_UP), .val (.ref s_BUY), .val (.int (1 : Int32)), .val (.ref s120), .val (.ref s_BUY)] [(.ref s_BUY_code)]))
      refine GoW.by (fun _ kont => XS.aload X123.here hx rfl (hb hby at_93) rfl rfl kont) ?_
      show GoW _ _ _ _ _ _ _ (T123.setTop (mkF m 95 #[.val (.int fl), .val (.int (1 : Int32)), .val (.ref s_UP), .val (.ref s_BUY), .val (.int (1 : Int32)), .val (.ref s120), .val (.ref s_BUY)] [(.ref s120), (.ref s_BUY_code)]))
      by_cases hs95 : s_BUY_code = s120
      · rw [show (mkF m 95 #[.val (.int fl), .val (.int (1 : Int32)), .val (.ref s_UP), .val (.ref s_BUY), .val (.int (1 : Int32)), .val (.ref s120), .val (.ref s_BUY)] [(.ref s120), (.ref s_BUY_code)]) = (mkF m 95 #[.val (.int fl), .val (.int (1 : Int32)), .val (.ref s_UP), .val (.ref s_BUY), .val (.int (1 : Int32)), .val (.ref s120), .val (.ref s_BUY)] [(.ref s_BUY_code), (.ref s_BUY_code)]) from by rw [hs95]]
        show GoW _ _ _ _ _ _ _ (T123.setTop (mkF m 95 #[.val (.int fl), .val (.int (1 : Int32)), .val (.ref s_UP), .val (.ref s_BUY), .val (.int (1 : Int32)), .val (.ref s120), .val (.ref s_BUY)] [(.ref s_BUY_code), (.ref s_BUY_code)]))
        obtain ⟨cq124, kq124, q124a, q124b, q124c⟩ := isOf hZ eh123 E121_s_BUY_code
        obtain ⟨_, _, ⟨T124, L124, k124, n124⟩, -, X124, ⟨Lc124, hQ124, l124, y124, z124⟩, st124⟩ := X123.virtualBack hx (y := (⟨"java/lang/String", "equals", "(Ljava/lang/Object;)Z"⟩ : MethodName)) (z := (⟨"java/lang/String", "equals", "(Ljava/lang/Object;)Z"⟩ : MethodName)) hown (mvT hZ (hw _ (List.mem_of_getElem? (i := 28) rfl))) (mvT hZ (hw _ (List.mem_of_getElem? (i := 29) rfl))) (notFace_of_selects (args := #[]) (mvT hZ (hw _ (List.mem_of_getElem? (i := 31) rfl)))) (mvT hZ (hw _ (List.mem_of_getElem? (i := 31) rfl))) (mvT hZ (hw _ (List.mem_of_getElem? (i := 30) rfl))) (by decide) (backOf (W := 0) (rmEsame l Z a0 hw [] s_BUY_code h120 n0 Z121 ) hZ (hw _ (List.mem_of_getElem? (i := 32) rfl)) (hw _ (List.mem_of_getElem? (i := 21) rfl)) (by decide) (by decide)) q124a q124c (g := (mkF m 95 #[.val (.int fl), .val (.int (1 : Int32)), .val (.ref s_UP), .val (.ref s_BUY), .val (.int (1 : Int32)), .val (.ref s120), .val (.ref s_BUY)] [(.ref s_BUY_code), (.ref s_BUY_code)])) rfl (by rw [hml]; rfl) (Steps.refl _) (argsL := [(.ref s_BUY_code)]) (rest := []) (lenOf pd0_2 rfl) rfl (by show 2 * 0 + _ ≤ _; exact Nat.le_of_eq rfl) (hb hby at_95) (fun _ _ => ⟨rfl, eh123, (by decide : 4 + 0 ≤ _), (by decide : 16 + 0 ≤ _)⟩)
        dsimp only [Pt.U, Pt.locs, Pt.cells, Pt.slots] at X124 l124 y124 z124 st124 hQ124
        subst l124 y124 z124
        obtain ⟨rfl, N124q, eh124⟩ := hQ124
        have N124 := Fr.app N123 N124q
        refine GoW.tr st124 ?_
        show GoW _ _ _ _ _ _ _ (T124.setTop (mkF m 98 #[.val (.int fl), .val (.int (1 : Int32)), .val (.ref s_UP), .val (.ref s_BUY), .val (.int (1 : Int32)), .val (.ref s120), .val (.ref s_BUY)] [(.int (1 : Int32))]))
        refine GoW.by (fun _ kont => XS.ifNo X124.here hx rfl (hb hby at_98) rfl (by decide) kont) ?_
        show GoW _ _ _ _ _ _ _ (T124.setTop (mkF m 101 #[.val (.int fl), .val (.int (1 : Int32)), .val (.ref s_UP), .val (.ref s_BUY), .val (.int (1 : Int32)), .val (.ref s120), .val (.ref s_BUY)] []))
        refine GoW.by (fun _ kont => XS.iconst X124.here hx rfl (hb hby at_101) (XS.goto X124.here hx rfl (pc0 := 102) (pc' := 106) rfl (hb hby at_102) (by decide) (by decide) kont)) ?_
        show GoW _ _ _ _ _ _ _ (T124.setTop (mkF m 106 #[.val (.int fl), .val (.int (1 : Int32)), .val (.ref s_UP), .val (.ref s_BUY), .val (.int (1 : Int32)), .val (.ref s120), .val (.ref s_BUY)] [(.int (1 : Int32))]))
        refine GoW.retN X124 hS (by rw [eh124]; exact hk120) hx (t := .boolean) hret (by simp) hlk (hb hby at_106) ?_ (by decide) (by decide)
        show Q0 Z h0 n0 (some (.int (1 : Int32))) T124.heap _
        rw [eh124]
        exact ⟨rfl, N124⟩
      · show GoW _ _ _ _ _ _ _ (T123.setTop (mkF m 95 #[.val (.int fl), .val (.int (1 : Int32)), .val (.ref s_UP), .val (.ref s_BUY), .val (.int (1 : Int32)), .val (.ref s120), .val (.ref s_BUY)] [(.ref s120), (.ref s_BUY_code)]))
        obtain ⟨cq125, kq125, q125a, q125b, q125c⟩ := isOf hZ eh123 E121_s_BUY_code
        obtain ⟨_, _, ⟨T125, L125, k125, n125⟩, -, X125, ⟨Lc125, hQ125, l125, y125, z125⟩, st125⟩ := X123.virtualBack hx (y := (⟨"java/lang/String", "equals", "(Ljava/lang/Object;)Z"⟩ : MethodName)) (z := (⟨"java/lang/String", "equals", "(Ljava/lang/Object;)Z"⟩ : MethodName)) hown (mvT hZ (hw _ (List.mem_of_getElem? (i := 28) rfl))) (mvT hZ (hw _ (List.mem_of_getElem? (i := 29) rfl))) (notFace_of_selects (args := #[]) (mvT hZ (hw _ (List.mem_of_getElem? (i := 31) rfl)))) (mvT hZ (hw _ (List.mem_of_getElem? (i := 31) rfl))) (mvT hZ (hw _ (List.mem_of_getElem? (i := 30) rfl))) (by decide) (backOf (W := 0) (rmEeq l Z a0 hw [] s_BUY_code s120 s_BUY_code_value b120 kc_s_BUY_code_value (66 : Int32) kc120 cs h120 n0 Z121 E121_s_BUY_code F121_coder_s_BUY_code F121_value_s_BUY_code E120 Fc120 Fv120 V121_s_BUY_code_value V120 hs95 S121_COMPACT_STRINGS hcs) hZ (hw _ (List.mem_of_getElem? (i := 32) rfl)) (hw _ (List.mem_of_getElem? (i := 21) rfl)) (by decide) (by decide)) q125a q125c (g := (mkF m 95 #[.val (.int fl), .val (.int (1 : Int32)), .val (.ref s_UP), .val (.ref s_BUY), .val (.int (1 : Int32)), .val (.ref s120), .val (.ref s_BUY)] [(.ref s120), (.ref s_BUY_code)])) rfl (by rw [hml]; rfl) (Steps.refl _) (argsL := [(.ref s120)]) (rest := []) (lenOf pd0_2 rfl) rfl (by show 2 * 0 + _ ≤ _; exact Nat.le_of_eq rfl) (hb hby at_95) (fun _ _ => ⟨rfl, eh123, (by decide : 4 + 0 ≤ _), (by decide : 16 + 0 ≤ _)⟩)
        dsimp only [Pt.U, Pt.locs, Pt.cells, Pt.slots] at X125 l125 y125 z125 st125 hQ125
        subst l125 y125 z125
        obtain ⟨rfl, N125q, eh125⟩ := hQ125
        have N125 := Fr.app N123 N125q
        refine GoW.tr st125 ?_
        show GoW _ _ _ _ _ _ _ (T125.setTop (mkF m 98 #[.val (.int fl), .val (.int (1 : Int32)), .val (.ref s_UP), .val (.ref s_BUY), .val (.int (1 : Int32)), .val (.ref s120), .val (.ref s_BUY)] [(.int (1 : Int32))]))
        refine GoW.by (fun _ kont => XS.ifNo X125.here hx rfl (hb hby at_98) rfl (by decide) kont) ?_
        show GoW _ _ _ _ _ _ _ (T125.setTop (mkF m 101 #[.val (.int fl), .val (.int (1 : Int32)), .val (.ref s_UP), .val (.ref s_BUY), .val (.int (1 : Int32)), .val (.ref s120), .val (.ref s_BUY)] []))
        refine GoW.by (fun _ kont => XS.iconst X125.here hx rfl (hb hby at_101) (XS.goto X125.here hx rfl (pc0 := 102) (pc' := 106) rfl (hb hby at_102) (by decide) (by decide) kont)) ?_
        show GoW _ _ _ _ _ _ _ (T125.setTop (mkF m 106 #[.val (.int fl), .val (.int (1 : Int32)), .val (.ref s_UP), .val (.ref s_BUY), .val (.int (1 : Int32)), .val (.ref s120), .val (.ref s_BUY)] [(.int (1 : Int32))]))
        refine GoW.retN X125 hS (by rw [eh125]; exact hk120) hx (t := .boolean) hret (by simp) hlk (hb hby at_106) ?_ (by decide) (by decide)
        show Q0 Z h0 n0 (some (.int (1 : Int32))) T125.heap _
        rw [eh125]
        exact ⟨rfl, N125⟩
    · show GoW _ _ _ _ _ _ _ (T117.setTop (mkF m 43 #[.val (.int fl), .val (.int (1 : Int32)), .val (.ref s_UP), .val (.ref s_BUY), .unset, .unset, .unset] [(.ref s117), (.ref s_UP_code)]))
      obtain ⟨cq126, kq126, q126a, q126b, q126c⟩ := isOf hZ e117 E118_s_UP_code
      obtain ⟨_, _, ⟨T126, L126, k126, n126⟩, -, X126, ⟨Lc126, hQ126, l126, y126, z126⟩, st126⟩ := X117.virtualBack hx (y := (⟨"java/lang/String", "equals", "(Ljava/lang/Object;)Z"⟩ : MethodName)) (z := (⟨"java/lang/String", "equals", "(Ljava/lang/Object;)Z"⟩ : MethodName)) hown (mvT hZ (hw _ (List.mem_of_getElem? (i := 28) rfl))) (mvT hZ (hw _ (List.mem_of_getElem? (i := 29) rfl))) (notFace_of_selects (args := #[]) (mvT hZ (hw _ (List.mem_of_getElem? (i := 31) rfl)))) (mvT hZ (hw _ (List.mem_of_getElem? (i := 31) rfl))) (mvT hZ (hw _ (List.mem_of_getElem? (i := 30) rfl))) (by decide) (backOf (W := 0) (rmEeq l Z a0 hw [] s_UP_code s117 s_UP_code_value b117 kc_s_UP_code_value (85 : Int32) kc117 cs h117 n0 Z118 E118_s_UP_code F118_coder_s_UP_code F118_value_s_UP_code E117 Fc117 Fv117 V118_s_UP_code_value V117 hs43 S118_COMPACT_STRINGS hcs) hZ (hw _ (List.mem_of_getElem? (i := 32) rfl)) (hw _ (List.mem_of_getElem? (i := 21) rfl)) (by decide) (by decide)) q126a q126c (g := (mkF m 43 #[.val (.int fl), .val (.int (1 : Int32)), .val (.ref s_UP), .val (.ref s_BUY), .unset, .unset, .unset] [(.ref s117), (.ref s_UP_code)])) rfl (by rw [hml]; rfl) (Steps.refl _) (argsL := [(.ref s117)]) (rest := []) (lenOf pd0_2 rfl) rfl (by show 2 * 0 + _ ≤ _; exact Nat.le_of_eq rfl) (hb hby at_43) (fun _ _ => ⟨rfl, e117, (by decide : 2 + 0 ≤ _), (by decide : 8 + 0 ≤ _)⟩)
      dsimp only [Pt.U, Pt.locs, Pt.cells, Pt.slots] at X126 l126 y126 z126 st126 hQ126
      subst l126 y126 z126
      obtain ⟨rfl, N126q, eh126⟩ := hQ126
      have N126 := Fr.app N116 N126q
      refine GoW.tr st126 ?_
      show GoW _ _ _ _ _ _ _ (T126.setTop (mkF m 46 #[.val (.int fl), .val (.int (1 : Int32)), .val (.ref s_UP), .val (.ref s_BUY), .unset, .unset, .unset] [(.int (1 : Int32))]))
      refine GoW.by (fun _ kont => XS.istore X126.here hx rfl (hb hby at_46) rfl (l' := #[.val (.int fl), .val (.int (1 : Int32)), .val (.ref s_UP), .val (.ref s_BUY), .val (.int (1 : Int32)), .unset, .unset]) rfl (XS.iload X126.here hx rfl (hb hby at_48) rfl kont)) ?_
      show GoW _ _ _ _ _ _ _ (T126.setTop (mkF m 50 #[.val (.int fl), .val (.int (1 : Int32)), .val (.ref s_UP), .val (.ref s_BUY), .val (.int (1 : Int32)), .unset, .unset] [(.int (1 : Int32))]))
      refine GoW.by (fun _ kont => XS.ifNo X126.here hx rfl (hb hby at_50) rfl (by decide) kont) ?_
      show GoW _ _ _ _ _ _ _ (T126.setTop (mkF m 53 #[.val (.int fl), .val (.int (1 : Int32)), .val (.ref s_UP), .val (.ref s_BUY), .val (.int (1 : Int32)), .unset, .unset] []))
      obtain ⟨s127, T127, h127, k127, b127, kc127, X127, e127, X_127, hS, hk127, hZ, hown, E127, Fc127, Fv127, V127, -, -, IB127, st127⟩ := ldcSV X126 hx hZ hown (hw _ (List.mem_of_getElem? (i := 54) rfl)) hstr eh126 hS hk117 (hn0 ▸ N126) hkeep IB117 (by decide) hhB hcw (vs := [(.int (66 : Int32))]) (z := 1) (by decide) (by decide) rfl (g := (mkF m 53 #[.val (.int fl), .val (.int (1 : Int32)), .val (.ref s_UP), .val (.ref s_BUY), .val (.int (1 : Int32)), .unset, .unset] [])) rfl (hb hby at_53) (n := 4) (by decide) (by decide) (by decide) (by decide)
      have F128_ordinal_s_DOWN := F118_ordinal_s_DOWN.ext X_127
      have F128_ordinal_s_UP := F118_ordinal_s_UP.ext X_127
      have F128_code_s_DOWN := F118_code_s_DOWN.ext X_127
      have F128_coder_s_DOWN_code := F118_coder_s_DOWN_code.ext X_127
      have F128_value_s_DOWN_code := F118_value_s_DOWN_code.ext X_127
      have F128_code_s_SELL := F118_code_s_SELL.ext X_127
      have F128_coder_s_SELL_code := F118_coder_s_SELL_code.ext X_127
      have F128_value_s_SELL_code := F118_value_s_SELL_code.ext X_127
      have F128_code_s_UP := F118_code_s_UP.ext X_127
      have F128_coder_s_UP_code := F118_coder_s_UP_code.ext X_127
      have F128_value_s_UP_code := F118_value_s_UP_code.ext X_127
      have F128_code_s_BUY := F118_code_s_BUY.ext X_127
      have F128_coder_s_BUY_code := F118_coder_s_BUY_code.ext X_127
      have F128_value_s_BUY_code := F118_value_s_BUY_code.ext X_127
      have F128_coder_s117 := Fc117.ext X_127
      have F128_value_s117 := Fv117.ext X_127
      have E128_s_DOWN := E118_s_DOWN.ext X_127
      have E128_s_UP := E118_s_UP.ext X_127
      have E128_s_SELL := E118_s_SELL.ext X_127
      have E128_s_DOWN_code := E118_s_DOWN_code.ext X_127
      have E128_s_SELL_code := E118_s_SELL_code.ext X_127
      have E128_s_BUY := E118_s_BUY.ext X_127
      have E128_s_UP_code := E118_s_UP_code.ext X_127
      have E128_s_BUY_code := E118_s_BUY_code.ext X_127
      have E128_s117 := E117.ext X_127
      have V128_s_DOWN_code_value := V118_s_DOWN_code_value.ext X_127
      have V128_s_SELL_code_value := V118_s_SELL_code_value.ext X_127
      have V128_s_UP_code_value := V118_s_UP_code_value.ext X_127
      have V128_s_BUY_code_value := V118_s_BUY_code_value.ext X_127
      have V128_b117 := V117.ext X_127
      have S128_DOWN := S118_DOWN.ext X_127
      have S128_UP := S118_UP.ext X_127
      have S128_SELL := S118_SELL.ext X_127
      have S128_BUY := S118_BUY.ext X_127
      have S128_COMPACT_STRINGS := S118_COMPACT_STRINGS.ext X_127
      have Z128 := Nat.le_trans Z118 X_127.1
      have hk128 := Nat.le_trans hk117 X_127.1
      have K128 : Keep h0 h127 [] := K118.ext X_127
      refine GoW.by st127 ?_
      show GoW _ _ _ _ _ _ _ (T127.setTop (mkF m 55 #[.val (.int fl), .val (.int (1 : Int32)), .val (.ref s_UP), .val (.ref s_BUY), .val (.int (1 : Int32)), .unset, .unset] [(.ref s127)]))
      refine GoW.by (fun _ kont => XS.goto X127.here hx rfl (pc0 := 55) (pc' := 60) rfl (hb hby at_55) (by decide) (by decide) (XS.astore X127.here hx rfl (hb hby at_60) rfl rfl (l' := #[.val (.int fl), .val (.int (1 : Int32)), .val (.ref s_UP), .val (.ref s_BUY), .val (.int (1 : Int32)), .val (.ref s127), .unset]) rfl (XS.iloadN X127.here hx rfl (hb hby at_62) rfl kont))) ?_
      show GoW _ _ _ _ _ _ _ (T127.setTop (mkF m 63 #[.val (.int fl), .val (.int (1 : Int32)), .val (.ref s_UP), .val (.ref s_BUY), .val (.int (1 : Int32)), .val (.ref s127), .unset] [(.int (1 : Int32))]))
      refine GoW.by (fun _ kont => XS.ifNo X127.here hx rfl (hb hby at_63) rfl (by decide) kont) ?_
      show GoW _ _ _ _ _ _ _ (T127.setTop (mkF m 66 #[.val (.int fl), .val (.int (1 : Int32)), .val (.ref s_UP), .val (.ref s_BUY), .val (.int (1 : Int32)), .val (.ref s127), .unset] []))
      obtain ⟨T129, X129, e129, st129⟩ := getS2 X127 hx hZ hown (host := "") (Or.inl (hw _ (List.mem_of_getElem? (i := 55) rfl))) Via.refl e127 S128_BUY (g := (mkF m 66 #[.val (.int fl), .val (.int (1 : Int32)), .val (.ref s_UP), .val (.ref s_BUY), .val (.int (1 : Int32)), .val (.ref s127), .unset] [])) rfl (hb hby at_66)
      refine GoW.by st129 ?_
      show GoW _ _ _ _ _ _ _ (T129.setTop (mkF m 69 #[.val (.int fl), .val (.int (1 : Int32)), .val (.ref s_UP), .val (.ref s_BUY), .val (.int (1 : Int32)), .val (.ref s127), .unset] [(.ref s_BUY)]))
      refine GoW.by (fun _ kont => XS.goto X129.here hx rfl (pc0 := 69) (pc' := 75) rfl (hb hby at_69) (by decide) (by decide) (XS.astore X129.here hx rfl (hb hby at_75) rfl rfl (l' := #[.val (.int fl), .val (.int (1 : Int32)), .val (.ref s_UP), .val (.ref s_BUY), .val (.int (1 : Int32)), .val (.ref s127), .val (.ref s_BUY)]) rfl (XS.iload X129.here hx rfl (hb hby at_77) rfl (XS.iloadN X129.here hx rfl (hb hby at_79) rfl kont)))) ?_
      show GoW _ _ _ _ _ _ _ (T129.setTop (mkF m 80 #[.val (.int fl), .val (.int (1 : Int32)), .val (.ref s_UP), .val (.ref s_BUY), .val (.int (1 : Int32)), .val (.ref s127), .val (.ref s_BUY)] [(.int (1 : Int32)), (.int (1 : Int32))]))
      refine GoW.by (fun _ kont => XS.icmpNo X129.here hx rfl (hb hby at_80) rfl (by decide) kont) ?_
      show GoW _ _ _ _ _ _ _ (T129.setTop (mkF m 83 #[.val (.int fl), .val (.int (1 : Int32)), .val (.ref s_UP), .val (.ref s_BUY), .val (.int (1 : Int32)), .val (.ref s127), .val (.ref s_BUY)] []))
      refine GoW.by (fun _ kont => XS.aloadN X129.here hx rfl (hb hby at_83) rfl rfl (XS.aload X129.here hx rfl (hb hby at_84) rfl rfl kont)) ?_
      show GoW _ _ _ _ _ _ _ (T129.setTop (mkF m 86 #[.val (.int fl), .val (.int (1 : Int32)), .val (.ref s_UP), .val (.ref s_BUY), .val (.int (1 : Int32)), .val (.ref s127), .val (.ref s_BUY)] [(.ref s_BUY), (.ref s_BUY)]))
      refine GoW.by (fun _ kont => Jvm.RoadKit.acmp (g := (mkF m 86 #[.val (.int fl), .val (.int (1 : Int32)), .val (.ref s_UP), .val (.ref s_BUY), .val (.int (1 : Int32)), .val (.ref s127), .val (.ref s_BUY)] [(.ref s_BUY), (.ref s_BUY)])) X129 hx rfl rfl rfl (pc0 := 86) (pc' := 89) (same := true) rfl (hb hby at_86) rfl (decide_eq_true rfl) (by decide) (by decide) kont) ?_
      show GoW _ _ _ _ _ _ _ (T129.setTop (mkF m 89 #[.val (.int fl), .val (.int (1 : Int32)), .val (.ref s_UP), .val (.ref s_BUY), .val (.int (1 : Int32)), .val (.ref s127), .val (.ref s_BUY)] []))
      refine GoW.by (fun _ kont => XS.aloadN X129.here hx rfl (hb hby at_89) rfl rfl kont) ?_
      show GoW _ _ _ _ _ _ _ (T129.setTop (mkF m 90 #[.val (.int fl), .val (.int (1 : Int32)), .val (.ref s_UP), .val (.ref s_BUY), .val (.int (1 : Int32)), .val (.ref s127), .val (.ref s_BUY)] [(.ref s_BUY)]))
      obtain ⟨cq130, kq130, q130a, q130b, q130c⟩ := isOf hZ e129 E128_s_BUY
      obtain ⟨_, _, ⟨T130, L130, k130, n130⟩, -, X130, ⟨Lc130, hQ130, l130, y130, z130⟩, st130⟩ := X129.virtualBack hx (y := (⟨"com/example/lotbook/lotbook/Side", "code", "()Ljava/lang/String;"⟩ : MethodName)) (z := (⟨"com/example/lotbook/lotbook/Side", "code", "()Ljava/lang/String;"⟩ : MethodName)) hown (mvT hZ (hw _ (List.mem_of_getElem? (i := 44) rfl))) (mvT hZ (hw _ (List.mem_of_getElem? (i := 45) rfl))) (notFace_of_selects (args := #[]) (mvT hZ (hw _ (List.mem_of_getElem? (i := 47) rfl)))) (mvT hZ (hw _ (List.mem_of_getElem? (i := 47) rfl))) (mvT hZ (hw _ (List.mem_of_getElem? (i := 46) rfl))) (by decide) (backOf (W := 0) (rmSc l Z a0 hw [] s_BUY s_BUY_code h127 n0 Z128 E128_s_BUY F128_code_s_BUY) hZ (hw _ (List.mem_of_getElem? (i := 48) rfl)) (hw _ (List.mem_of_getElem? (i := 11) rfl)) (by decide) (by decide)) q130a q130c (g := (mkF m 90 #[.val (.int fl), .val (.int (1 : Int32)), .val (.ref s_UP), .val (.ref s_BUY), .val (.int (1 : Int32)), .val (.ref s127), .val (.ref s_BUY)] [(.ref s_BUY)])) rfl (by rw [hml]; rfl) (Steps.refl _) (argsL := []) (rest := []) (lenOf pd0_1 rfl) rfl (by show 2 * 0 + _ ≤ _; exact Nat.le_of_eq rfl) (hb hby at_90) (fun _ _ => ⟨rfl, e129, (by decide : 4 + 0 ≤ _), (by decide : 16 + 0 ≤ _)⟩)
      dsimp only [Pt.U, Pt.locs, Pt.cells, Pt.slots] at X130 l130 y130 z130 st130 hQ130
      subst l130 y130 z130
      obtain ⟨rfl, N130q, eh130⟩ := hQ130
      have N130 := Fr.app N126 N130q
      refine GoW.tr st130 ?_
      show GoW _ _ _ _ _ _ _ (T130.setTop (mkF m 93 #[.val (.int fl), .val (.int (1 : Int32)), .val (.ref s_UP), .val (.ref s_BUY), .val (.int (1 : Int32)), .val (.ref s127), .val (.ref s_BUY)] [(.ref s_BUY_code)]))
      refine GoW.by (fun _ kont => XS.aload X130.here hx rfl (hb hby at_93) rfl rfl kont) ?_
      show GoW _ _ _ _ _ _ _ (T130.setTop (mkF m 95 #[.val (.int fl), .val (.int (1 : Int32)), .val (.ref s_UP), .val (.ref s_BUY), .val (.int (1 : Int32)), .val (.ref s127), .val (.ref s_BUY)] [(.ref s127), (.ref s_BUY_code)]))
      by_cases hs95 : s_BUY_code = s127
      · rw [show (mkF m 95 #[.val (.int fl), .val (.int (1 : Int32)), .val (.ref s_UP), .val (.ref s_BUY), .val (.int (1 : Int32)), .val (.ref s127), .val (.ref s_BUY)] [(.ref s127), (.ref s_BUY_code)]) = (mkF m 95 #[.val (.int fl), .val (.int (1 : Int32)), .val (.ref s_UP), .val (.ref s_BUY), .val (.int (1 : Int32)), .val (.ref s127), .val (.ref s_BUY)] [(.ref s_BUY_code), (.ref s_BUY_code)]) from by rw [hs95]]
        show GoW _ _ _ _ _ _ _ (T130.setTop (mkF m 95 #[.val (.int fl), .val (.int (1 : Int32)), .val (.ref s_UP), .val (.ref s_BUY), .val (.int (1 : Int32)), .val (.ref s127), .val (.ref s_BUY)] [(.ref s_BUY_code), (.ref s_BUY_code)]))
        obtain ⟨cq131, kq131, q131a, q131b, q131c⟩ := isOf hZ eh130 E128_s_BUY_code
        obtain ⟨_, _, ⟨T131, L131, k131, n131⟩, -, X131, ⟨Lc131, hQ131, l131, y131, z131⟩, st131⟩ := X130.virtualBack hx (y := (⟨"java/lang/String", "equals", "(Ljava/lang/Object;)Z"⟩ : MethodName)) (z := (⟨"java/lang/String", "equals", "(Ljava/lang/Object;)Z"⟩ : MethodName)) hown (mvT hZ (hw _ (List.mem_of_getElem? (i := 28) rfl))) (mvT hZ (hw _ (List.mem_of_getElem? (i := 29) rfl))) (notFace_of_selects (args := #[]) (mvT hZ (hw _ (List.mem_of_getElem? (i := 31) rfl)))) (mvT hZ (hw _ (List.mem_of_getElem? (i := 31) rfl))) (mvT hZ (hw _ (List.mem_of_getElem? (i := 30) rfl))) (by decide) (backOf (W := 0) (rmEsame l Z a0 hw [] s_BUY_code h127 n0 Z128 ) hZ (hw _ (List.mem_of_getElem? (i := 32) rfl)) (hw _ (List.mem_of_getElem? (i := 21) rfl)) (by decide) (by decide)) q131a q131c (g := (mkF m 95 #[.val (.int fl), .val (.int (1 : Int32)), .val (.ref s_UP), .val (.ref s_BUY), .val (.int (1 : Int32)), .val (.ref s127), .val (.ref s_BUY)] [(.ref s_BUY_code), (.ref s_BUY_code)])) rfl (by rw [hml]; rfl) (Steps.refl _) (argsL := [(.ref s_BUY_code)]) (rest := []) (lenOf pd0_2 rfl) rfl (by show 2 * 0 + _ ≤ _; exact Nat.le_of_eq rfl) (hb hby at_95) (fun _ _ => ⟨rfl, eh130, (by decide : 4 + 0 ≤ _), (by decide : 16 + 0 ≤ _)⟩)
        dsimp only [Pt.U, Pt.locs, Pt.cells, Pt.slots] at X131 l131 y131 z131 st131 hQ131
        subst l131 y131 z131
        obtain ⟨rfl, N131q, eh131⟩ := hQ131
        have N131 := Fr.app N130 N131q
        refine GoW.tr st131 ?_
        show GoW _ _ _ _ _ _ _ (T131.setTop (mkF m 98 #[.val (.int fl), .val (.int (1 : Int32)), .val (.ref s_UP), .val (.ref s_BUY), .val (.int (1 : Int32)), .val (.ref s127), .val (.ref s_BUY)] [(.int (1 : Int32))]))
        refine GoW.by (fun _ kont => XS.ifNo X131.here hx rfl (hb hby at_98) rfl (by decide) kont) ?_
        show GoW _ _ _ _ _ _ _ (T131.setTop (mkF m 101 #[.val (.int fl), .val (.int (1 : Int32)), .val (.ref s_UP), .val (.ref s_BUY), .val (.int (1 : Int32)), .val (.ref s127), .val (.ref s_BUY)] []))
        refine GoW.by (fun _ kont => XS.iconst X131.here hx rfl (hb hby at_101) (XS.goto X131.here hx rfl (pc0 := 102) (pc' := 106) rfl (hb hby at_102) (by decide) (by decide) kont)) ?_
        show GoW _ _ _ _ _ _ _ (T131.setTop (mkF m 106 #[.val (.int fl), .val (.int (1 : Int32)), .val (.ref s_UP), .val (.ref s_BUY), .val (.int (1 : Int32)), .val (.ref s127), .val (.ref s_BUY)] [(.int (1 : Int32))]))
        refine GoW.retN X131 hS (by rw [eh131]; exact hk127) hx (t := .boolean) hret (by simp) hlk (hb hby at_106) ?_ (by decide) (by decide)
        show Q0 Z h0 n0 (some (.int (1 : Int32))) T131.heap _
        rw [eh131]
        exact ⟨rfl, N131⟩
      · show GoW _ _ _ _ _ _ _ (T130.setTop (mkF m 95 #[.val (.int fl), .val (.int (1 : Int32)), .val (.ref s_UP), .val (.ref s_BUY), .val (.int (1 : Int32)), .val (.ref s127), .val (.ref s_BUY)] [(.ref s127), (.ref s_BUY_code)]))
        obtain ⟨cq132, kq132, q132a, q132b, q132c⟩ := isOf hZ eh130 E128_s_BUY_code
        obtain ⟨_, _, ⟨T132, L132, k132, n132⟩, -, X132, ⟨Lc132, hQ132, l132, y132, z132⟩, st132⟩ := X130.virtualBack hx (y := (⟨"java/lang/String", "equals", "(Ljava/lang/Object;)Z"⟩ : MethodName)) (z := (⟨"java/lang/String", "equals", "(Ljava/lang/Object;)Z"⟩ : MethodName)) hown (mvT hZ (hw _ (List.mem_of_getElem? (i := 28) rfl))) (mvT hZ (hw _ (List.mem_of_getElem? (i := 29) rfl))) (notFace_of_selects (args := #[]) (mvT hZ (hw _ (List.mem_of_getElem? (i := 31) rfl)))) (mvT hZ (hw _ (List.mem_of_getElem? (i := 31) rfl))) (mvT hZ (hw _ (List.mem_of_getElem? (i := 30) rfl))) (by decide) (backOf (W := 0) (rmEeq l Z a0 hw [] s_BUY_code s127 s_BUY_code_value b127 kc_s_BUY_code_value (66 : Int32) kc127 cs h127 n0 Z128 E128_s_BUY_code F128_coder_s_BUY_code F128_value_s_BUY_code E127 Fc127 Fv127 V128_s_BUY_code_value V127 hs95 S128_COMPACT_STRINGS hcs) hZ (hw _ (List.mem_of_getElem? (i := 32) rfl)) (hw _ (List.mem_of_getElem? (i := 21) rfl)) (by decide) (by decide)) q132a q132c (g := (mkF m 95 #[.val (.int fl), .val (.int (1 : Int32)), .val (.ref s_UP), .val (.ref s_BUY), .val (.int (1 : Int32)), .val (.ref s127), .val (.ref s_BUY)] [(.ref s127), (.ref s_BUY_code)])) rfl (by rw [hml]; rfl) (Steps.refl _) (argsL := [(.ref s127)]) (rest := []) (lenOf pd0_2 rfl) rfl (by show 2 * 0 + _ ≤ _; exact Nat.le_of_eq rfl) (hb hby at_95) (fun _ _ => ⟨rfl, eh130, (by decide : 4 + 0 ≤ _), (by decide : 16 + 0 ≤ _)⟩)
        dsimp only [Pt.U, Pt.locs, Pt.cells, Pt.slots] at X132 l132 y132 z132 st132 hQ132
        subst l132 y132 z132
        obtain ⟨rfl, N132q, eh132⟩ := hQ132
        have N132 := Fr.app N130 N132q
        refine GoW.tr st132 ?_
        show GoW _ _ _ _ _ _ _ (T132.setTop (mkF m 98 #[.val (.int fl), .val (.int (1 : Int32)), .val (.ref s_UP), .val (.ref s_BUY), .val (.int (1 : Int32)), .val (.ref s127), .val (.ref s_BUY)] [(.int (1 : Int32))]))
        refine GoW.by (fun _ kont => XS.ifNo X132.here hx rfl (hb hby at_98) rfl (by decide) kont) ?_
        show GoW _ _ _ _ _ _ _ (T132.setTop (mkF m 101 #[.val (.int fl), .val (.int (1 : Int32)), .val (.ref s_UP), .val (.ref s_BUY), .val (.int (1 : Int32)), .val (.ref s127), .val (.ref s_BUY)] []))
        refine GoW.by (fun _ kont => XS.iconst X132.here hx rfl (hb hby at_101) (XS.goto X132.here hx rfl (pc0 := 102) (pc' := 106) rfl (hb hby at_102) (by decide) (by decide) kont)) ?_
        show GoW _ _ _ _ _ _ _ (T132.setTop (mkF m 106 #[.val (.int fl), .val (.int (1 : Int32)), .val (.ref s_UP), .val (.ref s_BUY), .val (.int (1 : Int32)), .val (.ref s127), .val (.ref s_BUY)] [(.int (1 : Int32))]))
        refine GoW.retN X132 hS (by rw [eh132]; exact hk127) hx (t := .boolean) hret (by simp) hlk (hb hby at_106) ?_ (by decide) (by decide)
        show Q0 Z h0 n0 (some (.int (1 : Int32))) T132.heap _
        rw [eh132]
        exact ⟨rfl, N132⟩

set_option maxRecDepth 65536 in
set_option maxHeartbeats 40000000 in
theorem comes_1 {Post : Tables → Env → Array Value → State → Outcome → State → Prop} (hpost : ∀ tb e args s v u, (limb_1_1.after args s (.returned v) u = true ∧ limb_1_2.after args s (.returned v) u = true ∧ True) → ReturnedEndW s (.returned v) u (Jvm.fieldLocs frame_1_writes args s ++ Jvm.arrayLocs frame_1_arrays args s ++ Jvm.staticLocs frame_1_statics s) 8 3136 → Post tb e args s (.returned v) u) :
    ArmFor flags0 classFile x code maxLocals ret World_1 tables_1 room_1 Calls_1 rest_1 Pre_1 Post := by
  intro l hfl _ _ p e ha hc hk s m args below hf hA hF happ hP
  obtain ⟨hcalls, hrest, hpre⟩ := hP
  obtain ⟨-, -, -, hnamed, -, -, -, hat⟩ := (Spec.applies_iff hf).mp happ
  obtain ⟨hg, hn⟩ := and_e (Cond.before_iff.mp (show (Jvm.Cond.and given_1 narrow_1).before args s = true from hpre))
  obtain ⟨hh1, hh2⟩ := and_e hg
  obtain ⟨w0, rfl⟩ : ∃ w0 : Value, args = #[w0] := by
    have hs : args.size = 1 := by simpa [Cond.value, given_1] using hh1
    obtain ⟨L⟩ := args
    match L, hs with
    | [w0], _ => exact ⟨w0, rfl⟩
  have hw := fun d (hd : d ∈ tables_1) => atoms_spec (ws := Jvm.Cond.code x code maxLocals ret :: tables_1) hat d (List.mem_cons_of_mem _ hd)
  obtain ⟨i0, ei0⟩ := is_v hh2
  obtain rfl : w0 = (.int i0) := Option.some.inj ei0
  have hfit : Fit s := fun {y c} hc i hi => by
    obtain ⟨ha, rfl⟩ := Array.getElem?_eq_some_iff.mp hc
    have q := List.all_eq_true.mp ((Array.all_eq_true_iff_forall_mem.mp hF) _ (Array.getElem_mem ha)) i (List.mem_range.mpr hi)
    simpa [Array.getElem?_eq_getElem hi] using q
  obtain ⟨hm1, hm2⟩ := and_e hn
  obtain ⟨hm3, hm4⟩ := and_e hm2
  obtain ⟨hm5, hm6⟩ := and_e hm4
  obtain ⟨hm7, hm8⟩ := and_e hm6
  obtain ⟨hm9, hm10⟩ := and_e hm8
  obtain ⟨hm11, hm12⟩ := and_e hm10
  obtain ⟨hm13, hm14⟩ := and_e hm12
  obtain ⟨hm15, hm16⟩ := and_e hm14
  obtain ⟨hm17, hm18⟩ := and_e hm16
  obtain ⟨hm19, hm20⟩ := and_e hm18
  obtain ⟨hm21, hm22⟩ := and_e hm20
  obtain ⟨hm23, hm24⟩ := and_e hm22
  obtain ⟨hm25, hm26⟩ := and_e hm24
  obtain ⟨hm27, hm28⟩ := and_e hm26
  obtain ⟨hm29, hm30⟩ := and_e hm28
  obtain ⟨hm31, hm32⟩ := and_e hm30
  obtain ⟨hm33, hm34⟩ := and_e hm32
  obtain ⟨hm35, hm36⟩ := and_e hm34
  obtain ⟨hm37, hm38⟩ := and_e hm36
  obtain ⟨hm39, hm40⟩ := and_e hm38
  obtain ⟨hm41, hm42⟩ := and_e hm40
  obtain ⟨hm43, hm44⟩ := and_e hm42
  obtain ⟨hm45, hm46⟩ := and_e hm44
  obtain ⟨hm47, hm48⟩ := and_e hm46
  obtain ⟨hm49, hm50⟩ := and_e hm48
  obtain ⟨s_DOWN, ev51⟩ := exa_v hm1
  have S_DOWN : Sta s s.heap "com/example/lotbook/lotbook/LimitLock" "DOWN" "Lcom/example/lotbook/lotbook/LimitLock;" (.ref s_DOWN) := Sta.start ev51 (Or.inr ⟨(hw _ (List.mem_of_getElem? (i := 1) rfl)), (hw _ (List.mem_of_getElem? (i := 2) rfl))⟩)
  have E_s_DOWN : Exa s s.heap s_DOWN "com/example/lotbook/lotbook/LimitLock" := Exa.start ev51 hm1
  obtain ⟨s_UP, ev52⟩ := exa_v hm3
  have S_UP : Sta s s.heap "com/example/lotbook/lotbook/LimitLock" "UP" "Lcom/example/lotbook/lotbook/LimitLock;" (.ref s_UP) := Sta.start ev52 (Or.inr ⟨(hw _ (List.mem_of_getElem? (i := 1) rfl)), (hw _ (List.mem_of_getElem? (i := 9) rfl))⟩)
  have E_s_UP : Exa s s.heap s_UP "com/example/lotbook/lotbook/LimitLock" := Exa.start ev52 hm3
  have F_s_DOWN_ordinal : Fld s s.heap s_DOWN "java/lang/Enum" "ordinal" "I" (.int (1 : Int32)) := Fld.start ((fld_at ev51).symm.trans (own_eqI hm5))
  have F_s_UP_ordinal : Fld s s.heap s_UP "java/lang/Enum" "ordinal" "I" (.int (0 : Int32)) := Fld.start ((fld_at ev52).symm.trans (own_eqI hm7))
  obtain ⟨s_SELL, ev55⟩ := exa_v hm9
  have S_SELL : Sta s s.heap "com/example/lotbook/lotbook/Side" "SELL" "Lcom/example/lotbook/lotbook/Side;" (.ref s_SELL) := Sta.start ev55 (Or.inr ⟨(hw _ (List.mem_of_getElem? (i := 11) rfl)), (hw _ (List.mem_of_getElem? (i := 12) rfl))⟩)
  have E_s_SELL : Exa s s.heap s_SELL "com/example/lotbook/lotbook/Side" := Exa.start ev55 hm9
  obtain ⟨s_DOWN_code, ev56⟩ := exa_v hm11
  have F_s_DOWN_code : Fld s s.heap s_DOWN "com/example/lotbook/lotbook/LimitLock" "code" "Ljava/lang/String;" (.ref s_DOWN_code) := Fld.start ((fld_at ev51).symm.trans ev56)
  have E_s_DOWN_code : Exa s s.heap s_DOWN_code "java/lang/String" := Exa.start ev56 hm11
  have F_s_DOWN_code_coder : Fld s s.heap s_DOWN_code "java/lang/String" "coder" "B" (.int (0 : Int32)) := Fld.start ((fld_at ev56).symm.trans (own_eqI hm13))
  obtain ⟨s_DOWN_code_value, ev58⟩ := arr_v hm15
  have F_s_DOWN_code_value : Fld s s.heap s_DOWN_code "java/lang/String" "value" "[B" (.ref s_DOWN_code_value) := Fld.start ((fld_at ev56).symm.trans ev58)
  obtain ⟨cl_s_DOWN_code_value, Ar_s_DOWN_code_value⟩ := Arr.start ev58 hm15
  have L_s_DOWN_code_value := own_lenv (own_eqI hm17) ev58 Ar_s_DOWN_code_value.1
  have El_s_DOWN_code_value_0 := (elem_in (own_eqI hm19) ev58 (Term.int_eval _) Ar_s_DOWN_code_value.1).2
  obtain ⟨s_SELL_code, ev61⟩ := exa_v hm21
  have F_s_SELL_code : Fld s s.heap s_SELL "com/example/lotbook/lotbook/Side" "code" "Ljava/lang/String;" (.ref s_SELL_code) := Fld.start ((fld_at ev55).symm.trans ev61)
  have E_s_SELL_code : Exa s s.heap s_SELL_code "java/lang/String" := Exa.start ev61 hm21
  have F_s_SELL_code_coder : Fld s s.heap s_SELL_code "java/lang/String" "coder" "B" (.int (0 : Int32)) := Fld.start ((fld_at ev61).symm.trans (own_eqI hm23))
  obtain ⟨s_SELL_code_value, ev63⟩ := arr_v hm25
  have F_s_SELL_code_value : Fld s s.heap s_SELL_code "java/lang/String" "value" "[B" (.ref s_SELL_code_value) := Fld.start ((fld_at ev61).symm.trans ev63)
  obtain ⟨cl_s_SELL_code_value, Ar_s_SELL_code_value⟩ := Arr.start ev63 hm25
  have L_s_SELL_code_value := own_lenv (own_eqI hm27) ev63 Ar_s_SELL_code_value.1
  have El_s_SELL_code_value_0 := (elem_in (own_eqI hm29) ev63 (Term.int_eval _) Ar_s_SELL_code_value.1).2
  obtain ⟨s_BUY, ev66⟩ := exa_v hm31
  have S_BUY : Sta s s.heap "com/example/lotbook/lotbook/Side" "BUY" "Lcom/example/lotbook/lotbook/Side;" (.ref s_BUY) := Sta.start ev66 (Or.inr ⟨(hw _ (List.mem_of_getElem? (i := 11) rfl)), (hw _ (List.mem_of_getElem? (i := 53) rfl))⟩)
  have E_s_BUY : Exa s s.heap s_BUY "com/example/lotbook/lotbook/Side" := Exa.start ev66 hm31
  obtain ⟨s_UP_code, ev67⟩ := exa_v hm33
  have F_s_UP_code : Fld s s.heap s_UP "com/example/lotbook/lotbook/LimitLock" "code" "Ljava/lang/String;" (.ref s_UP_code) := Fld.start ((fld_at ev52).symm.trans ev67)
  have E_s_UP_code : Exa s s.heap s_UP_code "java/lang/String" := Exa.start ev67 hm33
  have F_s_UP_code_coder : Fld s s.heap s_UP_code "java/lang/String" "coder" "B" (.int (0 : Int32)) := Fld.start ((fld_at ev67).symm.trans (own_eqI hm35))
  obtain ⟨s_UP_code_value, ev69⟩ := arr_v hm37
  have F_s_UP_code_value : Fld s s.heap s_UP_code "java/lang/String" "value" "[B" (.ref s_UP_code_value) := Fld.start ((fld_at ev67).symm.trans ev69)
  obtain ⟨cl_s_UP_code_value, Ar_s_UP_code_value⟩ := Arr.start ev69 hm37
  have L_s_UP_code_value := own_lenv (own_eqI hm39) ev69 Ar_s_UP_code_value.1
  have El_s_UP_code_value_0 := (elem_in (own_eqI hm41) ev69 (Term.int_eval _) Ar_s_UP_code_value.1).2
  obtain ⟨s_BUY_code, ev72⟩ := exa_v hm43
  have F_s_BUY_code : Fld s s.heap s_BUY "com/example/lotbook/lotbook/Side" "code" "Ljava/lang/String;" (.ref s_BUY_code) := Fld.start ((fld_at ev66).symm.trans ev72)
  have E_s_BUY_code : Exa s s.heap s_BUY_code "java/lang/String" := Exa.start ev72 hm43
  have F_s_BUY_code_coder : Fld s s.heap s_BUY_code "java/lang/String" "coder" "B" (.int (0 : Int32)) := Fld.start ((fld_at ev72).symm.trans (own_eqI hm45))
  obtain ⟨s_BUY_code_value, ev74⟩ := arr_v hm47
  have F_s_BUY_code_value : Fld s s.heap s_BUY_code "java/lang/String" "value" "[B" (.ref s_BUY_code_value) := Fld.start ((fld_at ev72).symm.trans ev74)
  obtain ⟨cl_s_BUY_code_value, Ar_s_BUY_code_value⟩ := Arr.start ev74 hm47
  have L_s_BUY_code_value := own_lenv (own_eqI hm49) ev74 Ar_s_BUY_code_value.1
  have El_s_BUY_code_value_0 := (elem_in (own_eqI hm50) ev74 (Term.int_eval _) Ar_s_BUY_code_value.1).2
  have V_s_DOWN_code_value : Arv s s.heap s_DOWN_code_value cl_s_DOWN_code_value.cls .byte (1 : Int32) [(.int (68 : Int32))] (.int (0 : Int32)) := Arv.start hfit Ar_s_DOWN_code_value L_s_DOWN_code_value.1 L_s_DOWN_code_value.2 (by decide) rfl ⟨El_s_DOWN_code_value_0, trivial⟩
  have V_s_SELL_code_value : Arv s s.heap s_SELL_code_value cl_s_SELL_code_value.cls .byte (1 : Int32) [(.int (83 : Int32))] (.int (0 : Int32)) := Arv.start hfit Ar_s_SELL_code_value L_s_SELL_code_value.1 L_s_SELL_code_value.2 (by decide) rfl ⟨El_s_SELL_code_value_0, trivial⟩
  have V_s_UP_code_value : Arv s s.heap s_UP_code_value cl_s_UP_code_value.cls .byte (1 : Int32) [(.int (85 : Int32))] (.int (0 : Int32)) := Arv.start hfit Ar_s_UP_code_value L_s_UP_code_value.1 L_s_UP_code_value.2 (by decide) rfl ⟨El_s_UP_code_value_0, trivial⟩
  have V_s_BUY_code_value : Arv s s.heap s_BUY_code_value cl_s_BUY_code_value.cls .byte (1 : Int32) [(.int (66 : Int32))] (.int (0 : Int32)) := Arv.start hfit Ar_s_BUY_code_value L_s_BUY_code_value.1 L_s_BUY_code_value.2 (by decide) rfl ⟨El_s_BUY_code_value_0, trivial⟩
  obtain ⟨hsets, hown0⟩ := atoms_of _ (rest_1_c_eq ▸ (show rest_1_c.before _ s = true from hrest))
  obtain ⟨cs, evcs⟩ := is_v (Cond.before_iff.mp (hsets _ (List.mem_of_getElem? (i := 1) rfl)))
  have S_cs : Sta s s.heap "java/lang/String" "COMPACT_STRINGS" "Z" (.int cs) := Sta.start evcs (Or.inl (hsets _ (List.mem_of_getElem? (i := 0) rfl)))
  have hcs : ¬ (cs = (0 : Int32)) := by
    intro q; subst q; have h := Cond.before_iff.mp (hsets _ (List.mem_of_getElem? (i := 2) rfl)); simp [Cond.value, evcs, Term.int_eval] at h
  have ne_du : s_DOWN ≠ s_UP := Fld.ne F_s_DOWN_ordinal F_s_UP_ordinal (by decide)
  obtain ⟨n, o, h1, h2, h3, _, L, rfl, ⟨rfl, N⟩, hq⟩ := rm0 l s _ hw tables_1 i0 s_DOWN s_UP s_SELL s_BUY s_DOWN_code s_SELL_code s_UP_code s_BUY_code s_DOWN_code_value s_SELL_code_value s_UP_code_value s_BUY_code_value cl_s_DOWN_code_value.cls cl_s_SELL_code_value.cls cl_s_UP_code_value.cls cl_s_BUY_code_value.cls cs s.heap s.heap.size (Nat.le_refl _) S_DOWN S_UP S_SELL S_BUY E_s_DOWN E_s_UP E_s_SELL E_s_DOWN_code E_s_SELL_code E_s_BUY E_s_UP_code E_s_BUY_code F_s_DOWN_ordinal F_s_UP_ordinal F_s_DOWN_code F_s_DOWN_code_coder F_s_DOWN_code_value F_s_SELL_code F_s_SELL_code_coder F_s_SELL_code_value F_s_UP_code F_s_UP_code_coder F_s_UP_code_value F_s_BUY_code F_s_BUY_code_coder F_s_BUY_code_value V_s_DOWN_code_value V_s_SELL_code_value V_s_UP_code_value V_s_BUY_code_value ne_du S_cs hcs rfl rfl (hsets _ (List.mem_of_getElem? (i := 2) rfl)) (hcalls.1 ("com/example/lotbook/lotbook/LimitLockUnfilledSidePinLaw", 24) (by simp [consts_1])) (hcalls.1 ("com/example/lotbook/lotbook/LimitLockUnfilledSidePinLaw", 32) (by simp [consts_1])) (hcalls.1 ("com/example/lotbook/lotbook/LimitLockUnfilledSidePinLaw", 34) (by simp [consts_1])) p e ha hc hk s m _ below hf ((Spec.applies_iff_loose hf).mp happ).1 ⟨rfl, State.Warmed39.refl s, rfl, rfl⟩ trivial
  refine ⟨n, _, h1, h2, h3, hpost _ _ _ _ _ _ ⟨Cond.after_iff.mpr rfl, Cond.after_iff.mpr (eq_i res_at (Term.int_eval (1)) rfl), trivial⟩ ⟨hq.1, hq.2.1, hq.2.2.1, (hq.2.2.2.sift fun y hy => Or.inr (N y hy)).mono (by decide) (by decide)⟩⟩
theorem main_1_1 : Claimed_1_1 := comes_1 fun _ _ _ _ _ _ h hF => ⟨h.1, hF⟩
theorem main_1_2 : Claimed_1_2 := comes_1 fun _ _ _ _ _ _ h hF => ⟨h.2.1, hF⟩

end Jvm.Pilot.@@N@@
namespace Jvm.Pilot.@@N@@
open Jvm Jvm.ClassFile Sem Op Lib Jvm.Free Jvm.Stand Jvm.Pilot.@@N@@.Jvm.D
/-! MADE BY PROGRAM (witnessworld.py) out of the Statement's table words and the real class files: 20 classes; the members and pool entries that the words name. The judged class is class 1, her method 1. -/
namespace start1
open Jvm.ClassFile
def u (s : String) : CpInfo := .utf8 (stringToUtf16 s)
/-- a pool by its gaps: so many unusable entries, then the entry; so many at the end -/
def gap : Nat → List CpInfo → List CpInfo
  | 0, r => r
  | n + 1, r => .unusable :: gap n r
def poolList (es : List (Nat × CpInfo)) (last : Nat) : List CpInfo := es.foldr (fun e r => gap e.1 (e.2 :: r)) (gap last [])
def pool (es : List (Nat × CpInfo)) (last : Nat) : Array CpInfo := ⟨poolList es last⟩
def fileOf (pool : Array CpInfo) (this : Nat) (attrs : Array Attribute := #[]) (ms : Array MethodInfo := #[]) (fl : Nat := 33) (sup : Nat := 0) (ifs : Array Nat := #[]) (fds : Array FieldInfo := #[]) : ClassFile where
  minorVersion := 0
  majorVersion := 65
  constantPool := pool
  accessFlags := fl
  thisClass := this
  superClass := sup
  interfaces := ifs
  fields := fds
  methods := ms
  attributes := attrs
def plain (name : String) (sup : Option ClassId) : Class where
  name := name
  kind := .ordinary
  loader := none
  accessFlags := 33
  super := sup
  interfaces := #[]
  cf := none
  fields := #[]
  methods := #[]
  instanceTypes := #[]
  staticTypes := #[]
  resolved := #[]
  callSites := []
  init := .initialized
  statics := none
  mirror := none

def pool0 : Array CpInfo := pool [(5, u "<init>"), (0, u "()V"), (1, .class_ 10), (1, u "java/lang/Object")] 113

def k0m0 : Method := { name := "<init>", desc := "()V", sig := { parameters := [], returnType := none }, accessFlags := 1, code := none }
/-- java/lang/Object -/
def k0 : Class := { plain "java/lang/Object" none with
  accessFlags := 33
  interfaces := #[]
  cf := some (fileOf pool0 8 #[] #[{ accessFlags := 1, nameIndex := 5, descriptorIndex := 6, attributes := #[] }] 33 0 #[] #[])
  fields := #[]
  methods := #[k0m0]
  instanceTypes := #[]
  staticTypes := #[]
  resolved := Array.replicate 124 none
  statics := none }

def pool1 : Array CpInfo := pool [(2, .class_ 4), (1, u "java/lang/Object"), (0, u "<init>"), (0, u "()V"), (0, .fieldref 8 9), (0, .class_ 10), (0, .nameAndType 11 12), (0, u "com/example/lotbook/lotbook/LimitLock"), (0, u "UP"), (0, u "Lcom/example/lotbook/lotbook/LimitLock;"), (0, .fieldref 8 14), (0, .nameAndType 15 12), (0, u "DOWN"), (0, .methodref 8 17), (0, .nameAndType 18 19), (0, u "unfilledSide"), (0, u "()Lcom/example/lotbook/lotbook/Side;"), (0, .methodref 8 21), (0, .nameAndType 22 23), (0, u "code"), (0, u "()Ljava/lang/String;"), (0, .string 25), (0, u "U"), (0, .methodref 27 28), (0, .class_ 29), (0, .nameAndType 30 31), (0, u "java/lang/String"), (0, u "equals"), (0, u "(Ljava/lang/Object;)Z"), (0, .string 33), (0, u "B"), (0, .string 35), (0, u "S"), (0, .fieldref 37 38), (0, .class_ 39), (0, .nameAndType 40 41), (0, u "com/example/lotbook/lotbook/Side"), (0, u "BUY"), (0, u "Lcom/example/lotbook/lotbook/Side;"), (0, .fieldref 37 43), (0, .nameAndType 44 41), (0, u "SELL"), (0, .methodref 37 21), (0, .class_ 47), (0, u "com/example/lotbook/lotbook/LimitLockUnfilledSidePinLaw"), (2, u "law"), (0, u "(I)Z")] 3

def k1m0 : Method := { name := "<init>", desc := "()V", sig := { parameters := [], returnType := none }, accessFlags := 1, code := none }
def k1c1 : Code := { maxStack := 2, maxLocals := 7, code := code, exceptionTable := #[], attributes := #[] }
def k1m1 : Method := { name := "law", desc := "(I)Z", sig := { parameters := [.int], returnType := some .boolean }, accessFlags := 9, code := some k1c1 }
/-- com/example/lotbook/lotbook/LimitLockUnfilledSidePinLaw -/
def k1 : Class := { plain "com/example/lotbook/lotbook/LimitLockUnfilledSidePinLaw" (some 0) with
  accessFlags := 49
  interfaces := #[]
  cf := some (fileOf pool1 46 #[] #[{ accessFlags := 1, nameIndex := 5, descriptorIndex := 6, attributes := #[] }, { accessFlags := 9, nameIndex := 50, descriptorIndex := 51, attributes := #[] }] 49 2 #[] #[])
  fields := #[]
  methods := #[k1m0, k1m1]
  instanceTypes := #[]
  staticTypes := #[]
  resolved := Array.replicate 55 none
  statics := none }

def pool2 : Array CpInfo := pool [(1, .class_ 2), (0, u "java/lang/constant/Constable"), (0, .class_ 4), (0, u "java/lang/Object")] 6

/-- java/lang/constant/Constable -/
def k2 : Class := { plain "java/lang/constant/Constable" (some 0) with
  accessFlags := 1537
  interfaces := #[]
  cf := some (fileOf pool2 1 #[] #[] 1537 3 #[] #[])
  fields := #[]
  methods := #[]
  instanceTypes := #[]
  staticTypes := #[]
  resolved := Array.replicate 11 none
  statics := none }

def pool3 : Array CpInfo := pool [(1, .class_ 2), (0, u "java/lang/Comparable"), (0, .class_ 4), (0, u "java/lang/Object")] 7

/-- java/lang/Comparable -/
def k3 : Class := { plain "java/lang/Comparable" (some 0) with
  accessFlags := 1537
  interfaces := #[]
  cf := some (fileOf pool3 1 #[] #[] 1537 3 #[] #[])
  fields := #[]
  methods := #[]
  instanceTypes := #[]
  staticTypes := #[]
  resolved := Array.replicate 12 none
  statics := none }

def pool4 : Array CpInfo := pool [(1, .class_ 2), (0, u "java/io/Serializable"), (0, .class_ 4), (0, u "java/lang/Object")] 2

/-- java/io/Serializable -/
def k4 : Class := { plain "java/io/Serializable" (some 0) with
  accessFlags := 1537
  interfaces := #[]
  cf := some (fileOf pool4 1 #[] #[] 1537 3 #[] #[])
  fields := #[]
  methods := #[]
  instanceTypes := #[]
  staticTypes := #[]
  resolved := Array.replicate 7 none
  statics := none }

def pool5 : Array CpInfo := pool [(2, .class_ 4), (1, u "java/lang/Enum"), (0, u "name"), (0, u "Ljava/lang/String;"), (2, u "ordinal"), (0, u "I"), (1, .class_ 14), (1, u "java/lang/Object"), (4, u "hash"), (86, .class_ 108), (1, u "java/lang/Enum$EnumDesc"), (2, .class_ 112), (0, u "java/lang/constant/Constable"), (0, .class_ 114), (0, u "java/lang/Comparable"), (0, .class_ 116), (0, u "java/io/Serializable")] 87

/-- java/lang/Enum -/
def k5 : Class := { plain "java/lang/Enum" (some 0) with
  accessFlags := 1057
  interfaces := #[2, 3, 4]
  cf := some (fileOf pool5 2 #[.nestMembers #[106]] #[] 1057 12 #[111, 113, 115] #[{ accessFlags := 18, nameIndex := 5, descriptorIndex := 6, attributes := #[] }, { accessFlags := 18, nameIndex := 9, descriptorIndex := 10, attributes := #[] }, { accessFlags := 2, nameIndex := 19, descriptorIndex := 10, attributes := #[] }])
  fields := #[{ name := "name", type := (.object "java/lang/String"), accessFlags := 18, slot := 0, constantValue := 0 }, { name := "ordinal", type := .int, accessFlags := 18, slot := 1, constantValue := 0 }, { name := "hash", type := .int, accessFlags := 2, slot := 2, constantValue := 0 }]
  methods := #[]
  instanceTypes := #[(.object "java/lang/String"), .int, .int]
  staticTypes := #[]
  resolved := Array.replicate 204 none
  statics := none }

def pool6 : Array CpInfo := pool [(8, .class_ 10), (1, u "com/example/lotbook/lotbook/Flag"), (33, .class_ 45), (0, u "java/lang/Object")] 26

/-- com/example/lotbook/lotbook/Flag -/
def k6 : Class := { plain "com/example/lotbook/lotbook/Flag" (some 0) with
  accessFlags := 1537
  interfaces := #[]
  cf := some (fileOf pool6 8 #[] #[] 1537 44 #[] #[])
  fields := #[]
  methods := #[]
  instanceTypes := #[]
  staticTypes := #[]
  resolved := Array.replicate 72 none
  statics := none }

def pool7 : Array CpInfo := pool [(1, .class_ 2), (0, u "com/example/lotbook/lotbook/LimitLock"), (0, .fieldref 1 4), (0, .nameAndType 5 6), (0, u "UP"), (0, u "Lcom/example/lotbook/lotbook/LimitLock;"), (2, u "DOWN"), (2, u "$VALUES"), (0, u "[Lcom/example/lotbook/lotbook/LimitLock;"), (6, .class_ 22), (1, u "java/lang/Enum"), (6, .fieldref 1 30), (0, .nameAndType 31 32), (0, u "code"), (0, u "Ljava/lang/String;"), (0, .fieldref 34 35), (0, .class_ 36), (0, .nameAndType 37 38), (0, u "com/example/lotbook/lotbook/Side"), (0, u "BUY"), (0, u "Lcom/example/lotbook/lotbook/Side;"), (0, .fieldref 34 40), (0, .nameAndType 41 38), (0, u "SELL"), (7, .class_ 51), (1, u "com/example/lotbook/lotbook/Flag"), (22, u "()Ljava/lang/String;"), (0, u "unfilledSide"), (0, u "()Lcom/example/lotbook/lotbook/Side;")] 7

def k7c0 : Code := { maxStack := 1, maxLocals := 1, code := prog_36_method_4_code, exceptionTable := #[], attributes := #[] }
def k7m0 : Method := { name := "code", desc := "()Ljava/lang/String;", sig := { parameters := [], returnType := some (.object "java/lang/String") }, accessFlags := 1, code := some k7c0 }
def k7c1 : Code := { maxStack := 2, maxLocals := 1, code := prog_36_method_5_code, exceptionTable := #[], attributes := #[] }
def k7m1 : Method := { name := "unfilledSide", desc := "()Lcom/example/lotbook/lotbook/Side;", sig := { parameters := [], returnType := some (.object "com/example/lotbook/lotbook/Side") }, accessFlags := 0, code := some k7c1 }
/-- com/example/lotbook/lotbook/LimitLock -/
def k7 : Class := { plain "com/example/lotbook/lotbook/LimitLock" (some 5) with
  accessFlags := 16433
  interfaces := #[6]
  cf := some (fileOf pool7 1 #[] #[{ accessFlags := 1, nameIndex := 31, descriptorIndex := 74, attributes := #[] }, { accessFlags := 0, nameIndex := 75, descriptorIndex := 76, attributes := #[] }] 16433 20 #[49] #[{ accessFlags := 16409, nameIndex := 5, descriptorIndex := 6, attributes := #[] }, { accessFlags := 16409, nameIndex := 9, descriptorIndex := 6, attributes := #[] }, { accessFlags := 18, nameIndex := 31, descriptorIndex := 32, attributes := #[] }, { accessFlags := 4122, nameIndex := 12, descriptorIndex := 13, attributes := #[] }])
  fields := #[{ name := "UP", type := (.object "com/example/lotbook/lotbook/LimitLock"), accessFlags := 16409, slot := 0, constantValue := 0 }, { name := "DOWN", type := (.object "com/example/lotbook/lotbook/LimitLock"), accessFlags := 16409, slot := 1, constantValue := 0 }, { name := "code", type := (.object "java/lang/String"), accessFlags := 18, slot := 3, constantValue := 0 }, { name := "$VALUES", type := (.array (.object "com/example/lotbook/lotbook/LimitLock")), accessFlags := 4122, slot := 2, constantValue := 0 }]
  methods := #[k7m0, k7m1]
  instanceTypes := #[(.object "java/lang/String"), .int, .int, (.object "java/lang/String")]
  staticTypes := #[(.object "com/example/lotbook/lotbook/LimitLock"), (.object "com/example/lotbook/lotbook/LimitLock"), (.array (.object "com/example/lotbook/lotbook/LimitLock"))]
  resolved := Array.replicate 84 none
  statics := some 0 }

def pool8 : Array CpInfo := pool [(1, .class_ 2), (0, u "com/example/lotbook/lotbook/Side"), (2, u "BUY"), (0, u "Lcom/example/lotbook/lotbook/Side;"), (2, u "SELL"), (2, u "$VALUES"), (0, u "[Lcom/example/lotbook/lotbook/Side;"), (6, .class_ 22), (1, u "java/lang/Enum"), (6, .fieldref 1 30), (0, .nameAndType 31 32), (0, u "code"), (0, u "Ljava/lang/String;"), (7, .class_ 42), (1, u "com/example/lotbook/lotbook/Flag"), (20, u "()Ljava/lang/String;")] 8

def k8c0 : Code := { maxStack := 1, maxLocals := 1, code := prog_69_method_4_code, exceptionTable := #[], attributes := #[] }
def k8m0 : Method := { name := "code", desc := "()Ljava/lang/String;", sig := { parameters := [], returnType := some (.object "java/lang/String") }, accessFlags := 1, code := some k8c0 }
/-- com/example/lotbook/lotbook/Side -/
def k8 : Class := { plain "com/example/lotbook/lotbook/Side" (some 5) with
  accessFlags := 16433
  interfaces := #[6]
  cf := some (fileOf pool8 1 #[] #[{ accessFlags := 1, nameIndex := 31, descriptorIndex := 63, attributes := #[] }] 16433 20 #[40] #[{ accessFlags := 16409, nameIndex := 5, descriptorIndex := 6, attributes := #[] }, { accessFlags := 16409, nameIndex := 9, descriptorIndex := 6, attributes := #[] }, { accessFlags := 18, nameIndex := 31, descriptorIndex := 32, attributes := #[] }, { accessFlags := 4122, nameIndex := 12, descriptorIndex := 13, attributes := #[] }])
  fields := #[{ name := "BUY", type := (.object "com/example/lotbook/lotbook/Side"), accessFlags := 16409, slot := 0, constantValue := 0 }, { name := "SELL", type := (.object "com/example/lotbook/lotbook/Side"), accessFlags := 16409, slot := 1, constantValue := 0 }, { name := "code", type := (.object "java/lang/String"), accessFlags := 18, slot := 3, constantValue := 0 }, { name := "$VALUES", type := (.array (.object "com/example/lotbook/lotbook/Side")), accessFlags := 4122, slot := 2, constantValue := 0 }]
  methods := #[k8m0]
  instanceTypes := #[(.object "java/lang/String"), .int, .int, (.object "java/lang/String")]
  staticTypes := #[(.object "com/example/lotbook/lotbook/Side"), (.object "com/example/lotbook/lotbook/Side"), (.array (.object "com/example/lotbook/lotbook/Side"))]
  resolved := Array.replicate 72 none
  statics := some 1 }

def pool9 : Array CpInfo := pool [(2, .class_ 4), (1, u "java/lang/CharSequence"), (42, .class_ 48), (0, u "java/lang/CharSequence$1CodePointIterator"), (10, .class_ 60), (0, u "java/lang/CharSequence$1CharIterator"), (5, .class_ 67), (0, u "java/lang/Object")] 63

/-- java/lang/CharSequence -/
def k9 : Class := { plain "java/lang/CharSequence" (some 0) with
  accessFlags := 1537
  interfaces := #[]
  cf := some (fileOf pool9 2 #[.nestMembers #[47, 59]] #[] 1537 66 #[] #[])
  fields := #[]
  methods := #[]
  instanceTypes := #[]
  staticTypes := #[]
  resolved := Array.replicate 131 none
  statics := none }

def pool10 : Array CpInfo := pool [(1, .class_ 2), (0, u "java/lang/constant/ConstantDesc"), (0, .class_ 4), (0, u "java/lang/Object")] 32

/-- java/lang/constant/ConstantDesc -/
def k10 : Class := { plain "java/lang/constant/ConstantDesc" (some 0) with
  accessFlags := 1537
  interfaces := #[]
  cf := some (fileOf pool10 1 #[] #[] 1537 3 #[] #[])
  fields := #[]
  methods := #[]
  instanceTypes := #[]
  staticTypes := #[]
  resolved := Array.replicate 37 none
  statics := none }

def pool11 : Array CpInfo := pool [(2, .class_ 4), (1, u "java/lang/Object"), (0, u "<init>"), (0, u "()V"), (2, .fieldref 10 11), (0, .class_ 12), (0, .nameAndType 13 14), (0, u "java/lang/String"), (0, u "value"), (0, u "[B"), (0, .fieldref 10 16), (0, .nameAndType 17 18), (0, u "coder"), (0, u "B"), (2, u "hash"), (0, u "I"), (2, u "hashIsZero"), (0, u "Z"), (11, .fieldref 10 39), (0, .nameAndType 40 26), (0, u "COMPACT_STRINGS"), (66, .class_ 109), (1, u "java/lang/StringLatin1"), (431, .methodref 107 542), (0, .nameAndType 543 544), (0, u "equals"), (0, u "([B[B)Z"), (28, u "(Ljava/lang/Object;)Z"), (1, .class_ 576), (0, u "java/lang/CharSequence"), (22, u "CASE_INSENSITIVE_ORDER"), (0, u "Ljava/util/Comparator;"), (500, u "serialPersistentFields"), (0, u "[Ljava/io/ObjectStreamField;"), (0, .class_ 1104), (0, u "java/lang/String$CaseInsensitiveComparator"), (1, .class_ 1107), (0, u "java/io/Serializable"), (0, .class_ 1109), (0, u "java/lang/Comparable"), (0, .class_ 1111), (0, u "java/lang/constant/Constable"), (0, .class_ 1113), (0, u "java/lang/constant/ConstantDesc"), (2, u "serialVersionUID"), (0, u "J"), (3, u "REPL"), (0, u "C"), (2, u "LATIN1"), (1, u "UTF16")] 323

def k11m0 : Method := { name := "<init>", desc := "()V", sig := { parameters := [], returnType := none }, accessFlags := 1, code := none }
def k11c1 : Code := { maxStack := 2, maxLocals := 3, code := jdk_42_method_66_code, exceptionTable := #[], attributes := #[] }
def k11m1 : Method := { name := "equals", desc := "(Ljava/lang/Object;)Z", sig := { parameters := [(.object "java/lang/Object")], returnType := some .boolean }, accessFlags := 1, code := some k11c1 }
/-- java/lang/String -/
def k11 : Class := { plain "java/lang/String" (some 0) with
  accessFlags := 49
  interfaces := #[4, 3, 9, 2, 10]
  cf := some (fileOf pool11 10 #[.nestMembers #[1103]] #[{ accessFlags := 1, nameIndex := 5, descriptorIndex := 6, attributes := #[] }, { accessFlags := 1, nameIndex := 543, descriptorIndex := 573, attributes := #[] }] 49 2 #[1106, 1108, 575, 1110, 1112] #[{ accessFlags := 18, nameIndex := 13, descriptorIndex := 14, attributes := #[] }, { accessFlags := 18, nameIndex := 17, descriptorIndex := 18, attributes := #[] }, { accessFlags := 2, nameIndex := 21, descriptorIndex := 22, attributes := #[] }, { accessFlags := 2, nameIndex := 25, descriptorIndex := 26, attributes := #[] }, { accessFlags := 26, nameIndex := 1116, descriptorIndex := 1117, attributes := #[] }, { accessFlags := 24, nameIndex := 40, descriptorIndex := 26, attributes := #[] }, { accessFlags := 26, nameIndex := 1101, descriptorIndex := 1102, attributes := #[] }, { accessFlags := 26, nameIndex := 1121, descriptorIndex := 1122, attributes := #[] }, { accessFlags := 25, nameIndex := 599, descriptorIndex := 600, attributes := #[] }, { accessFlags := 24, nameIndex := 1125, descriptorIndex := 18, attributes := #[] }, { accessFlags := 24, nameIndex := 1127, descriptorIndex := 18, attributes := #[] }])
  fields := #[{ name := "value", type := (.array .byte), accessFlags := 18, slot := 0, constantValue := 0 }, { name := "coder", type := .byte, accessFlags := 18, slot := 1, constantValue := 0 }, { name := "hash", type := .int, accessFlags := 2, slot := 2, constantValue := 0 }, { name := "hashIsZero", type := .boolean, accessFlags := 2, slot := 3, constantValue := 0 }, { name := "serialVersionUID", type := .long, accessFlags := 26, slot := 0, constantValue := 0 }, { name := "COMPACT_STRINGS", type := .boolean, accessFlags := 24, slot := 1, constantValue := 0 }, { name := "serialPersistentFields", type := (.array (.object "java/io/ObjectStreamField")), accessFlags := 26, slot := 2, constantValue := 0 }, { name := "REPL", type := .char, accessFlags := 26, slot := 3, constantValue := 0 }, { name := "CASE_INSENSITIVE_ORDER", type := (.object "java/util/Comparator"), accessFlags := 25, slot := 4, constantValue := 0 }, { name := "LATIN1", type := .byte, accessFlags := 24, slot := 5, constantValue := 0 }, { name := "UTF16", type := .byte, accessFlags := 24, slot := 6, constantValue := 0 }]
  methods := #[k11m0, k11m1]
  instanceTypes := #[(.array .byte), .byte, .int, .boolean]
  staticTypes := #[.long, .boolean, (.array (.object "java/io/ObjectStreamField")), .char, (.object "java/util/Comparator"), .byte, .byte]
  resolved := Array.replicate 1451 none
  statics := some 2 }

def pool12 : Array CpInfo := pool [(4, .class_ 6), (1, u "java/lang/Object"), (0, u "<init>"), (0, u "()V"), (5, .class_ 16), (1, u "java/lang/StringLatin1"), (104, u "$assertionsDisabled"), (0, u "Z"), (98, .class_ 223), (1, u "java/lang/StringLatin1$LinesSpliterator"), (57, u "equals"), (0, u "([B[B)Z"), (107, .class_ 391), (0, u "java/lang/StringLatin1$CharsSpliterator")] 3

def k12m0 : Method := { name := "<init>", desc := "()V", sig := { parameters := [], returnType := none }, accessFlags := 0, code := none }
def k12c1 : Code := { maxStack := 3, maxLocals := 3, code := jdk_43_method_13_code, exceptionTable := #[], attributes := #[] }
def k12m1 : Method := { name := "equals", desc := "([B[B)Z", sig := { parameters := [(.array .byte), (.array .byte)], returnType := some .boolean }, accessFlags := 9, code := some k12c1 }
/-- java/lang/StringLatin1 -/
def k12 : Class := { plain "java/lang/StringLatin1" (some 0) with
  accessFlags := 48
  interfaces := #[]
  cf := some (fileOf pool12 14 #[.nestMembers #[390, 221]] #[{ accessFlags := 0, nameIndex := 7, descriptorIndex := 8, attributes := #[] }, { accessFlags := 9, nameIndex := 281, descriptorIndex := 282, attributes := #[] }] 48 4 #[] #[{ accessFlags := 4120, nameIndex := 121, descriptorIndex := 122, attributes := #[] }])
  fields := #[{ name := "$assertionsDisabled", type := .boolean, accessFlags := 4120, slot := 0, constantValue := 0 }]
  methods := #[k12m0, k12m1]
  instanceTypes := #[]
  staticTypes := #[.boolean]
  resolved := Array.replicate 395 none
  statics := none }

def pool13 : Array CpInfo := pool [(2, .class_ 4), (1, u "java/lang/Object"), (0, u "<init>"), (0, u "()V"), (17, .class_ 26), (1, u "jdk/internal/util/Preconditions"), (28, .class_ 56), (0, u "jdk/internal/util/Preconditions$4"), (57, .class_ 115), (0, u "jdk/internal/util/Preconditions$1"), (7, u "SIOOBE_FORMATTER"), (0, u "Ljava/util/function/BiFunction;"), (0, .class_ 126), (0, u "jdk/internal/util/Preconditions$2"), (3, u "AIOOBE_FORMATTER"), (0, .class_ 132), (0, u "jdk/internal/util/Preconditions$3"), (3, u "IOOBE_FORMATTER")] 57

def k13m0 : Method := { name := "<init>", desc := "()V", sig := { parameters := [], returnType := none }, accessFlags := 1, code := none }
/-- jdk/internal/util/Preconditions -/
def k13 : Class := { plain "jdk/internal/util/Preconditions" (some 0) with
  accessFlags := 33
  interfaces := #[]
  cf := some (fileOf pool13 24 #[.nestMembers #[55, 131, 125, 114]] #[{ accessFlags := 1, nameIndex := 5, descriptorIndex := 6, attributes := #[] }] 33 2 #[] #[{ accessFlags := 25, nameIndex := 123, descriptorIndex := 124, attributes := #[] }, { accessFlags := 25, nameIndex := 130, descriptorIndex := 124, attributes := #[] }, { accessFlags := 25, nameIndex := 136, descriptorIndex := 124, attributes := #[] }])
  fields := #[{ name := "SIOOBE_FORMATTER", type := (.object "java/util/function/BiFunction"), accessFlags := 25, slot := 0, constantValue := 0 }, { name := "AIOOBE_FORMATTER", type := (.object "java/util/function/BiFunction"), accessFlags := 25, slot := 1, constantValue := 0 }, { name := "IOOBE_FORMATTER", type := (.object "java/util/function/BiFunction"), accessFlags := 25, slot := 2, constantValue := 0 }]
  methods := #[k13m0]
  instanceTypes := #[]
  staticTypes := #[(.object "java/util/function/BiFunction"), (.object "java/util/function/BiFunction"), (.object "java/util/function/BiFunction")]
  resolved := Array.replicate 194 none
  statics := some 3 }

def pool14 : Array CpInfo := pool [(9, u "<init>"), (6, .class_ 18), (1, u "java/lang/Object"), (0, u "()V"), (1, .class_ 23), (1, u "jdk/internal/util/ArraysSupport"), (0, u "LOG2_ARRAY_LONG_INDEX_SCALE"), (0, u "I"), (2, u "U"), (0, u "Ljdk/internal/misc/Unsafe;"), (8, u "BIG_ENDIAN"), (0, u "Z"), (8, u "LOG2_BYTE_BIT_SIZE"), (4, u "LOG2_ARRAY_INT_INDEX_SCALE"), (54, u "JLA"), (0, u "Ljdk/internal/access/JavaLangAccess;"), (11, u "LOG2_ARRAY_BOOLEAN_INDEX_SCALE"), (9, u "LOG2_ARRAY_BYTE_INDEX_SCALE"), (5, u "LOG2_ARRAY_CHAR_INDEX_SCALE"), (5, u "LOG2_ARRAY_SHORT_INDEX_SCALE"), (18, u "LOG2_ARRAY_FLOAT_INDEX_SCALE"), (24, u "LOG2_ARRAY_DOUBLE_INDEX_SCALE"), (89, u "T_BOOLEAN"), (2, u "T_CHAR"), (1, u "T_FLOAT"), (1, u "T_DOUBLE"), (1, u "T_BYTE"), (1, u "T_SHORT"), (1, u "T_INT"), (1, u "T_LONG"), (1, u "SOFT_MAX_ARRAY_LENGTH")] 83

def k14m0 : Method := { name := "<init>", desc := "()V", sig := { parameters := [], returnType := none }, accessFlags := 2, code := none }
/-- jdk/internal/util/ArraysSupport -/
def k14 : Class := { plain "jdk/internal/util/ArraysSupport" (some 0) with
  accessFlags := 33
  interfaces := #[]
  cf := some (fileOf pool14 21 #[] #[{ accessFlags := 2, nameIndex := 9, descriptorIndex := 19, attributes := #[] }] 33 16 #[] #[{ accessFlags := 24, nameIndex := 28, descriptorIndex := 29, attributes := #[] }, { accessFlags := 26, nameIndex := 38, descriptorIndex := 39, attributes := #[] }, { accessFlags := 25, nameIndex := 121, descriptorIndex := 25, attributes := #[] }, { accessFlags := 25, nameIndex := 131, descriptorIndex := 25, attributes := #[] }, { accessFlags := 25, nameIndex := 137, descriptorIndex := 25, attributes := #[] }, { accessFlags := 25, nameIndex := 143, descriptorIndex := 25, attributes := #[] }, { accessFlags := 25, nameIndex := 53, descriptorIndex := 25, attributes := #[] }, { accessFlags := 25, nameIndex := 24, descriptorIndex := 25, attributes := #[] }, { accessFlags := 25, nameIndex := 162, descriptorIndex := 25, attributes := #[] }, { accessFlags := 25, nameIndex := 187, descriptorIndex := 25, attributes := #[] }, { accessFlags := 26, nameIndex := 48, descriptorIndex := 25, attributes := #[] }, { accessFlags := 25, nameIndex := 277, descriptorIndex := 25, attributes := #[] }, { accessFlags := 25, nameIndex := 280, descriptorIndex := 25, attributes := #[] }, { accessFlags := 25, nameIndex := 282, descriptorIndex := 25, attributes := #[] }, { accessFlags := 25, nameIndex := 284, descriptorIndex := 25, attributes := #[] }, { accessFlags := 25, nameIndex := 286, descriptorIndex := 25, attributes := #[] }, { accessFlags := 25, nameIndex := 288, descriptorIndex := 25, attributes := #[] }, { accessFlags := 25, nameIndex := 290, descriptorIndex := 25, attributes := #[] }, { accessFlags := 25, nameIndex := 292, descriptorIndex := 25, attributes := #[] }, { accessFlags := 26, nameIndex := 108, descriptorIndex := 109, attributes := #[] }, { accessFlags := 25, nameIndex := 294, descriptorIndex := 25, attributes := #[] }])
  fields := #[{ name := "U", type := (.object "jdk/internal/misc/Unsafe"), accessFlags := 24, slot := 0, constantValue := 0 }, { name := "BIG_ENDIAN", type := .boolean, accessFlags := 26, slot := 1, constantValue := 0 }, { name := "LOG2_ARRAY_BOOLEAN_INDEX_SCALE", type := .int, accessFlags := 25, slot := 2, constantValue := 0 }, { name := "LOG2_ARRAY_BYTE_INDEX_SCALE", type := .int, accessFlags := 25, slot := 3, constantValue := 0 }, { name := "LOG2_ARRAY_CHAR_INDEX_SCALE", type := .int, accessFlags := 25, slot := 4, constantValue := 0 }, { name := "LOG2_ARRAY_SHORT_INDEX_SCALE", type := .int, accessFlags := 25, slot := 5, constantValue := 0 }, { name := "LOG2_ARRAY_INT_INDEX_SCALE", type := .int, accessFlags := 25, slot := 6, constantValue := 0 }, { name := "LOG2_ARRAY_LONG_INDEX_SCALE", type := .int, accessFlags := 25, slot := 7, constantValue := 0 }, { name := "LOG2_ARRAY_FLOAT_INDEX_SCALE", type := .int, accessFlags := 25, slot := 8, constantValue := 0 }, { name := "LOG2_ARRAY_DOUBLE_INDEX_SCALE", type := .int, accessFlags := 25, slot := 9, constantValue := 0 }, { name := "LOG2_BYTE_BIT_SIZE", type := .int, accessFlags := 26, slot := 10, constantValue := 0 }, { name := "T_BOOLEAN", type := .int, accessFlags := 25, slot := 11, constantValue := 0 }, { name := "T_CHAR", type := .int, accessFlags := 25, slot := 12, constantValue := 0 }, { name := "T_FLOAT", type := .int, accessFlags := 25, slot := 13, constantValue := 0 }, { name := "T_DOUBLE", type := .int, accessFlags := 25, slot := 14, constantValue := 0 }, { name := "T_BYTE", type := .int, accessFlags := 25, slot := 15, constantValue := 0 }, { name := "T_SHORT", type := .int, accessFlags := 25, slot := 16, constantValue := 0 }, { name := "T_INT", type := .int, accessFlags := 25, slot := 17, constantValue := 0 }, { name := "T_LONG", type := .int, accessFlags := 25, slot := 18, constantValue := 0 }, { name := "JLA", type := (.object "jdk/internal/access/JavaLangAccess"), accessFlags := 26, slot := 19, constantValue := 0 }, { name := "SOFT_MAX_ARRAY_LENGTH", type := .int, accessFlags := 25, slot := 20, constantValue := 0 }]
  methods := #[k14m0]
  instanceTypes := #[]
  staticTypes := #[(.object "jdk/internal/misc/Unsafe"), .boolean, .int, .int, .int, .int, .int, .int, .int, .int, .int, .int, .int, .int, .int, .int, .int, .int, .int, (.object "jdk/internal/access/JavaLangAccess"), .int]
  resolved := Array.replicate 378 none
  statics := none }

def pool15 : Array CpInfo := pool [(1, u "java/lang/Cloneable"), (0, .class_ 1), (0, u "java/lang/Object"), (0, .class_ 3)] 3

/-- java/lang/Cloneable -/
def k15 : Class := { plain "java/lang/Cloneable" (some 0) with
  accessFlags := 1537
  interfaces := #[]
  cf := some (fileOf pool15 2 #[] #[] 1537 4 #[] #[])
  fields := #[]
  methods := #[]
  instanceTypes := #[]
  staticTypes := #[]
  resolved := Array.replicate 8 none
  statics := none }

/-- the primitive byte -/
def k16 : Class := { plain "byte" none with kind := .primitive 'B', accessFlags := 0x411 }
/-- [B -/
def k17 : Class := { plain "[B" (some 0) with kind := .array 16 .byte, interfaces := #[15, 4], accessFlags := 1041 }

/-- the primitive int -/
def k18 : Class := { plain "int" none with kind := .primitive 'I', accessFlags := 0x411 }
/-- [I -/
def k19 : Class := { plain "[I" (some 0) with kind := .array 18 .int, interfaces := #[15, 4], accessFlags := 1041 }

def heap : Heap := #[{ cls := 7, slots := #[.ref 6, .ref 7, .null], vm := .statics 7 },
  { cls := 8, slots := #[.ref 4, .ref 5, .null], vm := .statics 8 },
  { cls := 11, slots := #[.long 0, .int 1, .null, .int 0, .null, .int 0, .int 0], vm := .statics 11 },
  { cls := 13, slots := #[.null, .null, .null], vm := .statics 13 },
  { cls := 8, slots := #[.null, .int 0, .int 0, .ref 8], vm := .none },
  { cls := 8, slots := #[.null, .int 1, .int 0, .ref 9], vm := .none },
  { cls := 7, slots := #[.null, .int 0, .int 0, .ref 10], vm := .none },
  { cls := 7, slots := #[.null, .int 1, .int 0, .ref 11], vm := .none },
  { cls := 11, slots := #[.ref 12, .int 0, .int 0, .int 0], vm := .none },
  { cls := 11, slots := #[.ref 13, .int 0, .int 0, .int 0], vm := .none },
  { cls := 11, slots := #[.ref 14, .int 0, .int 0, .int 0], vm := .none },
  { cls := 11, slots := #[.ref 15, .int 0, .int 0, .int 0], vm := .none },
  { cls := 17, slots := #[.int 66], vm := .none },
  { cls := 17, slots := #[.int 83], vm := .none },
  { cls := 17, slots := #[.int 85], vm := .none },
  { cls := 17, slots := #[.int 68], vm := .none }]
def classes : Array Class := #[k0, k1, k2, k3, k4, k5, k6, k7, k8, k9, k10, k11, k12, k13, k14, k15, k16, k17, k18, k19]
def interned : List (Array UInt16 × Addr) := []
def slotsUsed : Nat := 52
def theMethod : MethodId := ⟨1, 1⟩
def args0 : Array Value := #[.int 5]
def aboutOver (below : List Frame) : State where
  vm := { classes := classes, interned := interned.toArray }
  heap := heap
  slotsUsed := slotsUsed
  threads := #[{ frames := .invoking theMethod args0 :: below }]
def below0 : List Frame := [.native { method := ⟨0, 0⟩, args := #[] }]
def about1 : State := aboutOver below0
def p0 : Program := .bare "" "" ""
def e0 : Env := launch0.env 0 0 0
theorem w_frames : about1.frames = Frame.invoking theMethod args0 :: below0 := rfl
set_option maxRecDepth 65536 in
theorem w_args : argsFit about1.vm theMethod args0 = true := by decide +kernel
set_option maxRecDepth 65536 in
theorem w_heap : heapFits about1 = true := by decide +kernel
set_option maxRecDepth 65536 in
theorem w_runnable : about1.curStatus? = some .runnable := by decide +kernel
set_option maxRecDepth 65536 in
theorem w_alone : about1.alone = true := by decide +kernel
set_option maxRecDepth 65536 in
theorem w_named : about1.methodNamed? x = some theMethod := by decide +kernel
set_option maxRecDepth 65536 in
theorem w_hears : about1.hears theMethod below0 = true := by decide +kernel
set_option maxRecDepth 65536 in
theorem w_ripe : about1.ripe theMethod args0 below0 = true := by decide +kernel
theorem w_running : about1.status = .running := rfl
set_option maxRecDepth 65536 in
theorem w_room : about1.hasRoom e0.platform room_1 = true :=
  launch0.hasRoom_least _ room_1 (by decide +kernel) (by decide +kernel) (by decide +kernel) (by decide +kernel) (by decide +kernel) (by decide +kernel)
theorem allAtoms_all (ts : List Jvm.Cond) (a : Array Jvm.Value) (st : Jvm.State) : (allAtoms ts).before a st = ts.all (fun c => c.before a st) := by
  induction ts with
  | nil => rfl
  | cons c t ih =>
    show (Jvm.Cond.and c (allAtoms t)).before a st = _
    rw [Jvm.Cond.before_and, ih, List.all_cons]
def words1 : List Jvm.Cond := Jvm.Cond.code x code maxLocals ret :: tables_1
/-- a 'code' word, met by the world's own term for the bytes: nothing is compared byte by byte -/
theorem code_word {y : MethodName} {bytes : ByteArray} {mx : Nat} {rt : Option FieldType} {a : Array Value} {s : State} {m : MethodId} {meth : Method} {c : Code} (h1 : s.methodNamed? y = some m) (h2 : s.vm.method? m = some meth) (h3 : meth.code = some c) (h4 : c.code = bytes)
    (h5 : (c.maxLocals == mx && c.exceptionTable.isEmpty && decide (c.maxStack ≤ mostOperands) && decide (meth.sig.returnType = rt) && !meth.locks && decide (parseMethodDescriptor y.desc = some meth.sig)) = true) : (Jvm.Cond.code y bytes mx rt).before a s = true := by
  simp only [Bool.and_eq_true, beq_iff_eq, Bool.not_eq_true', decide_eq_true_eq] at h5
  obtain ⟨⟨⟨⟨⟨g1, g2⟩, g3⟩, g4⟩, g5⟩, g6⟩ := h5
  simp [Cond.before, Cond.holds, Cond.value, h1, h2, h3, h4, g1, g2, g3, g4, g5, g6]
def isCode : Jvm.Cond → Bool
  | .code _ _ _ _ => true
  | _ => false
theorem all_split {L : List Jvm.Cond} {P : Jvm.Cond → Bool} (h1 : L.all (fun c => isCode c || P c) = true) (h2 : ∀ c ∈ L.filter isCode, P c = true) : L.all P = true := by
  refine List.all_eq_true.mpr fun c hc => ?_
  have h := List.all_eq_true.mp h1 c hc
  rcases Bool.eq_false_or_eq_true (isCode c) with hi | hi
  · exact h2 c (List.mem_filter.mpr ⟨hc, hi⟩)
  · simpa [hi] using h
set_option maxRecDepth 65536 in
theorem w_c0 : (Jvm.Cond.code x code maxLocals ret).before args0 about1 = true := code_word (m := ⟨1, 1⟩) (meth := k1m1) (c := k1c1) (by decide +kernel) rfl rfl rfl (by decide +kernel)
set_option maxRecDepth 65536 in
theorem w_c1 : (Jvm.Cond.code ({ cls := "com/example/lotbook/lotbook/LimitLock", name := "unfilledSide", desc := "()Lcom/example/lotbook/lotbook/Side;" } : Jvm.MethodName) prog_36_method_5_code (1 : Nat) (Option.some (Jvm.ClassFile.FieldType.object "com/example/lotbook/lotbook/Side"))).before args0 about1 = true := code_word (m := ⟨7, 1⟩) (meth := k7m1) (c := k7c1) (by decide +kernel) rfl rfl rfl (by decide +kernel)
set_option maxRecDepth 65536 in
theorem w_c2 : (Jvm.Cond.code ({ cls := "com/example/lotbook/lotbook/LimitLock", name := "code", desc := "()Ljava/lang/String;" } : Jvm.MethodName) prog_36_method_4_code (1 : Nat) (Option.some (Jvm.ClassFile.FieldType.object "java/lang/String"))).before args0 about1 = true := code_word (m := ⟨7, 0⟩) (meth := k7m0) (c := k7c0) (by decide +kernel) rfl rfl rfl (by decide +kernel)
set_option maxRecDepth 65536 in
theorem w_c3 : (Jvm.Cond.code ({ cls := "java/lang/String", name := "equals", desc := "(Ljava/lang/Object;)Z" } : Jvm.MethodName) jdk_42_method_66_code (3 : Nat) (Option.some Jvm.ClassFile.FieldType.boolean)).before args0 about1 = true := code_word (m := ⟨11, 1⟩) (meth := k11m1) (c := k11c1) (by decide +kernel) rfl rfl rfl (by decide +kernel)
set_option maxRecDepth 65536 in
theorem w_c4 : (Jvm.Cond.code ({ cls := "java/lang/StringLatin1", name := "equals", desc := "([B[B)Z" } : Jvm.MethodName) jdk_43_method_13_code (3 : Nat) (Option.some Jvm.ClassFile.FieldType.boolean)).before args0 about1 = true := code_word (m := ⟨12, 1⟩) (meth := k12m1) (c := k12c1) (by decide +kernel) rfl rfl rfl (by decide +kernel)
set_option maxRecDepth 65536 in
theorem w_c5 : (Jvm.Cond.code ({ cls := "com/example/lotbook/lotbook/Side", name := "code", desc := "()Ljava/lang/String;" } : Jvm.MethodName) prog_69_method_4_code (1 : Nat) (Option.some (Jvm.ClassFile.FieldType.object "java/lang/String"))).before args0 about1 = true := code_word (m := ⟨8, 0⟩) (meth := k8m0) (c := k8c0) (by decide +kernel) rfl rfl rfl (by decide +kernel)
def codes1 : List Jvm.Cond := [Jvm.Cond.code x code maxLocals ret, Jvm.Cond.code ({ cls := "com/example/lotbook/lotbook/LimitLock", name := "unfilledSide", desc := "()Lcom/example/lotbook/lotbook/Side;" } : Jvm.MethodName) prog_36_method_5_code (1 : Nat) (Option.some (Jvm.ClassFile.FieldType.object "com/example/lotbook/lotbook/Side")), Jvm.Cond.code ({ cls := "com/example/lotbook/lotbook/LimitLock", name := "code", desc := "()Ljava/lang/String;" } : Jvm.MethodName) prog_36_method_4_code (1 : Nat) (Option.some (Jvm.ClassFile.FieldType.object "java/lang/String")), Jvm.Cond.code ({ cls := "java/lang/String", name := "equals", desc := "(Ljava/lang/Object;)Z" } : Jvm.MethodName) jdk_42_method_66_code (3 : Nat) (Option.some Jvm.ClassFile.FieldType.boolean), Jvm.Cond.code ({ cls := "java/lang/StringLatin1", name := "equals", desc := "([B[B)Z" } : Jvm.MethodName) jdk_43_method_13_code (3 : Nat) (Option.some Jvm.ClassFile.FieldType.boolean), Jvm.Cond.code ({ cls := "com/example/lotbook/lotbook/Side", name := "code", desc := "()Ljava/lang/String;" } : Jvm.MethodName) prog_69_method_4_code (1 : Nat) (Option.some (Jvm.ClassFile.FieldType.object "java/lang/String"))]
set_option maxRecDepth 65536 in
theorem codes_eq : words1.filter isCode = codes1 := rfl
theorem w_codes : ∀ c ∈ words1.filter isCode, c.before args0 about1 = true := by
  rw [codes_eq]
  intro c hc
  simp only [codes1, List.mem_cons, List.not_mem_nil, or_false] at hc
  rcases hc with rfl | rfl | rfl | rfl | rfl | rfl
  · exact w_c0
  · exact w_c1
  · exact w_c2
  · exact w_c3
  · exact w_c4
  · exact w_c5
set_option maxRecDepth 65536 in
theorem w_t1 : (words1.take 24).all (fun c => isCode c || c.before args0 about1) = true := by decide +kernel
set_option maxRecDepth 65536 in
theorem w_t2 : ((words1.drop 24).take 24).all (fun c => isCode c || c.before args0 about1) = true := by decide +kernel
set_option maxRecDepth 65536 in
theorem w_t3 : ((words1.drop 24).drop 24).all (fun c => isCode c || c.before args0 about1) = true := by decide +kernel
theorem w_tables : (allAtoms (Jvm.Cond.code x code maxLocals ret :: tables_1)).before args0 about1 = true := by
  rw [allAtoms_all]
  show words1.all (fun c => c.before args0 about1) = true
  refine all_split ?_ w_codes
  rw [← List.take_append_drop 24 words1, List.all_append, w_t1, ← List.take_append_drop 24 (words1.drop 24), List.all_append, w_t2, w_t3]
  rfl
set_option maxRecDepth 65536 in
theorem w_rest : rest_1_c.before args0 about1 = true := by decide +kernel
set_option maxRecDepth 65536 in
theorem w_case : (Jvm.Cond.and given_1 narrow_1).before args0 about1 = true := by decide +kernel
set_option maxRecDepth 65536 in
theorem w_consts : constsHeld consts_1 about1 := Jvm.Lit.constsHeldB_iff.mp (by decide +kernel)
theorem w_applies : (headSpec (Jvm.Cond.code x code maxLocals ret :: tables_1) room_1).applies x e0.platform about1 = true :=
  (Spec.applies_iff w_frames).mpr ⟨w_running, w_runnable, w_alone, w_named, w_hears, w_ripe, w_room, w_tables⟩
theorem atStart : AtStart classFile x code maxLocals ret World_1 tables_1 room_1 Calls_1 rest_1 Pre_1 launch0 p0 e0 about1 theMethod args0 below0 :=
  ⟨lists_1, trivial, launch0.admits_env _ _ _, launch0.least_env, fairChoices_fair.cas, fairChoices_fair.clock, w_frames, w_args, w_heap, w_applies, ⟨w_consts, trivial⟩, w_rest, w_case⟩
end start1
theorem witness_1 : WitnessClaimed_1 := ⟨start1.p0, start1.e0, start1.about1, start1.theMethod, start1.args0, start1.below0, start1.atStart⟩
end Jvm.Pilot.@@N@@
