import JvmDerived
import JvmDerived.Pilot.@@N@@Statement
import JvmDerived.Pilot.@@N@@Code
set_option linter.unusedVariables false
set_option linter.unusedSimpArgs false
namespace Jvm.RoadKit
open Sem ClassFile Op Lib Jvm.Stand Jvm.Free Jvm.LawKit
section OwnGo
variable {p : Program} {l : Launch} {e : Env} {R : Room} {s : State} {m : MethodId} {args : Array Value} {below : List Frame} {meth : Method} {c : Code} {T T' : State} {locs : List Loc} {cells slots ck sk : Nat} {Q : Option Value → Heap → List Loc → Prop}
/-- from the state T the body comes to its end, with Q -/
def Go (p : Program) (e : Env) (below : List Frame) (s : State) (ck sk : Nat) (Q : Option Value → Heap → List Loc → Prop) (T : State) : Prop :=
  ∃ s₂ o, Steps p.tables e below T s₂ ∧ s₂.status = .running ∧ Ended s₂ below o ∧ ∃ v L, o = .returned v ∧ Q v s₂.heap L ∧ FrameEnd s o s₂ L ck sk
theorem Go.by (h : ∀ t, Steps p.tables e below T' t → Steps p.tables e below T t) (g : Go p e below s ck sk Q T') : Go p e below s ck sk Q T := by
  obtain ⟨s₂, o, h1, r⟩ := g
  exact ⟨s₂, o, h _ h1, r⟩
theorem Go.tr (h : Steps p.tables e below T T') (g : Go p e below s ck sk Q T') : Go p e below s ck sk Q T := by
  obtain ⟨s₂, o, h1, r⟩ := g
  exact ⟨s₂, o, h.trans h1, r⟩
theorem Go.fin (X : Stand p l e R s m args below meth c T locs cells slots) {v : Option Value} (hv : meth.sig.returnType = none → v = none) (hlk : meth.locks = false)
    (st : ∀ fs : List Frame, (∀ (f : JFrame) (acts : List Action), f.method = m → f.locked = none → f.entered = [] → (doReturn e (T.setTop f) acts v).1 = T.setFrames fs) → Steps p.tables e below T' (T.setFrames fs))
    (hq : Q v T.heap locs) (hc : cells ≤ ck) (hs : slots ≤ sk) : Go p e below s ck sk Q T' := by
  obtain ⟨fs, hr, hrun, hended, hW, hsame⟩ := X.leave hv hlk
  exact ⟨_, _, st fs hr, hrun, hended, _, _, rfl, hq, ⟨_, rfl⟩, hW, hsame.mono hc hs⟩
theorem Go.retV (X : Stand p l e R s m args below meth c T locs cells slots) (hx : p.tables.exec = Jvm.exec) {pc : Nat} {Ls : Array Slot} (hret : meth.sig.returnType = none) (hlk : meth.locks = false) (hd : decode c.code pc = .ok (.return_, 1))
    (hq : Q none T.heap locs) (hc : cells ≤ ck) (hs : slots ≤ sk) : Go p e below s ck sk Q (T.setTop (mkF m pc Ls [])) :=
  Go.fin X (fun _ => rfl) hlk (fun fs hr => X.returnOut hx hret hd hr) hq hc hs
theorem Go.retN (X : Stand p l e R s m args below meth c T locs cells slots) (hx : p.tables.exec = Jvm.exec) {pc : Nat} {Ls : Array Slot} {z : Int32} {t : FieldType} {rest : List Value} (hret : meth.sig.returnType = some t) (ht : t = .boolean ∨ t = .byte ∨ t = .char ∨ t = .short) (hlk : meth.locks = false) (hd : decode c.code pc = .ok (.ireturn, 1))
    (hq : Q (some (.int (nar t z))) T.heap locs) (hc : cells ≤ ck) (hs : slots ≤ sk) : Go p e below s ck sk Q (T.setTop (mkF m pc Ls (.int z :: rest))) :=
  Go.fin X (fun h => by rw [hret] at h; cases h) hlk (fun fs hr => Jvm.RoadKit.retN X hx hret ht hd hr) hq hc hs
theorem Go.retI (X : Stand p l e R s m args below meth c T locs cells slots) (hx : p.tables.exec = Jvm.exec) {pc : Nat} {Ls : Array Slot} {z : Int32} {rest : List Value} (hret : meth.sig.returnType = some .int) (hlk : meth.locks = false) (hd : decode c.code pc = .ok (.ireturn, 1))
    (hq : Q (some (.int z)) T.heap locs) (hc : cells ≤ ck) (hs : slots ≤ sk) : Go p e below s ck sk Q (T.setTop (mkF m pc Ls (.int z :: rest))) :=
  Go.fin X (fun h => by rw [hret] at h; cases h) hlk (fun fs hr => retOut X hx hret rfl (Or.inl ⟨rfl, Or.inl rfl, z, rfl⟩) hd hr) hq hc hs
theorem Go.retJ (X : Stand p l e R s m args below meth c T locs cells slots) (hx : p.tables.exec = Jvm.exec) {pc : Nat} {Ls : Array Slot} {z : Int64} {rest : List Value} (hret : meth.sig.returnType = some .long) (hlk : meth.locks = false) (hd : decode c.code pc = .ok (.lreturn, 1))
    (hq : Q (some (.long z)) T.heap locs) (hc : cells ≤ ck) (hs : slots ≤ sk) : Go p e below s ck sk Q (T.setTop (mkF m pc Ls (.long z :: rest))) :=
  Go.fin X (fun h => by rw [hret] at h; cases h) hlk (fun fs hr => retOut X hx hret rfl (Or.inr (Or.inl ⟨rfl, rfl, z, rfl⟩)) hd hr) hq hc hs
theorem Go.retR (X : Stand p l e R s m args below meth c T locs cells slots) (hx : p.tables.exec = Jvm.exec) {pc : Nat} {Ls : Array Slot} {w : Value} {t : FieldType} {rest : List Value} (hret : meth.sig.returnType = some t) (ht : t.isReference = true) (hw : w.isRef = true) (hlk : meth.locks = false) (hd : decode c.code pc = .ok (.areturn, 1))
    (hq : Q (some w) T.heap locs) (hc : cells ≤ ck) (hs : slots ≤ sk) : Go p e below s ck sk Q (T.setTop (mkF m pc Ls (w :: rest))) := by
  refine Go.fin X (fun h => by rw [hret] at h; cases h) hlk (fun fs hr => retOut X hx hret ?_ (Or.inr (Or.inr (Or.inr (Or.inr ⟨rfl, ht, hw⟩)))) hd hr) hq hc hs
  rcases ref_cases hw with rfl | ⟨a, rfl⟩ <;> cases t <;> first | rfl | cases ht
/-- the same where Strings may be interned on the way -/
def GoW (p : Program) (e : Env) (below : List Frame) (s : State) (ck sk : Nat) (Q : Option Value → Heap → List Loc → Prop) (T : State) : Prop :=
  ∃ s₂ o, Steps p.tables e below T s₂ ∧ s₂.status = .running ∧ Ended s₂ below o ∧ ∃ v L, o = .returned v ∧ Q v s₂.heap L ∧ ReturnedEndW s o s₂ L ck sk
theorem GoW.by (h : ∀ t, Steps p.tables e below T' t → Steps p.tables e below T t) (g : GoW p e below s ck sk Q T') : GoW p e below s ck sk Q T := by
  obtain ⟨s₂, o, h1, r⟩ := g
  exact ⟨s₂, o, h _ h1, r⟩
theorem GoW.tr (h : Steps p.tables e below T T') (g : GoW p e below s ck sk Q T') : GoW p e below s ck sk Q T := by
  obtain ⟨s₂, o, h1, r⟩ := g
  exact ⟨s₂, o, h.trans h1, r⟩
theorem GoW.fin {vm1 : Vm} {k1 : Nat} (X : Stand p l e R (s.setVm vm1) m args below meth c T locs cells slots) (hS : s.Since vm1 k1) (hk : k1 ≤ T.heap.size) {v : Option Value} (hv : meth.sig.returnType = none → v = none) (hlk : meth.locks = false)
    (st : ∀ fs : List Frame, (∀ (f : JFrame) (acts : List Action), f.method = m → f.locked = none → f.entered = [] → (doReturn e (T.setTop f) acts v).1 = T.setFrames fs) → Steps p.tables e below T' (T.setFrames fs))
    (hq : Q v T.heap locs) (hc : cells ≤ ck) (hs : slots ≤ sk) : GoW p e below s ck sk Q T' := by
  obtain ⟨fs, hr, hrun, hended, hW, hsame⟩ := X.leave hv hlk
  obtain ⟨q1, q2, q3⟩ := hS.ended (U := T.setFrames fs) hW hk hsame
  exact ⟨_, _, st fs hr, hrun, hended, _, _, rfl, hq, ⟨_, rfl⟩, q1, q2, q3.mono hc hs⟩
theorem GoW.retV {vm1 : Vm} {k1 : Nat} (X : Stand p l e R (s.setVm vm1) m args below meth c T locs cells slots) (hS : s.Since vm1 k1) (hk : k1 ≤ T.heap.size) (hx : p.tables.exec = Jvm.exec) {pc : Nat} {Ls : Array Slot} (hret : meth.sig.returnType = none) (hlk : meth.locks = false) (hd : decode c.code pc = .ok (.return_, 1))
    (hq : Q none T.heap locs) (hc : cells ≤ ck) (hs : slots ≤ sk) : GoW p e below s ck sk Q (T.setTop (mkF m pc Ls [])) :=
  GoW.fin X hS hk (fun _ => rfl) hlk (fun fs hr => X.returnOut hx hret hd hr) hq hc hs
theorem GoW.retN {vm1 : Vm} {k1 : Nat} (X : Stand p l e R (s.setVm vm1) m args below meth c T locs cells slots) (hS : s.Since vm1 k1) (hk : k1 ≤ T.heap.size) (hx : p.tables.exec = Jvm.exec) {pc : Nat} {Ls : Array Slot} {z : Int32} {t : FieldType} {rest : List Value} (hret : meth.sig.returnType = some t) (ht : t = .boolean ∨ t = .byte ∨ t = .char ∨ t = .short) (hlk : meth.locks = false) (hd : decode c.code pc = .ok (.ireturn, 1))
    (hq : Q (some (.int (nar t z))) T.heap locs) (hc : cells ≤ ck) (hs : slots ≤ sk) : GoW p e below s ck sk Q (T.setTop (mkF m pc Ls (.int z :: rest))) :=
  GoW.fin X hS hk (fun h => by rw [hret] at h; cases h) hlk (fun fs hr => Jvm.RoadKit.retN X hx hret ht hd hr) hq hc hs
theorem GoW.retR {vm1 : Vm} {k1 : Nat} (X : Stand p l e R (s.setVm vm1) m args below meth c T locs cells slots) (hS : s.Since vm1 k1) (hk : k1 ≤ T.heap.size) (hx : p.tables.exec = Jvm.exec) {pc : Nat} {Ls : Array Slot} {w : Value} {t : FieldType} {rest : List Value} (hret : meth.sig.returnType = some t) (ht : t.isReference = true) (hw : w.isRef = true) (hlk : meth.locks = false) (hd : decode c.code pc = .ok (.areturn, 1))
    (hq : Q (some w) T.heap locs) (hc : cells ≤ ck) (hs : slots ≤ sk) : GoW p e below s ck sk Q (T.setTop (mkF m pc Ls (w :: rest))) := by
  refine GoW.fin X hS hk (fun h => by rw [hret] at h; cases h) hlk (fun fs hr => retOut X hx hret ?_ (Or.inr (Or.inr (Or.inr (Or.inr ⟨rfl, ht, hw⟩)))) hd hr) hq hc hs
  rcases ref_cases hw with rfl | ⟨a, rfl⟩ <;> cases t <;> first | rfl | cases ht
end OwnGo
theorem own_selp {Z s : State} {a0 args : Array Value} {y : MethodName} {n : Nat} (hZ : Z.Warmed39 s.vm) (wi : (Cond.instantiable y.cls n).before a0 Z = true) (wp : (Cond.privateMethod y).before a0 Z = true) (wm : (Cond.instanceMethod y).before a0 Z = true) (hy : y.cls ≠ "java/lang/invoke/MethodHandle" ∧ y.cls ≠ "java/lang/invoke/VarHandle") : (Cond.selects y.cls y y).before args s = true := by
  obtain ⟨c, k, h1, h2, -, h4, -⟩ := Cond.instantiable_spec (mv (args := args) hZ wi)
  exact selects_self_of_private h1 h2 (by simpa using (Bool.or_eq_false_iff.mp h4).1) (Cond.privateMethod_at (mvP (args := args) hZ wp)) (mv hZ wm) hy
theorem own_zn {z : Int32} (h : z = (0 : Int32) ∨ z = (1 : Int32)) : narrow .boolean (.int z) = .int z := by rcases h with rfl | rfl <;> rfl
theorem own_zf {z : Int32} (h : z = (0 : Int32) ∨ z = (1 : Int32)) : fits .boolean (.int z) = true := by rcases h with rfl | rfl <;> rfl
theorem own_ns {Z : State} {h : Heap} {b : Addr} {C : String} (E : Exa Z h b C) : ∀ cell : Cell, h[b]? = some cell → cell.vm.isStatics = false := fun cell hc => by
  obtain ⟨c, _, h1, -, -, h4, -⟩ := E
  cases h1.symm.trans hc
  exact h4
theorem own_stakeep {Z : State} {h h' : Heap} {C n d : String} {v : Value} {ws : List Addr} (F : Sta Z h C n d v) (K : Keep h h' ws) (q : ∀ x ∈ ws, ∀ cell : Cell, h[x]? = some cell → cell.vm.isStatics = false) : Sta Z h' C n d v := by
  obtain ⟨cf, i, k, f, st, cell, h1, h2, h3, h4, h5, h6, h7⟩ := F
  refine ⟨cf, i, k, f, st, cell, h1, h2, h3, h4, K.2.1 st cell h5 fun z => ?_, h6, h7⟩
  rw [q st z cell h5] at h6
  cases h6
section OwnLong
variable {Z : State} {h h' : Heap} {a b : Addr} {k : ClassId} {n j : Int32} {x : Int64} {ws : List Addr} {sl : Nat} {v : Value}
/-- a long[] of the length n, whatever it holds -/
def LA (Z : State) (h : Heap) (a : Addr) (k : ClassId) (n : Int32) : Prop := ∃ c : Cell, Arr Z h a c .long ∧ c.cls = k ∧ c.slots.size = n.toNatClampNeg ∧ ¬ n < 0 ∧ ∀ i, i < c.slots.size → ∃ x : Int64, c.slots[i]? = some (.long x)
theorem LA.lt (F : LA Z h a k n) : a < h.size := by obtain ⟨c, A, -⟩ := F; exact A.lt
theorem LA.ext (F : LA Z h a k n) (E : Ext h h') : LA Z h' a k n := by obtain ⟨c, A, r⟩ := F; exact ⟨c, A.ext E, r⟩
theorem LA.other (F : LA Z h b k n) (W : Wr h h' a sl v) (q : b ≠ a) : LA Z h' b k n := by obtain ⟨c, A, r⟩ := F; exact ⟨c, A.other W q, r⟩
theorem LA.keep (F : LA Z h a k n) (K : Keep h h' ws) (q : a ∉ ws) : LA Z h' a k n := by obtain ⟨c, A, r⟩ := F; exact ⟨c, ⟨K.2.1 a c A.1 q, A.2⟩, r⟩
theorem LA.new (A : Arr Z h a (newA k .long n) .long) (q : ¬ n < 0) : LA Z h a k n := ⟨_, A, rfl, sz_new _ _ _, q, fun i hi => ⟨0, by
  have hi' : i < n.toNatClampNeg := by rw [sz_new] at hi; exact hi
  show (Array.replicate n.toNatClampNeg (defaultValue .long))[i]? = _
  simp [hi', defaultValue]⟩⟩
theorem LA.set {c : Cell} (A : Arr Z h a c .long) (q1 : c.cls = k) (S : c.slots.size = n.toNatClampNeg) (q3 : ¬ n < 0) (G : ∀ i, i < c.slots.size → ∃ x : Int64, c.slots[i]? = some (.long x)) (W : Wr h h' a sl (.long x)) : LA Z h' a k n := by
  refine ⟨_, A.same W, q1, by rw [sz_set]; exact S, q3, fun i hi => ?_⟩
  rw [sz_set] at hi
  by_cases e : sl = i
  · subst e; exact ⟨x, by simp [Cell.setSlot, hi]⟩
  · obtain ⟨y, hy⟩ := G i hi
    exact ⟨y, by rw [← hy]; exact Array.getElem?_setIfInBounds_ne e⟩
end OwnLong
section OwnStart
variable {args : Array Value} {s : State} {a b t : Term}
theorem own_eqI {n : Int32} (h : (Cond.eq a (.int n)).value args s none s [] = some true) : a.eval args s none [] s = some (.int n) := by
  cases ha : a.eval args s none [] s with
  | none => simp [Cond.value, ha] at h
  | some x => cases x <;> simp [Cond.value, ha, Term.eval] at h ⊢ <;> exact h
theorem own_eqL {n : Int64} (h : (Cond.eq a (.long n)).value args s none s [] = some true) : a.eval args s none [] s = some (.long n) := by
  cases ha : a.eval args s none [] s with
  | none => simp [Cond.value, ha] at h
  | some x => cases x <;> simp [Cond.value, ha, Term.eval] at h ⊢ <;> exact h
theorem own_eqR {x : Addr} (h : (Cond.eq a b).value args s none s [] = some true) (hb : b.eval args s none [] s = some (.ref x)) : a.eval args s none [] s = some (.ref x) := by
  cases ha : a.eval args s none [] s with
  | none => simp [Cond.value, ha] at h
  | some y => cases y <;> simp [Cond.value, ha, hb] at h ⊢ <;> exact h
theorem own_neR {x y : Addr} (h : (Cond.not (Cond.eq a b)).value args s none s [] = some true) (ha : a.eval args s none [] s = some (.ref x)) (hb : b.eval args s none [] s = some (.ref y)) : x ≠ y := by
  intro e
  subst e
  simp [Cond.value, ha, hb] at h
theorem own_lenv {n : Int32} {x : Addr} {cl : Cell} (h : (Term.length t).eval args s none [] s = some (.int n)) (ht : t.eval args s none [] s = some (.ref x)) (hc : s.heap[x]? = some cl) : cl.slots.size < 2 ^ 31 ∧ cl.slots.size.toInt32 = n := by
  obtain ⟨a', cell, e1, e2, e3⟩ := Term.length_spec h
  cases ht.symm.trans e1
  have hcl : cell = cl := by
    simp only [State.arrayAt?, hc, Option.bind_eq_bind, Option.bind_some] at e2
    cases hk : s.vm.classes[cl.cls]? with
    | none => simp [hk] at e2
    | some k =>
      simp only [hk, Option.bind_some] at e2
      split at e2
      · cases e2
      · split at e2
        · exact (Option.some.inj e2).symm
        · cases e2
  subst hcl
  refine ⟨?_, (Value.int.inj e3).symm⟩
  simp only [Term.eval, ht, e2, Option.bind_eq_bind, Option.bind_some] at h
  split at h
  · assumption
  · cases h
end OwnStart
end Jvm.RoadKit
namespace Jvm.Pilot.@@N@@
open Jvm Jvm.ClassFile Sem Op Lib Jvm.Free Jvm.Stand Jvm.LawKit Jvm.RoadKit Bundle Jvm.Pilot.@@N@@.Jvm.D
theorem own_m3 (a : Int32) : a &&& (3 : Int32) = 0 ∨ a &&& (3 : Int32) = 1 ∨ a &&& (3 : Int32) = 2 ∨ a &&& (3 : Int32) = 3 := by
  have h := c_mask a 3 2 (by decide) (by decide)
  simp only [← Int32.toInt_inj, h]
  have e0 : (0 : Int32).toInt = 0 := by decide
  have e1 : (1 : Int32).toInt = 1 := by decide
  have e2 : (2 : Int32).toInt = 2 := by decide
  have e3 : (3 : Int32).toInt = 3 := by decide
  rw [e0, e1, e2, e3]; omega

theorem dXA0_0 : decode prog_14_method_11_code 0 = .ok (.iconst 0, 1) := by decide +kernel
theorem dXA0_1 : decode prog_14_method_11_code 1 = .ok (.istore_n 2, 1) := by decide +kernel
theorem dXA0_2 : decode prog_14_method_11_code 2 = .ok (.iload_n 2, 1) := by decide +kernel
theorem dXA0_3 : decode prog_14_method_11_code 3 = .ok (.aload_n 0, 1) := by decide +kernel
theorem dXA0_4 : decode prog_14_method_11_code 4 = .ok (.arraylength, 1) := by decide +kernel
theorem dXA0_5 : decode prog_14_method_11_code 5 = .ok (.if_icmp .ge 18, 3) := by decide +kernel
theorem dXA0_23 : decode prog_14_method_11_code 23 = .ok (.return_, 1) := by decide +kernel
theorem pnXA0 : plainName "com/example/runs_to_nets/runstonets/core/Gf2Basis" = true := by first | (simp [plainName, overriddenIn]; done) | decide +kernel
theorem efXA0 (m : MethodId) (a : Addr) : entryFrame m #[(.ref a), (.ref a)] 3 = mkF m 0 #[.val (.ref a), .val (.ref a), .unset] [] := by first | (simp [entryFrame, mkF, argsToLocals, Value.category]; done) | rfl
def QXA0 (Z : State) (a : Addr) (kc_a : ClassId) (h0 : Heap) (n0 : Nat) (v : Option Value) (h : Heap) (L : List Loc) : Prop := (v = none ∧ Fr n0 L ∧ h = h0)
set_option maxRecDepth 65536 in
set_option maxHeartbeats 40000000 in
theorem rmXA0 (l : Launch) (Z : State) (a0 : Array Value) (hw : ∀ d ∈ tables_1, d.before a0 Z = true) (ws : List Jvm.Cond) (a : Addr) (kc_a : ClassId) (h0 : Heap) (n0 : Nat) (Z0 : n0 ≤ h0.size) (V0_a : Arv Z h0 a kc_a .long (0 : Int32) [] (.long (0 : Int64))) :
    MetFree l (⟨"com/example/runs_to_nets/runstonets/core/Gf2Basis", "xor", "([J[J)V"⟩ : MethodName) (head1 (Jvm.Cond.code (⟨"com/example/runs_to_nets/runstonets/core/Gf2Basis", "xor", "([J[J)V"⟩ : MethodName) prog_14_method_11_code 3 none :: ws) ({ frames := 0, cells := 0, slots := 0, locals := 0 } : Room)) (fun aa_ U_ => aa_ = #[(.ref a), (.ref a)] ∧ Z.Warmed39 U_.vm ∧ U_.heap = h0) (fun _ _ _ _ _ => True) (fun _ U_ o_ V_ => ∃ v_ L_, o_ = .returned v_ ∧ QXA0 Z a kc_a h0 n0 v_ V_.heap L_ ∧ FrameEnd U_ o_ V_ L_ ({ frames := 0, cells := 0, slots := 0, locals := 0 } : Room).cells ({ frames := 0, cells := 0, slots := 0, locals := 0 } : Room).slots) := by
  refine MetFree.of_bodySF (plainFor_of_name pnXA0) hisR ?_
  intro p e s m args below meth c s₁ Bd hml0 hP hK
  obtain ⟨rfl, hZ, hh⟩ := hP
  have hx := Bd.exec
  have hby := Bd.bytes
  have hml : c.maxLocals = 3 := hml0
  have hown : s.vm.findClass "com/example/runs_to_nets/runstonets/core/Gf2Basis" = some m.cls := findClass_of_methodNamed Bd.named
  have hnm := (name_of_methodNamed Bd.named Bd.method).1
  have hlk : meth.locks = false := BodyLoose.notSynchronized Bd
  have hret : meth.sig.returnType = none := Bd.returns
  have X0 : Stand p l e ({ frames := 0, cells := 0, slots := 0, locals := 0 } : Room) s m #[(.ref a), (.ref a)] below meth c s₁ [] 0 0 := Stand.of_body Bd
  have e0 : s₁.heap = h0 := by rw [← hh, Bd.state]; rfl
  have N0 := Fr.nil n0
  show Go p e below s ({ frames := 0, cells := 0, slots := 0, locals := 0 } : Room).cells ({ frames := 0, cells := 0, slots := 0, locals := 0 } : Room).slots (QXA0 Z a kc_a h0 n0) (s₁.setTop (entryFrame m #[(.ref a), (.ref a)] 3))
  rw [efXA0]
  refine Go.by (fun _ kont => XS.iconst X0.here hx rfl (hb hby dXA0_0) (XS.istoreN X0.here hx rfl (hb hby dXA0_1) rfl (l' := #[.val (.ref a), .val (.ref a), .val (.int (0 : Int32))]) rfl (XS.iloadN X0.here hx rfl (hb hby dXA0_2) rfl (XS.aloadN X0.here hx rfl (hb hby dXA0_3) rfl rfl kont)))) ?_
  show Go _ _ _ _ _ _ _ (s₁.setTop (mkF m 4 #[.val (.ref a), .val (.ref a), .val (.int (0 : Int32))] [(.ref a), (.int (0 : Int32))]))
  obtain ⟨cl_q101, Ar_q101, q1_q101, S_q101, N_q101, H_q101, G_q101⟩ := id V0_a
  refine Go.by (X0.arraylength hx (by first | exact Ar_q101.1 | (rw [e0]; exact Ar_q101.1)) (State.isArrayOf_alike hZ.alike Ar_q101.2.1) (g := (mkF m 4 #[.val (.ref a), .val (.ref a), .val (.int (0 : Int32))] [(.ref a), (.int (0 : Int32))])) rfl rfl (hb hby dXA0_4)) ?_
  rw [len_of S_q101 N_q101]
  show Go _ _ _ _ _ _ _ (s₁.setTop (mkF m 5 #[.val (.ref a), .val (.ref a), .val (.int (0 : Int32))] [(.int (0 : Int32)), (.int (0 : Int32))]))
  refine Go.by (fun _ kont => XS.icmpYes X0.here hx rfl (pc0 := 5) (pc' := 23) rfl (hb hby dXA0_5) rfl (by decide) (by decide) (by decide) kont) ?_
  show Go _ _ _ _ _ _ _ (s₁.setTop (mkF m 23 #[.val (.ref a), .val (.ref a), .val (.int (0 : Int32))] []))
  refine Go.retV X0 hx hret hlk (hb hby dXA0_23) ?_ (by decide) (by decide)
  show QXA0 Z a kc_a h0 n0 none s₁.heap _
  rw [e0]
  exact ⟨rfl, N0, rfl⟩

theorem dXB0_0 : decode prog_14_method_11_code 0 = .ok (.iconst 0, 1) := by decide +kernel
theorem dXB0_1 : decode prog_14_method_11_code 1 = .ok (.istore_n 2, 1) := by decide +kernel
theorem dXB0_2 : decode prog_14_method_11_code 2 = .ok (.iload_n 2, 1) := by decide +kernel
theorem dXB0_3 : decode prog_14_method_11_code 3 = .ok (.aload_n 0, 1) := by decide +kernel
theorem dXB0_4 : decode prog_14_method_11_code 4 = .ok (.arraylength, 1) := by decide +kernel
theorem dXB0_5 : decode prog_14_method_11_code 5 = .ok (.if_icmp .ge 18, 3) := by decide +kernel
theorem dXB0_23 : decode prog_14_method_11_code 23 = .ok (.return_, 1) := by decide +kernel
theorem pnXB0 : plainName "com/example/runs_to_nets/runstonets/core/Gf2Basis" = true := by first | (simp [plainName, overriddenIn]; done) | decide +kernel
theorem efXB0 (m : MethodId) (a : Addr) (b : Addr) : entryFrame m #[(.ref a), (.ref b)] 3 = mkF m 0 #[.val (.ref a), .val (.ref b), .unset] [] := by first | (simp [entryFrame, mkF, argsToLocals, Value.category]; done) | rfl
def QXB0 (Z : State) (a : Addr) (b : Addr) (kc_a : ClassId) (kc_b : ClassId) (h0 : Heap) (n0 : Nat) (v : Option Value) (h : Heap) (L : List Loc) : Prop := (v = none ∧ Fr n0 L ∧ h = h0)
set_option maxRecDepth 65536 in
set_option maxHeartbeats 40000000 in
theorem rmXB0 (l : Launch) (Z : State) (a0 : Array Value) (hw : ∀ d ∈ tables_1, d.before a0 Z = true) (ws : List Jvm.Cond) (a : Addr) (b : Addr) (kc_a : ClassId) (kc_b : ClassId) (h0 : Heap) (n0 : Nat) (Z0 : n0 ≤ h0.size) (V0_a : Arv Z h0 a kc_a .long (0 : Int32) [] (.long (0 : Int64))) (V0_b : Arv Z h0 b kc_b .long (0 : Int32) [] (.long (0 : Int64))) (ne0_a_b : a ≠ b) :
    MetFree l (⟨"com/example/runs_to_nets/runstonets/core/Gf2Basis", "xor", "([J[J)V"⟩ : MethodName) (head1 (Jvm.Cond.code (⟨"com/example/runs_to_nets/runstonets/core/Gf2Basis", "xor", "([J[J)V"⟩ : MethodName) prog_14_method_11_code 3 none :: ws) ({ frames := 0, cells := 0, slots := 0, locals := 0 } : Room)) (fun aa_ U_ => aa_ = #[(.ref a), (.ref b)] ∧ Z.Warmed39 U_.vm ∧ U_.heap = h0) (fun _ _ _ _ _ => True) (fun _ U_ o_ V_ => ∃ v_ L_, o_ = .returned v_ ∧ QXB0 Z a b kc_a kc_b h0 n0 v_ V_.heap L_ ∧ FrameEnd U_ o_ V_ L_ ({ frames := 0, cells := 0, slots := 0, locals := 0 } : Room).cells ({ frames := 0, cells := 0, slots := 0, locals := 0 } : Room).slots) := by
  refine MetFree.of_bodySF (plainFor_of_name pnXB0) hisR ?_
  intro p e s m args below meth c s₁ Bd hml0 hP hK
  obtain ⟨rfl, hZ, hh⟩ := hP
  have hx := Bd.exec
  have hby := Bd.bytes
  have hml : c.maxLocals = 3 := hml0
  have hown : s.vm.findClass "com/example/runs_to_nets/runstonets/core/Gf2Basis" = some m.cls := findClass_of_methodNamed Bd.named
  have hnm := (name_of_methodNamed Bd.named Bd.method).1
  have hlk : meth.locks = false := BodyLoose.notSynchronized Bd
  have hret : meth.sig.returnType = none := Bd.returns
  have X0 : Stand p l e ({ frames := 0, cells := 0, slots := 0, locals := 0 } : Room) s m #[(.ref a), (.ref b)] below meth c s₁ [] 0 0 := Stand.of_body Bd
  have e0 : s₁.heap = h0 := by rw [← hh, Bd.state]; rfl
  have N0 := Fr.nil n0
  show Go p e below s ({ frames := 0, cells := 0, slots := 0, locals := 0 } : Room).cells ({ frames := 0, cells := 0, slots := 0, locals := 0 } : Room).slots (QXB0 Z a b kc_a kc_b h0 n0) (s₁.setTop (entryFrame m #[(.ref a), (.ref b)] 3))
  rw [efXB0]
  refine Go.by (fun _ kont => XS.iconst X0.here hx rfl (hb hby dXB0_0) (XS.istoreN X0.here hx rfl (hb hby dXB0_1) rfl (l' := #[.val (.ref a), .val (.ref b), .val (.int (0 : Int32))]) rfl (XS.iloadN X0.here hx rfl (hb hby dXB0_2) rfl (XS.aloadN X0.here hx rfl (hb hby dXB0_3) rfl rfl kont)))) ?_
  show Go _ _ _ _ _ _ _ (s₁.setTop (mkF m 4 #[.val (.ref a), .val (.ref b), .val (.int (0 : Int32))] [(.ref a), (.int (0 : Int32))]))
  obtain ⟨cl_q101, Ar_q101, q1_q101, S_q101, N_q101, H_q101, G_q101⟩ := id V0_a
  refine Go.by (X0.arraylength hx (by first | exact Ar_q101.1 | (rw [e0]; exact Ar_q101.1)) (State.isArrayOf_alike hZ.alike Ar_q101.2.1) (g := (mkF m 4 #[.val (.ref a), .val (.ref b), .val (.int (0 : Int32))] [(.ref a), (.int (0 : Int32))])) rfl rfl (hb hby dXB0_4)) ?_
  rw [len_of S_q101 N_q101]
  show Go _ _ _ _ _ _ _ (s₁.setTop (mkF m 5 #[.val (.ref a), .val (.ref b), .val (.int (0 : Int32))] [(.int (0 : Int32)), (.int (0 : Int32))]))
  refine Go.by (fun _ kont => XS.icmpYes X0.here hx rfl (pc0 := 5) (pc' := 23) rfl (hb hby dXB0_5) rfl (by decide) (by decide) (by decide) kont) ?_
  show Go _ _ _ _ _ _ _ (s₁.setTop (mkF m 23 #[.val (.ref a), .val (.ref b), .val (.int (0 : Int32))] []))
  refine Go.retV X0 hx hret hlk (hb hby dXB0_23) ?_ (by decide) (by decide)
  show QXB0 Z a b kc_a kc_b h0 n0 none s₁.heap _
  rw [e0]
  exact ⟨rfl, N0, rfl⟩

theorem dW00_0 : decode method_3_code 0 = .ok (.iload_n 1, 1) := by decide +kernel
theorem dW00_1 : decode method_3_code 1 = .ok (.aload_n 0, 1) := by decide +kernel
theorem dW00_2 : decode method_3_code 2 = .ok (.arraylength, 1) := by decide +kernel
theorem dW00_3 : decode method_3_code 3 = .ok (.if_icmp .ge 9, 3) := by decide +kernel
theorem dW00_12 : decode method_3_code 12 = .ok (.lconst 0, 1) := by decide +kernel
theorem dW00_13 : decode method_3_code 13 = .ok (.lreturn, 1) := by decide +kernel
theorem pnW00 : plainName "com/example/runs_to_nets/runstonets/core/Gf2BasisXorPinLaw" = true := by first | (simp [plainName, overriddenIn]; done) | decide +kernel
theorem efW00 (m : MethodId) (a : Addr) : entryFrame m #[(.ref a), (.int (0 : Int32))] 2 = mkF m 0 #[.val (.ref a), .val (.int (0 : Int32))] [] := by first | (simp [entryFrame, mkF, argsToLocals, Value.category]; done) | rfl
def QW00 (Z : State) (a : Addr) (kc_a : ClassId) (h0 : Heap) (n0 : Nat) (v : Option Value) (h : Heap) (L : List Loc) : Prop := (v = some (.long (0 : Int64)) ∧ Fr n0 L ∧ h = h0)
set_option maxRecDepth 65536 in
set_option maxHeartbeats 40000000 in
theorem rmW00 (l : Launch) (Z : State) (a0 : Array Value) (hw : ∀ d ∈ tables_1, d.before a0 Z = true) (ws : List Jvm.Cond) (a : Addr) (kc_a : ClassId) (h0 : Heap) (n0 : Nat) (Z0 : n0 ≤ h0.size) (V0_a : Arv Z h0 a kc_a .long (0 : Int32) [] (.long (0 : Int64))) :
    MetFree l (⟨"com/example/runs_to_nets/runstonets/core/Gf2BasisXorPinLaw", "word", "([JI)J"⟩ : MethodName) (head1 (Jvm.Cond.code (⟨"com/example/runs_to_nets/runstonets/core/Gf2BasisXorPinLaw", "word", "([JI)J"⟩ : MethodName) method_3_code 2 (some .long) :: ws) ({ frames := 0, cells := 0, slots := 0, locals := 0 } : Room)) (fun aa_ U_ => aa_ = #[(.ref a), (.int (0 : Int32))] ∧ Z.Warmed39 U_.vm ∧ U_.heap = h0) (fun _ _ _ _ _ => True) (fun _ U_ o_ V_ => ∃ v_ L_, o_ = .returned v_ ∧ QW00 Z a kc_a h0 n0 v_ V_.heap L_ ∧ FrameEnd U_ o_ V_ L_ ({ frames := 0, cells := 0, slots := 0, locals := 0 } : Room).cells ({ frames := 0, cells := 0, slots := 0, locals := 0 } : Room).slots) := by
  refine MetFree.of_bodySF (plainFor_of_name pnW00) hisR ?_
  intro p e s m args below meth c s₁ Bd hml0 hP hK
  obtain ⟨rfl, hZ, hh⟩ := hP
  have hx := Bd.exec
  have hby := Bd.bytes
  have hml : c.maxLocals = 2 := hml0
  have hown : s.vm.findClass "com/example/runs_to_nets/runstonets/core/Gf2BasisXorPinLaw" = some m.cls := findClass_of_methodNamed Bd.named
  have hnm := (name_of_methodNamed Bd.named Bd.method).1
  have hlk : meth.locks = false := BodyLoose.notSynchronized Bd
  have hret : meth.sig.returnType = (some .long) := Bd.returns
  have X0 : Stand p l e ({ frames := 0, cells := 0, slots := 0, locals := 0 } : Room) s m #[(.ref a), (.int (0 : Int32))] below meth c s₁ [] 0 0 := Stand.of_body Bd
  have e0 : s₁.heap = h0 := by rw [← hh, Bd.state]; rfl
  have N0 := Fr.nil n0
  show Go p e below s ({ frames := 0, cells := 0, slots := 0, locals := 0 } : Room).cells ({ frames := 0, cells := 0, slots := 0, locals := 0 } : Room).slots (QW00 Z a kc_a h0 n0) (s₁.setTop (entryFrame m #[(.ref a), (.int (0 : Int32))] 2))
  rw [efW00]
  refine Go.by (fun _ kont => XS.iloadN X0.here hx rfl (hb hby dW00_0) rfl (XS.aloadN X0.here hx rfl (hb hby dW00_1) rfl rfl kont)) ?_
  show Go _ _ _ _ _ _ _ (s₁.setTop (mkF m 2 #[.val (.ref a), .val (.int (0 : Int32))] [(.ref a), (.int (0 : Int32))]))
  obtain ⟨cl_q101, Ar_q101, q1_q101, S_q101, N_q101, H_q101, G_q101⟩ := id V0_a
  refine Go.by (X0.arraylength hx (by first | exact Ar_q101.1 | (rw [e0]; exact Ar_q101.1)) (State.isArrayOf_alike hZ.alike Ar_q101.2.1) (g := (mkF m 2 #[.val (.ref a), .val (.int (0 : Int32))] [(.ref a), (.int (0 : Int32))])) rfl rfl (hb hby dW00_2)) ?_
  rw [len_of S_q101 N_q101]
  show Go _ _ _ _ _ _ _ (s₁.setTop (mkF m 3 #[.val (.ref a), .val (.int (0 : Int32))] [(.int (0 : Int32)), (.int (0 : Int32))]))
  refine Go.by (fun _ kont => XS.icmpYes X0.here hx rfl (pc0 := 3) (pc' := 12) rfl (hb hby dW00_3) rfl (by decide) (by decide) (by decide) kont) ?_
  show Go _ _ _ _ _ _ _ (s₁.setTop (mkF m 12 #[.val (.ref a), .val (.int (0 : Int32))] []))
  refine Go.by (fun _ kont => XS.lconst X0.here hx rfl (hb hby dW00_12) kont) ?_
  show Go _ _ _ _ _ _ _ (s₁.setTop (mkF m 13 #[.val (.ref a), .val (.int (0 : Int32))] [(.long (0 : Int64))]))
  refine Go.retJ X0 hx hret hlk (hb hby dW00_13) ?_ (by decide) (by decide)
  show QW00 Z a kc_a h0 n0 (some (.long (0 : Int64))) s₁.heap _
  rw [e0]
  exact ⟨rfl, N0, rfl⟩

theorem dW01_0 : decode method_3_code 0 = .ok (.iload_n 1, 1) := by decide +kernel
theorem dW01_1 : decode method_3_code 1 = .ok (.aload_n 0, 1) := by decide +kernel
theorem dW01_2 : decode method_3_code 2 = .ok (.arraylength, 1) := by decide +kernel
theorem dW01_3 : decode method_3_code 3 = .ok (.if_icmp .ge 9, 3) := by decide +kernel
theorem dW01_12 : decode method_3_code 12 = .ok (.lconst 0, 1) := by decide +kernel
theorem dW01_13 : decode method_3_code 13 = .ok (.lreturn, 1) := by decide +kernel
theorem pnW01 : plainName "com/example/runs_to_nets/runstonets/core/Gf2BasisXorPinLaw" = true := by first | (simp [plainName, overriddenIn]; done) | decide +kernel
theorem efW01 (m : MethodId) (a : Addr) : entryFrame m #[(.ref a), (.int (1 : Int32))] 2 = mkF m 0 #[.val (.ref a), .val (.int (1 : Int32))] [] := by first | (simp [entryFrame, mkF, argsToLocals, Value.category]; done) | rfl
def QW01 (Z : State) (a : Addr) (kc_a : ClassId) (h0 : Heap) (n0 : Nat) (v : Option Value) (h : Heap) (L : List Loc) : Prop := (v = some (.long (0 : Int64)) ∧ Fr n0 L ∧ h = h0)
set_option maxRecDepth 65536 in
set_option maxHeartbeats 40000000 in
theorem rmW01 (l : Launch) (Z : State) (a0 : Array Value) (hw : ∀ d ∈ tables_1, d.before a0 Z = true) (ws : List Jvm.Cond) (a : Addr) (kc_a : ClassId) (h0 : Heap) (n0 : Nat) (Z0 : n0 ≤ h0.size) (V0_a : Arv Z h0 a kc_a .long (0 : Int32) [] (.long (0 : Int64))) :
    MetFree l (⟨"com/example/runs_to_nets/runstonets/core/Gf2BasisXorPinLaw", "word", "([JI)J"⟩ : MethodName) (head1 (Jvm.Cond.code (⟨"com/example/runs_to_nets/runstonets/core/Gf2BasisXorPinLaw", "word", "([JI)J"⟩ : MethodName) method_3_code 2 (some .long) :: ws) ({ frames := 0, cells := 0, slots := 0, locals := 0 } : Room)) (fun aa_ U_ => aa_ = #[(.ref a), (.int (1 : Int32))] ∧ Z.Warmed39 U_.vm ∧ U_.heap = h0) (fun _ _ _ _ _ => True) (fun _ U_ o_ V_ => ∃ v_ L_, o_ = .returned v_ ∧ QW01 Z a kc_a h0 n0 v_ V_.heap L_ ∧ FrameEnd U_ o_ V_ L_ ({ frames := 0, cells := 0, slots := 0, locals := 0 } : Room).cells ({ frames := 0, cells := 0, slots := 0, locals := 0 } : Room).slots) := by
  refine MetFree.of_bodySF (plainFor_of_name pnW01) hisR ?_
  intro p e s m args below meth c s₁ Bd hml0 hP hK
  obtain ⟨rfl, hZ, hh⟩ := hP
  have hx := Bd.exec
  have hby := Bd.bytes
  have hml : c.maxLocals = 2 := hml0
  have hown : s.vm.findClass "com/example/runs_to_nets/runstonets/core/Gf2BasisXorPinLaw" = some m.cls := findClass_of_methodNamed Bd.named
  have hnm := (name_of_methodNamed Bd.named Bd.method).1
  have hlk : meth.locks = false := BodyLoose.notSynchronized Bd
  have hret : meth.sig.returnType = (some .long) := Bd.returns
  have X0 : Stand p l e ({ frames := 0, cells := 0, slots := 0, locals := 0 } : Room) s m #[(.ref a), (.int (1 : Int32))] below meth c s₁ [] 0 0 := Stand.of_body Bd
  have e0 : s₁.heap = h0 := by rw [← hh, Bd.state]; rfl
  have N0 := Fr.nil n0
  show Go p e below s ({ frames := 0, cells := 0, slots := 0, locals := 0 } : Room).cells ({ frames := 0, cells := 0, slots := 0, locals := 0 } : Room).slots (QW01 Z a kc_a h0 n0) (s₁.setTop (entryFrame m #[(.ref a), (.int (1 : Int32))] 2))
  rw [efW01]
  refine Go.by (fun _ kont => XS.iloadN X0.here hx rfl (hb hby dW01_0) rfl (XS.aloadN X0.here hx rfl (hb hby dW01_1) rfl rfl kont)) ?_
  show Go _ _ _ _ _ _ _ (s₁.setTop (mkF m 2 #[.val (.ref a), .val (.int (1 : Int32))] [(.ref a), (.int (1 : Int32))]))
  obtain ⟨cl_q101, Ar_q101, q1_q101, S_q101, N_q101, H_q101, G_q101⟩ := id V0_a
  refine Go.by (X0.arraylength hx (by first | exact Ar_q101.1 | (rw [e0]; exact Ar_q101.1)) (State.isArrayOf_alike hZ.alike Ar_q101.2.1) (g := (mkF m 2 #[.val (.ref a), .val (.int (1 : Int32))] [(.ref a), (.int (1 : Int32))])) rfl rfl (hb hby dW01_2)) ?_
  rw [len_of S_q101 N_q101]
  show Go _ _ _ _ _ _ _ (s₁.setTop (mkF m 3 #[.val (.ref a), .val (.int (1 : Int32))] [(.int (0 : Int32)), (.int (1 : Int32))]))
  refine Go.by (fun _ kont => XS.icmpYes X0.here hx rfl (pc0 := 3) (pc' := 12) rfl (hb hby dW01_3) rfl (by decide) (by decide) (by decide) kont) ?_
  show Go _ _ _ _ _ _ _ (s₁.setTop (mkF m 12 #[.val (.ref a), .val (.int (1 : Int32))] []))
  refine Go.by (fun _ kont => XS.lconst X0.here hx rfl (hb hby dW01_12) kont) ?_
  show Go _ _ _ _ _ _ _ (s₁.setTop (mkF m 13 #[.val (.ref a), .val (.int (1 : Int32))] [(.long (0 : Int64))]))
  refine Go.retJ X0 hx hret hlk (hb hby dW01_13) ?_ (by decide) (by decide)
  show QW01 Z a kc_a h0 n0 (some (.long (0 : Int64))) s₁.heap _
  rw [e0]
  exact ⟨rfl, N0, rfl⟩

theorem dW02_0 : decode method_3_code 0 = .ok (.iload_n 1, 1) := by decide +kernel
theorem dW02_1 : decode method_3_code 1 = .ok (.aload_n 0, 1) := by decide +kernel
theorem dW02_2 : decode method_3_code 2 = .ok (.arraylength, 1) := by decide +kernel
theorem dW02_3 : decode method_3_code 3 = .ok (.if_icmp .ge 9, 3) := by decide +kernel
theorem dW02_12 : decode method_3_code 12 = .ok (.lconst 0, 1) := by decide +kernel
theorem dW02_13 : decode method_3_code 13 = .ok (.lreturn, 1) := by decide +kernel
theorem pnW02 : plainName "com/example/runs_to_nets/runstonets/core/Gf2BasisXorPinLaw" = true := by first | (simp [plainName, overriddenIn]; done) | decide +kernel
theorem efW02 (m : MethodId) (a : Addr) : entryFrame m #[(.ref a), (.int (2 : Int32))] 2 = mkF m 0 #[.val (.ref a), .val (.int (2 : Int32))] [] := by first | (simp [entryFrame, mkF, argsToLocals, Value.category]; done) | rfl
def QW02 (Z : State) (a : Addr) (kc_a : ClassId) (h0 : Heap) (n0 : Nat) (v : Option Value) (h : Heap) (L : List Loc) : Prop := (v = some (.long (0 : Int64)) ∧ Fr n0 L ∧ h = h0)
set_option maxRecDepth 65536 in
set_option maxHeartbeats 40000000 in
theorem rmW02 (l : Launch) (Z : State) (a0 : Array Value) (hw : ∀ d ∈ tables_1, d.before a0 Z = true) (ws : List Jvm.Cond) (a : Addr) (kc_a : ClassId) (h0 : Heap) (n0 : Nat) (Z0 : n0 ≤ h0.size) (V0_a : Arv Z h0 a kc_a .long (0 : Int32) [] (.long (0 : Int64))) :
    MetFree l (⟨"com/example/runs_to_nets/runstonets/core/Gf2BasisXorPinLaw", "word", "([JI)J"⟩ : MethodName) (head1 (Jvm.Cond.code (⟨"com/example/runs_to_nets/runstonets/core/Gf2BasisXorPinLaw", "word", "([JI)J"⟩ : MethodName) method_3_code 2 (some .long) :: ws) ({ frames := 0, cells := 0, slots := 0, locals := 0 } : Room)) (fun aa_ U_ => aa_ = #[(.ref a), (.int (2 : Int32))] ∧ Z.Warmed39 U_.vm ∧ U_.heap = h0) (fun _ _ _ _ _ => True) (fun _ U_ o_ V_ => ∃ v_ L_, o_ = .returned v_ ∧ QW02 Z a kc_a h0 n0 v_ V_.heap L_ ∧ FrameEnd U_ o_ V_ L_ ({ frames := 0, cells := 0, slots := 0, locals := 0 } : Room).cells ({ frames := 0, cells := 0, slots := 0, locals := 0 } : Room).slots) := by
  refine MetFree.of_bodySF (plainFor_of_name pnW02) hisR ?_
  intro p e s m args below meth c s₁ Bd hml0 hP hK
  obtain ⟨rfl, hZ, hh⟩ := hP
  have hx := Bd.exec
  have hby := Bd.bytes
  have hml : c.maxLocals = 2 := hml0
  have hown : s.vm.findClass "com/example/runs_to_nets/runstonets/core/Gf2BasisXorPinLaw" = some m.cls := findClass_of_methodNamed Bd.named
  have hnm := (name_of_methodNamed Bd.named Bd.method).1
  have hlk : meth.locks = false := BodyLoose.notSynchronized Bd
  have hret : meth.sig.returnType = (some .long) := Bd.returns
  have X0 : Stand p l e ({ frames := 0, cells := 0, slots := 0, locals := 0 } : Room) s m #[(.ref a), (.int (2 : Int32))] below meth c s₁ [] 0 0 := Stand.of_body Bd
  have e0 : s₁.heap = h0 := by rw [← hh, Bd.state]; rfl
  have N0 := Fr.nil n0
  show Go p e below s ({ frames := 0, cells := 0, slots := 0, locals := 0 } : Room).cells ({ frames := 0, cells := 0, slots := 0, locals := 0 } : Room).slots (QW02 Z a kc_a h0 n0) (s₁.setTop (entryFrame m #[(.ref a), (.int (2 : Int32))] 2))
  rw [efW02]
  refine Go.by (fun _ kont => XS.iloadN X0.here hx rfl (hb hby dW02_0) rfl (XS.aloadN X0.here hx rfl (hb hby dW02_1) rfl rfl kont)) ?_
  show Go _ _ _ _ _ _ _ (s₁.setTop (mkF m 2 #[.val (.ref a), .val (.int (2 : Int32))] [(.ref a), (.int (2 : Int32))]))
  obtain ⟨cl_q101, Ar_q101, q1_q101, S_q101, N_q101, H_q101, G_q101⟩ := id V0_a
  refine Go.by (X0.arraylength hx (by first | exact Ar_q101.1 | (rw [e0]; exact Ar_q101.1)) (State.isArrayOf_alike hZ.alike Ar_q101.2.1) (g := (mkF m 2 #[.val (.ref a), .val (.int (2 : Int32))] [(.ref a), (.int (2 : Int32))])) rfl rfl (hb hby dW02_2)) ?_
  rw [len_of S_q101 N_q101]
  show Go _ _ _ _ _ _ _ (s₁.setTop (mkF m 3 #[.val (.ref a), .val (.int (2 : Int32))] [(.int (0 : Int32)), (.int (2 : Int32))]))
  refine Go.by (fun _ kont => XS.icmpYes X0.here hx rfl (pc0 := 3) (pc' := 12) rfl (hb hby dW02_3) rfl (by decide) (by decide) (by decide) kont) ?_
  show Go _ _ _ _ _ _ _ (s₁.setTop (mkF m 12 #[.val (.ref a), .val (.int (2 : Int32))] []))
  refine Go.by (fun _ kont => XS.lconst X0.here hx rfl (hb hby dW02_12) kont) ?_
  show Go _ _ _ _ _ _ _ (s₁.setTop (mkF m 13 #[.val (.ref a), .val (.int (2 : Int32))] [(.long (0 : Int64))]))
  refine Go.retJ X0 hx hret hlk (hb hby dW02_13) ?_ (by decide) (by decide)
  show QW02 Z a kc_a h0 n0 (some (.long (0 : Int64))) s₁.heap _
  rw [e0]
  exact ⟨rfl, N0, rfl⟩

theorem dXA1_0 : decode prog_14_method_11_code 0 = .ok (.iconst 0, 1) := by decide +kernel
theorem dXA1_1 : decode prog_14_method_11_code 1 = .ok (.istore_n 2, 1) := by decide +kernel
theorem dXA1_2 : decode prog_14_method_11_code 2 = .ok (.iload_n 2, 1) := by decide +kernel
theorem dXA1_3 : decode prog_14_method_11_code 3 = .ok (.aload_n 0, 1) := by decide +kernel
theorem dXA1_4 : decode prog_14_method_11_code 4 = .ok (.arraylength, 1) := by decide +kernel
theorem dXA1_5 : decode prog_14_method_11_code 5 = .ok (.if_icmp .ge 18, 3) := by decide +kernel
theorem dXA1_8 : decode prog_14_method_11_code 8 = .ok (.aload_n 0, 1) := by decide +kernel
theorem dXA1_9 : decode prog_14_method_11_code 9 = .ok (.iload_n 2, 1) := by decide +kernel
theorem dXA1_10 : decode prog_14_method_11_code 10 = .ok (.dup2, 1) := by decide +kernel
theorem dXA1_11 : decode prog_14_method_11_code 11 = .ok (.laload, 1) := by decide +kernel
theorem dXA1_12 : decode prog_14_method_11_code 12 = .ok (.aload_n 1, 1) := by decide +kernel
theorem dXA1_13 : decode prog_14_method_11_code 13 = .ok (.iload_n 2, 1) := by decide +kernel
theorem dXA1_14 : decode prog_14_method_11_code 14 = .ok (.laload, 1) := by decide +kernel
theorem dXA1_15 : decode prog_14_method_11_code 15 = .ok (.lxor, 1) := by decide +kernel
theorem dXA1_16 : decode prog_14_method_11_code 16 = .ok (.lastore, 1) := by decide +kernel
theorem dXA1_17 : decode prog_14_method_11_code 17 = .ok (.iinc 2 1, 3) := by decide +kernel
theorem dXA1_20 : decode prog_14_method_11_code 20 = .ok (.goto (-18), 3) := by decide +kernel
theorem dXA1_23 : decode prog_14_method_11_code 23 = .ok (.return_, 1) := by decide +kernel
theorem pnXA1 : plainName "com/example/runs_to_nets/runstonets/core/Gf2Basis" = true := by first | (simp [plainName, overriddenIn]; done) | decide +kernel
theorem efXA1 (m : MethodId) (a : Addr) : entryFrame m #[(.ref a), (.ref a)] 3 = mkF m 0 #[.val (.ref a), .val (.ref a), .unset] [] := by first | (simp [entryFrame, mkF, argsToLocals, Value.category]; done) | rfl
def QXA1 (Z : State) (a : Addr) (kc_a : ClassId) (t0 : Int64) (h0 : Heap) (n0 : Nat) (v : Option Value) (h : Heap) (L : List Loc) : Prop := (v = none ∧ Fr n0 L ∧ Keep h0 h [a] ∧ Arv Z h a kc_a .long (1 : Int32) [(.long (t0 ^^^ t0))] (.long (0 : Int64)))
set_option maxRecDepth 65536 in
set_option maxHeartbeats 40000000 in
theorem rmXA1 (l : Launch) (Z : State) (a0 : Array Value) (hw : ∀ d ∈ tables_1, d.before a0 Z = true) (ws : List Jvm.Cond) (a : Addr) (kc_a : ClassId) (t0 : Int64) (h0 : Heap) (n0 : Nat) (Z0 : n0 ≤ h0.size) (V0_a : Arv Z h0 a kc_a .long (1 : Int32) [(.long t0)] (.long (0 : Int64))) (ge0_a : n0 ≤ a) :
    MetFree l (⟨"com/example/runs_to_nets/runstonets/core/Gf2Basis", "xor", "([J[J)V"⟩ : MethodName) (head1 (Jvm.Cond.code (⟨"com/example/runs_to_nets/runstonets/core/Gf2Basis", "xor", "([J[J)V"⟩ : MethodName) prog_14_method_11_code 3 none :: ws) ({ frames := 0, cells := 0, slots := 0, locals := 0 } : Room)) (fun aa_ U_ => aa_ = #[(.ref a), (.ref a)] ∧ Z.Warmed39 U_.vm ∧ U_.heap = h0) (fun _ _ _ _ _ => True) (fun _ U_ o_ V_ => ∃ v_ L_, o_ = .returned v_ ∧ QXA1 Z a kc_a t0 h0 n0 v_ V_.heap L_ ∧ FrameEnd U_ o_ V_ L_ ({ frames := 0, cells := 0, slots := 0, locals := 0 } : Room).cells ({ frames := 0, cells := 0, slots := 0, locals := 0 } : Room).slots) := by
  refine MetFree.of_bodySF (plainFor_of_name pnXA1) hisR ?_
  intro p e s m args below meth c s₁ Bd hml0 hP hK
  obtain ⟨rfl, hZ, hh⟩ := hP
  have hx := Bd.exec
  have hby := Bd.bytes
  have hml : c.maxLocals = 3 := hml0
  have hown : s.vm.findClass "com/example/runs_to_nets/runstonets/core/Gf2Basis" = some m.cls := findClass_of_methodNamed Bd.named
  have hnm := (name_of_methodNamed Bd.named Bd.method).1
  have hlk : meth.locks = false := BodyLoose.notSynchronized Bd
  have hret : meth.sig.returnType = none := Bd.returns
  have X0 : Stand p l e ({ frames := 0, cells := 0, slots := 0, locals := 0 } : Room) s m #[(.ref a), (.ref a)] below meth c s₁ [] 0 0 := Stand.of_body Bd
  have e0 : s₁.heap = h0 := by rw [← hh, Bd.state]; rfl
  have N0 := Fr.nil n0
  show Go p e below s ({ frames := 0, cells := 0, slots := 0, locals := 0 } : Room).cells ({ frames := 0, cells := 0, slots := 0, locals := 0 } : Room).slots (QXA1 Z a kc_a t0 h0 n0) (s₁.setTop (entryFrame m #[(.ref a), (.ref a)] 3))
  rw [efXA1]
  refine Go.by (fun _ kont => XS.iconst X0.here hx rfl (hb hby dXA1_0) (XS.istoreN X0.here hx rfl (hb hby dXA1_1) rfl (l' := #[.val (.ref a), .val (.ref a), .val (.int (0 : Int32))]) rfl (XS.iloadN X0.here hx rfl (hb hby dXA1_2) rfl (XS.aloadN X0.here hx rfl (hb hby dXA1_3) rfl rfl kont)))) ?_
  show Go _ _ _ _ _ _ _ (s₁.setTop (mkF m 4 #[.val (.ref a), .val (.ref a), .val (.int (0 : Int32))] [(.ref a), (.int (0 : Int32))]))
  obtain ⟨cl_q101, Ar_q101, q1_q101, S_q101, N_q101, H_q101, G_q101⟩ := id V0_a
  refine Go.by (X0.arraylength hx (by first | exact Ar_q101.1 | (rw [e0]; exact Ar_q101.1)) (State.isArrayOf_alike hZ.alike Ar_q101.2.1) (g := (mkF m 4 #[.val (.ref a), .val (.ref a), .val (.int (0 : Int32))] [(.ref a), (.int (0 : Int32))])) rfl rfl (hb hby dXA1_4)) ?_
  rw [len_of S_q101 N_q101]
  show Go _ _ _ _ _ _ _ (s₁.setTop (mkF m 5 #[.val (.ref a), .val (.ref a), .val (.int (0 : Int32))] [(.int (1 : Int32)), (.int (0 : Int32))]))
  refine Go.by (fun _ kont => XS.icmpNo X0.here hx rfl (hb hby dXA1_5) rfl (by decide) kont) ?_
  show Go _ _ _ _ _ _ _ (s₁.setTop (mkF m 8 #[.val (.ref a), .val (.ref a), .val (.int (0 : Int32))] []))
  refine Go.by (fun _ kont => XS.aloadN X0.here hx rfl (hb hby dXA1_8) rfl rfl (XS.iloadN X0.here hx rfl (hb hby dXA1_9) rfl (XT.dup2 X0.here hx rfl (hb hby dXA1_10) rfl rfl rfl kont))) ?_
  show Go _ _ _ _ _ _ _ (s₁.setTop (mkF m 11 #[.val (.ref a), .val (.ref a), .val (.int (0 : Int32))] [(.int (0 : Int32)), (.ref a), (.int (0 : Int32)), (.ref a)]))
  obtain ⟨cl_q102, Ar_q102, q1_q102, S_q102, N_q102, H_q102, G_q102⟩ := id V0_a
  have hin_q102 : ¬ ((0 : Int32) < 0 ∨ cl_q102.slots.size ≤ ((0 : Int32)).toNatClampNeg) := inb_of S_q102 ⟨by decide, by decide⟩
  have hat_q102 : cl_q102.slots[((0 : Int32)).toNatClampNeg]? = some (.long t0) := Has.at H_q102 hin_q102 rfl
  refine Go.by (X0.laload hx (j := (0 : Int32)) (v := (.long t0)) (by first | exact Ar_q102.1 | (rw [e0]; exact Ar_q102.1)) (State.isArrayOf_alike hZ.alike Ar_q102.2.1) Ar_q102.2.2 hin_q102 hat_q102 (g := (mkF m 11 #[.val (.ref a), .val (.ref a), .val (.int (0 : Int32))] [(.int (0 : Int32)), (.ref a), (.int (0 : Int32)), (.ref a)])) rfl rfl (hb hby dXA1_11)) ?_
  show Go _ _ _ _ _ _ _ (s₁.setTop (mkF m 12 #[.val (.ref a), .val (.ref a), .val (.int (0 : Int32))] [(.long t0), (.int (0 : Int32)), (.ref a)]))
  refine Go.by (fun _ kont => XS.aloadN X0.here hx rfl (hb hby dXA1_12) rfl rfl (XS.iloadN X0.here hx rfl (hb hby dXA1_13) rfl kont)) ?_
  show Go _ _ _ _ _ _ _ (s₁.setTop (mkF m 14 #[.val (.ref a), .val (.ref a), .val (.int (0 : Int32))] [(.int (0 : Int32)), (.ref a), (.long t0), (.int (0 : Int32)), (.ref a)]))
  obtain ⟨cl_q103, Ar_q103, q1_q103, S_q103, N_q103, H_q103, G_q103⟩ := id V0_a
  have hin_q103 : ¬ ((0 : Int32) < 0 ∨ cl_q103.slots.size ≤ ((0 : Int32)).toNatClampNeg) := inb_of S_q103 ⟨by decide, by decide⟩
  have hat_q103 : cl_q103.slots[((0 : Int32)).toNatClampNeg]? = some (.long t0) := Has.at H_q103 hin_q103 rfl
  refine Go.by (X0.laload hx (j := (0 : Int32)) (v := (.long t0)) (by first | exact Ar_q103.1 | (rw [e0]; exact Ar_q103.1)) (State.isArrayOf_alike hZ.alike Ar_q103.2.1) Ar_q103.2.2 hin_q103 hat_q103 (g := (mkF m 14 #[.val (.ref a), .val (.ref a), .val (.int (0 : Int32))] [(.int (0 : Int32)), (.ref a), (.long t0), (.int (0 : Int32)), (.ref a)])) rfl rfl (hb hby dXA1_14)) ?_
  show Go _ _ _ _ _ _ _ (s₁.setTop (mkF m 15 #[.val (.ref a), .val (.ref a), .val (.int (0 : Int32))] [(.long t0), (.long t0), (.int (0 : Int32)), (.ref a)]))
  refine Go.by (fun _ kont => XS.lxor X0.here hx rfl (hb hby dXA1_15) rfl kont) ?_
  show Go _ _ _ _ _ _ _ (s₁.setTop (mkF m 16 #[.val (.ref a), .val (.ref a), .val (.int (0 : Int32))] [(.long (t0 ^^^ t0)), (.int (0 : Int32)), (.ref a)]))
  obtain ⟨cl_q104, Ar_q104, q1_q104, S_q104, N_q104, H_q104, G_q104⟩ := id V0_a
  have hin_q104 : ¬ ((0 : Int32) < 0 ∨ cl_q104.slots.size ≤ ((0 : Int32)).toNatClampNeg) := inb_of S_q104 ⟨by decide, by decide⟩
  obtain ⟨T105, h105, X105, e105, W105, st105⟩ := stJ X0 hx hZ e0 Ar_q104 (j := (0 : Int32)) hin_q104 (g := (mkF m 16 #[.val (.ref a), .val (.ref a), .val (.int (0 : Int32))] [(.long (t0 ^^^ t0)), (.int (0 : Int32)), (.ref a)])) rfl rfl (hb hby dXA1_16)
  have V105 : Arv Z h105 a kc_a .long (1 : Int32) [(.long (t0 ^^^ t0))] (.long (0 : Int64)) := Arv.set Ar_q104 q1_q104 S_q104 N_q104 H_q104 G_q104 rfl W105 0 rfl (Nat.le_of_ble_eq_true rfl)
  have Z106 := Nat.le_trans Z0 (Keep.of_wr W105).1
  have K106 : Keep h0 h105 [a] := (Keep.refl h0 [a]).wr W105 (Or.inl (by simp))
  have N105 := Fr.snoc X105 N0 ge0_a
  refine Go.by st105 ?_
  show Go _ _ _ _ _ _ _ (T105.setTop (mkF m 17 #[.val (.ref a), .val (.ref a), .val (.int (0 : Int32))] []))
  refine Go.by (fun _ kont => XS.iinc X105.here hx rfl (hb hby dXA1_17) rfl (l' := #[.val (.ref a), .val (.ref a), .val (.int (1 : Int32))]) rfl (XS.goto X105.here hx rfl (pc0 := 20) (pc' := 2) rfl (hb hby dXA1_20) (by decide) (by decide) (XS.iloadN X105.here hx rfl (hb hby dXA1_2) rfl (XS.aloadN X105.here hx rfl (hb hby dXA1_3) rfl rfl kont)))) ?_
  show Go _ _ _ _ _ _ _ (T105.setTop (mkF m 4 #[.val (.ref a), .val (.ref a), .val (.int (1 : Int32))] [(.ref a), (.int (1 : Int32))]))
  obtain ⟨cl_q107, Ar_q107, q1_q107, S_q107, N_q107, H_q107, G_q107⟩ := id V105
  refine Go.by (X105.arraylength hx (by first | exact Ar_q107.1 | (rw [e105]; exact Ar_q107.1)) (State.isArrayOf_alike hZ.alike Ar_q107.2.1) (g := (mkF m 4 #[.val (.ref a), .val (.ref a), .val (.int (1 : Int32))] [(.ref a), (.int (1 : Int32))])) rfl rfl (hb hby dXA1_4)) ?_
  rw [len_of S_q107 N_q107]
  show Go _ _ _ _ _ _ _ (T105.setTop (mkF m 5 #[.val (.ref a), .val (.ref a), .val (.int (1 : Int32))] [(.int (1 : Int32)), (.int (1 : Int32))]))
  refine Go.by (fun _ kont => XS.icmpYes X105.here hx rfl (pc0 := 5) (pc' := 23) rfl (hb hby dXA1_5) rfl (by decide) (by decide) (by decide) kont) ?_
  show Go _ _ _ _ _ _ _ (T105.setTop (mkF m 23 #[.val (.ref a), .val (.ref a), .val (.int (1 : Int32))] []))
  refine Go.retV X105 hx hret hlk (hb hby dXA1_23) ?_ (by decide) (by decide)
  show QXA1 Z a kc_a t0 h0 n0 none T105.heap _
  rw [e105]
  exact ⟨rfl, N105, K106, V105⟩

theorem dXB1_0 : decode prog_14_method_11_code 0 = .ok (.iconst 0, 1) := by decide +kernel
theorem dXB1_1 : decode prog_14_method_11_code 1 = .ok (.istore_n 2, 1) := by decide +kernel
theorem dXB1_2 : decode prog_14_method_11_code 2 = .ok (.iload_n 2, 1) := by decide +kernel
theorem dXB1_3 : decode prog_14_method_11_code 3 = .ok (.aload_n 0, 1) := by decide +kernel
theorem dXB1_4 : decode prog_14_method_11_code 4 = .ok (.arraylength, 1) := by decide +kernel
theorem dXB1_5 : decode prog_14_method_11_code 5 = .ok (.if_icmp .ge 18, 3) := by decide +kernel
theorem dXB1_8 : decode prog_14_method_11_code 8 = .ok (.aload_n 0, 1) := by decide +kernel
theorem dXB1_9 : decode prog_14_method_11_code 9 = .ok (.iload_n 2, 1) := by decide +kernel
theorem dXB1_10 : decode prog_14_method_11_code 10 = .ok (.dup2, 1) := by decide +kernel
theorem dXB1_11 : decode prog_14_method_11_code 11 = .ok (.laload, 1) := by decide +kernel
theorem dXB1_12 : decode prog_14_method_11_code 12 = .ok (.aload_n 1, 1) := by decide +kernel
theorem dXB1_13 : decode prog_14_method_11_code 13 = .ok (.iload_n 2, 1) := by decide +kernel
theorem dXB1_14 : decode prog_14_method_11_code 14 = .ok (.laload, 1) := by decide +kernel
theorem dXB1_15 : decode prog_14_method_11_code 15 = .ok (.lxor, 1) := by decide +kernel
theorem dXB1_16 : decode prog_14_method_11_code 16 = .ok (.lastore, 1) := by decide +kernel
theorem dXB1_17 : decode prog_14_method_11_code 17 = .ok (.iinc 2 1, 3) := by decide +kernel
theorem dXB1_20 : decode prog_14_method_11_code 20 = .ok (.goto (-18), 3) := by decide +kernel
theorem dXB1_23 : decode prog_14_method_11_code 23 = .ok (.return_, 1) := by decide +kernel
theorem pnXB1 : plainName "com/example/runs_to_nets/runstonets/core/Gf2Basis" = true := by first | (simp [plainName, overriddenIn]; done) | decide +kernel
theorem efXB1 (m : MethodId) (a : Addr) (b : Addr) : entryFrame m #[(.ref a), (.ref b)] 3 = mkF m 0 #[.val (.ref a), .val (.ref b), .unset] [] := by first | (simp [entryFrame, mkF, argsToLocals, Value.category]; done) | rfl
def QXB1 (Z : State) (a : Addr) (b : Addr) (kc_a : ClassId) (t0 : Int64) (kc_b : ClassId) (s0 : Int64) (h0 : Heap) (n0 : Nat) (v : Option Value) (h : Heap) (L : List Loc) : Prop := (v = none ∧ Fr n0 L ∧ Keep h0 h [a] ∧ Arv Z h a kc_a .long (1 : Int32) [(.long (t0 ^^^ s0))] (.long (0 : Int64)))
set_option maxRecDepth 65536 in
set_option maxHeartbeats 40000000 in
theorem rmXB1 (l : Launch) (Z : State) (a0 : Array Value) (hw : ∀ d ∈ tables_1, d.before a0 Z = true) (ws : List Jvm.Cond) (a : Addr) (b : Addr) (kc_a : ClassId) (t0 : Int64) (kc_b : ClassId) (s0 : Int64) (h0 : Heap) (n0 : Nat) (Z0 : n0 ≤ h0.size) (V0_a : Arv Z h0 a kc_a .long (1 : Int32) [(.long t0)] (.long (0 : Int64))) (V0_b : Arv Z h0 b kc_b .long (1 : Int32) [(.long s0)] (.long (0 : Int64))) (ne0_a_b : a ≠ b) (ge0_a : n0 ≤ a) :
    MetFree l (⟨"com/example/runs_to_nets/runstonets/core/Gf2Basis", "xor", "([J[J)V"⟩ : MethodName) (head1 (Jvm.Cond.code (⟨"com/example/runs_to_nets/runstonets/core/Gf2Basis", "xor", "([J[J)V"⟩ : MethodName) prog_14_method_11_code 3 none :: ws) ({ frames := 0, cells := 0, slots := 0, locals := 0 } : Room)) (fun aa_ U_ => aa_ = #[(.ref a), (.ref b)] ∧ Z.Warmed39 U_.vm ∧ U_.heap = h0) (fun _ _ _ _ _ => True) (fun _ U_ o_ V_ => ∃ v_ L_, o_ = .returned v_ ∧ QXB1 Z a b kc_a t0 kc_b s0 h0 n0 v_ V_.heap L_ ∧ FrameEnd U_ o_ V_ L_ ({ frames := 0, cells := 0, slots := 0, locals := 0 } : Room).cells ({ frames := 0, cells := 0, slots := 0, locals := 0 } : Room).slots) := by
  refine MetFree.of_bodySF (plainFor_of_name pnXB1) hisR ?_
  intro p e s m args below meth c s₁ Bd hml0 hP hK
  obtain ⟨rfl, hZ, hh⟩ := hP
  have hx := Bd.exec
  have hby := Bd.bytes
  have hml : c.maxLocals = 3 := hml0
  have hown : s.vm.findClass "com/example/runs_to_nets/runstonets/core/Gf2Basis" = some m.cls := findClass_of_methodNamed Bd.named
  have hnm := (name_of_methodNamed Bd.named Bd.method).1
  have hlk : meth.locks = false := BodyLoose.notSynchronized Bd
  have hret : meth.sig.returnType = none := Bd.returns
  have X0 : Stand p l e ({ frames := 0, cells := 0, slots := 0, locals := 0 } : Room) s m #[(.ref a), (.ref b)] below meth c s₁ [] 0 0 := Stand.of_body Bd
  have e0 : s₁.heap = h0 := by rw [← hh, Bd.state]; rfl
  have N0 := Fr.nil n0
  show Go p e below s ({ frames := 0, cells := 0, slots := 0, locals := 0 } : Room).cells ({ frames := 0, cells := 0, slots := 0, locals := 0 } : Room).slots (QXB1 Z a b kc_a t0 kc_b s0 h0 n0) (s₁.setTop (entryFrame m #[(.ref a), (.ref b)] 3))
  rw [efXB1]
  refine Go.by (fun _ kont => XS.iconst X0.here hx rfl (hb hby dXB1_0) (XS.istoreN X0.here hx rfl (hb hby dXB1_1) rfl (l' := #[.val (.ref a), .val (.ref b), .val (.int (0 : Int32))]) rfl (XS.iloadN X0.here hx rfl (hb hby dXB1_2) rfl (XS.aloadN X0.here hx rfl (hb hby dXB1_3) rfl rfl kont)))) ?_
  show Go _ _ _ _ _ _ _ (s₁.setTop (mkF m 4 #[.val (.ref a), .val (.ref b), .val (.int (0 : Int32))] [(.ref a), (.int (0 : Int32))]))
  obtain ⟨cl_q101, Ar_q101, q1_q101, S_q101, N_q101, H_q101, G_q101⟩ := id V0_a
  refine Go.by (X0.arraylength hx (by first | exact Ar_q101.1 | (rw [e0]; exact Ar_q101.1)) (State.isArrayOf_alike hZ.alike Ar_q101.2.1) (g := (mkF m 4 #[.val (.ref a), .val (.ref b), .val (.int (0 : Int32))] [(.ref a), (.int (0 : Int32))])) rfl rfl (hb hby dXB1_4)) ?_
  rw [len_of S_q101 N_q101]
  show Go _ _ _ _ _ _ _ (s₁.setTop (mkF m 5 #[.val (.ref a), .val (.ref b), .val (.int (0 : Int32))] [(.int (1 : Int32)), (.int (0 : Int32))]))
  refine Go.by (fun _ kont => XS.icmpNo X0.here hx rfl (hb hby dXB1_5) rfl (by decide) kont) ?_
  show Go _ _ _ _ _ _ _ (s₁.setTop (mkF m 8 #[.val (.ref a), .val (.ref b), .val (.int (0 : Int32))] []))
  refine Go.by (fun _ kont => XS.aloadN X0.here hx rfl (hb hby dXB1_8) rfl rfl (XS.iloadN X0.here hx rfl (hb hby dXB1_9) rfl (XT.dup2 X0.here hx rfl (hb hby dXB1_10) rfl rfl rfl kont))) ?_
  show Go _ _ _ _ _ _ _ (s₁.setTop (mkF m 11 #[.val (.ref a), .val (.ref b), .val (.int (0 : Int32))] [(.int (0 : Int32)), (.ref a), (.int (0 : Int32)), (.ref a)]))
  obtain ⟨cl_q102, Ar_q102, q1_q102, S_q102, N_q102, H_q102, G_q102⟩ := id V0_a
  have hin_q102 : ¬ ((0 : Int32) < 0 ∨ cl_q102.slots.size ≤ ((0 : Int32)).toNatClampNeg) := inb_of S_q102 ⟨by decide, by decide⟩
  have hat_q102 : cl_q102.slots[((0 : Int32)).toNatClampNeg]? = some (.long t0) := Has.at H_q102 hin_q102 rfl
  refine Go.by (X0.laload hx (j := (0 : Int32)) (v := (.long t0)) (by first | exact Ar_q102.1 | (rw [e0]; exact Ar_q102.1)) (State.isArrayOf_alike hZ.alike Ar_q102.2.1) Ar_q102.2.2 hin_q102 hat_q102 (g := (mkF m 11 #[.val (.ref a), .val (.ref b), .val (.int (0 : Int32))] [(.int (0 : Int32)), (.ref a), (.int (0 : Int32)), (.ref a)])) rfl rfl (hb hby dXB1_11)) ?_
  show Go _ _ _ _ _ _ _ (s₁.setTop (mkF m 12 #[.val (.ref a), .val (.ref b), .val (.int (0 : Int32))] [(.long t0), (.int (0 : Int32)), (.ref a)]))
  refine Go.by (fun _ kont => XS.aloadN X0.here hx rfl (hb hby dXB1_12) rfl rfl (XS.iloadN X0.here hx rfl (hb hby dXB1_13) rfl kont)) ?_
  show Go _ _ _ _ _ _ _ (s₁.setTop (mkF m 14 #[.val (.ref a), .val (.ref b), .val (.int (0 : Int32))] [(.int (0 : Int32)), (.ref b), (.long t0), (.int (0 : Int32)), (.ref a)]))
  obtain ⟨cl_q103, Ar_q103, q1_q103, S_q103, N_q103, H_q103, G_q103⟩ := id V0_b
  have hin_q103 : ¬ ((0 : Int32) < 0 ∨ cl_q103.slots.size ≤ ((0 : Int32)).toNatClampNeg) := inb_of S_q103 ⟨by decide, by decide⟩
  have hat_q103 : cl_q103.slots[((0 : Int32)).toNatClampNeg]? = some (.long s0) := Has.at H_q103 hin_q103 rfl
  refine Go.by (X0.laload hx (j := (0 : Int32)) (v := (.long s0)) (by first | exact Ar_q103.1 | (rw [e0]; exact Ar_q103.1)) (State.isArrayOf_alike hZ.alike Ar_q103.2.1) Ar_q103.2.2 hin_q103 hat_q103 (g := (mkF m 14 #[.val (.ref a), .val (.ref b), .val (.int (0 : Int32))] [(.int (0 : Int32)), (.ref b), (.long t0), (.int (0 : Int32)), (.ref a)])) rfl rfl (hb hby dXB1_14)) ?_
  show Go _ _ _ _ _ _ _ (s₁.setTop (mkF m 15 #[.val (.ref a), .val (.ref b), .val (.int (0 : Int32))] [(.long s0), (.long t0), (.int (0 : Int32)), (.ref a)]))
  refine Go.by (fun _ kont => XS.lxor X0.here hx rfl (hb hby dXB1_15) rfl kont) ?_
  show Go _ _ _ _ _ _ _ (s₁.setTop (mkF m 16 #[.val (.ref a), .val (.ref b), .val (.int (0 : Int32))] [(.long (t0 ^^^ s0)), (.int (0 : Int32)), (.ref a)]))
  obtain ⟨cl_q104, Ar_q104, q1_q104, S_q104, N_q104, H_q104, G_q104⟩ := id V0_a
  have hin_q104 : ¬ ((0 : Int32) < 0 ∨ cl_q104.slots.size ≤ ((0 : Int32)).toNatClampNeg) := inb_of S_q104 ⟨by decide, by decide⟩
  obtain ⟨T105, h105, X105, e105, W105, st105⟩ := stJ X0 hx hZ e0 Ar_q104 (j := (0 : Int32)) hin_q104 (g := (mkF m 16 #[.val (.ref a), .val (.ref b), .val (.int (0 : Int32))] [(.long (t0 ^^^ s0)), (.int (0 : Int32)), (.ref a)])) rfl rfl (hb hby dXB1_16)
  have V105 : Arv Z h105 a kc_a .long (1 : Int32) [(.long (t0 ^^^ s0))] (.long (0 : Int64)) := Arv.set Ar_q104 q1_q104 S_q104 N_q104 H_q104 G_q104 rfl W105 0 rfl (Nat.le_of_ble_eq_true rfl)
  have V106_b := V0_b.other W105 (Ne.symm ne0_a_b)
  have Z106 := Nat.le_trans Z0 (Keep.of_wr W105).1
  have K106 : Keep h0 h105 [a] := (Keep.refl h0 [a]).wr W105 (Or.inl (by simp))
  have N105 := Fr.snoc X105 N0 ge0_a
  refine Go.by st105 ?_
  show Go _ _ _ _ _ _ _ (T105.setTop (mkF m 17 #[.val (.ref a), .val (.ref b), .val (.int (0 : Int32))] []))
  refine Go.by (fun _ kont => XS.iinc X105.here hx rfl (hb hby dXB1_17) rfl (l' := #[.val (.ref a), .val (.ref b), .val (.int (1 : Int32))]) rfl (XS.goto X105.here hx rfl (pc0 := 20) (pc' := 2) rfl (hb hby dXB1_20) (by decide) (by decide) (XS.iloadN X105.here hx rfl (hb hby dXB1_2) rfl (XS.aloadN X105.here hx rfl (hb hby dXB1_3) rfl rfl kont)))) ?_
  show Go _ _ _ _ _ _ _ (T105.setTop (mkF m 4 #[.val (.ref a), .val (.ref b), .val (.int (1 : Int32))] [(.ref a), (.int (1 : Int32))]))
  obtain ⟨cl_q107, Ar_q107, q1_q107, S_q107, N_q107, H_q107, G_q107⟩ := id V105
  refine Go.by (X105.arraylength hx (by first | exact Ar_q107.1 | (rw [e105]; exact Ar_q107.1)) (State.isArrayOf_alike hZ.alike Ar_q107.2.1) (g := (mkF m 4 #[.val (.ref a), .val (.ref b), .val (.int (1 : Int32))] [(.ref a), (.int (1 : Int32))])) rfl rfl (hb hby dXB1_4)) ?_
  rw [len_of S_q107 N_q107]
  show Go _ _ _ _ _ _ _ (T105.setTop (mkF m 5 #[.val (.ref a), .val (.ref b), .val (.int (1 : Int32))] [(.int (1 : Int32)), (.int (1 : Int32))]))
  refine Go.by (fun _ kont => XS.icmpYes X105.here hx rfl (pc0 := 5) (pc' := 23) rfl (hb hby dXB1_5) rfl (by decide) (by decide) (by decide) kont) ?_
  show Go _ _ _ _ _ _ _ (T105.setTop (mkF m 23 #[.val (.ref a), .val (.ref b), .val (.int (1 : Int32))] []))
  refine Go.retV X105 hx hret hlk (hb hby dXB1_23) ?_ (by decide) (by decide)
  show QXB1 Z a b kc_a t0 kc_b s0 h0 n0 none T105.heap _
  rw [e105]
  exact ⟨rfl, N105, K106, V105⟩

theorem dW10_0 : decode method_3_code 0 = .ok (.iload_n 1, 1) := by decide +kernel
theorem dW10_1 : decode method_3_code 1 = .ok (.aload_n 0, 1) := by decide +kernel
theorem dW10_2 : decode method_3_code 2 = .ok (.arraylength, 1) := by decide +kernel
theorem dW10_3 : decode method_3_code 3 = .ok (.if_icmp .ge 9, 3) := by decide +kernel
theorem dW10_6 : decode method_3_code 6 = .ok (.aload_n 0, 1) := by decide +kernel
theorem dW10_7 : decode method_3_code 7 = .ok (.iload_n 1, 1) := by decide +kernel
theorem dW10_8 : decode method_3_code 8 = .ok (.laload, 1) := by decide +kernel
theorem dW10_9 : decode method_3_code 9 = .ok (.goto 4, 3) := by decide +kernel
theorem dW10_13 : decode method_3_code 13 = .ok (.lreturn, 1) := by decide +kernel
theorem pnW10 : plainName "com/example/runs_to_nets/runstonets/core/Gf2BasisXorPinLaw" = true := by first | (simp [plainName, overriddenIn]; done) | decide +kernel
theorem efW10 (m : MethodId) (a : Addr) : entryFrame m #[(.ref a), (.int (0 : Int32))] 2 = mkF m 0 #[.val (.ref a), .val (.int (0 : Int32))] [] := by first | (simp [entryFrame, mkF, argsToLocals, Value.category]; done) | rfl
def QW10 (Z : State) (a : Addr) (kc_a : ClassId) (t0 : Int64) (h0 : Heap) (n0 : Nat) (v : Option Value) (h : Heap) (L : List Loc) : Prop := (v = some (.long t0) ∧ Fr n0 L ∧ h = h0)
set_option maxRecDepth 65536 in
set_option maxHeartbeats 40000000 in
theorem rmW10 (l : Launch) (Z : State) (a0 : Array Value) (hw : ∀ d ∈ tables_1, d.before a0 Z = true) (ws : List Jvm.Cond) (a : Addr) (kc_a : ClassId) (t0 : Int64) (h0 : Heap) (n0 : Nat) (Z0 : n0 ≤ h0.size) (V0_a : Arv Z h0 a kc_a .long (1 : Int32) [(.long t0)] (.long (0 : Int64))) :
    MetFree l (⟨"com/example/runs_to_nets/runstonets/core/Gf2BasisXorPinLaw", "word", "([JI)J"⟩ : MethodName) (head1 (Jvm.Cond.code (⟨"com/example/runs_to_nets/runstonets/core/Gf2BasisXorPinLaw", "word", "([JI)J"⟩ : MethodName) method_3_code 2 (some .long) :: ws) ({ frames := 0, cells := 0, slots := 0, locals := 0 } : Room)) (fun aa_ U_ => aa_ = #[(.ref a), (.int (0 : Int32))] ∧ Z.Warmed39 U_.vm ∧ U_.heap = h0) (fun _ _ _ _ _ => True) (fun _ U_ o_ V_ => ∃ v_ L_, o_ = .returned v_ ∧ QW10 Z a kc_a t0 h0 n0 v_ V_.heap L_ ∧ FrameEnd U_ o_ V_ L_ ({ frames := 0, cells := 0, slots := 0, locals := 0 } : Room).cells ({ frames := 0, cells := 0, slots := 0, locals := 0 } : Room).slots) := by
  refine MetFree.of_bodySF (plainFor_of_name pnW10) hisR ?_
  intro p e s m args below meth c s₁ Bd hml0 hP hK
  obtain ⟨rfl, hZ, hh⟩ := hP
  have hx := Bd.exec
  have hby := Bd.bytes
  have hml : c.maxLocals = 2 := hml0
  have hown : s.vm.findClass "com/example/runs_to_nets/runstonets/core/Gf2BasisXorPinLaw" = some m.cls := findClass_of_methodNamed Bd.named
  have hnm := (name_of_methodNamed Bd.named Bd.method).1
  have hlk : meth.locks = false := BodyLoose.notSynchronized Bd
  have hret : meth.sig.returnType = (some .long) := Bd.returns
  have X0 : Stand p l e ({ frames := 0, cells := 0, slots := 0, locals := 0 } : Room) s m #[(.ref a), (.int (0 : Int32))] below meth c s₁ [] 0 0 := Stand.of_body Bd
  have e0 : s₁.heap = h0 := by rw [← hh, Bd.state]; rfl
  have N0 := Fr.nil n0
  show Go p e below s ({ frames := 0, cells := 0, slots := 0, locals := 0 } : Room).cells ({ frames := 0, cells := 0, slots := 0, locals := 0 } : Room).slots (QW10 Z a kc_a t0 h0 n0) (s₁.setTop (entryFrame m #[(.ref a), (.int (0 : Int32))] 2))
  rw [efW10]
  refine Go.by (fun _ kont => XS.iloadN X0.here hx rfl (hb hby dW10_0) rfl (XS.aloadN X0.here hx rfl (hb hby dW10_1) rfl rfl kont)) ?_
  show Go _ _ _ _ _ _ _ (s₁.setTop (mkF m 2 #[.val (.ref a), .val (.int (0 : Int32))] [(.ref a), (.int (0 : Int32))]))
  obtain ⟨cl_q101, Ar_q101, q1_q101, S_q101, N_q101, H_q101, G_q101⟩ := id V0_a
  refine Go.by (X0.arraylength hx (by first | exact Ar_q101.1 | (rw [e0]; exact Ar_q101.1)) (State.isArrayOf_alike hZ.alike Ar_q101.2.1) (g := (mkF m 2 #[.val (.ref a), .val (.int (0 : Int32))] [(.ref a), (.int (0 : Int32))])) rfl rfl (hb hby dW10_2)) ?_
  rw [len_of S_q101 N_q101]
  show Go _ _ _ _ _ _ _ (s₁.setTop (mkF m 3 #[.val (.ref a), .val (.int (0 : Int32))] [(.int (1 : Int32)), (.int (0 : Int32))]))
  refine Go.by (fun _ kont => XS.icmpNo X0.here hx rfl (hb hby dW10_3) rfl (by decide) kont) ?_
  show Go _ _ _ _ _ _ _ (s₁.setTop (mkF m 6 #[.val (.ref a), .val (.int (0 : Int32))] []))
  refine Go.by (fun _ kont => XS.aloadN X0.here hx rfl (hb hby dW10_6) rfl rfl (XS.iloadN X0.here hx rfl (hb hby dW10_7) rfl kont)) ?_
  show Go _ _ _ _ _ _ _ (s₁.setTop (mkF m 8 #[.val (.ref a), .val (.int (0 : Int32))] [(.int (0 : Int32)), (.ref a)]))
  obtain ⟨cl_q102, Ar_q102, q1_q102, S_q102, N_q102, H_q102, G_q102⟩ := id V0_a
  have hin_q102 : ¬ ((0 : Int32) < 0 ∨ cl_q102.slots.size ≤ ((0 : Int32)).toNatClampNeg) := inb_of S_q102 ⟨by decide, by decide⟩
  have hat_q102 : cl_q102.slots[((0 : Int32)).toNatClampNeg]? = some (.long t0) := Has.at H_q102 hin_q102 rfl
  refine Go.by (X0.laload hx (j := (0 : Int32)) (v := (.long t0)) (by first | exact Ar_q102.1 | (rw [e0]; exact Ar_q102.1)) (State.isArrayOf_alike hZ.alike Ar_q102.2.1) Ar_q102.2.2 hin_q102 hat_q102 (g := (mkF m 8 #[.val (.ref a), .val (.int (0 : Int32))] [(.int (0 : Int32)), (.ref a)])) rfl rfl (hb hby dW10_8)) ?_
  show Go _ _ _ _ _ _ _ (s₁.setTop (mkF m 9 #[.val (.ref a), .val (.int (0 : Int32))] [(.long t0)]))
  refine Go.by (fun _ kont => XS.goto X0.here hx rfl (pc0 := 9) (pc' := 13) rfl (hb hby dW10_9) (by decide) (by decide) kont) ?_
  show Go _ _ _ _ _ _ _ (s₁.setTop (mkF m 13 #[.val (.ref a), .val (.int (0 : Int32))] [(.long t0)]))
  refine Go.retJ X0 hx hret hlk (hb hby dW10_13) ?_ (by decide) (by decide)
  show QW10 Z a kc_a t0 h0 n0 (some (.long t0)) s₁.heap _
  rw [e0]
  exact ⟨rfl, N0, rfl⟩

theorem dW11_0 : decode method_3_code 0 = .ok (.iload_n 1, 1) := by decide +kernel
theorem dW11_1 : decode method_3_code 1 = .ok (.aload_n 0, 1) := by decide +kernel
theorem dW11_2 : decode method_3_code 2 = .ok (.arraylength, 1) := by decide +kernel
theorem dW11_3 : decode method_3_code 3 = .ok (.if_icmp .ge 9, 3) := by decide +kernel
theorem dW11_12 : decode method_3_code 12 = .ok (.lconst 0, 1) := by decide +kernel
theorem dW11_13 : decode method_3_code 13 = .ok (.lreturn, 1) := by decide +kernel
theorem pnW11 : plainName "com/example/runs_to_nets/runstonets/core/Gf2BasisXorPinLaw" = true := by first | (simp [plainName, overriddenIn]; done) | decide +kernel
theorem efW11 (m : MethodId) (a : Addr) : entryFrame m #[(.ref a), (.int (1 : Int32))] 2 = mkF m 0 #[.val (.ref a), .val (.int (1 : Int32))] [] := by first | (simp [entryFrame, mkF, argsToLocals, Value.category]; done) | rfl
def QW11 (Z : State) (a : Addr) (kc_a : ClassId) (t0 : Int64) (h0 : Heap) (n0 : Nat) (v : Option Value) (h : Heap) (L : List Loc) : Prop := (v = some (.long (0 : Int64)) ∧ Fr n0 L ∧ h = h0)
set_option maxRecDepth 65536 in
set_option maxHeartbeats 40000000 in
theorem rmW11 (l : Launch) (Z : State) (a0 : Array Value) (hw : ∀ d ∈ tables_1, d.before a0 Z = true) (ws : List Jvm.Cond) (a : Addr) (kc_a : ClassId) (t0 : Int64) (h0 : Heap) (n0 : Nat) (Z0 : n0 ≤ h0.size) (V0_a : Arv Z h0 a kc_a .long (1 : Int32) [(.long t0)] (.long (0 : Int64))) :
    MetFree l (⟨"com/example/runs_to_nets/runstonets/core/Gf2BasisXorPinLaw", "word", "([JI)J"⟩ : MethodName) (head1 (Jvm.Cond.code (⟨"com/example/runs_to_nets/runstonets/core/Gf2BasisXorPinLaw", "word", "([JI)J"⟩ : MethodName) method_3_code 2 (some .long) :: ws) ({ frames := 0, cells := 0, slots := 0, locals := 0 } : Room)) (fun aa_ U_ => aa_ = #[(.ref a), (.int (1 : Int32))] ∧ Z.Warmed39 U_.vm ∧ U_.heap = h0) (fun _ _ _ _ _ => True) (fun _ U_ o_ V_ => ∃ v_ L_, o_ = .returned v_ ∧ QW11 Z a kc_a t0 h0 n0 v_ V_.heap L_ ∧ FrameEnd U_ o_ V_ L_ ({ frames := 0, cells := 0, slots := 0, locals := 0 } : Room).cells ({ frames := 0, cells := 0, slots := 0, locals := 0 } : Room).slots) := by
  refine MetFree.of_bodySF (plainFor_of_name pnW11) hisR ?_
  intro p e s m args below meth c s₁ Bd hml0 hP hK
  obtain ⟨rfl, hZ, hh⟩ := hP
  have hx := Bd.exec
  have hby := Bd.bytes
  have hml : c.maxLocals = 2 := hml0
  have hown : s.vm.findClass "com/example/runs_to_nets/runstonets/core/Gf2BasisXorPinLaw" = some m.cls := findClass_of_methodNamed Bd.named
  have hnm := (name_of_methodNamed Bd.named Bd.method).1
  have hlk : meth.locks = false := BodyLoose.notSynchronized Bd
  have hret : meth.sig.returnType = (some .long) := Bd.returns
  have X0 : Stand p l e ({ frames := 0, cells := 0, slots := 0, locals := 0 } : Room) s m #[(.ref a), (.int (1 : Int32))] below meth c s₁ [] 0 0 := Stand.of_body Bd
  have e0 : s₁.heap = h0 := by rw [← hh, Bd.state]; rfl
  have N0 := Fr.nil n0
  show Go p e below s ({ frames := 0, cells := 0, slots := 0, locals := 0 } : Room).cells ({ frames := 0, cells := 0, slots := 0, locals := 0 } : Room).slots (QW11 Z a kc_a t0 h0 n0) (s₁.setTop (entryFrame m #[(.ref a), (.int (1 : Int32))] 2))
  rw [efW11]
  refine Go.by (fun _ kont => XS.iloadN X0.here hx rfl (hb hby dW11_0) rfl (XS.aloadN X0.here hx rfl (hb hby dW11_1) rfl rfl kont)) ?_
  show Go _ _ _ _ _ _ _ (s₁.setTop (mkF m 2 #[.val (.ref a), .val (.int (1 : Int32))] [(.ref a), (.int (1 : Int32))]))
  obtain ⟨cl_q101, Ar_q101, q1_q101, S_q101, N_q101, H_q101, G_q101⟩ := id V0_a
  refine Go.by (X0.arraylength hx (by first | exact Ar_q101.1 | (rw [e0]; exact Ar_q101.1)) (State.isArrayOf_alike hZ.alike Ar_q101.2.1) (g := (mkF m 2 #[.val (.ref a), .val (.int (1 : Int32))] [(.ref a), (.int (1 : Int32))])) rfl rfl (hb hby dW11_2)) ?_
  rw [len_of S_q101 N_q101]
  show Go _ _ _ _ _ _ _ (s₁.setTop (mkF m 3 #[.val (.ref a), .val (.int (1 : Int32))] [(.int (1 : Int32)), (.int (1 : Int32))]))
  refine Go.by (fun _ kont => XS.icmpYes X0.here hx rfl (pc0 := 3) (pc' := 12) rfl (hb hby dW11_3) rfl (by decide) (by decide) (by decide) kont) ?_
  show Go _ _ _ _ _ _ _ (s₁.setTop (mkF m 12 #[.val (.ref a), .val (.int (1 : Int32))] []))
  refine Go.by (fun _ kont => XS.lconst X0.here hx rfl (hb hby dW11_12) kont) ?_
  show Go _ _ _ _ _ _ _ (s₁.setTop (mkF m 13 #[.val (.ref a), .val (.int (1 : Int32))] [(.long (0 : Int64))]))
  refine Go.retJ X0 hx hret hlk (hb hby dW11_13) ?_ (by decide) (by decide)
  show QW11 Z a kc_a t0 h0 n0 (some (.long (0 : Int64))) s₁.heap _
  rw [e0]
  exact ⟨rfl, N0, rfl⟩

theorem dW12_0 : decode method_3_code 0 = .ok (.iload_n 1, 1) := by decide +kernel
theorem dW12_1 : decode method_3_code 1 = .ok (.aload_n 0, 1) := by decide +kernel
theorem dW12_2 : decode method_3_code 2 = .ok (.arraylength, 1) := by decide +kernel
theorem dW12_3 : decode method_3_code 3 = .ok (.if_icmp .ge 9, 3) := by decide +kernel
theorem dW12_12 : decode method_3_code 12 = .ok (.lconst 0, 1) := by decide +kernel
theorem dW12_13 : decode method_3_code 13 = .ok (.lreturn, 1) := by decide +kernel
theorem pnW12 : plainName "com/example/runs_to_nets/runstonets/core/Gf2BasisXorPinLaw" = true := by first | (simp [plainName, overriddenIn]; done) | decide +kernel
theorem efW12 (m : MethodId) (a : Addr) : entryFrame m #[(.ref a), (.int (2 : Int32))] 2 = mkF m 0 #[.val (.ref a), .val (.int (2 : Int32))] [] := by first | (simp [entryFrame, mkF, argsToLocals, Value.category]; done) | rfl
def QW12 (Z : State) (a : Addr) (kc_a : ClassId) (t0 : Int64) (h0 : Heap) (n0 : Nat) (v : Option Value) (h : Heap) (L : List Loc) : Prop := (v = some (.long (0 : Int64)) ∧ Fr n0 L ∧ h = h0)
set_option maxRecDepth 65536 in
set_option maxHeartbeats 40000000 in
theorem rmW12 (l : Launch) (Z : State) (a0 : Array Value) (hw : ∀ d ∈ tables_1, d.before a0 Z = true) (ws : List Jvm.Cond) (a : Addr) (kc_a : ClassId) (t0 : Int64) (h0 : Heap) (n0 : Nat) (Z0 : n0 ≤ h0.size) (V0_a : Arv Z h0 a kc_a .long (1 : Int32) [(.long t0)] (.long (0 : Int64))) :
    MetFree l (⟨"com/example/runs_to_nets/runstonets/core/Gf2BasisXorPinLaw", "word", "([JI)J"⟩ : MethodName) (head1 (Jvm.Cond.code (⟨"com/example/runs_to_nets/runstonets/core/Gf2BasisXorPinLaw", "word", "([JI)J"⟩ : MethodName) method_3_code 2 (some .long) :: ws) ({ frames := 0, cells := 0, slots := 0, locals := 0 } : Room)) (fun aa_ U_ => aa_ = #[(.ref a), (.int (2 : Int32))] ∧ Z.Warmed39 U_.vm ∧ U_.heap = h0) (fun _ _ _ _ _ => True) (fun _ U_ o_ V_ => ∃ v_ L_, o_ = .returned v_ ∧ QW12 Z a kc_a t0 h0 n0 v_ V_.heap L_ ∧ FrameEnd U_ o_ V_ L_ ({ frames := 0, cells := 0, slots := 0, locals := 0 } : Room).cells ({ frames := 0, cells := 0, slots := 0, locals := 0 } : Room).slots) := by
  refine MetFree.of_bodySF (plainFor_of_name pnW12) hisR ?_
  intro p e s m args below meth c s₁ Bd hml0 hP hK
  obtain ⟨rfl, hZ, hh⟩ := hP
  have hx := Bd.exec
  have hby := Bd.bytes
  have hml : c.maxLocals = 2 := hml0
  have hown : s.vm.findClass "com/example/runs_to_nets/runstonets/core/Gf2BasisXorPinLaw" = some m.cls := findClass_of_methodNamed Bd.named
  have hnm := (name_of_methodNamed Bd.named Bd.method).1
  have hlk : meth.locks = false := BodyLoose.notSynchronized Bd
  have hret : meth.sig.returnType = (some .long) := Bd.returns
  have X0 : Stand p l e ({ frames := 0, cells := 0, slots := 0, locals := 0 } : Room) s m #[(.ref a), (.int (2 : Int32))] below meth c s₁ [] 0 0 := Stand.of_body Bd
  have e0 : s₁.heap = h0 := by rw [← hh, Bd.state]; rfl
  have N0 := Fr.nil n0
  show Go p e below s ({ frames := 0, cells := 0, slots := 0, locals := 0 } : Room).cells ({ frames := 0, cells := 0, slots := 0, locals := 0 } : Room).slots (QW12 Z a kc_a t0 h0 n0) (s₁.setTop (entryFrame m #[(.ref a), (.int (2 : Int32))] 2))
  rw [efW12]
  refine Go.by (fun _ kont => XS.iloadN X0.here hx rfl (hb hby dW12_0) rfl (XS.aloadN X0.here hx rfl (hb hby dW12_1) rfl rfl kont)) ?_
  show Go _ _ _ _ _ _ _ (s₁.setTop (mkF m 2 #[.val (.ref a), .val (.int (2 : Int32))] [(.ref a), (.int (2 : Int32))]))
  obtain ⟨cl_q101, Ar_q101, q1_q101, S_q101, N_q101, H_q101, G_q101⟩ := id V0_a
  refine Go.by (X0.arraylength hx (by first | exact Ar_q101.1 | (rw [e0]; exact Ar_q101.1)) (State.isArrayOf_alike hZ.alike Ar_q101.2.1) (g := (mkF m 2 #[.val (.ref a), .val (.int (2 : Int32))] [(.ref a), (.int (2 : Int32))])) rfl rfl (hb hby dW12_2)) ?_
  rw [len_of S_q101 N_q101]
  show Go _ _ _ _ _ _ _ (s₁.setTop (mkF m 3 #[.val (.ref a), .val (.int (2 : Int32))] [(.int (1 : Int32)), (.int (2 : Int32))]))
  refine Go.by (fun _ kont => XS.icmpYes X0.here hx rfl (pc0 := 3) (pc' := 12) rfl (hb hby dW12_3) rfl (by decide) (by decide) (by decide) kont) ?_
  show Go _ _ _ _ _ _ _ (s₁.setTop (mkF m 12 #[.val (.ref a), .val (.int (2 : Int32))] []))
  refine Go.by (fun _ kont => XS.lconst X0.here hx rfl (hb hby dW12_12) kont) ?_
  show Go _ _ _ _ _ _ _ (s₁.setTop (mkF m 13 #[.val (.ref a), .val (.int (2 : Int32))] [(.long (0 : Int64))]))
  refine Go.retJ X0 hx hret hlk (hb hby dW12_13) ?_ (by decide) (by decide)
  show QW12 Z a kc_a t0 h0 n0 (some (.long (0 : Int64))) s₁.heap _
  rw [e0]
  exact ⟨rfl, N0, rfl⟩

theorem dXA2_0 : decode prog_14_method_11_code 0 = .ok (.iconst 0, 1) := by decide +kernel
theorem dXA2_1 : decode prog_14_method_11_code 1 = .ok (.istore_n 2, 1) := by decide +kernel
theorem dXA2_2 : decode prog_14_method_11_code 2 = .ok (.iload_n 2, 1) := by decide +kernel
theorem dXA2_3 : decode prog_14_method_11_code 3 = .ok (.aload_n 0, 1) := by decide +kernel
theorem dXA2_4 : decode prog_14_method_11_code 4 = .ok (.arraylength, 1) := by decide +kernel
theorem dXA2_5 : decode prog_14_method_11_code 5 = .ok (.if_icmp .ge 18, 3) := by decide +kernel
theorem dXA2_8 : decode prog_14_method_11_code 8 = .ok (.aload_n 0, 1) := by decide +kernel
theorem dXA2_9 : decode prog_14_method_11_code 9 = .ok (.iload_n 2, 1) := by decide +kernel
theorem dXA2_10 : decode prog_14_method_11_code 10 = .ok (.dup2, 1) := by decide +kernel
theorem dXA2_11 : decode prog_14_method_11_code 11 = .ok (.laload, 1) := by decide +kernel
theorem dXA2_12 : decode prog_14_method_11_code 12 = .ok (.aload_n 1, 1) := by decide +kernel
theorem dXA2_13 : decode prog_14_method_11_code 13 = .ok (.iload_n 2, 1) := by decide +kernel
theorem dXA2_14 : decode prog_14_method_11_code 14 = .ok (.laload, 1) := by decide +kernel
theorem dXA2_15 : decode prog_14_method_11_code 15 = .ok (.lxor, 1) := by decide +kernel
theorem dXA2_16 : decode prog_14_method_11_code 16 = .ok (.lastore, 1) := by decide +kernel
theorem dXA2_17 : decode prog_14_method_11_code 17 = .ok (.iinc 2 1, 3) := by decide +kernel
theorem dXA2_20 : decode prog_14_method_11_code 20 = .ok (.goto (-18), 3) := by decide +kernel
theorem dXA2_23 : decode prog_14_method_11_code 23 = .ok (.return_, 1) := by decide +kernel
theorem pnXA2 : plainName "com/example/runs_to_nets/runstonets/core/Gf2Basis" = true := by first | (simp [plainName, overriddenIn]; done) | decide +kernel
theorem efXA2 (m : MethodId) (a : Addr) : entryFrame m #[(.ref a), (.ref a)] 3 = mkF m 0 #[.val (.ref a), .val (.ref a), .unset] [] := by first | (simp [entryFrame, mkF, argsToLocals, Value.category]; done) | rfl
def QXA2 (Z : State) (a : Addr) (kc_a : ClassId) (t0 : Int64) (t1 : Int64) (h0 : Heap) (n0 : Nat) (v : Option Value) (h : Heap) (L : List Loc) : Prop := (v = none ∧ Fr n0 L ∧ Keep h0 h [a] ∧ Arv Z h a kc_a .long (2 : Int32) [(.long (t0 ^^^ t0)), (.long (t1 ^^^ t1))] (.long (0 : Int64)))
set_option maxRecDepth 65536 in
set_option maxHeartbeats 40000000 in
theorem rmXA2 (l : Launch) (Z : State) (a0 : Array Value) (hw : ∀ d ∈ tables_1, d.before a0 Z = true) (ws : List Jvm.Cond) (a : Addr) (kc_a : ClassId) (t0 : Int64) (t1 : Int64) (h0 : Heap) (n0 : Nat) (Z0 : n0 ≤ h0.size) (V0_a : Arv Z h0 a kc_a .long (2 : Int32) [(.long t0), (.long t1)] (.long (0 : Int64))) (ge0_a : n0 ≤ a) :
    MetFree l (⟨"com/example/runs_to_nets/runstonets/core/Gf2Basis", "xor", "([J[J)V"⟩ : MethodName) (head1 (Jvm.Cond.code (⟨"com/example/runs_to_nets/runstonets/core/Gf2Basis", "xor", "([J[J)V"⟩ : MethodName) prog_14_method_11_code 3 none :: ws) ({ frames := 0, cells := 0, slots := 0, locals := 0 } : Room)) (fun aa_ U_ => aa_ = #[(.ref a), (.ref a)] ∧ Z.Warmed39 U_.vm ∧ U_.heap = h0) (fun _ _ _ _ _ => True) (fun _ U_ o_ V_ => ∃ v_ L_, o_ = .returned v_ ∧ QXA2 Z a kc_a t0 t1 h0 n0 v_ V_.heap L_ ∧ FrameEnd U_ o_ V_ L_ ({ frames := 0, cells := 0, slots := 0, locals := 0 } : Room).cells ({ frames := 0, cells := 0, slots := 0, locals := 0 } : Room).slots) := by
  refine MetFree.of_bodySF (plainFor_of_name pnXA2) hisR ?_
  intro p e s m args below meth c s₁ Bd hml0 hP hK
  obtain ⟨rfl, hZ, hh⟩ := hP
  have hx := Bd.exec
  have hby := Bd.bytes
  have hml : c.maxLocals = 3 := hml0
  have hown : s.vm.findClass "com/example/runs_to_nets/runstonets/core/Gf2Basis" = some m.cls := findClass_of_methodNamed Bd.named
  have hnm := (name_of_methodNamed Bd.named Bd.method).1
  have hlk : meth.locks = false := BodyLoose.notSynchronized Bd
  have hret : meth.sig.returnType = none := Bd.returns
  have X0 : Stand p l e ({ frames := 0, cells := 0, slots := 0, locals := 0 } : Room) s m #[(.ref a), (.ref a)] below meth c s₁ [] 0 0 := Stand.of_body Bd
  have e0 : s₁.heap = h0 := by rw [← hh, Bd.state]; rfl
  have N0 := Fr.nil n0
  show Go p e below s ({ frames := 0, cells := 0, slots := 0, locals := 0 } : Room).cells ({ frames := 0, cells := 0, slots := 0, locals := 0 } : Room).slots (QXA2 Z a kc_a t0 t1 h0 n0) (s₁.setTop (entryFrame m #[(.ref a), (.ref a)] 3))
  rw [efXA2]
  refine Go.by (fun _ kont => XS.iconst X0.here hx rfl (hb hby dXA2_0) (XS.istoreN X0.here hx rfl (hb hby dXA2_1) rfl (l' := #[.val (.ref a), .val (.ref a), .val (.int (0 : Int32))]) rfl (XS.iloadN X0.here hx rfl (hb hby dXA2_2) rfl (XS.aloadN X0.here hx rfl (hb hby dXA2_3) rfl rfl kont)))) ?_
  show Go _ _ _ _ _ _ _ (s₁.setTop (mkF m 4 #[.val (.ref a), .val (.ref a), .val (.int (0 : Int32))] [(.ref a), (.int (0 : Int32))]))
  obtain ⟨cl_q101, Ar_q101, q1_q101, S_q101, N_q101, H_q101, G_q101⟩ := id V0_a
  refine Go.by (X0.arraylength hx (by first | exact Ar_q101.1 | (rw [e0]; exact Ar_q101.1)) (State.isArrayOf_alike hZ.alike Ar_q101.2.1) (g := (mkF m 4 #[.val (.ref a), .val (.ref a), .val (.int (0 : Int32))] [(.ref a), (.int (0 : Int32))])) rfl rfl (hb hby dXA2_4)) ?_
  rw [len_of S_q101 N_q101]
  show Go _ _ _ _ _ _ _ (s₁.setTop (mkF m 5 #[.val (.ref a), .val (.ref a), .val (.int (0 : Int32))] [(.int (2 : Int32)), (.int (0 : Int32))]))
  refine Go.by (fun _ kont => XS.icmpNo X0.here hx rfl (hb hby dXA2_5) rfl (by decide) kont) ?_
  show Go _ _ _ _ _ _ _ (s₁.setTop (mkF m 8 #[.val (.ref a), .val (.ref a), .val (.int (0 : Int32))] []))
  refine Go.by (fun _ kont => XS.aloadN X0.here hx rfl (hb hby dXA2_8) rfl rfl (XS.iloadN X0.here hx rfl (hb hby dXA2_9) rfl (XT.dup2 X0.here hx rfl (hb hby dXA2_10) rfl rfl rfl kont))) ?_
  show Go _ _ _ _ _ _ _ (s₁.setTop (mkF m 11 #[.val (.ref a), .val (.ref a), .val (.int (0 : Int32))] [(.int (0 : Int32)), (.ref a), (.int (0 : Int32)), (.ref a)]))
  obtain ⟨cl_q102, Ar_q102, q1_q102, S_q102, N_q102, H_q102, G_q102⟩ := id V0_a
  have hin_q102 : ¬ ((0 : Int32) < 0 ∨ cl_q102.slots.size ≤ ((0 : Int32)).toNatClampNeg) := inb_of S_q102 ⟨by decide, by decide⟩
  have hat_q102 : cl_q102.slots[((0 : Int32)).toNatClampNeg]? = some (.long t0) := Has.at H_q102 hin_q102 rfl
  refine Go.by (X0.laload hx (j := (0 : Int32)) (v := (.long t0)) (by first | exact Ar_q102.1 | (rw [e0]; exact Ar_q102.1)) (State.isArrayOf_alike hZ.alike Ar_q102.2.1) Ar_q102.2.2 hin_q102 hat_q102 (g := (mkF m 11 #[.val (.ref a), .val (.ref a), .val (.int (0 : Int32))] [(.int (0 : Int32)), (.ref a), (.int (0 : Int32)), (.ref a)])) rfl rfl (hb hby dXA2_11)) ?_
  show Go _ _ _ _ _ _ _ (s₁.setTop (mkF m 12 #[.val (.ref a), .val (.ref a), .val (.int (0 : Int32))] [(.long t0), (.int (0 : Int32)), (.ref a)]))
  refine Go.by (fun _ kont => XS.aloadN X0.here hx rfl (hb hby dXA2_12) rfl rfl (XS.iloadN X0.here hx rfl (hb hby dXA2_13) rfl kont)) ?_
  show Go _ _ _ _ _ _ _ (s₁.setTop (mkF m 14 #[.val (.ref a), .val (.ref a), .val (.int (0 : Int32))] [(.int (0 : Int32)), (.ref a), (.long t0), (.int (0 : Int32)), (.ref a)]))
  obtain ⟨cl_q103, Ar_q103, q1_q103, S_q103, N_q103, H_q103, G_q103⟩ := id V0_a
  have hin_q103 : ¬ ((0 : Int32) < 0 ∨ cl_q103.slots.size ≤ ((0 : Int32)).toNatClampNeg) := inb_of S_q103 ⟨by decide, by decide⟩
  have hat_q103 : cl_q103.slots[((0 : Int32)).toNatClampNeg]? = some (.long t0) := Has.at H_q103 hin_q103 rfl
  refine Go.by (X0.laload hx (j := (0 : Int32)) (v := (.long t0)) (by first | exact Ar_q103.1 | (rw [e0]; exact Ar_q103.1)) (State.isArrayOf_alike hZ.alike Ar_q103.2.1) Ar_q103.2.2 hin_q103 hat_q103 (g := (mkF m 14 #[.val (.ref a), .val (.ref a), .val (.int (0 : Int32))] [(.int (0 : Int32)), (.ref a), (.long t0), (.int (0 : Int32)), (.ref a)])) rfl rfl (hb hby dXA2_14)) ?_
  show Go _ _ _ _ _ _ _ (s₁.setTop (mkF m 15 #[.val (.ref a), .val (.ref a), .val (.int (0 : Int32))] [(.long t0), (.long t0), (.int (0 : Int32)), (.ref a)]))
  refine Go.by (fun _ kont => XS.lxor X0.here hx rfl (hb hby dXA2_15) rfl kont) ?_
  show Go _ _ _ _ _ _ _ (s₁.setTop (mkF m 16 #[.val (.ref a), .val (.ref a), .val (.int (0 : Int32))] [(.long (t0 ^^^ t0)), (.int (0 : Int32)), (.ref a)]))
  obtain ⟨cl_q104, Ar_q104, q1_q104, S_q104, N_q104, H_q104, G_q104⟩ := id V0_a
  have hin_q104 : ¬ ((0 : Int32) < 0 ∨ cl_q104.slots.size ≤ ((0 : Int32)).toNatClampNeg) := inb_of S_q104 ⟨by decide, by decide⟩
  obtain ⟨T105, h105, X105, e105, W105, st105⟩ := stJ X0 hx hZ e0 Ar_q104 (j := (0 : Int32)) hin_q104 (g := (mkF m 16 #[.val (.ref a), .val (.ref a), .val (.int (0 : Int32))] [(.long (t0 ^^^ t0)), (.int (0 : Int32)), (.ref a)])) rfl rfl (hb hby dXA2_16)
  have V105 : Arv Z h105 a kc_a .long (2 : Int32) [(.long (t0 ^^^ t0)), (.long t1)] (.long (0 : Int64)) := Arv.set Ar_q104 q1_q104 S_q104 N_q104 H_q104 G_q104 rfl W105 0 rfl (Nat.le_of_ble_eq_true rfl)
  have Z106 := Nat.le_trans Z0 (Keep.of_wr W105).1
  have K106 : Keep h0 h105 [a] := (Keep.refl h0 [a]).wr W105 (Or.inl (by simp))
  have N105 := Fr.snoc X105 N0 ge0_a
  refine Go.by st105 ?_
  show Go _ _ _ _ _ _ _ (T105.setTop (mkF m 17 #[.val (.ref a), .val (.ref a), .val (.int (0 : Int32))] []))
  refine Go.by (fun _ kont => XS.iinc X105.here hx rfl (hb hby dXA2_17) rfl (l' := #[.val (.ref a), .val (.ref a), .val (.int (1 : Int32))]) rfl (XS.goto X105.here hx rfl (pc0 := 20) (pc' := 2) rfl (hb hby dXA2_20) (by decide) (by decide) (XS.iloadN X105.here hx rfl (hb hby dXA2_2) rfl (XS.aloadN X105.here hx rfl (hb hby dXA2_3) rfl rfl kont)))) ?_
  show Go _ _ _ _ _ _ _ (T105.setTop (mkF m 4 #[.val (.ref a), .val (.ref a), .val (.int (1 : Int32))] [(.ref a), (.int (1 : Int32))]))
  obtain ⟨cl_q107, Ar_q107, q1_q107, S_q107, N_q107, H_q107, G_q107⟩ := id V105
  refine Go.by (X105.arraylength hx (by first | exact Ar_q107.1 | (rw [e105]; exact Ar_q107.1)) (State.isArrayOf_alike hZ.alike Ar_q107.2.1) (g := (mkF m 4 #[.val (.ref a), .val (.ref a), .val (.int (1 : Int32))] [(.ref a), (.int (1 : Int32))])) rfl rfl (hb hby dXA2_4)) ?_
  rw [len_of S_q107 N_q107]
  show Go _ _ _ _ _ _ _ (T105.setTop (mkF m 5 #[.val (.ref a), .val (.ref a), .val (.int (1 : Int32))] [(.int (2 : Int32)), (.int (1 : Int32))]))
  refine Go.by (fun _ kont => XS.icmpNo X105.here hx rfl (hb hby dXA2_5) rfl (by decide) kont) ?_
  show Go _ _ _ _ _ _ _ (T105.setTop (mkF m 8 #[.val (.ref a), .val (.ref a), .val (.int (1 : Int32))] []))
  refine Go.by (fun _ kont => XS.aloadN X105.here hx rfl (hb hby dXA2_8) rfl rfl (XS.iloadN X105.here hx rfl (hb hby dXA2_9) rfl (XT.dup2 X105.here hx rfl (hb hby dXA2_10) rfl rfl rfl kont))) ?_
  show Go _ _ _ _ _ _ _ (T105.setTop (mkF m 11 #[.val (.ref a), .val (.ref a), .val (.int (1 : Int32))] [(.int (1 : Int32)), (.ref a), (.int (1 : Int32)), (.ref a)]))
  obtain ⟨cl_q108, Ar_q108, q1_q108, S_q108, N_q108, H_q108, G_q108⟩ := id V105
  have hin_q108 : ¬ ((1 : Int32) < 0 ∨ cl_q108.slots.size ≤ ((1 : Int32)).toNatClampNeg) := inb_of S_q108 ⟨by decide, by decide⟩
  have hat_q108 : cl_q108.slots[((1 : Int32)).toNatClampNeg]? = some (.long t1) := Has.at H_q108 hin_q108 rfl
  refine Go.by (X105.laload hx (j := (1 : Int32)) (v := (.long t1)) (by first | exact Ar_q108.1 | (rw [e105]; exact Ar_q108.1)) (State.isArrayOf_alike hZ.alike Ar_q108.2.1) Ar_q108.2.2 hin_q108 hat_q108 (g := (mkF m 11 #[.val (.ref a), .val (.ref a), .val (.int (1 : Int32))] [(.int (1 : Int32)), (.ref a), (.int (1 : Int32)), (.ref a)])) rfl rfl (hb hby dXA2_11)) ?_
  show Go _ _ _ _ _ _ _ (T105.setTop (mkF m 12 #[.val (.ref a), .val (.ref a), .val (.int (1 : Int32))] [(.long t1), (.int (1 : Int32)), (.ref a)]))
  refine Go.by (fun _ kont => XS.aloadN X105.here hx rfl (hb hby dXA2_12) rfl rfl (XS.iloadN X105.here hx rfl (hb hby dXA2_13) rfl kont)) ?_
  show Go _ _ _ _ _ _ _ (T105.setTop (mkF m 14 #[.val (.ref a), .val (.ref a), .val (.int (1 : Int32))] [(.int (1 : Int32)), (.ref a), (.long t1), (.int (1 : Int32)), (.ref a)]))
  obtain ⟨cl_q109, Ar_q109, q1_q109, S_q109, N_q109, H_q109, G_q109⟩ := id V105
  have hin_q109 : ¬ ((1 : Int32) < 0 ∨ cl_q109.slots.size ≤ ((1 : Int32)).toNatClampNeg) := inb_of S_q109 ⟨by decide, by decide⟩
  have hat_q109 : cl_q109.slots[((1 : Int32)).toNatClampNeg]? = some (.long t1) := Has.at H_q109 hin_q109 rfl
  refine Go.by (X105.laload hx (j := (1 : Int32)) (v := (.long t1)) (by first | exact Ar_q109.1 | (rw [e105]; exact Ar_q109.1)) (State.isArrayOf_alike hZ.alike Ar_q109.2.1) Ar_q109.2.2 hin_q109 hat_q109 (g := (mkF m 14 #[.val (.ref a), .val (.ref a), .val (.int (1 : Int32))] [(.int (1 : Int32)), (.ref a), (.long t1), (.int (1 : Int32)), (.ref a)])) rfl rfl (hb hby dXA2_14)) ?_
  show Go _ _ _ _ _ _ _ (T105.setTop (mkF m 15 #[.val (.ref a), .val (.ref a), .val (.int (1 : Int32))] [(.long t1), (.long t1), (.int (1 : Int32)), (.ref a)]))
  refine Go.by (fun _ kont => XS.lxor X105.here hx rfl (hb hby dXA2_15) rfl kont) ?_
  show Go _ _ _ _ _ _ _ (T105.setTop (mkF m 16 #[.val (.ref a), .val (.ref a), .val (.int (1 : Int32))] [(.long (t1 ^^^ t1)), (.int (1 : Int32)), (.ref a)]))
  obtain ⟨cl_q110, Ar_q110, q1_q110, S_q110, N_q110, H_q110, G_q110⟩ := id V105
  have hin_q110 : ¬ ((1 : Int32) < 0 ∨ cl_q110.slots.size ≤ ((1 : Int32)).toNatClampNeg) := inb_of S_q110 ⟨by decide, by decide⟩
  obtain ⟨T111, h111, X111, e111, W111, st111⟩ := stJ X105 hx hZ e105 Ar_q110 (j := (1 : Int32)) hin_q110 (g := (mkF m 16 #[.val (.ref a), .val (.ref a), .val (.int (1 : Int32))] [(.long (t1 ^^^ t1)), (.int (1 : Int32)), (.ref a)])) rfl rfl (hb hby dXA2_16)
  have V111 : Arv Z h111 a kc_a .long (2 : Int32) [(.long (t0 ^^^ t0)), (.long (t1 ^^^ t1))] (.long (0 : Int64)) := Arv.set Ar_q110 q1_q110 S_q110 N_q110 H_q110 G_q110 rfl W111 1 rfl (Nat.le_of_ble_eq_true rfl)
  have Z112 := Nat.le_trans Z106 (Keep.of_wr W111).1
  have K112 : Keep h0 h111 [a] := K106.wr W111 (Or.inl (by simp))
  have N111 := Fr.snoc X111 N105 ge0_a
  refine Go.by st111 ?_
  show Go _ _ _ _ _ _ _ (T111.setTop (mkF m 17 #[.val (.ref a), .val (.ref a), .val (.int (1 : Int32))] []))
  refine Go.by (fun _ kont => XS.iinc X111.here hx rfl (hb hby dXA2_17) rfl (l' := #[.val (.ref a), .val (.ref a), .val (.int (2 : Int32))]) rfl (XS.goto X111.here hx rfl (pc0 := 20) (pc' := 2) rfl (hb hby dXA2_20) (by decide) (by decide) (XS.iloadN X111.here hx rfl (hb hby dXA2_2) rfl (XS.aloadN X111.here hx rfl (hb hby dXA2_3) rfl rfl kont)))) ?_
  show Go _ _ _ _ _ _ _ (T111.setTop (mkF m 4 #[.val (.ref a), .val (.ref a), .val (.int (2 : Int32))] [(.ref a), (.int (2 : Int32))]))
  obtain ⟨cl_q113, Ar_q113, q1_q113, S_q113, N_q113, H_q113, G_q113⟩ := id V111
  refine Go.by (X111.arraylength hx (by first | exact Ar_q113.1 | (rw [e111]; exact Ar_q113.1)) (State.isArrayOf_alike hZ.alike Ar_q113.2.1) (g := (mkF m 4 #[.val (.ref a), .val (.ref a), .val (.int (2 : Int32))] [(.ref a), (.int (2 : Int32))])) rfl rfl (hb hby dXA2_4)) ?_
  rw [len_of S_q113 N_q113]
  show Go _ _ _ _ _ _ _ (T111.setTop (mkF m 5 #[.val (.ref a), .val (.ref a), .val (.int (2 : Int32))] [(.int (2 : Int32)), (.int (2 : Int32))]))
  refine Go.by (fun _ kont => XS.icmpYes X111.here hx rfl (pc0 := 5) (pc' := 23) rfl (hb hby dXA2_5) rfl (by decide) (by decide) (by decide) kont) ?_
  show Go _ _ _ _ _ _ _ (T111.setTop (mkF m 23 #[.val (.ref a), .val (.ref a), .val (.int (2 : Int32))] []))
  refine Go.retV X111 hx hret hlk (hb hby dXA2_23) ?_ (by decide) (by decide)
  show QXA2 Z a kc_a t0 t1 h0 n0 none T111.heap _
  rw [e111]
  exact ⟨rfl, N111, K112, V111⟩

theorem dXB2_0 : decode prog_14_method_11_code 0 = .ok (.iconst 0, 1) := by decide +kernel
theorem dXB2_1 : decode prog_14_method_11_code 1 = .ok (.istore_n 2, 1) := by decide +kernel
theorem dXB2_2 : decode prog_14_method_11_code 2 = .ok (.iload_n 2, 1) := by decide +kernel
theorem dXB2_3 : decode prog_14_method_11_code 3 = .ok (.aload_n 0, 1) := by decide +kernel
theorem dXB2_4 : decode prog_14_method_11_code 4 = .ok (.arraylength, 1) := by decide +kernel
theorem dXB2_5 : decode prog_14_method_11_code 5 = .ok (.if_icmp .ge 18, 3) := by decide +kernel
theorem dXB2_8 : decode prog_14_method_11_code 8 = .ok (.aload_n 0, 1) := by decide +kernel
theorem dXB2_9 : decode prog_14_method_11_code 9 = .ok (.iload_n 2, 1) := by decide +kernel
theorem dXB2_10 : decode prog_14_method_11_code 10 = .ok (.dup2, 1) := by decide +kernel
theorem dXB2_11 : decode prog_14_method_11_code 11 = .ok (.laload, 1) := by decide +kernel
theorem dXB2_12 : decode prog_14_method_11_code 12 = .ok (.aload_n 1, 1) := by decide +kernel
theorem dXB2_13 : decode prog_14_method_11_code 13 = .ok (.iload_n 2, 1) := by decide +kernel
theorem dXB2_14 : decode prog_14_method_11_code 14 = .ok (.laload, 1) := by decide +kernel
theorem dXB2_15 : decode prog_14_method_11_code 15 = .ok (.lxor, 1) := by decide +kernel
theorem dXB2_16 : decode prog_14_method_11_code 16 = .ok (.lastore, 1) := by decide +kernel
theorem dXB2_17 : decode prog_14_method_11_code 17 = .ok (.iinc 2 1, 3) := by decide +kernel
theorem dXB2_20 : decode prog_14_method_11_code 20 = .ok (.goto (-18), 3) := by decide +kernel
theorem dXB2_23 : decode prog_14_method_11_code 23 = .ok (.return_, 1) := by decide +kernel
theorem pnXB2 : plainName "com/example/runs_to_nets/runstonets/core/Gf2Basis" = true := by first | (simp [plainName, overriddenIn]; done) | decide +kernel
theorem efXB2 (m : MethodId) (a : Addr) (b : Addr) : entryFrame m #[(.ref a), (.ref b)] 3 = mkF m 0 #[.val (.ref a), .val (.ref b), .unset] [] := by first | (simp [entryFrame, mkF, argsToLocals, Value.category]; done) | rfl
def QXB2 (Z : State) (a : Addr) (b : Addr) (kc_a : ClassId) (t0 : Int64) (t1 : Int64) (kc_b : ClassId) (s0 : Int64) (s1 : Int64) (h0 : Heap) (n0 : Nat) (v : Option Value) (h : Heap) (L : List Loc) : Prop := (v = none ∧ Fr n0 L ∧ Keep h0 h [a] ∧ Arv Z h a kc_a .long (2 : Int32) [(.long (t0 ^^^ s0)), (.long (t1 ^^^ s1))] (.long (0 : Int64)))
set_option maxRecDepth 65536 in
set_option maxHeartbeats 40000000 in
theorem rmXB2 (l : Launch) (Z : State) (a0 : Array Value) (hw : ∀ d ∈ tables_1, d.before a0 Z = true) (ws : List Jvm.Cond) (a : Addr) (b : Addr) (kc_a : ClassId) (t0 : Int64) (t1 : Int64) (kc_b : ClassId) (s0 : Int64) (s1 : Int64) (h0 : Heap) (n0 : Nat) (Z0 : n0 ≤ h0.size) (V0_a : Arv Z h0 a kc_a .long (2 : Int32) [(.long t0), (.long t1)] (.long (0 : Int64))) (V0_b : Arv Z h0 b kc_b .long (2 : Int32) [(.long s0), (.long s1)] (.long (0 : Int64))) (ne0_a_b : a ≠ b) (ge0_a : n0 ≤ a) :
    MetFree l (⟨"com/example/runs_to_nets/runstonets/core/Gf2Basis", "xor", "([J[J)V"⟩ : MethodName) (head1 (Jvm.Cond.code (⟨"com/example/runs_to_nets/runstonets/core/Gf2Basis", "xor", "([J[J)V"⟩ : MethodName) prog_14_method_11_code 3 none :: ws) ({ frames := 0, cells := 0, slots := 0, locals := 0 } : Room)) (fun aa_ U_ => aa_ = #[(.ref a), (.ref b)] ∧ Z.Warmed39 U_.vm ∧ U_.heap = h0) (fun _ _ _ _ _ => True) (fun _ U_ o_ V_ => ∃ v_ L_, o_ = .returned v_ ∧ QXB2 Z a b kc_a t0 t1 kc_b s0 s1 h0 n0 v_ V_.heap L_ ∧ FrameEnd U_ o_ V_ L_ ({ frames := 0, cells := 0, slots := 0, locals := 0 } : Room).cells ({ frames := 0, cells := 0, slots := 0, locals := 0 } : Room).slots) := by
  refine MetFree.of_bodySF (plainFor_of_name pnXB2) hisR ?_
  intro p e s m args below meth c s₁ Bd hml0 hP hK
  obtain ⟨rfl, hZ, hh⟩ := hP
  have hx := Bd.exec
  have hby := Bd.bytes
  have hml : c.maxLocals = 3 := hml0
  have hown : s.vm.findClass "com/example/runs_to_nets/runstonets/core/Gf2Basis" = some m.cls := findClass_of_methodNamed Bd.named
  have hnm := (name_of_methodNamed Bd.named Bd.method).1
  have hlk : meth.locks = false := BodyLoose.notSynchronized Bd
  have hret : meth.sig.returnType = none := Bd.returns
  have X0 : Stand p l e ({ frames := 0, cells := 0, slots := 0, locals := 0 } : Room) s m #[(.ref a), (.ref b)] below meth c s₁ [] 0 0 := Stand.of_body Bd
  have e0 : s₁.heap = h0 := by rw [← hh, Bd.state]; rfl
  have N0 := Fr.nil n0
  show Go p e below s ({ frames := 0, cells := 0, slots := 0, locals := 0 } : Room).cells ({ frames := 0, cells := 0, slots := 0, locals := 0 } : Room).slots (QXB2 Z a b kc_a t0 t1 kc_b s0 s1 h0 n0) (s₁.setTop (entryFrame m #[(.ref a), (.ref b)] 3))
  rw [efXB2]
  refine Go.by (fun _ kont => XS.iconst X0.here hx rfl (hb hby dXB2_0) (XS.istoreN X0.here hx rfl (hb hby dXB2_1) rfl (l' := #[.val (.ref a), .val (.ref b), .val (.int (0 : Int32))]) rfl (XS.iloadN X0.here hx rfl (hb hby dXB2_2) rfl (XS.aloadN X0.here hx rfl (hb hby dXB2_3) rfl rfl kont)))) ?_
  show Go _ _ _ _ _ _ _ (s₁.setTop (mkF m 4 #[.val (.ref a), .val (.ref b), .val (.int (0 : Int32))] [(.ref a), (.int (0 : Int32))]))
  obtain ⟨cl_q101, Ar_q101, q1_q101, S_q101, N_q101, H_q101, G_q101⟩ := id V0_a
  refine Go.by (X0.arraylength hx (by first | exact Ar_q101.1 | (rw [e0]; exact Ar_q101.1)) (State.isArrayOf_alike hZ.alike Ar_q101.2.1) (g := (mkF m 4 #[.val (.ref a), .val (.ref b), .val (.int (0 : Int32))] [(.ref a), (.int (0 : Int32))])) rfl rfl (hb hby dXB2_4)) ?_
  rw [len_of S_q101 N_q101]
  show Go _ _ _ _ _ _ _ (s₁.setTop (mkF m 5 #[.val (.ref a), .val (.ref b), .val (.int (0 : Int32))] [(.int (2 : Int32)), (.int (0 : Int32))]))
  refine Go.by (fun _ kont => XS.icmpNo X0.here hx rfl (hb hby dXB2_5) rfl (by decide) kont) ?_
  show Go _ _ _ _ _ _ _ (s₁.setTop (mkF m 8 #[.val (.ref a), .val (.ref b), .val (.int (0 : Int32))] []))
  refine Go.by (fun _ kont => XS.aloadN X0.here hx rfl (hb hby dXB2_8) rfl rfl (XS.iloadN X0.here hx rfl (hb hby dXB2_9) rfl (XT.dup2 X0.here hx rfl (hb hby dXB2_10) rfl rfl rfl kont))) ?_
  show Go _ _ _ _ _ _ _ (s₁.setTop (mkF m 11 #[.val (.ref a), .val (.ref b), .val (.int (0 : Int32))] [(.int (0 : Int32)), (.ref a), (.int (0 : Int32)), (.ref a)]))
  obtain ⟨cl_q102, Ar_q102, q1_q102, S_q102, N_q102, H_q102, G_q102⟩ := id V0_a
  have hin_q102 : ¬ ((0 : Int32) < 0 ∨ cl_q102.slots.size ≤ ((0 : Int32)).toNatClampNeg) := inb_of S_q102 ⟨by decide, by decide⟩
  have hat_q102 : cl_q102.slots[((0 : Int32)).toNatClampNeg]? = some (.long t0) := Has.at H_q102 hin_q102 rfl
  refine Go.by (X0.laload hx (j := (0 : Int32)) (v := (.long t0)) (by first | exact Ar_q102.1 | (rw [e0]; exact Ar_q102.1)) (State.isArrayOf_alike hZ.alike Ar_q102.2.1) Ar_q102.2.2 hin_q102 hat_q102 (g := (mkF m 11 #[.val (.ref a), .val (.ref b), .val (.int (0 : Int32))] [(.int (0 : Int32)), (.ref a), (.int (0 : Int32)), (.ref a)])) rfl rfl (hb hby dXB2_11)) ?_
  show Go _ _ _ _ _ _ _ (s₁.setTop (mkF m 12 #[.val (.ref a), .val (.ref b), .val (.int (0 : Int32))] [(.long t0), (.int (0 : Int32)), (.ref a)]))
  refine Go.by (fun _ kont => XS.aloadN X0.here hx rfl (hb hby dXB2_12) rfl rfl (XS.iloadN X0.here hx rfl (hb hby dXB2_13) rfl kont)) ?_
  show Go _ _ _ _ _ _ _ (s₁.setTop (mkF m 14 #[.val (.ref a), .val (.ref b), .val (.int (0 : Int32))] [(.int (0 : Int32)), (.ref b), (.long t0), (.int (0 : Int32)), (.ref a)]))
  obtain ⟨cl_q103, Ar_q103, q1_q103, S_q103, N_q103, H_q103, G_q103⟩ := id V0_b
  have hin_q103 : ¬ ((0 : Int32) < 0 ∨ cl_q103.slots.size ≤ ((0 : Int32)).toNatClampNeg) := inb_of S_q103 ⟨by decide, by decide⟩
  have hat_q103 : cl_q103.slots[((0 : Int32)).toNatClampNeg]? = some (.long s0) := Has.at H_q103 hin_q103 rfl
  refine Go.by (X0.laload hx (j := (0 : Int32)) (v := (.long s0)) (by first | exact Ar_q103.1 | (rw [e0]; exact Ar_q103.1)) (State.isArrayOf_alike hZ.alike Ar_q103.2.1) Ar_q103.2.2 hin_q103 hat_q103 (g := (mkF m 14 #[.val (.ref a), .val (.ref b), .val (.int (0 : Int32))] [(.int (0 : Int32)), (.ref b), (.long t0), (.int (0 : Int32)), (.ref a)])) rfl rfl (hb hby dXB2_14)) ?_
  show Go _ _ _ _ _ _ _ (s₁.setTop (mkF m 15 #[.val (.ref a), .val (.ref b), .val (.int (0 : Int32))] [(.long s0), (.long t0), (.int (0 : Int32)), (.ref a)]))
  refine Go.by (fun _ kont => XS.lxor X0.here hx rfl (hb hby dXB2_15) rfl kont) ?_
  show Go _ _ _ _ _ _ _ (s₁.setTop (mkF m 16 #[.val (.ref a), .val (.ref b), .val (.int (0 : Int32))] [(.long (t0 ^^^ s0)), (.int (0 : Int32)), (.ref a)]))
  obtain ⟨cl_q104, Ar_q104, q1_q104, S_q104, N_q104, H_q104, G_q104⟩ := id V0_a
  have hin_q104 : ¬ ((0 : Int32) < 0 ∨ cl_q104.slots.size ≤ ((0 : Int32)).toNatClampNeg) := inb_of S_q104 ⟨by decide, by decide⟩
  obtain ⟨T105, h105, X105, e105, W105, st105⟩ := stJ X0 hx hZ e0 Ar_q104 (j := (0 : Int32)) hin_q104 (g := (mkF m 16 #[.val (.ref a), .val (.ref b), .val (.int (0 : Int32))] [(.long (t0 ^^^ s0)), (.int (0 : Int32)), (.ref a)])) rfl rfl (hb hby dXB2_16)
  have V105 : Arv Z h105 a kc_a .long (2 : Int32) [(.long (t0 ^^^ s0)), (.long t1)] (.long (0 : Int64)) := Arv.set Ar_q104 q1_q104 S_q104 N_q104 H_q104 G_q104 rfl W105 0 rfl (Nat.le_of_ble_eq_true rfl)
  have V106_b := V0_b.other W105 (Ne.symm ne0_a_b)
  have Z106 := Nat.le_trans Z0 (Keep.of_wr W105).1
  have K106 : Keep h0 h105 [a] := (Keep.refl h0 [a]).wr W105 (Or.inl (by simp))
  have N105 := Fr.snoc X105 N0 ge0_a
  refine Go.by st105 ?_
  show Go _ _ _ _ _ _ _ (T105.setTop (mkF m 17 #[.val (.ref a), .val (.ref b), .val (.int (0 : Int32))] []))
  refine Go.by (fun _ kont => XS.iinc X105.here hx rfl (hb hby dXB2_17) rfl (l' := #[.val (.ref a), .val (.ref b), .val (.int (1 : Int32))]) rfl (XS.goto X105.here hx rfl (pc0 := 20) (pc' := 2) rfl (hb hby dXB2_20) (by decide) (by decide) (XS.iloadN X105.here hx rfl (hb hby dXB2_2) rfl (XS.aloadN X105.here hx rfl (hb hby dXB2_3) rfl rfl kont)))) ?_
  show Go _ _ _ _ _ _ _ (T105.setTop (mkF m 4 #[.val (.ref a), .val (.ref b), .val (.int (1 : Int32))] [(.ref a), (.int (1 : Int32))]))
  obtain ⟨cl_q107, Ar_q107, q1_q107, S_q107, N_q107, H_q107, G_q107⟩ := id V105
  refine Go.by (X105.arraylength hx (by first | exact Ar_q107.1 | (rw [e105]; exact Ar_q107.1)) (State.isArrayOf_alike hZ.alike Ar_q107.2.1) (g := (mkF m 4 #[.val (.ref a), .val (.ref b), .val (.int (1 : Int32))] [(.ref a), (.int (1 : Int32))])) rfl rfl (hb hby dXB2_4)) ?_
  rw [len_of S_q107 N_q107]
  show Go _ _ _ _ _ _ _ (T105.setTop (mkF m 5 #[.val (.ref a), .val (.ref b), .val (.int (1 : Int32))] [(.int (2 : Int32)), (.int (1 : Int32))]))
  refine Go.by (fun _ kont => XS.icmpNo X105.here hx rfl (hb hby dXB2_5) rfl (by decide) kont) ?_
  show Go _ _ _ _ _ _ _ (T105.setTop (mkF m 8 #[.val (.ref a), .val (.ref b), .val (.int (1 : Int32))] []))
  refine Go.by (fun _ kont => XS.aloadN X105.here hx rfl (hb hby dXB2_8) rfl rfl (XS.iloadN X105.here hx rfl (hb hby dXB2_9) rfl (XT.dup2 X105.here hx rfl (hb hby dXB2_10) rfl rfl rfl kont))) ?_
  show Go _ _ _ _ _ _ _ (T105.setTop (mkF m 11 #[.val (.ref a), .val (.ref b), .val (.int (1 : Int32))] [(.int (1 : Int32)), (.ref a), (.int (1 : Int32)), (.ref a)]))
  obtain ⟨cl_q108, Ar_q108, q1_q108, S_q108, N_q108, H_q108, G_q108⟩ := id V105
  have hin_q108 : ¬ ((1 : Int32) < 0 ∨ cl_q108.slots.size ≤ ((1 : Int32)).toNatClampNeg) := inb_of S_q108 ⟨by decide, by decide⟩
  have hat_q108 : cl_q108.slots[((1 : Int32)).toNatClampNeg]? = some (.long t1) := Has.at H_q108 hin_q108 rfl
  refine Go.by (X105.laload hx (j := (1 : Int32)) (v := (.long t1)) (by first | exact Ar_q108.1 | (rw [e105]; exact Ar_q108.1)) (State.isArrayOf_alike hZ.alike Ar_q108.2.1) Ar_q108.2.2 hin_q108 hat_q108 (g := (mkF m 11 #[.val (.ref a), .val (.ref b), .val (.int (1 : Int32))] [(.int (1 : Int32)), (.ref a), (.int (1 : Int32)), (.ref a)])) rfl rfl (hb hby dXB2_11)) ?_
  show Go _ _ _ _ _ _ _ (T105.setTop (mkF m 12 #[.val (.ref a), .val (.ref b), .val (.int (1 : Int32))] [(.long t1), (.int (1 : Int32)), (.ref a)]))
  refine Go.by (fun _ kont => XS.aloadN X105.here hx rfl (hb hby dXB2_12) rfl rfl (XS.iloadN X105.here hx rfl (hb hby dXB2_13) rfl kont)) ?_
  show Go _ _ _ _ _ _ _ (T105.setTop (mkF m 14 #[.val (.ref a), .val (.ref b), .val (.int (1 : Int32))] [(.int (1 : Int32)), (.ref b), (.long t1), (.int (1 : Int32)), (.ref a)]))
  obtain ⟨cl_q109, Ar_q109, q1_q109, S_q109, N_q109, H_q109, G_q109⟩ := id V106_b
  have hin_q109 : ¬ ((1 : Int32) < 0 ∨ cl_q109.slots.size ≤ ((1 : Int32)).toNatClampNeg) := inb_of S_q109 ⟨by decide, by decide⟩
  have hat_q109 : cl_q109.slots[((1 : Int32)).toNatClampNeg]? = some (.long s1) := Has.at H_q109 hin_q109 rfl
  refine Go.by (X105.laload hx (j := (1 : Int32)) (v := (.long s1)) (by first | exact Ar_q109.1 | (rw [e105]; exact Ar_q109.1)) (State.isArrayOf_alike hZ.alike Ar_q109.2.1) Ar_q109.2.2 hin_q109 hat_q109 (g := (mkF m 14 #[.val (.ref a), .val (.ref b), .val (.int (1 : Int32))] [(.int (1 : Int32)), (.ref b), (.long t1), (.int (1 : Int32)), (.ref a)])) rfl rfl (hb hby dXB2_14)) ?_
  show Go _ _ _ _ _ _ _ (T105.setTop (mkF m 15 #[.val (.ref a), .val (.ref b), .val (.int (1 : Int32))] [(.long s1), (.long t1), (.int (1 : Int32)), (.ref a)]))
  refine Go.by (fun _ kont => XS.lxor X105.here hx rfl (hb hby dXB2_15) rfl kont) ?_
  show Go _ _ _ _ _ _ _ (T105.setTop (mkF m 16 #[.val (.ref a), .val (.ref b), .val (.int (1 : Int32))] [(.long (t1 ^^^ s1)), (.int (1 : Int32)), (.ref a)]))
  obtain ⟨cl_q110, Ar_q110, q1_q110, S_q110, N_q110, H_q110, G_q110⟩ := id V105
  have hin_q110 : ¬ ((1 : Int32) < 0 ∨ cl_q110.slots.size ≤ ((1 : Int32)).toNatClampNeg) := inb_of S_q110 ⟨by decide, by decide⟩
  obtain ⟨T111, h111, X111, e111, W111, st111⟩ := stJ X105 hx hZ e105 Ar_q110 (j := (1 : Int32)) hin_q110 (g := (mkF m 16 #[.val (.ref a), .val (.ref b), .val (.int (1 : Int32))] [(.long (t1 ^^^ s1)), (.int (1 : Int32)), (.ref a)])) rfl rfl (hb hby dXB2_16)
  have V111 : Arv Z h111 a kc_a .long (2 : Int32) [(.long (t0 ^^^ s0)), (.long (t1 ^^^ s1))] (.long (0 : Int64)) := Arv.set Ar_q110 q1_q110 S_q110 N_q110 H_q110 G_q110 rfl W111 1 rfl (Nat.le_of_ble_eq_true rfl)
  have V112_b := V106_b.other W111 (Ne.symm ne0_a_b)
  have Z112 := Nat.le_trans Z106 (Keep.of_wr W111).1
  have K112 : Keep h0 h111 [a] := K106.wr W111 (Or.inl (by simp))
  have N111 := Fr.snoc X111 N105 ge0_a
  refine Go.by st111 ?_
  show Go _ _ _ _ _ _ _ (T111.setTop (mkF m 17 #[.val (.ref a), .val (.ref b), .val (.int (1 : Int32))] []))
  refine Go.by (fun _ kont => XS.iinc X111.here hx rfl (hb hby dXB2_17) rfl (l' := #[.val (.ref a), .val (.ref b), .val (.int (2 : Int32))]) rfl (XS.goto X111.here hx rfl (pc0 := 20) (pc' := 2) rfl (hb hby dXB2_20) (by decide) (by decide) (XS.iloadN X111.here hx rfl (hb hby dXB2_2) rfl (XS.aloadN X111.here hx rfl (hb hby dXB2_3) rfl rfl kont)))) ?_
  show Go _ _ _ _ _ _ _ (T111.setTop (mkF m 4 #[.val (.ref a), .val (.ref b), .val (.int (2 : Int32))] [(.ref a), (.int (2 : Int32))]))
  obtain ⟨cl_q113, Ar_q113, q1_q113, S_q113, N_q113, H_q113, G_q113⟩ := id V111
  refine Go.by (X111.arraylength hx (by first | exact Ar_q113.1 | (rw [e111]; exact Ar_q113.1)) (State.isArrayOf_alike hZ.alike Ar_q113.2.1) (g := (mkF m 4 #[.val (.ref a), .val (.ref b), .val (.int (2 : Int32))] [(.ref a), (.int (2 : Int32))])) rfl rfl (hb hby dXB2_4)) ?_
  rw [len_of S_q113 N_q113]
  show Go _ _ _ _ _ _ _ (T111.setTop (mkF m 5 #[.val (.ref a), .val (.ref b), .val (.int (2 : Int32))] [(.int (2 : Int32)), (.int (2 : Int32))]))
  refine Go.by (fun _ kont => XS.icmpYes X111.here hx rfl (pc0 := 5) (pc' := 23) rfl (hb hby dXB2_5) rfl (by decide) (by decide) (by decide) kont) ?_
  show Go _ _ _ _ _ _ _ (T111.setTop (mkF m 23 #[.val (.ref a), .val (.ref b), .val (.int (2 : Int32))] []))
  refine Go.retV X111 hx hret hlk (hb hby dXB2_23) ?_ (by decide) (by decide)
  show QXB2 Z a b kc_a t0 t1 kc_b s0 s1 h0 n0 none T111.heap _
  rw [e111]
  exact ⟨rfl, N111, K112, V111⟩

theorem dW20_0 : decode method_3_code 0 = .ok (.iload_n 1, 1) := by decide +kernel
theorem dW20_1 : decode method_3_code 1 = .ok (.aload_n 0, 1) := by decide +kernel
theorem dW20_2 : decode method_3_code 2 = .ok (.arraylength, 1) := by decide +kernel
theorem dW20_3 : decode method_3_code 3 = .ok (.if_icmp .ge 9, 3) := by decide +kernel
theorem dW20_6 : decode method_3_code 6 = .ok (.aload_n 0, 1) := by decide +kernel
theorem dW20_7 : decode method_3_code 7 = .ok (.iload_n 1, 1) := by decide +kernel
theorem dW20_8 : decode method_3_code 8 = .ok (.laload, 1) := by decide +kernel
theorem dW20_9 : decode method_3_code 9 = .ok (.goto 4, 3) := by decide +kernel
theorem dW20_13 : decode method_3_code 13 = .ok (.lreturn, 1) := by decide +kernel
theorem pnW20 : plainName "com/example/runs_to_nets/runstonets/core/Gf2BasisXorPinLaw" = true := by first | (simp [plainName, overriddenIn]; done) | decide +kernel
theorem efW20 (m : MethodId) (a : Addr) : entryFrame m #[(.ref a), (.int (0 : Int32))] 2 = mkF m 0 #[.val (.ref a), .val (.int (0 : Int32))] [] := by first | (simp [entryFrame, mkF, argsToLocals, Value.category]; done) | rfl
def QW20 (Z : State) (a : Addr) (kc_a : ClassId) (t0 : Int64) (t1 : Int64) (h0 : Heap) (n0 : Nat) (v : Option Value) (h : Heap) (L : List Loc) : Prop := (v = some (.long t0) ∧ Fr n0 L ∧ h = h0)
set_option maxRecDepth 65536 in
set_option maxHeartbeats 40000000 in
theorem rmW20 (l : Launch) (Z : State) (a0 : Array Value) (hw : ∀ d ∈ tables_1, d.before a0 Z = true) (ws : List Jvm.Cond) (a : Addr) (kc_a : ClassId) (t0 : Int64) (t1 : Int64) (h0 : Heap) (n0 : Nat) (Z0 : n0 ≤ h0.size) (V0_a : Arv Z h0 a kc_a .long (2 : Int32) [(.long t0), (.long t1)] (.long (0 : Int64))) :
    MetFree l (⟨"com/example/runs_to_nets/runstonets/core/Gf2BasisXorPinLaw", "word", "([JI)J"⟩ : MethodName) (head1 (Jvm.Cond.code (⟨"com/example/runs_to_nets/runstonets/core/Gf2BasisXorPinLaw", "word", "([JI)J"⟩ : MethodName) method_3_code 2 (some .long) :: ws) ({ frames := 0, cells := 0, slots := 0, locals := 0 } : Room)) (fun aa_ U_ => aa_ = #[(.ref a), (.int (0 : Int32))] ∧ Z.Warmed39 U_.vm ∧ U_.heap = h0) (fun _ _ _ _ _ => True) (fun _ U_ o_ V_ => ∃ v_ L_, o_ = .returned v_ ∧ QW20 Z a kc_a t0 t1 h0 n0 v_ V_.heap L_ ∧ FrameEnd U_ o_ V_ L_ ({ frames := 0, cells := 0, slots := 0, locals := 0 } : Room).cells ({ frames := 0, cells := 0, slots := 0, locals := 0 } : Room).slots) := by
  refine MetFree.of_bodySF (plainFor_of_name pnW20) hisR ?_
  intro p e s m args below meth c s₁ Bd hml0 hP hK
  obtain ⟨rfl, hZ, hh⟩ := hP
  have hx := Bd.exec
  have hby := Bd.bytes
  have hml : c.maxLocals = 2 := hml0
  have hown : s.vm.findClass "com/example/runs_to_nets/runstonets/core/Gf2BasisXorPinLaw" = some m.cls := findClass_of_methodNamed Bd.named
  have hnm := (name_of_methodNamed Bd.named Bd.method).1
  have hlk : meth.locks = false := BodyLoose.notSynchronized Bd
  have hret : meth.sig.returnType = (some .long) := Bd.returns
  have X0 : Stand p l e ({ frames := 0, cells := 0, slots := 0, locals := 0 } : Room) s m #[(.ref a), (.int (0 : Int32))] below meth c s₁ [] 0 0 := Stand.of_body Bd
  have e0 : s₁.heap = h0 := by rw [← hh, Bd.state]; rfl
  have N0 := Fr.nil n0
  show Go p e below s ({ frames := 0, cells := 0, slots := 0, locals := 0 } : Room).cells ({ frames := 0, cells := 0, slots := 0, locals := 0 } : Room).slots (QW20 Z a kc_a t0 t1 h0 n0) (s₁.setTop (entryFrame m #[(.ref a), (.int (0 : Int32))] 2))
  rw [efW20]
  refine Go.by (fun _ kont => XS.iloadN X0.here hx rfl (hb hby dW20_0) rfl (XS.aloadN X0.here hx rfl (hb hby dW20_1) rfl rfl kont)) ?_
  show Go _ _ _ _ _ _ _ (s₁.setTop (mkF m 2 #[.val (.ref a), .val (.int (0 : Int32))] [(.ref a), (.int (0 : Int32))]))
  obtain ⟨cl_q101, Ar_q101, q1_q101, S_q101, N_q101, H_q101, G_q101⟩ := id V0_a
  refine Go.by (X0.arraylength hx (by first | exact Ar_q101.1 | (rw [e0]; exact Ar_q101.1)) (State.isArrayOf_alike hZ.alike Ar_q101.2.1) (g := (mkF m 2 #[.val (.ref a), .val (.int (0 : Int32))] [(.ref a), (.int (0 : Int32))])) rfl rfl (hb hby dW20_2)) ?_
  rw [len_of S_q101 N_q101]
  show Go _ _ _ _ _ _ _ (s₁.setTop (mkF m 3 #[.val (.ref a), .val (.int (0 : Int32))] [(.int (2 : Int32)), (.int (0 : Int32))]))
  refine Go.by (fun _ kont => XS.icmpNo X0.here hx rfl (hb hby dW20_3) rfl (by decide) kont) ?_
  show Go _ _ _ _ _ _ _ (s₁.setTop (mkF m 6 #[.val (.ref a), .val (.int (0 : Int32))] []))
  refine Go.by (fun _ kont => XS.aloadN X0.here hx rfl (hb hby dW20_6) rfl rfl (XS.iloadN X0.here hx rfl (hb hby dW20_7) rfl kont)) ?_
  show Go _ _ _ _ _ _ _ (s₁.setTop (mkF m 8 #[.val (.ref a), .val (.int (0 : Int32))] [(.int (0 : Int32)), (.ref a)]))
  obtain ⟨cl_q102, Ar_q102, q1_q102, S_q102, N_q102, H_q102, G_q102⟩ := id V0_a
  have hin_q102 : ¬ ((0 : Int32) < 0 ∨ cl_q102.slots.size ≤ ((0 : Int32)).toNatClampNeg) := inb_of S_q102 ⟨by decide, by decide⟩
  have hat_q102 : cl_q102.slots[((0 : Int32)).toNatClampNeg]? = some (.long t0) := Has.at H_q102 hin_q102 rfl
  refine Go.by (X0.laload hx (j := (0 : Int32)) (v := (.long t0)) (by first | exact Ar_q102.1 | (rw [e0]; exact Ar_q102.1)) (State.isArrayOf_alike hZ.alike Ar_q102.2.1) Ar_q102.2.2 hin_q102 hat_q102 (g := (mkF m 8 #[.val (.ref a), .val (.int (0 : Int32))] [(.int (0 : Int32)), (.ref a)])) rfl rfl (hb hby dW20_8)) ?_
  show Go _ _ _ _ _ _ _ (s₁.setTop (mkF m 9 #[.val (.ref a), .val (.int (0 : Int32))] [(.long t0)]))
  refine Go.by (fun _ kont => XS.goto X0.here hx rfl (pc0 := 9) (pc' := 13) rfl (hb hby dW20_9) (by decide) (by decide) kont) ?_
  show Go _ _ _ _ _ _ _ (s₁.setTop (mkF m 13 #[.val (.ref a), .val (.int (0 : Int32))] [(.long t0)]))
  refine Go.retJ X0 hx hret hlk (hb hby dW20_13) ?_ (by decide) (by decide)
  show QW20 Z a kc_a t0 t1 h0 n0 (some (.long t0)) s₁.heap _
  rw [e0]
  exact ⟨rfl, N0, rfl⟩

theorem dW21_0 : decode method_3_code 0 = .ok (.iload_n 1, 1) := by decide +kernel
theorem dW21_1 : decode method_3_code 1 = .ok (.aload_n 0, 1) := by decide +kernel
theorem dW21_2 : decode method_3_code 2 = .ok (.arraylength, 1) := by decide +kernel
theorem dW21_3 : decode method_3_code 3 = .ok (.if_icmp .ge 9, 3) := by decide +kernel
theorem dW21_6 : decode method_3_code 6 = .ok (.aload_n 0, 1) := by decide +kernel
theorem dW21_7 : decode method_3_code 7 = .ok (.iload_n 1, 1) := by decide +kernel
theorem dW21_8 : decode method_3_code 8 = .ok (.laload, 1) := by decide +kernel
theorem dW21_9 : decode method_3_code 9 = .ok (.goto 4, 3) := by decide +kernel
theorem dW21_13 : decode method_3_code 13 = .ok (.lreturn, 1) := by decide +kernel
theorem pnW21 : plainName "com/example/runs_to_nets/runstonets/core/Gf2BasisXorPinLaw" = true := by first | (simp [plainName, overriddenIn]; done) | decide +kernel
theorem efW21 (m : MethodId) (a : Addr) : entryFrame m #[(.ref a), (.int (1 : Int32))] 2 = mkF m 0 #[.val (.ref a), .val (.int (1 : Int32))] [] := by first | (simp [entryFrame, mkF, argsToLocals, Value.category]; done) | rfl
def QW21 (Z : State) (a : Addr) (kc_a : ClassId) (t0 : Int64) (t1 : Int64) (h0 : Heap) (n0 : Nat) (v : Option Value) (h : Heap) (L : List Loc) : Prop := (v = some (.long t1) ∧ Fr n0 L ∧ h = h0)
set_option maxRecDepth 65536 in
set_option maxHeartbeats 40000000 in
theorem rmW21 (l : Launch) (Z : State) (a0 : Array Value) (hw : ∀ d ∈ tables_1, d.before a0 Z = true) (ws : List Jvm.Cond) (a : Addr) (kc_a : ClassId) (t0 : Int64) (t1 : Int64) (h0 : Heap) (n0 : Nat) (Z0 : n0 ≤ h0.size) (V0_a : Arv Z h0 a kc_a .long (2 : Int32) [(.long t0), (.long t1)] (.long (0 : Int64))) :
    MetFree l (⟨"com/example/runs_to_nets/runstonets/core/Gf2BasisXorPinLaw", "word", "([JI)J"⟩ : MethodName) (head1 (Jvm.Cond.code (⟨"com/example/runs_to_nets/runstonets/core/Gf2BasisXorPinLaw", "word", "([JI)J"⟩ : MethodName) method_3_code 2 (some .long) :: ws) ({ frames := 0, cells := 0, slots := 0, locals := 0 } : Room)) (fun aa_ U_ => aa_ = #[(.ref a), (.int (1 : Int32))] ∧ Z.Warmed39 U_.vm ∧ U_.heap = h0) (fun _ _ _ _ _ => True) (fun _ U_ o_ V_ => ∃ v_ L_, o_ = .returned v_ ∧ QW21 Z a kc_a t0 t1 h0 n0 v_ V_.heap L_ ∧ FrameEnd U_ o_ V_ L_ ({ frames := 0, cells := 0, slots := 0, locals := 0 } : Room).cells ({ frames := 0, cells := 0, slots := 0, locals := 0 } : Room).slots) := by
  refine MetFree.of_bodySF (plainFor_of_name pnW21) hisR ?_
  intro p e s m args below meth c s₁ Bd hml0 hP hK
  obtain ⟨rfl, hZ, hh⟩ := hP
  have hx := Bd.exec
  have hby := Bd.bytes
  have hml : c.maxLocals = 2 := hml0
  have hown : s.vm.findClass "com/example/runs_to_nets/runstonets/core/Gf2BasisXorPinLaw" = some m.cls := findClass_of_methodNamed Bd.named
  have hnm := (name_of_methodNamed Bd.named Bd.method).1
  have hlk : meth.locks = false := BodyLoose.notSynchronized Bd
  have hret : meth.sig.returnType = (some .long) := Bd.returns
  have X0 : Stand p l e ({ frames := 0, cells := 0, slots := 0, locals := 0 } : Room) s m #[(.ref a), (.int (1 : Int32))] below meth c s₁ [] 0 0 := Stand.of_body Bd
  have e0 : s₁.heap = h0 := by rw [← hh, Bd.state]; rfl
  have N0 := Fr.nil n0
  show Go p e below s ({ frames := 0, cells := 0, slots := 0, locals := 0 } : Room).cells ({ frames := 0, cells := 0, slots := 0, locals := 0 } : Room).slots (QW21 Z a kc_a t0 t1 h0 n0) (s₁.setTop (entryFrame m #[(.ref a), (.int (1 : Int32))] 2))
  rw [efW21]
  refine Go.by (fun _ kont => XS.iloadN X0.here hx rfl (hb hby dW21_0) rfl (XS.aloadN X0.here hx rfl (hb hby dW21_1) rfl rfl kont)) ?_
  show Go _ _ _ _ _ _ _ (s₁.setTop (mkF m 2 #[.val (.ref a), .val (.int (1 : Int32))] [(.ref a), (.int (1 : Int32))]))
  obtain ⟨cl_q101, Ar_q101, q1_q101, S_q101, N_q101, H_q101, G_q101⟩ := id V0_a
  refine Go.by (X0.arraylength hx (by first | exact Ar_q101.1 | (rw [e0]; exact Ar_q101.1)) (State.isArrayOf_alike hZ.alike Ar_q101.2.1) (g := (mkF m 2 #[.val (.ref a), .val (.int (1 : Int32))] [(.ref a), (.int (1 : Int32))])) rfl rfl (hb hby dW21_2)) ?_
  rw [len_of S_q101 N_q101]
  show Go _ _ _ _ _ _ _ (s₁.setTop (mkF m 3 #[.val (.ref a), .val (.int (1 : Int32))] [(.int (2 : Int32)), (.int (1 : Int32))]))
  refine Go.by (fun _ kont => XS.icmpNo X0.here hx rfl (hb hby dW21_3) rfl (by decide) kont) ?_
  show Go _ _ _ _ _ _ _ (s₁.setTop (mkF m 6 #[.val (.ref a), .val (.int (1 : Int32))] []))
  refine Go.by (fun _ kont => XS.aloadN X0.here hx rfl (hb hby dW21_6) rfl rfl (XS.iloadN X0.here hx rfl (hb hby dW21_7) rfl kont)) ?_
  show Go _ _ _ _ _ _ _ (s₁.setTop (mkF m 8 #[.val (.ref a), .val (.int (1 : Int32))] [(.int (1 : Int32)), (.ref a)]))
  obtain ⟨cl_q102, Ar_q102, q1_q102, S_q102, N_q102, H_q102, G_q102⟩ := id V0_a
  have hin_q102 : ¬ ((1 : Int32) < 0 ∨ cl_q102.slots.size ≤ ((1 : Int32)).toNatClampNeg) := inb_of S_q102 ⟨by decide, by decide⟩
  have hat_q102 : cl_q102.slots[((1 : Int32)).toNatClampNeg]? = some (.long t1) := Has.at H_q102 hin_q102 rfl
  refine Go.by (X0.laload hx (j := (1 : Int32)) (v := (.long t1)) (by first | exact Ar_q102.1 | (rw [e0]; exact Ar_q102.1)) (State.isArrayOf_alike hZ.alike Ar_q102.2.1) Ar_q102.2.2 hin_q102 hat_q102 (g := (mkF m 8 #[.val (.ref a), .val (.int (1 : Int32))] [(.int (1 : Int32)), (.ref a)])) rfl rfl (hb hby dW21_8)) ?_
  show Go _ _ _ _ _ _ _ (s₁.setTop (mkF m 9 #[.val (.ref a), .val (.int (1 : Int32))] [(.long t1)]))
  refine Go.by (fun _ kont => XS.goto X0.here hx rfl (pc0 := 9) (pc' := 13) rfl (hb hby dW21_9) (by decide) (by decide) kont) ?_
  show Go _ _ _ _ _ _ _ (s₁.setTop (mkF m 13 #[.val (.ref a), .val (.int (1 : Int32))] [(.long t1)]))
  refine Go.retJ X0 hx hret hlk (hb hby dW21_13) ?_ (by decide) (by decide)
  show QW21 Z a kc_a t0 t1 h0 n0 (some (.long t1)) s₁.heap _
  rw [e0]
  exact ⟨rfl, N0, rfl⟩

theorem dW22_0 : decode method_3_code 0 = .ok (.iload_n 1, 1) := by decide +kernel
theorem dW22_1 : decode method_3_code 1 = .ok (.aload_n 0, 1) := by decide +kernel
theorem dW22_2 : decode method_3_code 2 = .ok (.arraylength, 1) := by decide +kernel
theorem dW22_3 : decode method_3_code 3 = .ok (.if_icmp .ge 9, 3) := by decide +kernel
theorem dW22_12 : decode method_3_code 12 = .ok (.lconst 0, 1) := by decide +kernel
theorem dW22_13 : decode method_3_code 13 = .ok (.lreturn, 1) := by decide +kernel
theorem pnW22 : plainName "com/example/runs_to_nets/runstonets/core/Gf2BasisXorPinLaw" = true := by first | (simp [plainName, overriddenIn]; done) | decide +kernel
theorem efW22 (m : MethodId) (a : Addr) : entryFrame m #[(.ref a), (.int (2 : Int32))] 2 = mkF m 0 #[.val (.ref a), .val (.int (2 : Int32))] [] := by first | (simp [entryFrame, mkF, argsToLocals, Value.category]; done) | rfl
def QW22 (Z : State) (a : Addr) (kc_a : ClassId) (t0 : Int64) (t1 : Int64) (h0 : Heap) (n0 : Nat) (v : Option Value) (h : Heap) (L : List Loc) : Prop := (v = some (.long (0 : Int64)) ∧ Fr n0 L ∧ h = h0)
set_option maxRecDepth 65536 in
set_option maxHeartbeats 40000000 in
theorem rmW22 (l : Launch) (Z : State) (a0 : Array Value) (hw : ∀ d ∈ tables_1, d.before a0 Z = true) (ws : List Jvm.Cond) (a : Addr) (kc_a : ClassId) (t0 : Int64) (t1 : Int64) (h0 : Heap) (n0 : Nat) (Z0 : n0 ≤ h0.size) (V0_a : Arv Z h0 a kc_a .long (2 : Int32) [(.long t0), (.long t1)] (.long (0 : Int64))) :
    MetFree l (⟨"com/example/runs_to_nets/runstonets/core/Gf2BasisXorPinLaw", "word", "([JI)J"⟩ : MethodName) (head1 (Jvm.Cond.code (⟨"com/example/runs_to_nets/runstonets/core/Gf2BasisXorPinLaw", "word", "([JI)J"⟩ : MethodName) method_3_code 2 (some .long) :: ws) ({ frames := 0, cells := 0, slots := 0, locals := 0 } : Room)) (fun aa_ U_ => aa_ = #[(.ref a), (.int (2 : Int32))] ∧ Z.Warmed39 U_.vm ∧ U_.heap = h0) (fun _ _ _ _ _ => True) (fun _ U_ o_ V_ => ∃ v_ L_, o_ = .returned v_ ∧ QW22 Z a kc_a t0 t1 h0 n0 v_ V_.heap L_ ∧ FrameEnd U_ o_ V_ L_ ({ frames := 0, cells := 0, slots := 0, locals := 0 } : Room).cells ({ frames := 0, cells := 0, slots := 0, locals := 0 } : Room).slots) := by
  refine MetFree.of_bodySF (plainFor_of_name pnW22) hisR ?_
  intro p e s m args below meth c s₁ Bd hml0 hP hK
  obtain ⟨rfl, hZ, hh⟩ := hP
  have hx := Bd.exec
  have hby := Bd.bytes
  have hml : c.maxLocals = 2 := hml0
  have hown : s.vm.findClass "com/example/runs_to_nets/runstonets/core/Gf2BasisXorPinLaw" = some m.cls := findClass_of_methodNamed Bd.named
  have hnm := (name_of_methodNamed Bd.named Bd.method).1
  have hlk : meth.locks = false := BodyLoose.notSynchronized Bd
  have hret : meth.sig.returnType = (some .long) := Bd.returns
  have X0 : Stand p l e ({ frames := 0, cells := 0, slots := 0, locals := 0 } : Room) s m #[(.ref a), (.int (2 : Int32))] below meth c s₁ [] 0 0 := Stand.of_body Bd
  have e0 : s₁.heap = h0 := by rw [← hh, Bd.state]; rfl
  have N0 := Fr.nil n0
  show Go p e below s ({ frames := 0, cells := 0, slots := 0, locals := 0 } : Room).cells ({ frames := 0, cells := 0, slots := 0, locals := 0 } : Room).slots (QW22 Z a kc_a t0 t1 h0 n0) (s₁.setTop (entryFrame m #[(.ref a), (.int (2 : Int32))] 2))
  rw [efW22]
  refine Go.by (fun _ kont => XS.iloadN X0.here hx rfl (hb hby dW22_0) rfl (XS.aloadN X0.here hx rfl (hb hby dW22_1) rfl rfl kont)) ?_
  show Go _ _ _ _ _ _ _ (s₁.setTop (mkF m 2 #[.val (.ref a), .val (.int (2 : Int32))] [(.ref a), (.int (2 : Int32))]))
  obtain ⟨cl_q101, Ar_q101, q1_q101, S_q101, N_q101, H_q101, G_q101⟩ := id V0_a
  refine Go.by (X0.arraylength hx (by first | exact Ar_q101.1 | (rw [e0]; exact Ar_q101.1)) (State.isArrayOf_alike hZ.alike Ar_q101.2.1) (g := (mkF m 2 #[.val (.ref a), .val (.int (2 : Int32))] [(.ref a), (.int (2 : Int32))])) rfl rfl (hb hby dW22_2)) ?_
  rw [len_of S_q101 N_q101]
  show Go _ _ _ _ _ _ _ (s₁.setTop (mkF m 3 #[.val (.ref a), .val (.int (2 : Int32))] [(.int (2 : Int32)), (.int (2 : Int32))]))
  refine Go.by (fun _ kont => XS.icmpYes X0.here hx rfl (pc0 := 3) (pc' := 12) rfl (hb hby dW22_3) rfl (by decide) (by decide) (by decide) kont) ?_
  show Go _ _ _ _ _ _ _ (s₁.setTop (mkF m 12 #[.val (.ref a), .val (.int (2 : Int32))] []))
  refine Go.by (fun _ kont => XS.lconst X0.here hx rfl (hb hby dW22_12) kont) ?_
  show Go _ _ _ _ _ _ _ (s₁.setTop (mkF m 13 #[.val (.ref a), .val (.int (2 : Int32))] [(.long (0 : Int64))]))
  refine Go.retJ X0 hx hret hlk (hb hby dW22_13) ?_ (by decide) (by decide)
  show QW22 Z a kc_a t0 t1 h0 n0 (some (.long (0 : Int64))) s₁.heap _
  rw [e0]
  exact ⟨rfl, N0, rfl⟩

theorem dXA3_0 : decode prog_14_method_11_code 0 = .ok (.iconst 0, 1) := by decide +kernel
theorem dXA3_1 : decode prog_14_method_11_code 1 = .ok (.istore_n 2, 1) := by decide +kernel
theorem dXA3_2 : decode prog_14_method_11_code 2 = .ok (.iload_n 2, 1) := by decide +kernel
theorem dXA3_3 : decode prog_14_method_11_code 3 = .ok (.aload_n 0, 1) := by decide +kernel
theorem dXA3_4 : decode prog_14_method_11_code 4 = .ok (.arraylength, 1) := by decide +kernel
theorem dXA3_5 : decode prog_14_method_11_code 5 = .ok (.if_icmp .ge 18, 3) := by decide +kernel
theorem dXA3_8 : decode prog_14_method_11_code 8 = .ok (.aload_n 0, 1) := by decide +kernel
theorem dXA3_9 : decode prog_14_method_11_code 9 = .ok (.iload_n 2, 1) := by decide +kernel
theorem dXA3_10 : decode prog_14_method_11_code 10 = .ok (.dup2, 1) := by decide +kernel
theorem dXA3_11 : decode prog_14_method_11_code 11 = .ok (.laload, 1) := by decide +kernel
theorem dXA3_12 : decode prog_14_method_11_code 12 = .ok (.aload_n 1, 1) := by decide +kernel
theorem dXA3_13 : decode prog_14_method_11_code 13 = .ok (.iload_n 2, 1) := by decide +kernel
theorem dXA3_14 : decode prog_14_method_11_code 14 = .ok (.laload, 1) := by decide +kernel
theorem dXA3_15 : decode prog_14_method_11_code 15 = .ok (.lxor, 1) := by decide +kernel
theorem dXA3_16 : decode prog_14_method_11_code 16 = .ok (.lastore, 1) := by decide +kernel
theorem dXA3_17 : decode prog_14_method_11_code 17 = .ok (.iinc 2 1, 3) := by decide +kernel
theorem dXA3_20 : decode prog_14_method_11_code 20 = .ok (.goto (-18), 3) := by decide +kernel
theorem dXA3_23 : decode prog_14_method_11_code 23 = .ok (.return_, 1) := by decide +kernel
theorem pnXA3 : plainName "com/example/runs_to_nets/runstonets/core/Gf2Basis" = true := by first | (simp [plainName, overriddenIn]; done) | decide +kernel
theorem efXA3 (m : MethodId) (a : Addr) : entryFrame m #[(.ref a), (.ref a)] 3 = mkF m 0 #[.val (.ref a), .val (.ref a), .unset] [] := by first | (simp [entryFrame, mkF, argsToLocals, Value.category]; done) | rfl
def QXA3 (Z : State) (a : Addr) (kc_a : ClassId) (t0 : Int64) (t1 : Int64) (t2 : Int64) (h0 : Heap) (n0 : Nat) (v : Option Value) (h : Heap) (L : List Loc) : Prop := (v = none ∧ Fr n0 L ∧ Keep h0 h [a] ∧ Arv Z h a kc_a .long (3 : Int32) [(.long (t0 ^^^ t0)), (.long (t1 ^^^ t1)), (.long (t2 ^^^ t2))] (.long (0 : Int64)))
set_option maxRecDepth 65536 in
set_option maxHeartbeats 40000000 in
theorem rmXA3 (l : Launch) (Z : State) (a0 : Array Value) (hw : ∀ d ∈ tables_1, d.before a0 Z = true) (ws : List Jvm.Cond) (a : Addr) (kc_a : ClassId) (t0 : Int64) (t1 : Int64) (t2 : Int64) (h0 : Heap) (n0 : Nat) (Z0 : n0 ≤ h0.size) (V0_a : Arv Z h0 a kc_a .long (3 : Int32) [(.long t0), (.long t1), (.long t2)] (.long (0 : Int64))) (ge0_a : n0 ≤ a) :
    MetFree l (⟨"com/example/runs_to_nets/runstonets/core/Gf2Basis", "xor", "([J[J)V"⟩ : MethodName) (head1 (Jvm.Cond.code (⟨"com/example/runs_to_nets/runstonets/core/Gf2Basis", "xor", "([J[J)V"⟩ : MethodName) prog_14_method_11_code 3 none :: ws) ({ frames := 0, cells := 0, slots := 0, locals := 0 } : Room)) (fun aa_ U_ => aa_ = #[(.ref a), (.ref a)] ∧ Z.Warmed39 U_.vm ∧ U_.heap = h0) (fun _ _ _ _ _ => True) (fun _ U_ o_ V_ => ∃ v_ L_, o_ = .returned v_ ∧ QXA3 Z a kc_a t0 t1 t2 h0 n0 v_ V_.heap L_ ∧ FrameEnd U_ o_ V_ L_ ({ frames := 0, cells := 0, slots := 0, locals := 0 } : Room).cells ({ frames := 0, cells := 0, slots := 0, locals := 0 } : Room).slots) := by
  refine MetFree.of_bodySF (plainFor_of_name pnXA3) hisR ?_
  intro p e s m args below meth c s₁ Bd hml0 hP hK
  obtain ⟨rfl, hZ, hh⟩ := hP
  have hx := Bd.exec
  have hby := Bd.bytes
  have hml : c.maxLocals = 3 := hml0
  have hown : s.vm.findClass "com/example/runs_to_nets/runstonets/core/Gf2Basis" = some m.cls := findClass_of_methodNamed Bd.named
  have hnm := (name_of_methodNamed Bd.named Bd.method).1
  have hlk : meth.locks = false := BodyLoose.notSynchronized Bd
  have hret : meth.sig.returnType = none := Bd.returns
  have X0 : Stand p l e ({ frames := 0, cells := 0, slots := 0, locals := 0 } : Room) s m #[(.ref a), (.ref a)] below meth c s₁ [] 0 0 := Stand.of_body Bd
  have e0 : s₁.heap = h0 := by rw [← hh, Bd.state]; rfl
  have N0 := Fr.nil n0
  show Go p e below s ({ frames := 0, cells := 0, slots := 0, locals := 0 } : Room).cells ({ frames := 0, cells := 0, slots := 0, locals := 0 } : Room).slots (QXA3 Z a kc_a t0 t1 t2 h0 n0) (s₁.setTop (entryFrame m #[(.ref a), (.ref a)] 3))
  rw [efXA3]
  refine Go.by (fun _ kont => XS.iconst X0.here hx rfl (hb hby dXA3_0) (XS.istoreN X0.here hx rfl (hb hby dXA3_1) rfl (l' := #[.val (.ref a), .val (.ref a), .val (.int (0 : Int32))]) rfl (XS.iloadN X0.here hx rfl (hb hby dXA3_2) rfl (XS.aloadN X0.here hx rfl (hb hby dXA3_3) rfl rfl kont)))) ?_
  show Go _ _ _ _ _ _ _ (s₁.setTop (mkF m 4 #[.val (.ref a), .val (.ref a), .val (.int (0 : Int32))] [(.ref a), (.int (0 : Int32))]))
  obtain ⟨cl_q101, Ar_q101, q1_q101, S_q101, N_q101, H_q101, G_q101⟩ := id V0_a
  refine Go.by (X0.arraylength hx (by first | exact Ar_q101.1 | (rw [e0]; exact Ar_q101.1)) (State.isArrayOf_alike hZ.alike Ar_q101.2.1) (g := (mkF m 4 #[.val (.ref a), .val (.ref a), .val (.int (0 : Int32))] [(.ref a), (.int (0 : Int32))])) rfl rfl (hb hby dXA3_4)) ?_
  rw [len_of S_q101 N_q101]
  show Go _ _ _ _ _ _ _ (s₁.setTop (mkF m 5 #[.val (.ref a), .val (.ref a), .val (.int (0 : Int32))] [(.int (3 : Int32)), (.int (0 : Int32))]))
  refine Go.by (fun _ kont => XS.icmpNo X0.here hx rfl (hb hby dXA3_5) rfl (by decide) kont) ?_
  show Go _ _ _ _ _ _ _ (s₁.setTop (mkF m 8 #[.val (.ref a), .val (.ref a), .val (.int (0 : Int32))] []))
  refine Go.by (fun _ kont => XS.aloadN X0.here hx rfl (hb hby dXA3_8) rfl rfl (XS.iloadN X0.here hx rfl (hb hby dXA3_9) rfl (XT.dup2 X0.here hx rfl (hb hby dXA3_10) rfl rfl rfl kont))) ?_
  show Go _ _ _ _ _ _ _ (s₁.setTop (mkF m 11 #[.val (.ref a), .val (.ref a), .val (.int (0 : Int32))] [(.int (0 : Int32)), (.ref a), (.int (0 : Int32)), (.ref a)]))
  obtain ⟨cl_q102, Ar_q102, q1_q102, S_q102, N_q102, H_q102, G_q102⟩ := id V0_a
  have hin_q102 : ¬ ((0 : Int32) < 0 ∨ cl_q102.slots.size ≤ ((0 : Int32)).toNatClampNeg) := inb_of S_q102 ⟨by decide, by decide⟩
  have hat_q102 : cl_q102.slots[((0 : Int32)).toNatClampNeg]? = some (.long t0) := Has.at H_q102 hin_q102 rfl
  refine Go.by (X0.laload hx (j := (0 : Int32)) (v := (.long t0)) (by first | exact Ar_q102.1 | (rw [e0]; exact Ar_q102.1)) (State.isArrayOf_alike hZ.alike Ar_q102.2.1) Ar_q102.2.2 hin_q102 hat_q102 (g := (mkF m 11 #[.val (.ref a), .val (.ref a), .val (.int (0 : Int32))] [(.int (0 : Int32)), (.ref a), (.int (0 : Int32)), (.ref a)])) rfl rfl (hb hby dXA3_11)) ?_
  show Go _ _ _ _ _ _ _ (s₁.setTop (mkF m 12 #[.val (.ref a), .val (.ref a), .val (.int (0 : Int32))] [(.long t0), (.int (0 : Int32)), (.ref a)]))
  refine Go.by (fun _ kont => XS.aloadN X0.here hx rfl (hb hby dXA3_12) rfl rfl (XS.iloadN X0.here hx rfl (hb hby dXA3_13) rfl kont)) ?_
  show Go _ _ _ _ _ _ _ (s₁.setTop (mkF m 14 #[.val (.ref a), .val (.ref a), .val (.int (0 : Int32))] [(.int (0 : Int32)), (.ref a), (.long t0), (.int (0 : Int32)), (.ref a)]))
  obtain ⟨cl_q103, Ar_q103, q1_q103, S_q103, N_q103, H_q103, G_q103⟩ := id V0_a
  have hin_q103 : ¬ ((0 : Int32) < 0 ∨ cl_q103.slots.size ≤ ((0 : Int32)).toNatClampNeg) := inb_of S_q103 ⟨by decide, by decide⟩
  have hat_q103 : cl_q103.slots[((0 : Int32)).toNatClampNeg]? = some (.long t0) := Has.at H_q103 hin_q103 rfl
  refine Go.by (X0.laload hx (j := (0 : Int32)) (v := (.long t0)) (by first | exact Ar_q103.1 | (rw [e0]; exact Ar_q103.1)) (State.isArrayOf_alike hZ.alike Ar_q103.2.1) Ar_q103.2.2 hin_q103 hat_q103 (g := (mkF m 14 #[.val (.ref a), .val (.ref a), .val (.int (0 : Int32))] [(.int (0 : Int32)), (.ref a), (.long t0), (.int (0 : Int32)), (.ref a)])) rfl rfl (hb hby dXA3_14)) ?_
  show Go _ _ _ _ _ _ _ (s₁.setTop (mkF m 15 #[.val (.ref a), .val (.ref a), .val (.int (0 : Int32))] [(.long t0), (.long t0), (.int (0 : Int32)), (.ref a)]))
  refine Go.by (fun _ kont => XS.lxor X0.here hx rfl (hb hby dXA3_15) rfl kont) ?_
  show Go _ _ _ _ _ _ _ (s₁.setTop (mkF m 16 #[.val (.ref a), .val (.ref a), .val (.int (0 : Int32))] [(.long (t0 ^^^ t0)), (.int (0 : Int32)), (.ref a)]))
  obtain ⟨cl_q104, Ar_q104, q1_q104, S_q104, N_q104, H_q104, G_q104⟩ := id V0_a
  have hin_q104 : ¬ ((0 : Int32) < 0 ∨ cl_q104.slots.size ≤ ((0 : Int32)).toNatClampNeg) := inb_of S_q104 ⟨by decide, by decide⟩
  obtain ⟨T105, h105, X105, e105, W105, st105⟩ := stJ X0 hx hZ e0 Ar_q104 (j := (0 : Int32)) hin_q104 (g := (mkF m 16 #[.val (.ref a), .val (.ref a), .val (.int (0 : Int32))] [(.long (t0 ^^^ t0)), (.int (0 : Int32)), (.ref a)])) rfl rfl (hb hby dXA3_16)
  have V105 : Arv Z h105 a kc_a .long (3 : Int32) [(.long (t0 ^^^ t0)), (.long t1), (.long t2)] (.long (0 : Int64)) := Arv.set Ar_q104 q1_q104 S_q104 N_q104 H_q104 G_q104 rfl W105 0 rfl (Nat.le_of_ble_eq_true rfl)
  have Z106 := Nat.le_trans Z0 (Keep.of_wr W105).1
  have K106 : Keep h0 h105 [a] := (Keep.refl h0 [a]).wr W105 (Or.inl (by simp))
  have N105 := Fr.snoc X105 N0 ge0_a
  refine Go.by st105 ?_
  show Go _ _ _ _ _ _ _ (T105.setTop (mkF m 17 #[.val (.ref a), .val (.ref a), .val (.int (0 : Int32))] []))
  refine Go.by (fun _ kont => XS.iinc X105.here hx rfl (hb hby dXA3_17) rfl (l' := #[.val (.ref a), .val (.ref a), .val (.int (1 : Int32))]) rfl (XS.goto X105.here hx rfl (pc0 := 20) (pc' := 2) rfl (hb hby dXA3_20) (by decide) (by decide) (XS.iloadN X105.here hx rfl (hb hby dXA3_2) rfl (XS.aloadN X105.here hx rfl (hb hby dXA3_3) rfl rfl kont)))) ?_
  show Go _ _ _ _ _ _ _ (T105.setTop (mkF m 4 #[.val (.ref a), .val (.ref a), .val (.int (1 : Int32))] [(.ref a), (.int (1 : Int32))]))
  obtain ⟨cl_q107, Ar_q107, q1_q107, S_q107, N_q107, H_q107, G_q107⟩ := id V105
  refine Go.by (X105.arraylength hx (by first | exact Ar_q107.1 | (rw [e105]; exact Ar_q107.1)) (State.isArrayOf_alike hZ.alike Ar_q107.2.1) (g := (mkF m 4 #[.val (.ref a), .val (.ref a), .val (.int (1 : Int32))] [(.ref a), (.int (1 : Int32))])) rfl rfl (hb hby dXA3_4)) ?_
  rw [len_of S_q107 N_q107]
  show Go _ _ _ _ _ _ _ (T105.setTop (mkF m 5 #[.val (.ref a), .val (.ref a), .val (.int (1 : Int32))] [(.int (3 : Int32)), (.int (1 : Int32))]))
  refine Go.by (fun _ kont => XS.icmpNo X105.here hx rfl (hb hby dXA3_5) rfl (by decide) kont) ?_
  show Go _ _ _ _ _ _ _ (T105.setTop (mkF m 8 #[.val (.ref a), .val (.ref a), .val (.int (1 : Int32))] []))
  refine Go.by (fun _ kont => XS.aloadN X105.here hx rfl (hb hby dXA3_8) rfl rfl (XS.iloadN X105.here hx rfl (hb hby dXA3_9) rfl (XT.dup2 X105.here hx rfl (hb hby dXA3_10) rfl rfl rfl kont))) ?_
  show Go _ _ _ _ _ _ _ (T105.setTop (mkF m 11 #[.val (.ref a), .val (.ref a), .val (.int (1 : Int32))] [(.int (1 : Int32)), (.ref a), (.int (1 : Int32)), (.ref a)]))
  obtain ⟨cl_q108, Ar_q108, q1_q108, S_q108, N_q108, H_q108, G_q108⟩ := id V105
  have hin_q108 : ¬ ((1 : Int32) < 0 ∨ cl_q108.slots.size ≤ ((1 : Int32)).toNatClampNeg) := inb_of S_q108 ⟨by decide, by decide⟩
  have hat_q108 : cl_q108.slots[((1 : Int32)).toNatClampNeg]? = some (.long t1) := Has.at H_q108 hin_q108 rfl
  refine Go.by (X105.laload hx (j := (1 : Int32)) (v := (.long t1)) (by first | exact Ar_q108.1 | (rw [e105]; exact Ar_q108.1)) (State.isArrayOf_alike hZ.alike Ar_q108.2.1) Ar_q108.2.2 hin_q108 hat_q108 (g := (mkF m 11 #[.val (.ref a), .val (.ref a), .val (.int (1 : Int32))] [(.int (1 : Int32)), (.ref a), (.int (1 : Int32)), (.ref a)])) rfl rfl (hb hby dXA3_11)) ?_
  show Go _ _ _ _ _ _ _ (T105.setTop (mkF m 12 #[.val (.ref a), .val (.ref a), .val (.int (1 : Int32))] [(.long t1), (.int (1 : Int32)), (.ref a)]))
  refine Go.by (fun _ kont => XS.aloadN X105.here hx rfl (hb hby dXA3_12) rfl rfl (XS.iloadN X105.here hx rfl (hb hby dXA3_13) rfl kont)) ?_
  show Go _ _ _ _ _ _ _ (T105.setTop (mkF m 14 #[.val (.ref a), .val (.ref a), .val (.int (1 : Int32))] [(.int (1 : Int32)), (.ref a), (.long t1), (.int (1 : Int32)), (.ref a)]))
  obtain ⟨cl_q109, Ar_q109, q1_q109, S_q109, N_q109, H_q109, G_q109⟩ := id V105
  have hin_q109 : ¬ ((1 : Int32) < 0 ∨ cl_q109.slots.size ≤ ((1 : Int32)).toNatClampNeg) := inb_of S_q109 ⟨by decide, by decide⟩
  have hat_q109 : cl_q109.slots[((1 : Int32)).toNatClampNeg]? = some (.long t1) := Has.at H_q109 hin_q109 rfl
  refine Go.by (X105.laload hx (j := (1 : Int32)) (v := (.long t1)) (by first | exact Ar_q109.1 | (rw [e105]; exact Ar_q109.1)) (State.isArrayOf_alike hZ.alike Ar_q109.2.1) Ar_q109.2.2 hin_q109 hat_q109 (g := (mkF m 14 #[.val (.ref a), .val (.ref a), .val (.int (1 : Int32))] [(.int (1 : Int32)), (.ref a), (.long t1), (.int (1 : Int32)), (.ref a)])) rfl rfl (hb hby dXA3_14)) ?_
  show Go _ _ _ _ _ _ _ (T105.setTop (mkF m 15 #[.val (.ref a), .val (.ref a), .val (.int (1 : Int32))] [(.long t1), (.long t1), (.int (1 : Int32)), (.ref a)]))
  refine Go.by (fun _ kont => XS.lxor X105.here hx rfl (hb hby dXA3_15) rfl kont) ?_
  show Go _ _ _ _ _ _ _ (T105.setTop (mkF m 16 #[.val (.ref a), .val (.ref a), .val (.int (1 : Int32))] [(.long (t1 ^^^ t1)), (.int (1 : Int32)), (.ref a)]))
  obtain ⟨cl_q110, Ar_q110, q1_q110, S_q110, N_q110, H_q110, G_q110⟩ := id V105
  have hin_q110 : ¬ ((1 : Int32) < 0 ∨ cl_q110.slots.size ≤ ((1 : Int32)).toNatClampNeg) := inb_of S_q110 ⟨by decide, by decide⟩
  obtain ⟨T111, h111, X111, e111, W111, st111⟩ := stJ X105 hx hZ e105 Ar_q110 (j := (1 : Int32)) hin_q110 (g := (mkF m 16 #[.val (.ref a), .val (.ref a), .val (.int (1 : Int32))] [(.long (t1 ^^^ t1)), (.int (1 : Int32)), (.ref a)])) rfl rfl (hb hby dXA3_16)
  have V111 : Arv Z h111 a kc_a .long (3 : Int32) [(.long (t0 ^^^ t0)), (.long (t1 ^^^ t1)), (.long t2)] (.long (0 : Int64)) := Arv.set Ar_q110 q1_q110 S_q110 N_q110 H_q110 G_q110 rfl W111 1 rfl (Nat.le_of_ble_eq_true rfl)
  have Z112 := Nat.le_trans Z106 (Keep.of_wr W111).1
  have K112 : Keep h0 h111 [a] := K106.wr W111 (Or.inl (by simp))
  have N111 := Fr.snoc X111 N105 ge0_a
  refine Go.by st111 ?_
  show Go _ _ _ _ _ _ _ (T111.setTop (mkF m 17 #[.val (.ref a), .val (.ref a), .val (.int (1 : Int32))] []))
  refine Go.by (fun _ kont => XS.iinc X111.here hx rfl (hb hby dXA3_17) rfl (l' := #[.val (.ref a), .val (.ref a), .val (.int (2 : Int32))]) rfl (XS.goto X111.here hx rfl (pc0 := 20) (pc' := 2) rfl (hb hby dXA3_20) (by decide) (by decide) (XS.iloadN X111.here hx rfl (hb hby dXA3_2) rfl (XS.aloadN X111.here hx rfl (hb hby dXA3_3) rfl rfl kont)))) ?_
  show Go _ _ _ _ _ _ _ (T111.setTop (mkF m 4 #[.val (.ref a), .val (.ref a), .val (.int (2 : Int32))] [(.ref a), (.int (2 : Int32))]))
  obtain ⟨cl_q113, Ar_q113, q1_q113, S_q113, N_q113, H_q113, G_q113⟩ := id V111
  refine Go.by (X111.arraylength hx (by first | exact Ar_q113.1 | (rw [e111]; exact Ar_q113.1)) (State.isArrayOf_alike hZ.alike Ar_q113.2.1) (g := (mkF m 4 #[.val (.ref a), .val (.ref a), .val (.int (2 : Int32))] [(.ref a), (.int (2 : Int32))])) rfl rfl (hb hby dXA3_4)) ?_
  rw [len_of S_q113 N_q113]
  show Go _ _ _ _ _ _ _ (T111.setTop (mkF m 5 #[.val (.ref a), .val (.ref a), .val (.int (2 : Int32))] [(.int (3 : Int32)), (.int (2 : Int32))]))
  refine Go.by (fun _ kont => XS.icmpNo X111.here hx rfl (hb hby dXA3_5) rfl (by decide) kont) ?_
  show Go _ _ _ _ _ _ _ (T111.setTop (mkF m 8 #[.val (.ref a), .val (.ref a), .val (.int (2 : Int32))] []))
  refine Go.by (fun _ kont => XS.aloadN X111.here hx rfl (hb hby dXA3_8) rfl rfl (XS.iloadN X111.here hx rfl (hb hby dXA3_9) rfl (XT.dup2 X111.here hx rfl (hb hby dXA3_10) rfl rfl rfl kont))) ?_
  show Go _ _ _ _ _ _ _ (T111.setTop (mkF m 11 #[.val (.ref a), .val (.ref a), .val (.int (2 : Int32))] [(.int (2 : Int32)), (.ref a), (.int (2 : Int32)), (.ref a)]))
  obtain ⟨cl_q114, Ar_q114, q1_q114, S_q114, N_q114, H_q114, G_q114⟩ := id V111
  have hin_q114 : ¬ ((2 : Int32) < 0 ∨ cl_q114.slots.size ≤ ((2 : Int32)).toNatClampNeg) := inb_of S_q114 ⟨by decide, by decide⟩
  have hat_q114 : cl_q114.slots[((2 : Int32)).toNatClampNeg]? = some (.long t2) := Has.at H_q114 hin_q114 rfl
  refine Go.by (X111.laload hx (j := (2 : Int32)) (v := (.long t2)) (by first | exact Ar_q114.1 | (rw [e111]; exact Ar_q114.1)) (State.isArrayOf_alike hZ.alike Ar_q114.2.1) Ar_q114.2.2 hin_q114 hat_q114 (g := (mkF m 11 #[.val (.ref a), .val (.ref a), .val (.int (2 : Int32))] [(.int (2 : Int32)), (.ref a), (.int (2 : Int32)), (.ref a)])) rfl rfl (hb hby dXA3_11)) ?_
  show Go _ _ _ _ _ _ _ (T111.setTop (mkF m 12 #[.val (.ref a), .val (.ref a), .val (.int (2 : Int32))] [(.long t2), (.int (2 : Int32)), (.ref a)]))
  refine Go.by (fun _ kont => XS.aloadN X111.here hx rfl (hb hby dXA3_12) rfl rfl (XS.iloadN X111.here hx rfl (hb hby dXA3_13) rfl kont)) ?_
  show Go _ _ _ _ _ _ _ (T111.setTop (mkF m 14 #[.val (.ref a), .val (.ref a), .val (.int (2 : Int32))] [(.int (2 : Int32)), (.ref a), (.long t2), (.int (2 : Int32)), (.ref a)]))
  obtain ⟨cl_q115, Ar_q115, q1_q115, S_q115, N_q115, H_q115, G_q115⟩ := id V111
  have hin_q115 : ¬ ((2 : Int32) < 0 ∨ cl_q115.slots.size ≤ ((2 : Int32)).toNatClampNeg) := inb_of S_q115 ⟨by decide, by decide⟩
  have hat_q115 : cl_q115.slots[((2 : Int32)).toNatClampNeg]? = some (.long t2) := Has.at H_q115 hin_q115 rfl
  refine Go.by (X111.laload hx (j := (2 : Int32)) (v := (.long t2)) (by first | exact Ar_q115.1 | (rw [e111]; exact Ar_q115.1)) (State.isArrayOf_alike hZ.alike Ar_q115.2.1) Ar_q115.2.2 hin_q115 hat_q115 (g := (mkF m 14 #[.val (.ref a), .val (.ref a), .val (.int (2 : Int32))] [(.int (2 : Int32)), (.ref a), (.long t2), (.int (2 : Int32)), (.ref a)])) rfl rfl (hb hby dXA3_14)) ?_
  show Go _ _ _ _ _ _ _ (T111.setTop (mkF m 15 #[.val (.ref a), .val (.ref a), .val (.int (2 : Int32))] [(.long t2), (.long t2), (.int (2 : Int32)), (.ref a)]))
  refine Go.by (fun _ kont => XS.lxor X111.here hx rfl (hb hby dXA3_15) rfl kont) ?_
  show Go _ _ _ _ _ _ _ (T111.setTop (mkF m 16 #[.val (.ref a), .val (.ref a), .val (.int (2 : Int32))] [(.long (t2 ^^^ t2)), (.int (2 : Int32)), (.ref a)]))
  obtain ⟨cl_q116, Ar_q116, q1_q116, S_q116, N_q116, H_q116, G_q116⟩ := id V111
  have hin_q116 : ¬ ((2 : Int32) < 0 ∨ cl_q116.slots.size ≤ ((2 : Int32)).toNatClampNeg) := inb_of S_q116 ⟨by decide, by decide⟩
  obtain ⟨T117, h117, X117, e117, W117, st117⟩ := stJ X111 hx hZ e111 Ar_q116 (j := (2 : Int32)) hin_q116 (g := (mkF m 16 #[.val (.ref a), .val (.ref a), .val (.int (2 : Int32))] [(.long (t2 ^^^ t2)), (.int (2 : Int32)), (.ref a)])) rfl rfl (hb hby dXA3_16)
  have V117 : Arv Z h117 a kc_a .long (3 : Int32) [(.long (t0 ^^^ t0)), (.long (t1 ^^^ t1)), (.long (t2 ^^^ t2))] (.long (0 : Int64)) := Arv.set Ar_q116 q1_q116 S_q116 N_q116 H_q116 G_q116 rfl W117 2 rfl (Nat.le_of_ble_eq_true rfl)
  have Z118 := Nat.le_trans Z112 (Keep.of_wr W117).1
  have K118 : Keep h0 h117 [a] := K112.wr W117 (Or.inl (by simp))
  have N117 := Fr.snoc X117 N111 ge0_a
  refine Go.by st117 ?_
  show Go _ _ _ _ _ _ _ (T117.setTop (mkF m 17 #[.val (.ref a), .val (.ref a), .val (.int (2 : Int32))] []))
  refine Go.by (fun _ kont => XS.iinc X117.here hx rfl (hb hby dXA3_17) rfl (l' := #[.val (.ref a), .val (.ref a), .val (.int (3 : Int32))]) rfl (XS.goto X117.here hx rfl (pc0 := 20) (pc' := 2) rfl (hb hby dXA3_20) (by decide) (by decide) (XS.iloadN X117.here hx rfl (hb hby dXA3_2) rfl (XS.aloadN X117.here hx rfl (hb hby dXA3_3) rfl rfl kont)))) ?_
  show Go _ _ _ _ _ _ _ (T117.setTop (mkF m 4 #[.val (.ref a), .val (.ref a), .val (.int (3 : Int32))] [(.ref a), (.int (3 : Int32))]))
  obtain ⟨cl_q119, Ar_q119, q1_q119, S_q119, N_q119, H_q119, G_q119⟩ := id V117
  refine Go.by (X117.arraylength hx (by first | exact Ar_q119.1 | (rw [e117]; exact Ar_q119.1)) (State.isArrayOf_alike hZ.alike Ar_q119.2.1) (g := (mkF m 4 #[.val (.ref a), .val (.ref a), .val (.int (3 : Int32))] [(.ref a), (.int (3 : Int32))])) rfl rfl (hb hby dXA3_4)) ?_
  rw [len_of S_q119 N_q119]
  show Go _ _ _ _ _ _ _ (T117.setTop (mkF m 5 #[.val (.ref a), .val (.ref a), .val (.int (3 : Int32))] [(.int (3 : Int32)), (.int (3 : Int32))]))
  refine Go.by (fun _ kont => XS.icmpYes X117.here hx rfl (pc0 := 5) (pc' := 23) rfl (hb hby dXA3_5) rfl (by decide) (by decide) (by decide) kont) ?_
  show Go _ _ _ _ _ _ _ (T117.setTop (mkF m 23 #[.val (.ref a), .val (.ref a), .val (.int (3 : Int32))] []))
  refine Go.retV X117 hx hret hlk (hb hby dXA3_23) ?_ (by decide) (by decide)
  show QXA3 Z a kc_a t0 t1 t2 h0 n0 none T117.heap _
  rw [e117]
  exact ⟨rfl, N117, K118, V117⟩

theorem dXB3_0 : decode prog_14_method_11_code 0 = .ok (.iconst 0, 1) := by decide +kernel
theorem dXB3_1 : decode prog_14_method_11_code 1 = .ok (.istore_n 2, 1) := by decide +kernel
theorem dXB3_2 : decode prog_14_method_11_code 2 = .ok (.iload_n 2, 1) := by decide +kernel
theorem dXB3_3 : decode prog_14_method_11_code 3 = .ok (.aload_n 0, 1) := by decide +kernel
theorem dXB3_4 : decode prog_14_method_11_code 4 = .ok (.arraylength, 1) := by decide +kernel
theorem dXB3_5 : decode prog_14_method_11_code 5 = .ok (.if_icmp .ge 18, 3) := by decide +kernel
theorem dXB3_8 : decode prog_14_method_11_code 8 = .ok (.aload_n 0, 1) := by decide +kernel
theorem dXB3_9 : decode prog_14_method_11_code 9 = .ok (.iload_n 2, 1) := by decide +kernel
theorem dXB3_10 : decode prog_14_method_11_code 10 = .ok (.dup2, 1) := by decide +kernel
theorem dXB3_11 : decode prog_14_method_11_code 11 = .ok (.laload, 1) := by decide +kernel
theorem dXB3_12 : decode prog_14_method_11_code 12 = .ok (.aload_n 1, 1) := by decide +kernel
theorem dXB3_13 : decode prog_14_method_11_code 13 = .ok (.iload_n 2, 1) := by decide +kernel
theorem dXB3_14 : decode prog_14_method_11_code 14 = .ok (.laload, 1) := by decide +kernel
theorem dXB3_15 : decode prog_14_method_11_code 15 = .ok (.lxor, 1) := by decide +kernel
theorem dXB3_16 : decode prog_14_method_11_code 16 = .ok (.lastore, 1) := by decide +kernel
theorem dXB3_17 : decode prog_14_method_11_code 17 = .ok (.iinc 2 1, 3) := by decide +kernel
theorem dXB3_20 : decode prog_14_method_11_code 20 = .ok (.goto (-18), 3) := by decide +kernel
theorem dXB3_23 : decode prog_14_method_11_code 23 = .ok (.return_, 1) := by decide +kernel
theorem pnXB3 : plainName "com/example/runs_to_nets/runstonets/core/Gf2Basis" = true := by first | (simp [plainName, overriddenIn]; done) | decide +kernel
theorem efXB3 (m : MethodId) (a : Addr) (b : Addr) : entryFrame m #[(.ref a), (.ref b)] 3 = mkF m 0 #[.val (.ref a), .val (.ref b), .unset] [] := by first | (simp [entryFrame, mkF, argsToLocals, Value.category]; done) | rfl
def QXB3 (Z : State) (a : Addr) (b : Addr) (kc_a : ClassId) (t0 : Int64) (t1 : Int64) (t2 : Int64) (kc_b : ClassId) (s0 : Int64) (s1 : Int64) (s2 : Int64) (h0 : Heap) (n0 : Nat) (v : Option Value) (h : Heap) (L : List Loc) : Prop := (v = none ∧ Fr n0 L ∧ Keep h0 h [a] ∧ Arv Z h a kc_a .long (3 : Int32) [(.long (t0 ^^^ s0)), (.long (t1 ^^^ s1)), (.long (t2 ^^^ s2))] (.long (0 : Int64)))
set_option maxRecDepth 65536 in
set_option maxHeartbeats 40000000 in
theorem rmXB3 (l : Launch) (Z : State) (a0 : Array Value) (hw : ∀ d ∈ tables_1, d.before a0 Z = true) (ws : List Jvm.Cond) (a : Addr) (b : Addr) (kc_a : ClassId) (t0 : Int64) (t1 : Int64) (t2 : Int64) (kc_b : ClassId) (s0 : Int64) (s1 : Int64) (s2 : Int64) (h0 : Heap) (n0 : Nat) (Z0 : n0 ≤ h0.size) (V0_a : Arv Z h0 a kc_a .long (3 : Int32) [(.long t0), (.long t1), (.long t2)] (.long (0 : Int64))) (V0_b : Arv Z h0 b kc_b .long (3 : Int32) [(.long s0), (.long s1), (.long s2)] (.long (0 : Int64))) (ne0_a_b : a ≠ b) (ge0_a : n0 ≤ a) :
    MetFree l (⟨"com/example/runs_to_nets/runstonets/core/Gf2Basis", "xor", "([J[J)V"⟩ : MethodName) (head1 (Jvm.Cond.code (⟨"com/example/runs_to_nets/runstonets/core/Gf2Basis", "xor", "([J[J)V"⟩ : MethodName) prog_14_method_11_code 3 none :: ws) ({ frames := 0, cells := 0, slots := 0, locals := 0 } : Room)) (fun aa_ U_ => aa_ = #[(.ref a), (.ref b)] ∧ Z.Warmed39 U_.vm ∧ U_.heap = h0) (fun _ _ _ _ _ => True) (fun _ U_ o_ V_ => ∃ v_ L_, o_ = .returned v_ ∧ QXB3 Z a b kc_a t0 t1 t2 kc_b s0 s1 s2 h0 n0 v_ V_.heap L_ ∧ FrameEnd U_ o_ V_ L_ ({ frames := 0, cells := 0, slots := 0, locals := 0 } : Room).cells ({ frames := 0, cells := 0, slots := 0, locals := 0 } : Room).slots) := by
  refine MetFree.of_bodySF (plainFor_of_name pnXB3) hisR ?_
  intro p e s m args below meth c s₁ Bd hml0 hP hK
  obtain ⟨rfl, hZ, hh⟩ := hP
  have hx := Bd.exec
  have hby := Bd.bytes
  have hml : c.maxLocals = 3 := hml0
  have hown : s.vm.findClass "com/example/runs_to_nets/runstonets/core/Gf2Basis" = some m.cls := findClass_of_methodNamed Bd.named
  have hnm := (name_of_methodNamed Bd.named Bd.method).1
  have hlk : meth.locks = false := BodyLoose.notSynchronized Bd
  have hret : meth.sig.returnType = none := Bd.returns
  have X0 : Stand p l e ({ frames := 0, cells := 0, slots := 0, locals := 0 } : Room) s m #[(.ref a), (.ref b)] below meth c s₁ [] 0 0 := Stand.of_body Bd
  have e0 : s₁.heap = h0 := by rw [← hh, Bd.state]; rfl
  have N0 := Fr.nil n0
  show Go p e below s ({ frames := 0, cells := 0, slots := 0, locals := 0 } : Room).cells ({ frames := 0, cells := 0, slots := 0, locals := 0 } : Room).slots (QXB3 Z a b kc_a t0 t1 t2 kc_b s0 s1 s2 h0 n0) (s₁.setTop (entryFrame m #[(.ref a), (.ref b)] 3))
  rw [efXB3]
  refine Go.by (fun _ kont => XS.iconst X0.here hx rfl (hb hby dXB3_0) (XS.istoreN X0.here hx rfl (hb hby dXB3_1) rfl (l' := #[.val (.ref a), .val (.ref b), .val (.int (0 : Int32))]) rfl (XS.iloadN X0.here hx rfl (hb hby dXB3_2) rfl (XS.aloadN X0.here hx rfl (hb hby dXB3_3) rfl rfl kont)))) ?_
  show Go _ _ _ _ _ _ _ (s₁.setTop (mkF m 4 #[.val (.ref a), .val (.ref b), .val (.int (0 : Int32))] [(.ref a), (.int (0 : Int32))]))
  obtain ⟨cl_q101, Ar_q101, q1_q101, S_q101, N_q101, H_q101, G_q101⟩ := id V0_a
  refine Go.by (X0.arraylength hx (by first | exact Ar_q101.1 | (rw [e0]; exact Ar_q101.1)) (State.isArrayOf_alike hZ.alike Ar_q101.2.1) (g := (mkF m 4 #[.val (.ref a), .val (.ref b), .val (.int (0 : Int32))] [(.ref a), (.int (0 : Int32))])) rfl rfl (hb hby dXB3_4)) ?_
  rw [len_of S_q101 N_q101]
  show Go _ _ _ _ _ _ _ (s₁.setTop (mkF m 5 #[.val (.ref a), .val (.ref b), .val (.int (0 : Int32))] [(.int (3 : Int32)), (.int (0 : Int32))]))
  refine Go.by (fun _ kont => XS.icmpNo X0.here hx rfl (hb hby dXB3_5) rfl (by decide) kont) ?_
  show Go _ _ _ _ _ _ _ (s₁.setTop (mkF m 8 #[.val (.ref a), .val (.ref b), .val (.int (0 : Int32))] []))
  refine Go.by (fun _ kont => XS.aloadN X0.here hx rfl (hb hby dXB3_8) rfl rfl (XS.iloadN X0.here hx rfl (hb hby dXB3_9) rfl (XT.dup2 X0.here hx rfl (hb hby dXB3_10) rfl rfl rfl kont))) ?_
  show Go _ _ _ _ _ _ _ (s₁.setTop (mkF m 11 #[.val (.ref a), .val (.ref b), .val (.int (0 : Int32))] [(.int (0 : Int32)), (.ref a), (.int (0 : Int32)), (.ref a)]))
  obtain ⟨cl_q102, Ar_q102, q1_q102, S_q102, N_q102, H_q102, G_q102⟩ := id V0_a
  have hin_q102 : ¬ ((0 : Int32) < 0 ∨ cl_q102.slots.size ≤ ((0 : Int32)).toNatClampNeg) := inb_of S_q102 ⟨by decide, by decide⟩
  have hat_q102 : cl_q102.slots[((0 : Int32)).toNatClampNeg]? = some (.long t0) := Has.at H_q102 hin_q102 rfl
  refine Go.by (X0.laload hx (j := (0 : Int32)) (v := (.long t0)) (by first | exact Ar_q102.1 | (rw [e0]; exact Ar_q102.1)) (State.isArrayOf_alike hZ.alike Ar_q102.2.1) Ar_q102.2.2 hin_q102 hat_q102 (g := (mkF m 11 #[.val (.ref a), .val (.ref b), .val (.int (0 : Int32))] [(.int (0 : Int32)), (.ref a), (.int (0 : Int32)), (.ref a)])) rfl rfl (hb hby dXB3_11)) ?_
  show Go _ _ _ _ _ _ _ (s₁.setTop (mkF m 12 #[.val (.ref a), .val (.ref b), .val (.int (0 : Int32))] [(.long t0), (.int (0 : Int32)), (.ref a)]))
  refine Go.by (fun _ kont => XS.aloadN X0.here hx rfl (hb hby dXB3_12) rfl rfl (XS.iloadN X0.here hx rfl (hb hby dXB3_13) rfl kont)) ?_
  show Go _ _ _ _ _ _ _ (s₁.setTop (mkF m 14 #[.val (.ref a), .val (.ref b), .val (.int (0 : Int32))] [(.int (0 : Int32)), (.ref b), (.long t0), (.int (0 : Int32)), (.ref a)]))
  obtain ⟨cl_q103, Ar_q103, q1_q103, S_q103, N_q103, H_q103, G_q103⟩ := id V0_b
  have hin_q103 : ¬ ((0 : Int32) < 0 ∨ cl_q103.slots.size ≤ ((0 : Int32)).toNatClampNeg) := inb_of S_q103 ⟨by decide, by decide⟩
  have hat_q103 : cl_q103.slots[((0 : Int32)).toNatClampNeg]? = some (.long s0) := Has.at H_q103 hin_q103 rfl
  refine Go.by (X0.laload hx (j := (0 : Int32)) (v := (.long s0)) (by first | exact Ar_q103.1 | (rw [e0]; exact Ar_q103.1)) (State.isArrayOf_alike hZ.alike Ar_q103.2.1) Ar_q103.2.2 hin_q103 hat_q103 (g := (mkF m 14 #[.val (.ref a), .val (.ref b), .val (.int (0 : Int32))] [(.int (0 : Int32)), (.ref b), (.long t0), (.int (0 : Int32)), (.ref a)])) rfl rfl (hb hby dXB3_14)) ?_
  show Go _ _ _ _ _ _ _ (s₁.setTop (mkF m 15 #[.val (.ref a), .val (.ref b), .val (.int (0 : Int32))] [(.long s0), (.long t0), (.int (0 : Int32)), (.ref a)]))
  refine Go.by (fun _ kont => XS.lxor X0.here hx rfl (hb hby dXB3_15) rfl kont) ?_
  show Go _ _ _ _ _ _ _ (s₁.setTop (mkF m 16 #[.val (.ref a), .val (.ref b), .val (.int (0 : Int32))] [(.long (t0 ^^^ s0)), (.int (0 : Int32)), (.ref a)]))
  obtain ⟨cl_q104, Ar_q104, q1_q104, S_q104, N_q104, H_q104, G_q104⟩ := id V0_a
  have hin_q104 : ¬ ((0 : Int32) < 0 ∨ cl_q104.slots.size ≤ ((0 : Int32)).toNatClampNeg) := inb_of S_q104 ⟨by decide, by decide⟩
  obtain ⟨T105, h105, X105, e105, W105, st105⟩ := stJ X0 hx hZ e0 Ar_q104 (j := (0 : Int32)) hin_q104 (g := (mkF m 16 #[.val (.ref a), .val (.ref b), .val (.int (0 : Int32))] [(.long (t0 ^^^ s0)), (.int (0 : Int32)), (.ref a)])) rfl rfl (hb hby dXB3_16)
  have V105 : Arv Z h105 a kc_a .long (3 : Int32) [(.long (t0 ^^^ s0)), (.long t1), (.long t2)] (.long (0 : Int64)) := Arv.set Ar_q104 q1_q104 S_q104 N_q104 H_q104 G_q104 rfl W105 0 rfl (Nat.le_of_ble_eq_true rfl)
  have V106_b := V0_b.other W105 (Ne.symm ne0_a_b)
  have Z106 := Nat.le_trans Z0 (Keep.of_wr W105).1
  have K106 : Keep h0 h105 [a] := (Keep.refl h0 [a]).wr W105 (Or.inl (by simp))
  have N105 := Fr.snoc X105 N0 ge0_a
  refine Go.by st105 ?_
  show Go _ _ _ _ _ _ _ (T105.setTop (mkF m 17 #[.val (.ref a), .val (.ref b), .val (.int (0 : Int32))] []))
  refine Go.by (fun _ kont => XS.iinc X105.here hx rfl (hb hby dXB3_17) rfl (l' := #[.val (.ref a), .val (.ref b), .val (.int (1 : Int32))]) rfl (XS.goto X105.here hx rfl (pc0 := 20) (pc' := 2) rfl (hb hby dXB3_20) (by decide) (by decide) (XS.iloadN X105.here hx rfl (hb hby dXB3_2) rfl (XS.aloadN X105.here hx rfl (hb hby dXB3_3) rfl rfl kont)))) ?_
  show Go _ _ _ _ _ _ _ (T105.setTop (mkF m 4 #[.val (.ref a), .val (.ref b), .val (.int (1 : Int32))] [(.ref a), (.int (1 : Int32))]))
  obtain ⟨cl_q107, Ar_q107, q1_q107, S_q107, N_q107, H_q107, G_q107⟩ := id V105
  refine Go.by (X105.arraylength hx (by first | exact Ar_q107.1 | (rw [e105]; exact Ar_q107.1)) (State.isArrayOf_alike hZ.alike Ar_q107.2.1) (g := (mkF m 4 #[.val (.ref a), .val (.ref b), .val (.int (1 : Int32))] [(.ref a), (.int (1 : Int32))])) rfl rfl (hb hby dXB3_4)) ?_
  rw [len_of S_q107 N_q107]
  show Go _ _ _ _ _ _ _ (T105.setTop (mkF m 5 #[.val (.ref a), .val (.ref b), .val (.int (1 : Int32))] [(.int (3 : Int32)), (.int (1 : Int32))]))
  refine Go.by (fun _ kont => XS.icmpNo X105.here hx rfl (hb hby dXB3_5) rfl (by decide) kont) ?_
  show Go _ _ _ _ _ _ _ (T105.setTop (mkF m 8 #[.val (.ref a), .val (.ref b), .val (.int (1 : Int32))] []))
  refine Go.by (fun _ kont => XS.aloadN X105.here hx rfl (hb hby dXB3_8) rfl rfl (XS.iloadN X105.here hx rfl (hb hby dXB3_9) rfl (XT.dup2 X105.here hx rfl (hb hby dXB3_10) rfl rfl rfl kont))) ?_
  show Go _ _ _ _ _ _ _ (T105.setTop (mkF m 11 #[.val (.ref a), .val (.ref b), .val (.int (1 : Int32))] [(.int (1 : Int32)), (.ref a), (.int (1 : Int32)), (.ref a)]))
  obtain ⟨cl_q108, Ar_q108, q1_q108, S_q108, N_q108, H_q108, G_q108⟩ := id V105
  have hin_q108 : ¬ ((1 : Int32) < 0 ∨ cl_q108.slots.size ≤ ((1 : Int32)).toNatClampNeg) := inb_of S_q108 ⟨by decide, by decide⟩
  have hat_q108 : cl_q108.slots[((1 : Int32)).toNatClampNeg]? = some (.long t1) := Has.at H_q108 hin_q108 rfl
  refine Go.by (X105.laload hx (j := (1 : Int32)) (v := (.long t1)) (by first | exact Ar_q108.1 | (rw [e105]; exact Ar_q108.1)) (State.isArrayOf_alike hZ.alike Ar_q108.2.1) Ar_q108.2.2 hin_q108 hat_q108 (g := (mkF m 11 #[.val (.ref a), .val (.ref b), .val (.int (1 : Int32))] [(.int (1 : Int32)), (.ref a), (.int (1 : Int32)), (.ref a)])) rfl rfl (hb hby dXB3_11)) ?_
  show Go _ _ _ _ _ _ _ (T105.setTop (mkF m 12 #[.val (.ref a), .val (.ref b), .val (.int (1 : Int32))] [(.long t1), (.int (1 : Int32)), (.ref a)]))
  refine Go.by (fun _ kont => XS.aloadN X105.here hx rfl (hb hby dXB3_12) rfl rfl (XS.iloadN X105.here hx rfl (hb hby dXB3_13) rfl kont)) ?_
  show Go _ _ _ _ _ _ _ (T105.setTop (mkF m 14 #[.val (.ref a), .val (.ref b), .val (.int (1 : Int32))] [(.int (1 : Int32)), (.ref b), (.long t1), (.int (1 : Int32)), (.ref a)]))
  obtain ⟨cl_q109, Ar_q109, q1_q109, S_q109, N_q109, H_q109, G_q109⟩ := id V106_b
  have hin_q109 : ¬ ((1 : Int32) < 0 ∨ cl_q109.slots.size ≤ ((1 : Int32)).toNatClampNeg) := inb_of S_q109 ⟨by decide, by decide⟩
  have hat_q109 : cl_q109.slots[((1 : Int32)).toNatClampNeg]? = some (.long s1) := Has.at H_q109 hin_q109 rfl
  refine Go.by (X105.laload hx (j := (1 : Int32)) (v := (.long s1)) (by first | exact Ar_q109.1 | (rw [e105]; exact Ar_q109.1)) (State.isArrayOf_alike hZ.alike Ar_q109.2.1) Ar_q109.2.2 hin_q109 hat_q109 (g := (mkF m 14 #[.val (.ref a), .val (.ref b), .val (.int (1 : Int32))] [(.int (1 : Int32)), (.ref b), (.long t1), (.int (1 : Int32)), (.ref a)])) rfl rfl (hb hby dXB3_14)) ?_
  show Go _ _ _ _ _ _ _ (T105.setTop (mkF m 15 #[.val (.ref a), .val (.ref b), .val (.int (1 : Int32))] [(.long s1), (.long t1), (.int (1 : Int32)), (.ref a)]))
  refine Go.by (fun _ kont => XS.lxor X105.here hx rfl (hb hby dXB3_15) rfl kont) ?_
  show Go _ _ _ _ _ _ _ (T105.setTop (mkF m 16 #[.val (.ref a), .val (.ref b), .val (.int (1 : Int32))] [(.long (t1 ^^^ s1)), (.int (1 : Int32)), (.ref a)]))
  obtain ⟨cl_q110, Ar_q110, q1_q110, S_q110, N_q110, H_q110, G_q110⟩ := id V105
  have hin_q110 : ¬ ((1 : Int32) < 0 ∨ cl_q110.slots.size ≤ ((1 : Int32)).toNatClampNeg) := inb_of S_q110 ⟨by decide, by decide⟩
  obtain ⟨T111, h111, X111, e111, W111, st111⟩ := stJ X105 hx hZ e105 Ar_q110 (j := (1 : Int32)) hin_q110 (g := (mkF m 16 #[.val (.ref a), .val (.ref b), .val (.int (1 : Int32))] [(.long (t1 ^^^ s1)), (.int (1 : Int32)), (.ref a)])) rfl rfl (hb hby dXB3_16)
  have V111 : Arv Z h111 a kc_a .long (3 : Int32) [(.long (t0 ^^^ s0)), (.long (t1 ^^^ s1)), (.long t2)] (.long (0 : Int64)) := Arv.set Ar_q110 q1_q110 S_q110 N_q110 H_q110 G_q110 rfl W111 1 rfl (Nat.le_of_ble_eq_true rfl)
  have V112_b := V106_b.other W111 (Ne.symm ne0_a_b)
  have Z112 := Nat.le_trans Z106 (Keep.of_wr W111).1
  have K112 : Keep h0 h111 [a] := K106.wr W111 (Or.inl (by simp))
  have N111 := Fr.snoc X111 N105 ge0_a
  refine Go.by st111 ?_
  show Go _ _ _ _ _ _ _ (T111.setTop (mkF m 17 #[.val (.ref a), .val (.ref b), .val (.int (1 : Int32))] []))
  refine Go.by (fun _ kont => XS.iinc X111.here hx rfl (hb hby dXB3_17) rfl (l' := #[.val (.ref a), .val (.ref b), .val (.int (2 : Int32))]) rfl (XS.goto X111.here hx rfl (pc0 := 20) (pc' := 2) rfl (hb hby dXB3_20) (by decide) (by decide) (XS.iloadN X111.here hx rfl (hb hby dXB3_2) rfl (XS.aloadN X111.here hx rfl (hb hby dXB3_3) rfl rfl kont)))) ?_
  show Go _ _ _ _ _ _ _ (T111.setTop (mkF m 4 #[.val (.ref a), .val (.ref b), .val (.int (2 : Int32))] [(.ref a), (.int (2 : Int32))]))
  obtain ⟨cl_q113, Ar_q113, q1_q113, S_q113, N_q113, H_q113, G_q113⟩ := id V111
  refine Go.by (X111.arraylength hx (by first | exact Ar_q113.1 | (rw [e111]; exact Ar_q113.1)) (State.isArrayOf_alike hZ.alike Ar_q113.2.1) (g := (mkF m 4 #[.val (.ref a), .val (.ref b), .val (.int (2 : Int32))] [(.ref a), (.int (2 : Int32))])) rfl rfl (hb hby dXB3_4)) ?_
  rw [len_of S_q113 N_q113]
  show Go _ _ _ _ _ _ _ (T111.setTop (mkF m 5 #[.val (.ref a), .val (.ref b), .val (.int (2 : Int32))] [(.int (3 : Int32)), (.int (2 : Int32))]))
  refine Go.by (fun _ kont => XS.icmpNo X111.here hx rfl (hb hby dXB3_5) rfl (by decide) kont) ?_
  show Go _ _ _ _ _ _ _ (T111.setTop (mkF m 8 #[.val (.ref a), .val (.ref b), .val (.int (2 : Int32))] []))
  refine Go.by (fun _ kont => XS.aloadN X111.here hx rfl (hb hby dXB3_8) rfl rfl (XS.iloadN X111.here hx rfl (hb hby dXB3_9) rfl (XT.dup2 X111.here hx rfl (hb hby dXB3_10) rfl rfl rfl kont))) ?_
  show Go _ _ _ _ _ _ _ (T111.setTop (mkF m 11 #[.val (.ref a), .val (.ref b), .val (.int (2 : Int32))] [(.int (2 : Int32)), (.ref a), (.int (2 : Int32)), (.ref a)]))
  obtain ⟨cl_q114, Ar_q114, q1_q114, S_q114, N_q114, H_q114, G_q114⟩ := id V111
  have hin_q114 : ¬ ((2 : Int32) < 0 ∨ cl_q114.slots.size ≤ ((2 : Int32)).toNatClampNeg) := inb_of S_q114 ⟨by decide, by decide⟩
  have hat_q114 : cl_q114.slots[((2 : Int32)).toNatClampNeg]? = some (.long t2) := Has.at H_q114 hin_q114 rfl
  refine Go.by (X111.laload hx (j := (2 : Int32)) (v := (.long t2)) (by first | exact Ar_q114.1 | (rw [e111]; exact Ar_q114.1)) (State.isArrayOf_alike hZ.alike Ar_q114.2.1) Ar_q114.2.2 hin_q114 hat_q114 (g := (mkF m 11 #[.val (.ref a), .val (.ref b), .val (.int (2 : Int32))] [(.int (2 : Int32)), (.ref a), (.int (2 : Int32)), (.ref a)])) rfl rfl (hb hby dXB3_11)) ?_
  show Go _ _ _ _ _ _ _ (T111.setTop (mkF m 12 #[.val (.ref a), .val (.ref b), .val (.int (2 : Int32))] [(.long t2), (.int (2 : Int32)), (.ref a)]))
  refine Go.by (fun _ kont => XS.aloadN X111.here hx rfl (hb hby dXB3_12) rfl rfl (XS.iloadN X111.here hx rfl (hb hby dXB3_13) rfl kont)) ?_
  show Go _ _ _ _ _ _ _ (T111.setTop (mkF m 14 #[.val (.ref a), .val (.ref b), .val (.int (2 : Int32))] [(.int (2 : Int32)), (.ref b), (.long t2), (.int (2 : Int32)), (.ref a)]))
  obtain ⟨cl_q115, Ar_q115, q1_q115, S_q115, N_q115, H_q115, G_q115⟩ := id V112_b
  have hin_q115 : ¬ ((2 : Int32) < 0 ∨ cl_q115.slots.size ≤ ((2 : Int32)).toNatClampNeg) := inb_of S_q115 ⟨by decide, by decide⟩
  have hat_q115 : cl_q115.slots[((2 : Int32)).toNatClampNeg]? = some (.long s2) := Has.at H_q115 hin_q115 rfl
  refine Go.by (X111.laload hx (j := (2 : Int32)) (v := (.long s2)) (by first | exact Ar_q115.1 | (rw [e111]; exact Ar_q115.1)) (State.isArrayOf_alike hZ.alike Ar_q115.2.1) Ar_q115.2.2 hin_q115 hat_q115 (g := (mkF m 14 #[.val (.ref a), .val (.ref b), .val (.int (2 : Int32))] [(.int (2 : Int32)), (.ref b), (.long t2), (.int (2 : Int32)), (.ref a)])) rfl rfl (hb hby dXB3_14)) ?_
  show Go _ _ _ _ _ _ _ (T111.setTop (mkF m 15 #[.val (.ref a), .val (.ref b), .val (.int (2 : Int32))] [(.long s2), (.long t2), (.int (2 : Int32)), (.ref a)]))
  refine Go.by (fun _ kont => XS.lxor X111.here hx rfl (hb hby dXB3_15) rfl kont) ?_
  show Go _ _ _ _ _ _ _ (T111.setTop (mkF m 16 #[.val (.ref a), .val (.ref b), .val (.int (2 : Int32))] [(.long (t2 ^^^ s2)), (.int (2 : Int32)), (.ref a)]))
  obtain ⟨cl_q116, Ar_q116, q1_q116, S_q116, N_q116, H_q116, G_q116⟩ := id V111
  have hin_q116 : ¬ ((2 : Int32) < 0 ∨ cl_q116.slots.size ≤ ((2 : Int32)).toNatClampNeg) := inb_of S_q116 ⟨by decide, by decide⟩
  obtain ⟨T117, h117, X117, e117, W117, st117⟩ := stJ X111 hx hZ e111 Ar_q116 (j := (2 : Int32)) hin_q116 (g := (mkF m 16 #[.val (.ref a), .val (.ref b), .val (.int (2 : Int32))] [(.long (t2 ^^^ s2)), (.int (2 : Int32)), (.ref a)])) rfl rfl (hb hby dXB3_16)
  have V117 : Arv Z h117 a kc_a .long (3 : Int32) [(.long (t0 ^^^ s0)), (.long (t1 ^^^ s1)), (.long (t2 ^^^ s2))] (.long (0 : Int64)) := Arv.set Ar_q116 q1_q116 S_q116 N_q116 H_q116 G_q116 rfl W117 2 rfl (Nat.le_of_ble_eq_true rfl)
  have V118_b := V112_b.other W117 (Ne.symm ne0_a_b)
  have Z118 := Nat.le_trans Z112 (Keep.of_wr W117).1
  have K118 : Keep h0 h117 [a] := K112.wr W117 (Or.inl (by simp))
  have N117 := Fr.snoc X117 N111 ge0_a
  refine Go.by st117 ?_
  show Go _ _ _ _ _ _ _ (T117.setTop (mkF m 17 #[.val (.ref a), .val (.ref b), .val (.int (2 : Int32))] []))
  refine Go.by (fun _ kont => XS.iinc X117.here hx rfl (hb hby dXB3_17) rfl (l' := #[.val (.ref a), .val (.ref b), .val (.int (3 : Int32))]) rfl (XS.goto X117.here hx rfl (pc0 := 20) (pc' := 2) rfl (hb hby dXB3_20) (by decide) (by decide) (XS.iloadN X117.here hx rfl (hb hby dXB3_2) rfl (XS.aloadN X117.here hx rfl (hb hby dXB3_3) rfl rfl kont)))) ?_
  show Go _ _ _ _ _ _ _ (T117.setTop (mkF m 4 #[.val (.ref a), .val (.ref b), .val (.int (3 : Int32))] [(.ref a), (.int (3 : Int32))]))
  obtain ⟨cl_q119, Ar_q119, q1_q119, S_q119, N_q119, H_q119, G_q119⟩ := id V117
  refine Go.by (X117.arraylength hx (by first | exact Ar_q119.1 | (rw [e117]; exact Ar_q119.1)) (State.isArrayOf_alike hZ.alike Ar_q119.2.1) (g := (mkF m 4 #[.val (.ref a), .val (.ref b), .val (.int (3 : Int32))] [(.ref a), (.int (3 : Int32))])) rfl rfl (hb hby dXB3_4)) ?_
  rw [len_of S_q119 N_q119]
  show Go _ _ _ _ _ _ _ (T117.setTop (mkF m 5 #[.val (.ref a), .val (.ref b), .val (.int (3 : Int32))] [(.int (3 : Int32)), (.int (3 : Int32))]))
  refine Go.by (fun _ kont => XS.icmpYes X117.here hx rfl (pc0 := 5) (pc' := 23) rfl (hb hby dXB3_5) rfl (by decide) (by decide) (by decide) kont) ?_
  show Go _ _ _ _ _ _ _ (T117.setTop (mkF m 23 #[.val (.ref a), .val (.ref b), .val (.int (3 : Int32))] []))
  refine Go.retV X117 hx hret hlk (hb hby dXB3_23) ?_ (by decide) (by decide)
  show QXB3 Z a b kc_a t0 t1 t2 kc_b s0 s1 s2 h0 n0 none T117.heap _
  rw [e117]
  exact ⟨rfl, N117, K118, V117⟩

theorem dW30_0 : decode method_3_code 0 = .ok (.iload_n 1, 1) := by decide +kernel
theorem dW30_1 : decode method_3_code 1 = .ok (.aload_n 0, 1) := by decide +kernel
theorem dW30_2 : decode method_3_code 2 = .ok (.arraylength, 1) := by decide +kernel
theorem dW30_3 : decode method_3_code 3 = .ok (.if_icmp .ge 9, 3) := by decide +kernel
theorem dW30_6 : decode method_3_code 6 = .ok (.aload_n 0, 1) := by decide +kernel
theorem dW30_7 : decode method_3_code 7 = .ok (.iload_n 1, 1) := by decide +kernel
theorem dW30_8 : decode method_3_code 8 = .ok (.laload, 1) := by decide +kernel
theorem dW30_9 : decode method_3_code 9 = .ok (.goto 4, 3) := by decide +kernel
theorem dW30_13 : decode method_3_code 13 = .ok (.lreturn, 1) := by decide +kernel
theorem pnW30 : plainName "com/example/runs_to_nets/runstonets/core/Gf2BasisXorPinLaw" = true := by first | (simp [plainName, overriddenIn]; done) | decide +kernel
theorem efW30 (m : MethodId) (a : Addr) : entryFrame m #[(.ref a), (.int (0 : Int32))] 2 = mkF m 0 #[.val (.ref a), .val (.int (0 : Int32))] [] := by first | (simp [entryFrame, mkF, argsToLocals, Value.category]; done) | rfl
def QW30 (Z : State) (a : Addr) (kc_a : ClassId) (t0 : Int64) (t1 : Int64) (t2 : Int64) (h0 : Heap) (n0 : Nat) (v : Option Value) (h : Heap) (L : List Loc) : Prop := (v = some (.long t0) ∧ Fr n0 L ∧ h = h0)
set_option maxRecDepth 65536 in
set_option maxHeartbeats 40000000 in
theorem rmW30 (l : Launch) (Z : State) (a0 : Array Value) (hw : ∀ d ∈ tables_1, d.before a0 Z = true) (ws : List Jvm.Cond) (a : Addr) (kc_a : ClassId) (t0 : Int64) (t1 : Int64) (t2 : Int64) (h0 : Heap) (n0 : Nat) (Z0 : n0 ≤ h0.size) (V0_a : Arv Z h0 a kc_a .long (3 : Int32) [(.long t0), (.long t1), (.long t2)] (.long (0 : Int64))) :
    MetFree l (⟨"com/example/runs_to_nets/runstonets/core/Gf2BasisXorPinLaw", "word", "([JI)J"⟩ : MethodName) (head1 (Jvm.Cond.code (⟨"com/example/runs_to_nets/runstonets/core/Gf2BasisXorPinLaw", "word", "([JI)J"⟩ : MethodName) method_3_code 2 (some .long) :: ws) ({ frames := 0, cells := 0, slots := 0, locals := 0 } : Room)) (fun aa_ U_ => aa_ = #[(.ref a), (.int (0 : Int32))] ∧ Z.Warmed39 U_.vm ∧ U_.heap = h0) (fun _ _ _ _ _ => True) (fun _ U_ o_ V_ => ∃ v_ L_, o_ = .returned v_ ∧ QW30 Z a kc_a t0 t1 t2 h0 n0 v_ V_.heap L_ ∧ FrameEnd U_ o_ V_ L_ ({ frames := 0, cells := 0, slots := 0, locals := 0 } : Room).cells ({ frames := 0, cells := 0, slots := 0, locals := 0 } : Room).slots) := by
  refine MetFree.of_bodySF (plainFor_of_name pnW30) hisR ?_
  intro p e s m args below meth c s₁ Bd hml0 hP hK
  obtain ⟨rfl, hZ, hh⟩ := hP
  have hx := Bd.exec
  have hby := Bd.bytes
  have hml : c.maxLocals = 2 := hml0
  have hown : s.vm.findClass "com/example/runs_to_nets/runstonets/core/Gf2BasisXorPinLaw" = some m.cls := findClass_of_methodNamed Bd.named
  have hnm := (name_of_methodNamed Bd.named Bd.method).1
  have hlk : meth.locks = false := BodyLoose.notSynchronized Bd
  have hret : meth.sig.returnType = (some .long) := Bd.returns
  have X0 : Stand p l e ({ frames := 0, cells := 0, slots := 0, locals := 0 } : Room) s m #[(.ref a), (.int (0 : Int32))] below meth c s₁ [] 0 0 := Stand.of_body Bd
  have e0 : s₁.heap = h0 := by rw [← hh, Bd.state]; rfl
  have N0 := Fr.nil n0
  show Go p e below s ({ frames := 0, cells := 0, slots := 0, locals := 0 } : Room).cells ({ frames := 0, cells := 0, slots := 0, locals := 0 } : Room).slots (QW30 Z a kc_a t0 t1 t2 h0 n0) (s₁.setTop (entryFrame m #[(.ref a), (.int (0 : Int32))] 2))
  rw [efW30]
  refine Go.by (fun _ kont => XS.iloadN X0.here hx rfl (hb hby dW30_0) rfl (XS.aloadN X0.here hx rfl (hb hby dW30_1) rfl rfl kont)) ?_
  show Go _ _ _ _ _ _ _ (s₁.setTop (mkF m 2 #[.val (.ref a), .val (.int (0 : Int32))] [(.ref a), (.int (0 : Int32))]))
  obtain ⟨cl_q101, Ar_q101, q1_q101, S_q101, N_q101, H_q101, G_q101⟩ := id V0_a
  refine Go.by (X0.arraylength hx (by first | exact Ar_q101.1 | (rw [e0]; exact Ar_q101.1)) (State.isArrayOf_alike hZ.alike Ar_q101.2.1) (g := (mkF m 2 #[.val (.ref a), .val (.int (0 : Int32))] [(.ref a), (.int (0 : Int32))])) rfl rfl (hb hby dW30_2)) ?_
  rw [len_of S_q101 N_q101]
  show Go _ _ _ _ _ _ _ (s₁.setTop (mkF m 3 #[.val (.ref a), .val (.int (0 : Int32))] [(.int (3 : Int32)), (.int (0 : Int32))]))
  refine Go.by (fun _ kont => XS.icmpNo X0.here hx rfl (hb hby dW30_3) rfl (by decide) kont) ?_
  show Go _ _ _ _ _ _ _ (s₁.setTop (mkF m 6 #[.val (.ref a), .val (.int (0 : Int32))] []))
  refine Go.by (fun _ kont => XS.aloadN X0.here hx rfl (hb hby dW30_6) rfl rfl (XS.iloadN X0.here hx rfl (hb hby dW30_7) rfl kont)) ?_
  show Go _ _ _ _ _ _ _ (s₁.setTop (mkF m 8 #[.val (.ref a), .val (.int (0 : Int32))] [(.int (0 : Int32)), (.ref a)]))
  obtain ⟨cl_q102, Ar_q102, q1_q102, S_q102, N_q102, H_q102, G_q102⟩ := id V0_a
  have hin_q102 : ¬ ((0 : Int32) < 0 ∨ cl_q102.slots.size ≤ ((0 : Int32)).toNatClampNeg) := inb_of S_q102 ⟨by decide, by decide⟩
  have hat_q102 : cl_q102.slots[((0 : Int32)).toNatClampNeg]? = some (.long t0) := Has.at H_q102 hin_q102 rfl
  refine Go.by (X0.laload hx (j := (0 : Int32)) (v := (.long t0)) (by first | exact Ar_q102.1 | (rw [e0]; exact Ar_q102.1)) (State.isArrayOf_alike hZ.alike Ar_q102.2.1) Ar_q102.2.2 hin_q102 hat_q102 (g := (mkF m 8 #[.val (.ref a), .val (.int (0 : Int32))] [(.int (0 : Int32)), (.ref a)])) rfl rfl (hb hby dW30_8)) ?_
  show Go _ _ _ _ _ _ _ (s₁.setTop (mkF m 9 #[.val (.ref a), .val (.int (0 : Int32))] [(.long t0)]))
  refine Go.by (fun _ kont => XS.goto X0.here hx rfl (pc0 := 9) (pc' := 13) rfl (hb hby dW30_9) (by decide) (by decide) kont) ?_
  show Go _ _ _ _ _ _ _ (s₁.setTop (mkF m 13 #[.val (.ref a), .val (.int (0 : Int32))] [(.long t0)]))
  refine Go.retJ X0 hx hret hlk (hb hby dW30_13) ?_ (by decide) (by decide)
  show QW30 Z a kc_a t0 t1 t2 h0 n0 (some (.long t0)) s₁.heap _
  rw [e0]
  exact ⟨rfl, N0, rfl⟩

theorem dW31_0 : decode method_3_code 0 = .ok (.iload_n 1, 1) := by decide +kernel
theorem dW31_1 : decode method_3_code 1 = .ok (.aload_n 0, 1) := by decide +kernel
theorem dW31_2 : decode method_3_code 2 = .ok (.arraylength, 1) := by decide +kernel
theorem dW31_3 : decode method_3_code 3 = .ok (.if_icmp .ge 9, 3) := by decide +kernel
theorem dW31_6 : decode method_3_code 6 = .ok (.aload_n 0, 1) := by decide +kernel
theorem dW31_7 : decode method_3_code 7 = .ok (.iload_n 1, 1) := by decide +kernel
theorem dW31_8 : decode method_3_code 8 = .ok (.laload, 1) := by decide +kernel
theorem dW31_9 : decode method_3_code 9 = .ok (.goto 4, 3) := by decide +kernel
theorem dW31_13 : decode method_3_code 13 = .ok (.lreturn, 1) := by decide +kernel
theorem pnW31 : plainName "com/example/runs_to_nets/runstonets/core/Gf2BasisXorPinLaw" = true := by first | (simp [plainName, overriddenIn]; done) | decide +kernel
theorem efW31 (m : MethodId) (a : Addr) : entryFrame m #[(.ref a), (.int (1 : Int32))] 2 = mkF m 0 #[.val (.ref a), .val (.int (1 : Int32))] [] := by first | (simp [entryFrame, mkF, argsToLocals, Value.category]; done) | rfl
def QW31 (Z : State) (a : Addr) (kc_a : ClassId) (t0 : Int64) (t1 : Int64) (t2 : Int64) (h0 : Heap) (n0 : Nat) (v : Option Value) (h : Heap) (L : List Loc) : Prop := (v = some (.long t1) ∧ Fr n0 L ∧ h = h0)
set_option maxRecDepth 65536 in
set_option maxHeartbeats 40000000 in
theorem rmW31 (l : Launch) (Z : State) (a0 : Array Value) (hw : ∀ d ∈ tables_1, d.before a0 Z = true) (ws : List Jvm.Cond) (a : Addr) (kc_a : ClassId) (t0 : Int64) (t1 : Int64) (t2 : Int64) (h0 : Heap) (n0 : Nat) (Z0 : n0 ≤ h0.size) (V0_a : Arv Z h0 a kc_a .long (3 : Int32) [(.long t0), (.long t1), (.long t2)] (.long (0 : Int64))) :
    MetFree l (⟨"com/example/runs_to_nets/runstonets/core/Gf2BasisXorPinLaw", "word", "([JI)J"⟩ : MethodName) (head1 (Jvm.Cond.code (⟨"com/example/runs_to_nets/runstonets/core/Gf2BasisXorPinLaw", "word", "([JI)J"⟩ : MethodName) method_3_code 2 (some .long) :: ws) ({ frames := 0, cells := 0, slots := 0, locals := 0 } : Room)) (fun aa_ U_ => aa_ = #[(.ref a), (.int (1 : Int32))] ∧ Z.Warmed39 U_.vm ∧ U_.heap = h0) (fun _ _ _ _ _ => True) (fun _ U_ o_ V_ => ∃ v_ L_, o_ = .returned v_ ∧ QW31 Z a kc_a t0 t1 t2 h0 n0 v_ V_.heap L_ ∧ FrameEnd U_ o_ V_ L_ ({ frames := 0, cells := 0, slots := 0, locals := 0 } : Room).cells ({ frames := 0, cells := 0, slots := 0, locals := 0 } : Room).slots) := by
  refine MetFree.of_bodySF (plainFor_of_name pnW31) hisR ?_
  intro p e s m args below meth c s₁ Bd hml0 hP hK
  obtain ⟨rfl, hZ, hh⟩ := hP
  have hx := Bd.exec
  have hby := Bd.bytes
  have hml : c.maxLocals = 2 := hml0
  have hown : s.vm.findClass "com/example/runs_to_nets/runstonets/core/Gf2BasisXorPinLaw" = some m.cls := findClass_of_methodNamed Bd.named
  have hnm := (name_of_methodNamed Bd.named Bd.method).1
  have hlk : meth.locks = false := BodyLoose.notSynchronized Bd
  have hret : meth.sig.returnType = (some .long) := Bd.returns
  have X0 : Stand p l e ({ frames := 0, cells := 0, slots := 0, locals := 0 } : Room) s m #[(.ref a), (.int (1 : Int32))] below meth c s₁ [] 0 0 := Stand.of_body Bd
  have e0 : s₁.heap = h0 := by rw [← hh, Bd.state]; rfl
  have N0 := Fr.nil n0
  show Go p e below s ({ frames := 0, cells := 0, slots := 0, locals := 0 } : Room).cells ({ frames := 0, cells := 0, slots := 0, locals := 0 } : Room).slots (QW31 Z a kc_a t0 t1 t2 h0 n0) (s₁.setTop (entryFrame m #[(.ref a), (.int (1 : Int32))] 2))
  rw [efW31]
  refine Go.by (fun _ kont => XS.iloadN X0.here hx rfl (hb hby dW31_0) rfl (XS.aloadN X0.here hx rfl (hb hby dW31_1) rfl rfl kont)) ?_
  show Go _ _ _ _ _ _ _ (s₁.setTop (mkF m 2 #[.val (.ref a), .val (.int (1 : Int32))] [(.ref a), (.int (1 : Int32))]))
  obtain ⟨cl_q101, Ar_q101, q1_q101, S_q101, N_q101, H_q101, G_q101⟩ := id V0_a
  refine Go.by (X0.arraylength hx (by first | exact Ar_q101.1 | (rw [e0]; exact Ar_q101.1)) (State.isArrayOf_alike hZ.alike Ar_q101.2.1) (g := (mkF m 2 #[.val (.ref a), .val (.int (1 : Int32))] [(.ref a), (.int (1 : Int32))])) rfl rfl (hb hby dW31_2)) ?_
  rw [len_of S_q101 N_q101]
  show Go _ _ _ _ _ _ _ (s₁.setTop (mkF m 3 #[.val (.ref a), .val (.int (1 : Int32))] [(.int (3 : Int32)), (.int (1 : Int32))]))
  refine Go.by (fun _ kont => XS.icmpNo X0.here hx rfl (hb hby dW31_3) rfl (by decide) kont) ?_
  show Go _ _ _ _ _ _ _ (s₁.setTop (mkF m 6 #[.val (.ref a), .val (.int (1 : Int32))] []))
  refine Go.by (fun _ kont => XS.aloadN X0.here hx rfl (hb hby dW31_6) rfl rfl (XS.iloadN X0.here hx rfl (hb hby dW31_7) rfl kont)) ?_
  show Go _ _ _ _ _ _ _ (s₁.setTop (mkF m 8 #[.val (.ref a), .val (.int (1 : Int32))] [(.int (1 : Int32)), (.ref a)]))
  obtain ⟨cl_q102, Ar_q102, q1_q102, S_q102, N_q102, H_q102, G_q102⟩ := id V0_a
  have hin_q102 : ¬ ((1 : Int32) < 0 ∨ cl_q102.slots.size ≤ ((1 : Int32)).toNatClampNeg) := inb_of S_q102 ⟨by decide, by decide⟩
  have hat_q102 : cl_q102.slots[((1 : Int32)).toNatClampNeg]? = some (.long t1) := Has.at H_q102 hin_q102 rfl
  refine Go.by (X0.laload hx (j := (1 : Int32)) (v := (.long t1)) (by first | exact Ar_q102.1 | (rw [e0]; exact Ar_q102.1)) (State.isArrayOf_alike hZ.alike Ar_q102.2.1) Ar_q102.2.2 hin_q102 hat_q102 (g := (mkF m 8 #[.val (.ref a), .val (.int (1 : Int32))] [(.int (1 : Int32)), (.ref a)])) rfl rfl (hb hby dW31_8)) ?_
  show Go _ _ _ _ _ _ _ (s₁.setTop (mkF m 9 #[.val (.ref a), .val (.int (1 : Int32))] [(.long t1)]))
  refine Go.by (fun _ kont => XS.goto X0.here hx rfl (pc0 := 9) (pc' := 13) rfl (hb hby dW31_9) (by decide) (by decide) kont) ?_
  show Go _ _ _ _ _ _ _ (s₁.setTop (mkF m 13 #[.val (.ref a), .val (.int (1 : Int32))] [(.long t1)]))
  refine Go.retJ X0 hx hret hlk (hb hby dW31_13) ?_ (by decide) (by decide)
  show QW31 Z a kc_a t0 t1 t2 h0 n0 (some (.long t1)) s₁.heap _
  rw [e0]
  exact ⟨rfl, N0, rfl⟩

theorem dW32_0 : decode method_3_code 0 = .ok (.iload_n 1, 1) := by decide +kernel
theorem dW32_1 : decode method_3_code 1 = .ok (.aload_n 0, 1) := by decide +kernel
theorem dW32_2 : decode method_3_code 2 = .ok (.arraylength, 1) := by decide +kernel
theorem dW32_3 : decode method_3_code 3 = .ok (.if_icmp .ge 9, 3) := by decide +kernel
theorem dW32_6 : decode method_3_code 6 = .ok (.aload_n 0, 1) := by decide +kernel
theorem dW32_7 : decode method_3_code 7 = .ok (.iload_n 1, 1) := by decide +kernel
theorem dW32_8 : decode method_3_code 8 = .ok (.laload, 1) := by decide +kernel
theorem dW32_9 : decode method_3_code 9 = .ok (.goto 4, 3) := by decide +kernel
theorem dW32_13 : decode method_3_code 13 = .ok (.lreturn, 1) := by decide +kernel
theorem pnW32 : plainName "com/example/runs_to_nets/runstonets/core/Gf2BasisXorPinLaw" = true := by first | (simp [plainName, overriddenIn]; done) | decide +kernel
theorem efW32 (m : MethodId) (a : Addr) : entryFrame m #[(.ref a), (.int (2 : Int32))] 2 = mkF m 0 #[.val (.ref a), .val (.int (2 : Int32))] [] := by first | (simp [entryFrame, mkF, argsToLocals, Value.category]; done) | rfl
def QW32 (Z : State) (a : Addr) (kc_a : ClassId) (t0 : Int64) (t1 : Int64) (t2 : Int64) (h0 : Heap) (n0 : Nat) (v : Option Value) (h : Heap) (L : List Loc) : Prop := (v = some (.long t2) ∧ Fr n0 L ∧ h = h0)
set_option maxRecDepth 65536 in
set_option maxHeartbeats 40000000 in
theorem rmW32 (l : Launch) (Z : State) (a0 : Array Value) (hw : ∀ d ∈ tables_1, d.before a0 Z = true) (ws : List Jvm.Cond) (a : Addr) (kc_a : ClassId) (t0 : Int64) (t1 : Int64) (t2 : Int64) (h0 : Heap) (n0 : Nat) (Z0 : n0 ≤ h0.size) (V0_a : Arv Z h0 a kc_a .long (3 : Int32) [(.long t0), (.long t1), (.long t2)] (.long (0 : Int64))) :
    MetFree l (⟨"com/example/runs_to_nets/runstonets/core/Gf2BasisXorPinLaw", "word", "([JI)J"⟩ : MethodName) (head1 (Jvm.Cond.code (⟨"com/example/runs_to_nets/runstonets/core/Gf2BasisXorPinLaw", "word", "([JI)J"⟩ : MethodName) method_3_code 2 (some .long) :: ws) ({ frames := 0, cells := 0, slots := 0, locals := 0 } : Room)) (fun aa_ U_ => aa_ = #[(.ref a), (.int (2 : Int32))] ∧ Z.Warmed39 U_.vm ∧ U_.heap = h0) (fun _ _ _ _ _ => True) (fun _ U_ o_ V_ => ∃ v_ L_, o_ = .returned v_ ∧ QW32 Z a kc_a t0 t1 t2 h0 n0 v_ V_.heap L_ ∧ FrameEnd U_ o_ V_ L_ ({ frames := 0, cells := 0, slots := 0, locals := 0 } : Room).cells ({ frames := 0, cells := 0, slots := 0, locals := 0 } : Room).slots) := by
  refine MetFree.of_bodySF (plainFor_of_name pnW32) hisR ?_
  intro p e s m args below meth c s₁ Bd hml0 hP hK
  obtain ⟨rfl, hZ, hh⟩ := hP
  have hx := Bd.exec
  have hby := Bd.bytes
  have hml : c.maxLocals = 2 := hml0
  have hown : s.vm.findClass "com/example/runs_to_nets/runstonets/core/Gf2BasisXorPinLaw" = some m.cls := findClass_of_methodNamed Bd.named
  have hnm := (name_of_methodNamed Bd.named Bd.method).1
  have hlk : meth.locks = false := BodyLoose.notSynchronized Bd
  have hret : meth.sig.returnType = (some .long) := Bd.returns
  have X0 : Stand p l e ({ frames := 0, cells := 0, slots := 0, locals := 0 } : Room) s m #[(.ref a), (.int (2 : Int32))] below meth c s₁ [] 0 0 := Stand.of_body Bd
  have e0 : s₁.heap = h0 := by rw [← hh, Bd.state]; rfl
  have N0 := Fr.nil n0
  show Go p e below s ({ frames := 0, cells := 0, slots := 0, locals := 0 } : Room).cells ({ frames := 0, cells := 0, slots := 0, locals := 0 } : Room).slots (QW32 Z a kc_a t0 t1 t2 h0 n0) (s₁.setTop (entryFrame m #[(.ref a), (.int (2 : Int32))] 2))
  rw [efW32]
  refine Go.by (fun _ kont => XS.iloadN X0.here hx rfl (hb hby dW32_0) rfl (XS.aloadN X0.here hx rfl (hb hby dW32_1) rfl rfl kont)) ?_
  show Go _ _ _ _ _ _ _ (s₁.setTop (mkF m 2 #[.val (.ref a), .val (.int (2 : Int32))] [(.ref a), (.int (2 : Int32))]))
  obtain ⟨cl_q101, Ar_q101, q1_q101, S_q101, N_q101, H_q101, G_q101⟩ := id V0_a
  refine Go.by (X0.arraylength hx (by first | exact Ar_q101.1 | (rw [e0]; exact Ar_q101.1)) (State.isArrayOf_alike hZ.alike Ar_q101.2.1) (g := (mkF m 2 #[.val (.ref a), .val (.int (2 : Int32))] [(.ref a), (.int (2 : Int32))])) rfl rfl (hb hby dW32_2)) ?_
  rw [len_of S_q101 N_q101]
  show Go _ _ _ _ _ _ _ (s₁.setTop (mkF m 3 #[.val (.ref a), .val (.int (2 : Int32))] [(.int (3 : Int32)), (.int (2 : Int32))]))
  refine Go.by (fun _ kont => XS.icmpNo X0.here hx rfl (hb hby dW32_3) rfl (by decide) kont) ?_
  show Go _ _ _ _ _ _ _ (s₁.setTop (mkF m 6 #[.val (.ref a), .val (.int (2 : Int32))] []))
  refine Go.by (fun _ kont => XS.aloadN X0.here hx rfl (hb hby dW32_6) rfl rfl (XS.iloadN X0.here hx rfl (hb hby dW32_7) rfl kont)) ?_
  show Go _ _ _ _ _ _ _ (s₁.setTop (mkF m 8 #[.val (.ref a), .val (.int (2 : Int32))] [(.int (2 : Int32)), (.ref a)]))
  obtain ⟨cl_q102, Ar_q102, q1_q102, S_q102, N_q102, H_q102, G_q102⟩ := id V0_a
  have hin_q102 : ¬ ((2 : Int32) < 0 ∨ cl_q102.slots.size ≤ ((2 : Int32)).toNatClampNeg) := inb_of S_q102 ⟨by decide, by decide⟩
  have hat_q102 : cl_q102.slots[((2 : Int32)).toNatClampNeg]? = some (.long t2) := Has.at H_q102 hin_q102 rfl
  refine Go.by (X0.laload hx (j := (2 : Int32)) (v := (.long t2)) (by first | exact Ar_q102.1 | (rw [e0]; exact Ar_q102.1)) (State.isArrayOf_alike hZ.alike Ar_q102.2.1) Ar_q102.2.2 hin_q102 hat_q102 (g := (mkF m 8 #[.val (.ref a), .val (.int (2 : Int32))] [(.int (2 : Int32)), (.ref a)])) rfl rfl (hb hby dW32_8)) ?_
  show Go _ _ _ _ _ _ _ (s₁.setTop (mkF m 9 #[.val (.ref a), .val (.int (2 : Int32))] [(.long t2)]))
  refine Go.by (fun _ kont => XS.goto X0.here hx rfl (pc0 := 9) (pc' := 13) rfl (hb hby dW32_9) (by decide) (by decide) kont) ?_
  show Go _ _ _ _ _ _ _ (s₁.setTop (mkF m 13 #[.val (.ref a), .val (.int (2 : Int32))] [(.long t2)]))
  refine Go.retJ X0 hx hret hlk (hb hby dW32_13) ?_ (by decide) (by decide)
  show QW32 Z a kc_a t0 t1 t2 h0 n0 (some (.long t2)) s₁.heap _
  rw [e0]
  exact ⟨rfl, N0, rfl⟩

theorem pd0_0 : parseMethodDescriptor "([J[J)V" = some ⟨[(.array .long), (.array .long)], none⟩ := by decide +kernel
theorem pd0_1 : parseMethodDescriptor "([JI)J" = some ⟨[(.array .long), .int], some .long⟩ := by decide +kernel
theorem pn0 : plainName "com/example/runs_to_nets/runstonets/core/Gf2BasisXorPinLaw" = true := by first | (simp [plainName, overriddenIn]; done) | decide +kernel
theorem ef0 (m : MethodId) (k0 : Int32) (t0 : Int64) (t1 : Int64) (t2 : Int64) (s0 : Int64) (s1 : Int64) : entryFrame m #[(.int k0), (.long t0), (.long t1), (.long t2), (.long s0), (.long s1)] maxLocals = mkF m 0 #[.val (.int k0), .val (.long t0), .second, .val (.long t1), .second, .val (.long t2), .second, .val (.long s0), .second, .val (.long s1), .second, .unset, .unset, .unset, .unset, .unset, .unset, .unset, .unset, .unset, .unset, .unset, .unset, .unset, .unset, .unset, .unset, .unset, .unset] [] := by first | (simp [entryFrame, mkF, argsToLocals, Value.category, maxLocals]; done) | rfl
def Q0 (Z : State) (h0 : Heap) (n0 : Nat) (v : Option Value) (h : Heap) (L : List Loc) : Prop := v = some (.int 1) ∧ Fr n0 L
set_option maxRecDepth 65536 in
set_option maxHeartbeats 40000000 in
theorem rm0 (l : Launch) (Z : State) (a0 : Array Value) (hw : ∀ d ∈ tables_1, d.before a0 Z = true) (ws : List Jvm.Cond) (k0 : Int32) (t0 : Int64) (t1 : Int64) (t2 : Int64) (s0 : Int64) (s1 : Int64) (h0 : Heap) (n0 : Nat) (Z0 : n0 ≤ h0.size) :
    MetFree l x (head1 (Jvm.Cond.code x code maxLocals ret :: ws) room_1) (fun aa_ U_ => aa_ = #[(.int k0), (.long t0), (.long t1), (.long t2), (.long s0), (.long s1)] ∧ Z.Warmed39 U_.vm ∧ U_.heap = h0) (fun _ _ _ _ _ => True) (fun _ U_ o_ V_ => ∃ v_ L_, o_ = .returned v_ ∧ Q0 Z h0 n0 v_ V_.heap L_ ∧ FrameEnd U_ o_ V_ L_ 16 128) := by
  refine MetFree.of_bodySF (plainFor_of_name pn0) hisR ?_
  intro p e s m args below meth c s₁ Bd hml0 hP hK
  obtain ⟨rfl, hZ, hh⟩ := hP
  have hx := Bd.exec
  have hby := Bd.bytes
  have hml : c.maxLocals = 29 := hml0
  have hown : s.vm.findClass "com/example/runs_to_nets/runstonets/core/Gf2BasisXorPinLaw" = some m.cls := findClass_of_methodNamed Bd.named
  have hnm := (name_of_methodNamed Bd.named Bd.method).1
  have hlk : meth.locks = false := BodyLoose.notSynchronized Bd
  have hret : meth.sig.returnType = (some .boolean) := Bd.returns
  have X0 : Stand p l e room_1 s m #[(.int k0), (.long t0), (.long t1), (.long t2), (.long s0), (.long s1)] below meth c s₁ [] 0 0 := Stand.of_body Bd
  have e0 : s₁.heap = h0 := by rw [← hh, Bd.state]; rfl
  have N0 := Fr.nil n0
  show Go p e below s 16 128 (Q0 Z h0 n0) (s₁.setTop (entryFrame m #[(.int k0), (.long t0), (.long t1), (.long t2), (.long s0), (.long s1)] maxLocals))
  rw [ef0]
  refine Go.by (fun _ kont => XS.iloadN X0.here hx rfl (hb hby at_0) rfl (XS.iconst X0.here hx rfl (hb hby at_1) (XS.iand X0.here hx rfl (hb hby at_2) rfl (XS.istore X0.here hx rfl (hb hby at_3) rfl (l' := #[.val (.int k0), .val (.long t0), .second, .val (.long t1), .second, .val (.long t2), .second, .val (.long s0), .second, .val (.long s1), .second, .val (.int (k0 &&& (3 : Int32))), .unset, .unset, .unset, .unset, .unset, .unset, .unset, .unset, .unset, .unset, .unset, .unset, .unset, .unset, .unset, .unset, .unset]) rfl kont)))) ?_
  show Go _ _ _ _ _ _ _ (s₁.setTop (mkF m 5 #[.val (.int k0), .val (.long t0), .second, .val (.long t1), .second, .val (.long t2), .second, .val (.long s0), .second, .val (.long s1), .second, .val (.int (k0 &&& (3 : Int32))), .unset, .unset, .unset, .unset, .unset, .unset, .unset, .unset, .unset, .unset, .unset, .unset, .unset, .unset, .unset, .unset, .unset] []))
  have C_nn := own_m3 k0
  generalize hg_nn : (k0 &&& (3 : Int32)) = nn at C_nn ⊢
  rcases C_nn with rfl | rfl | rfl | rfl
  · show Go _ _ _ _ _ _ _ (s₁.setTop (mkF m 5 #[.val (.int k0), .val (.long t0), .second, .val (.long t1), .second, .val (.long t2), .second, .val (.long s0), .second, .val (.long s1), .second, .val (.int (0 : Int32)), .unset, .unset, .unset, .unset, .unset, .unset, .unset, .unset, .unset, .unset, .unset, .unset, .unset, .unset, .unset, .unset, .unset] []))
    refine Go.by (fun _ kont => XS.iloadN X0.here hx rfl (hb hby at_5) rfl (XS.iconst X0.here hx rfl (hb hby at_6) (XS.iand X0.here hx rfl (hb hby at_7) rfl kont))) ?_
    show Go _ _ _ _ _ _ _ (s₁.setTop (mkF m 8 #[.val (.int k0), .val (.long t0), .second, .val (.long t1), .second, .val (.long t2), .second, .val (.long s0), .second, .val (.long s1), .second, .val (.int (0 : Int32)), .unset, .unset, .unset, .unset, .unset, .unset, .unset, .unset, .unset, .unset, .unset, .unset, .unset, .unset, .unset, .unset, .unset] [(.int (k0 &&& (4 : Int32)))]))
    by_cases hc101 : (k0 &&& (4 : Int32)) = (0 : Int32)
    · refine Go.by (fun _ kont => XS.ifYes X0.here hx rfl (pc0 := 8) (pc' := 15) rfl (hb hby at_8) rfl ((if0 _ _).trans (teq hc101).1) (by decide) (by decide) kont) ?_
      show Go _ _ _ _ _ _ _ (s₁.setTop (mkF m 15 #[.val (.int k0), .val (.long t0), .second, .val (.long t1), .second, .val (.long t2), .second, .val (.long s0), .second, .val (.long s1), .second, .val (.int (0 : Int32)), .unset, .unset, .unset, .unset, .unset, .unset, .unset, .unset, .unset, .unset, .unset, .unset, .unset, .unset, .unset, .unset, .unset] []))
      refine Go.by (fun _ kont => XS.iconst X0.here hx rfl (hb hby at_15) (XS.istore X0.here hx rfl (hb hby at_16) rfl (l' := #[.val (.int k0), .val (.long t0), .second, .val (.long t1), .second, .val (.long t2), .second, .val (.long s0), .second, .val (.long s1), .second, .val (.int (0 : Int32)), .val (.int (0 : Int32)), .unset, .unset, .unset, .unset, .unset, .unset, .unset, .unset, .unset, .unset, .unset, .unset, .unset, .unset, .unset, .unset]) rfl (XS.lloadN X0.here hx rfl (hb hby at_18) rfl (XS.lload X0.here hx rfl (hb hby at_19) rfl (XS.lsub X0.here hx rfl (hb hby at_21) rfl (XS.lstore X0.here hx rfl (hb hby at_22) rfl (l' := #[.val (.int k0), .val (.long t0), .second, .val (.long t1), .second, .val (.long t2), .second, .val (.long s0), .second, .val (.long s1), .second, .val (.int (0 : Int32)), .val (.int (0 : Int32)), .val (.long (t0 - s1)), .second, .unset, .unset, .unset, .unset, .unset, .unset, .unset, .unset, .unset, .unset, .unset, .unset, .unset, .unset]) rfl kont)))))) ?_
      show Go _ _ _ _ _ _ _ (s₁.setTop (mkF m 24 #[.val (.int k0), .val (.long t0), .second, .val (.long t1), .second, .val (.long t2), .second, .val (.long s0), .second, .val (.long s1), .second, .val (.int (0 : Int32)), .val (.int (0 : Int32)), .val (.long (t0 - s1)), .second, .unset, .unset, .unset, .unset, .unset, .unset, .unset, .unset, .unset, .unset, .unset, .unset, .unset, .unset] []))
      refine Go.by (fun _ kont => XS.iload X0.here hx rfl (hb hby at_24) rfl kont) ?_
      show Go _ _ _ _ _ _ _ (s₁.setTop (mkF m 26 #[.val (.int k0), .val (.long t0), .second, .val (.long t1), .second, .val (.long t2), .second, .val (.long s0), .second, .val (.long s1), .second, .val (.int (0 : Int32)), .val (.int (0 : Int32)), .val (.long (t0 - s1)), .second, .unset, .unset, .unset, .unset, .unset, .unset, .unset, .unset, .unset, .unset, .unset, .unset, .unset, .unset] [(.int (0 : Int32))]))
      obtain ⟨T102, h102, k102, X102, e102, X_102, A102, st102⟩ := newP X0 hx hZ (hw _ (List.mem_of_getElem? (i := 0) rfl)) e0 (g := (mkF m 26 #[.val (.int k0), .val (.long t0), .second, .val (.long t1), .second, .val (.long t2), .second, .val (.long s0), .second, .val (.long s1), .second, .val (.int (0 : Int32)), .val (.int (0 : Int32)), .val (.long (t0 - s1)), .second, .unset, .unset, .unset, .unset, .unset, .unset, .unset, .unset, .unset, .unset, .unset, .unset, .unset, .unset] [(.int (0 : Int32))])) rfl (hb hby at_26) rfl (by decide) (cap := 0) (by decide) (by decide) (by decide) (by decide)
      obtain ⟨b102, g102⟩ : ∃ z, z = h0.size := ⟨_, rfl⟩
      rw [← g102] at A102 st102
      have ge_b102 : n0 ≤ b102 := Nat.le_trans Z0 (Nat.le_of_eq g102.symm)
      have sz_b102 : h0.size ≤ b102 := Nat.le_trans (Keep.refl h0 []).1 (Nat.le_of_eq g102.symm)
      have Z103 := Nat.le_trans Z0 X_102.1
      have K103 : Keep h0 h102 [] := (Keep.refl h0 []).ext X_102
      have V102 : Arv Z h102 b102 k102 .long (0 : Int32) [] (.long (0 : Int64)) := (Arv.new A102 (by decide)).pad (pad_rep [] (.long (0 : Int64)) 0)
      refine Go.by st102 ?_
      show Go _ _ _ _ _ _ _ (T102.setTop (mkF m 28 #[.val (.int k0), .val (.long t0), .second, .val (.long t1), .second, .val (.long t2), .second, .val (.long s0), .second, .val (.long s1), .second, .val (.int (0 : Int32)), .val (.int (0 : Int32)), .val (.long (t0 - s1)), .second, .unset, .unset, .unset, .unset, .unset, .unset, .unset, .unset, .unset, .unset, .unset, .unset, .unset, .unset] [(.ref b102)]))
      refine Go.by (fun _ kont => XS.astore X102.here hx rfl (hb hby at_28) rfl rfl (l' := #[.val (.int k0), .val (.long t0), .second, .val (.long t1), .second, .val (.long t2), .second, .val (.long s0), .second, .val (.long s1), .second, .val (.int (0 : Int32)), .val (.int (0 : Int32)), .val (.long (t0 - s1)), .second, .val (.ref b102), .unset, .unset, .unset, .unset, .unset, .unset, .unset, .unset, .unset, .unset, .unset, .unset, .unset]) rfl (XS.iload X102.here hx rfl (hb hby at_30) rfl kont)) ?_
      show Go _ _ _ _ _ _ _ (T102.setTop (mkF m 32 #[.val (.int k0), .val (.long t0), .second, .val (.long t1), .second, .val (.long t2), .second, .val (.long s0), .second, .val (.long s1), .second, .val (.int (0 : Int32)), .val (.int (0 : Int32)), .val (.long (t0 - s1)), .second, .val (.ref b102), .unset, .unset, .unset, .unset, .unset, .unset, .unset, .unset, .unset, .unset, .unset, .unset, .unset] [(.int (0 : Int32))]))
      obtain ⟨T104, h104, k104, X104, e104, X_104, A104, st104⟩ := newP X102 hx hZ (hw _ (List.mem_of_getElem? (i := 0) rfl)) e102 (g := (mkF m 32 #[.val (.int k0), .val (.long t0), .second, .val (.long t1), .second, .val (.long t2), .second, .val (.long s0), .second, .val (.long s1), .second, .val (.int (0 : Int32)), .val (.int (0 : Int32)), .val (.long (t0 - s1)), .second, .val (.ref b102), .unset, .unset, .unset, .unset, .unset, .unset, .unset, .unset, .unset, .unset, .unset, .unset, .unset] [(.int (0 : Int32))])) rfl (hb hby at_32) rfl (by decide) (cap := 0) (by decide) (by decide) (by decide) (by decide)
      obtain ⟨b104, g104⟩ : ∃ z, z = h102.size := ⟨_, rfl⟩
      rw [← g104] at A104 st104
      have ne_b102_b104 : b102 ≠ b104 := Nat.ne_of_lt (Nat.lt_of_lt_of_le V102.lt (Nat.le_of_eq g104.symm))
      have ge_b104 : n0 ≤ b104 := Nat.le_trans Z103 (Nat.le_of_eq g104.symm)
      have sz_b104 : h0.size ≤ b104 := Nat.le_trans K103.1 (Nat.le_of_eq g104.symm)
      have V105_b102 := V102.ext X_104
      have Z105 := Nat.le_trans Z103 X_104.1
      have K105 : Keep h0 h104 [] := K103.ext X_104
      have V104 : Arv Z h104 b104 k104 .long (0 : Int32) [] (.long (0 : Int64)) := (Arv.new A104 (by decide)).pad (pad_rep [] (.long (0 : Int64)) 0)
      refine Go.by st104 ?_
      show Go _ _ _ _ _ _ _ (T104.setTop (mkF m 34 #[.val (.int k0), .val (.long t0), .second, .val (.long t1), .second, .val (.long t2), .second, .val (.long s0), .second, .val (.long s1), .second, .val (.int (0 : Int32)), .val (.int (0 : Int32)), .val (.long (t0 - s1)), .second, .val (.ref b102), .unset, .unset, .unset, .unset, .unset, .unset, .unset, .unset, .unset, .unset, .unset, .unset, .unset] [(.ref b104)]))
      refine Go.by (fun _ kont => XS.astore X104.here hx rfl (hb hby at_34) rfl rfl (l' := #[.val (.int k0), .val (.long t0), .second, .val (.long t1), .second, .val (.long t2), .second, .val (.long s0), .second, .val (.long s1), .second, .val (.int (0 : Int32)), .val (.int (0 : Int32)), .val (.long (t0 - s1)), .second, .val (.ref b102), .val (.ref b104), .unset, .unset, .unset, .unset, .unset, .unset, .unset, .unset, .unset, .unset, .unset, .unset]) rfl (XS.iload X104.here hx rfl (hb hby at_36) rfl kont)) ?_
      show Go _ _ _ _ _ _ _ (T104.setTop (mkF m 38 #[.val (.int k0), .val (.long t0), .second, .val (.long t1), .second, .val (.long t2), .second, .val (.long s0), .second, .val (.long s1), .second, .val (.int (0 : Int32)), .val (.int (0 : Int32)), .val (.long (t0 - s1)), .second, .val (.ref b102), .val (.ref b104), .unset, .unset, .unset, .unset, .unset, .unset, .unset, .unset, .unset, .unset, .unset, .unset] [(.int (0 : Int32))]))
      refine Go.by (fun _ kont => XS.ifYes X104.here hx rfl (pc0 := 38) (pc' := 52) rfl (hb hby at_38) rfl (by decide) (by decide) (by decide) kont) ?_
      show Go _ _ _ _ _ _ _ (T104.setTop (mkF m 52 #[.val (.int k0), .val (.long t0), .second, .val (.long t1), .second, .val (.long t2), .second, .val (.long s0), .second, .val (.long s1), .second, .val (.int (0 : Int32)), .val (.int (0 : Int32)), .val (.long (t0 - s1)), .second, .val (.ref b102), .val (.ref b104), .unset, .unset, .unset, .unset, .unset, .unset, .unset, .unset, .unset, .unset, .unset, .unset] []))
      refine Go.by (fun _ kont => XS.iload X104.here hx rfl (hb hby at_52) rfl (XS.iconst X104.here hx rfl (hb hby at_54) kont)) ?_
      show Go _ _ _ _ _ _ _ (T104.setTop (mkF m 55 #[.val (.int k0), .val (.long t0), .second, .val (.long t1), .second, .val (.long t2), .second, .val (.long s0), .second, .val (.long s1), .second, .val (.int (0 : Int32)), .val (.int (0 : Int32)), .val (.long (t0 - s1)), .second, .val (.ref b102), .val (.ref b104), .unset, .unset, .unset, .unset, .unset, .unset, .unset, .unset, .unset, .unset, .unset, .unset] [(.int (1 : Int32)), (.int (0 : Int32))]))
      refine Go.by (fun _ kont => XS.icmpYes X104.here hx rfl (pc0 := 55) (pc' := 69) rfl (hb hby at_55) rfl (by decide) (by decide) (by decide) kont) ?_
      show Go _ _ _ _ _ _ _ (T104.setTop (mkF m 69 #[.val (.int k0), .val (.long t0), .second, .val (.long t1), .second, .val (.long t2), .second, .val (.long s0), .second, .val (.long s1), .second, .val (.int (0 : Int32)), .val (.int (0 : Int32)), .val (.long (t0 - s1)), .second, .val (.ref b102), .val (.ref b104), .unset, .unset, .unset, .unset, .unset, .unset, .unset, .unset, .unset, .unset, .unset, .unset] []))
      refine Go.by (fun _ kont => XS.iload X104.here hx rfl (hb hby at_69) rfl (XS.iconst X104.here hx rfl (hb hby at_71) kont)) ?_
      show Go _ _ _ _ _ _ _ (T104.setTop (mkF m 72 #[.val (.int k0), .val (.long t0), .second, .val (.long t1), .second, .val (.long t2), .second, .val (.long s0), .second, .val (.long s1), .second, .val (.int (0 : Int32)), .val (.int (0 : Int32)), .val (.long (t0 - s1)), .second, .val (.ref b102), .val (.ref b104), .unset, .unset, .unset, .unset, .unset, .unset, .unset, .unset, .unset, .unset, .unset, .unset] [(.int (2 : Int32)), (.int (0 : Int32))]))
      refine Go.by (fun _ kont => XS.icmpYes X104.here hx rfl (pc0 := 72) (pc' := 87) rfl (hb hby at_72) rfl (by decide) (by decide) (by decide) kont) ?_
      show Go _ _ _ _ _ _ _ (T104.setTop (mkF m 87 #[.val (.int k0), .val (.long t0), .second, .val (.long t1), .second, .val (.long t2), .second, .val (.long s0), .second, .val (.long s1), .second, .val (.int (0 : Int32)), .val (.int (0 : Int32)), .val (.long (t0 - s1)), .second, .val (.ref b102), .val (.ref b104), .unset, .unset, .unset, .unset, .unset, .unset, .unset, .unset, .unset, .unset, .unset, .unset] []))
      refine Go.by (fun _ kont => XS.iload X104.here hx rfl (hb hby at_87) rfl kont) ?_
      show Go _ _ _ _ _ _ _ (T104.setTop (mkF m 89 #[.val (.int k0), .val (.long t0), .second, .val (.long t1), .second, .val (.long t2), .second, .val (.long s0), .second, .val (.long s1), .second, .val (.int (0 : Int32)), .val (.int (0 : Int32)), .val (.long (t0 - s1)), .second, .val (.ref b102), .val (.ref b104), .unset, .unset, .unset, .unset, .unset, .unset, .unset, .unset, .unset, .unset, .unset, .unset] [(.int (0 : Int32))]))
      refine Go.by (fun _ kont => XS.ifYes X104.here hx rfl (pc0 := 89) (pc' := 146) rfl (hb hby at_89) rfl (by decide) (by decide) (by decide) kont) ?_
      show Go _ _ _ _ _ _ _ (T104.setTop (mkF m 146 #[.val (.int k0), .val (.long t0), .second, .val (.long t1), .second, .val (.long t2), .second, .val (.long s0), .second, .val (.long s1), .second, .val (.int (0 : Int32)), .val (.int (0 : Int32)), .val (.long (t0 - s1)), .second, .val (.ref b102), .val (.ref b104), .unset, .unset, .unset, .unset, .unset, .unset, .unset, .unset, .unset, .unset, .unset, .unset] []))
      refine Go.by (fun _ kont => XS.aload X104.here hx rfl (hb hby at_146) rfl rfl (XS.aload X104.here hx rfl (hb hby at_148) rfl rfl kont)) ?_
      show Go _ _ _ _ _ _ _ (T104.setTop (mkF m 150 #[.val (.int k0), .val (.long t0), .second, .val (.long t1), .second, .val (.long t2), .second, .val (.long s0), .second, .val (.long s1), .second, .val (.int (0 : Int32)), .val (.int (0 : Int32)), .val (.long (t0 - s1)), .second, .val (.ref b102), .val (.ref b104), .unset, .unset, .unset, .unset, .unset, .unset, .unset, .unset, .unset, .unset, .unset, .unset] [(.ref b104), (.ref b102)]))
      obtain ⟨_, _, ⟨T106, L106, k106, n106⟩, -, X106, ⟨Lc106, hQ106, l106, y106, z106⟩, st106⟩ := Jvm.LawKit.callS X104 hx (y := (⟨"com/example/runs_to_nets/runstonets/core/Gf2Basis", "xor", "([J[J)V"⟩ : MethodName)) hown (mvT hZ (hw _ (List.mem_of_getElem? (i := 1) rfl))) (mvT hZ (hw _ (List.mem_of_getElem? (i := 2) rfl))) (mvT hZ (hw _ (List.mem_of_getElem? (i := 3) rfl))) (mvT hZ (hw _ (List.mem_of_getElem? (i := 4) rfl))) (by decide) (backOf (W := 0) (rmXB0 l Z a0 hw [] b102 b104 k102 k104 h104 n0 Z105 V105_b102 V104 ne_b102_b104) hZ (hw _ (List.mem_of_getElem? (i := 4) rfl)) (hw _ (List.mem_of_getElem? (i := 3) rfl)) (by decide) (by decide)) (g := (mkF m 150 #[.val (.int k0), .val (.long t0), .second, .val (.long t1), .second, .val (.long t2), .second, .val (.long s0), .second, .val (.long s1), .second, .val (.int (0 : Int32)), .val (.int (0 : Int32)), .val (.long (t0 - s1)), .second, .val (.ref b102), .val (.ref b104), .unset, .unset, .unset, .unset, .unset, .unset, .unset, .unset, .unset, .unset, .unset, .unset] [(.ref b104), (.ref b102)])) rfl (by rw [hml]; rfl) (argsL := [(.ref b102), (.ref b104)]) (rest := []) (lenOf pd0_0 rfl) rfl (by show 2 * 0 + _ ≤ _; exact Nat.le_of_eq rfl) (hb hby at_150) (fun _ _ => ⟨rfl, e104, (by decide : 2 + 0 ≤ _), (by decide : 0 + 0 ≤ _)⟩)
      dsimp only [Pt.U, Pt.locs, Pt.cells, Pt.slots] at X106 l106 y106 z106 st106 hQ106
      subst l106 y106 z106
      obtain ⟨rfl, N106q, eh106⟩ := hQ106
      have N106 := Fr.app N0 N106q
      refine Go.by st106 ?_
      show Go _ _ _ _ _ _ _ (T106.setTop (mkF m 153 #[.val (.int k0), .val (.long t0), .second, .val (.long t1), .second, .val (.long t2), .second, .val (.long s0), .second, .val (.long s1), .second, .val (.int (0 : Int32)), .val (.int (0 : Int32)), .val (.long (t0 - s1)), .second, .val (.ref b102), .val (.ref b104), .unset, .unset, .unset, .unset, .unset, .unset, .unset, .unset, .unset, .unset, .unset, .unset] []))
      refine Go.by (fun _ kont => XS.iload X106.here hx rfl (hb hby at_153) rfl kont) ?_
      show Go _ _ _ _ _ _ _ (T106.setTop (mkF m 155 #[.val (.int k0), .val (.long t0), .second, .val (.long t1), .second, .val (.long t2), .second, .val (.long s0), .second, .val (.long s1), .second, .val (.int (0 : Int32)), .val (.int (0 : Int32)), .val (.long (t0 - s1)), .second, .val (.ref b102), .val (.ref b104), .unset, .unset, .unset, .unset, .unset, .unset, .unset, .unset, .unset, .unset, .unset, .unset] [(.int (0 : Int32))]))
      refine Go.by (fun _ kont => XS.ifYes X106.here hx rfl (pc0 := 155) (pc' := 165) rfl (hb hby at_155) rfl (by decide) (by decide) (by decide) kont) ?_
      show Go _ _ _ _ _ _ _ (T106.setTop (mkF m 165 #[.val (.int k0), .val (.long t0), .second, .val (.long t1), .second, .val (.long t2), .second, .val (.long s0), .second, .val (.long s1), .second, .val (.int (0 : Int32)), .val (.int (0 : Int32)), .val (.long (t0 - s1)), .second, .val (.ref b102), .val (.ref b104), .unset, .unset, .unset, .unset, .unset, .unset, .unset, .unset, .unset, .unset, .unset, .unset] []))
      refine Go.by (fun _ kont => XS.lconst X106.here hx rfl (hb hby at_165) (XS.lstore X106.here hx rfl (hb hby at_166) rfl (l' := #[.val (.int k0), .val (.long t0), .second, .val (.long t1), .second, .val (.long t2), .second, .val (.long s0), .second, .val (.long s1), .second, .val (.int (0 : Int32)), .val (.int (0 : Int32)), .val (.long (t0 - s1)), .second, .val (.ref b102), .val (.ref b104), .val (.long (0 : Int64)), .second, .unset, .unset, .unset, .unset, .unset, .unset, .unset, .unset, .unset, .unset]) rfl (XS.iload X106.here hx rfl (hb hby at_168) rfl (XS.iconst X106.here hx rfl (hb hby at_170) kont)))) ?_
      show Go _ _ _ _ _ _ _ (T106.setTop (mkF m 171 #[.val (.int k0), .val (.long t0), .second, .val (.long t1), .second, .val (.long t2), .second, .val (.long s0), .second, .val (.long s1), .second, .val (.int (0 : Int32)), .val (.int (0 : Int32)), .val (.long (t0 - s1)), .second, .val (.ref b102), .val (.ref b104), .val (.long (0 : Int64)), .second, .unset, .unset, .unset, .unset, .unset, .unset, .unset, .unset, .unset, .unset] [(.int (1 : Int32)), (.int (0 : Int32))]))
      refine Go.by (fun _ kont => XS.icmpYes X106.here hx rfl (pc0 := 171) (pc' := 181) rfl (hb hby at_171) rfl (by decide) (by decide) (by decide) kont) ?_
      show Go _ _ _ _ _ _ _ (T106.setTop (mkF m 181 #[.val (.int k0), .val (.long t0), .second, .val (.long t1), .second, .val (.long t2), .second, .val (.long s0), .second, .val (.long s1), .second, .val (.int (0 : Int32)), .val (.int (0 : Int32)), .val (.long (t0 - s1)), .second, .val (.ref b102), .val (.ref b104), .val (.long (0 : Int64)), .second, .unset, .unset, .unset, .unset, .unset, .unset, .unset, .unset, .unset, .unset] []))
      refine Go.by (fun _ kont => XS.lconst X106.here hx rfl (hb hby at_181) (XS.lstore X106.here hx rfl (hb hby at_182) rfl (l' := #[.val (.int k0), .val (.long t0), .second, .val (.long t1), .second, .val (.long t2), .second, .val (.long s0), .second, .val (.long s1), .second, .val (.int (0 : Int32)), .val (.int (0 : Int32)), .val (.long (t0 - s1)), .second, .val (.ref b102), .val (.ref b104), .val (.long (0 : Int64)), .second, .val (.long (0 : Int64)), .second, .unset, .unset, .unset, .unset, .unset, .unset, .unset, .unset]) rfl (XS.iload X106.here hx rfl (hb hby at_184) rfl (XS.iconst X106.here hx rfl (hb hby at_186) kont)))) ?_
      show Go _ _ _ _ _ _ _ (T106.setTop (mkF m 187 #[.val (.int k0), .val (.long t0), .second, .val (.long t1), .second, .val (.long t2), .second, .val (.long s0), .second, .val (.long s1), .second, .val (.int (0 : Int32)), .val (.int (0 : Int32)), .val (.long (t0 - s1)), .second, .val (.ref b102), .val (.ref b104), .val (.long (0 : Int64)), .second, .val (.long (0 : Int64)), .second, .unset, .unset, .unset, .unset, .unset, .unset, .unset, .unset] [(.int (2 : Int32)), (.int (0 : Int32))]))
      refine Go.by (fun _ kont => XS.icmpYes X106.here hx rfl (pc0 := 187) (pc' := 198) rfl (hb hby at_187) rfl (by decide) (by decide) (by decide) kont) ?_
      show Go _ _ _ _ _ _ _ (T106.setTop (mkF m 198 #[.val (.int k0), .val (.long t0), .second, .val (.long t1), .second, .val (.long t2), .second, .val (.long s0), .second, .val (.long s1), .second, .val (.int (0 : Int32)), .val (.int (0 : Int32)), .val (.long (t0 - s1)), .second, .val (.ref b102), .val (.ref b104), .val (.long (0 : Int64)), .second, .val (.long (0 : Int64)), .second, .unset, .unset, .unset, .unset, .unset, .unset, .unset, .unset] []))
      refine Go.by (fun _ kont => XS.lconst X106.here hx rfl (hb hby at_198) (XS.lstore X106.here hx rfl (hb hby at_199) rfl (l' := #[.val (.int k0), .val (.long t0), .second, .val (.long t1), .second, .val (.long t2), .second, .val (.long s0), .second, .val (.long s1), .second, .val (.int (0 : Int32)), .val (.int (0 : Int32)), .val (.long (t0 - s1)), .second, .val (.ref b102), .val (.ref b104), .val (.long (0 : Int64)), .second, .val (.long (0 : Int64)), .second, .val (.long (0 : Int64)), .second, .unset, .unset, .unset, .unset, .unset, .unset]) rfl (XS.iload X106.here hx rfl (hb hby at_201) rfl kont))) ?_
      show Go _ _ _ _ _ _ _ (T106.setTop (mkF m 203 #[.val (.int k0), .val (.long t0), .second, .val (.long t1), .second, .val (.long t2), .second, .val (.long s0), .second, .val (.long s1), .second, .val (.int (0 : Int32)), .val (.int (0 : Int32)), .val (.long (t0 - s1)), .second, .val (.ref b102), .val (.ref b104), .val (.long (0 : Int64)), .second, .val (.long (0 : Int64)), .second, .val (.long (0 : Int64)), .second, .unset, .unset, .unset, .unset, .unset, .unset] [(.int (0 : Int32))]))
      refine Go.by (fun _ kont => XS.ifYes X106.here hx rfl (pc0 := 203) (pc' := 211) rfl (hb hby at_203) rfl (by decide) (by decide) (by decide) kont) ?_
      show Go _ _ _ _ _ _ _ (T106.setTop (mkF m 211 #[.val (.int k0), .val (.long t0), .second, .val (.long t1), .second, .val (.long t2), .second, .val (.long s0), .second, .val (.long s1), .second, .val (.int (0 : Int32)), .val (.int (0 : Int32)), .val (.long (t0 - s1)), .second, .val (.ref b102), .val (.ref b104), .val (.long (0 : Int64)), .second, .val (.long (0 : Int64)), .second, .val (.long (0 : Int64)), .second, .unset, .unset, .unset, .unset, .unset, .unset] []))
      refine Go.by (fun _ kont => XS.lconst X106.here hx rfl (hb hby at_211) (XS.lstore X106.here hx rfl (hb hby at_212) rfl (l' := #[.val (.int k0), .val (.long t0), .second, .val (.long t1), .second, .val (.long t2), .second, .val (.long s0), .second, .val (.long s1), .second, .val (.int (0 : Int32)), .val (.int (0 : Int32)), .val (.long (t0 - s1)), .second, .val (.ref b102), .val (.ref b104), .val (.long (0 : Int64)), .second, .val (.long (0 : Int64)), .second, .val (.long (0 : Int64)), .second, .val (.long (0 : Int64)), .second, .unset, .unset, .unset, .unset]) rfl (XS.iload X106.here hx rfl (hb hby at_214) rfl (XS.iconst X106.here hx rfl (hb hby at_216) kont)))) ?_
      show Go _ _ _ _ _ _ _ (T106.setTop (mkF m 217 #[.val (.int k0), .val (.long t0), .second, .val (.long t1), .second, .val (.long t2), .second, .val (.long s0), .second, .val (.long s1), .second, .val (.int (0 : Int32)), .val (.int (0 : Int32)), .val (.long (t0 - s1)), .second, .val (.ref b102), .val (.ref b104), .val (.long (0 : Int64)), .second, .val (.long (0 : Int64)), .second, .val (.long (0 : Int64)), .second, .val (.long (0 : Int64)), .second, .unset, .unset, .unset, .unset] [(.int (1 : Int32)), (.int (0 : Int32))]))
      refine Go.by (fun _ kont => XS.icmpYes X106.here hx rfl (pc0 := 217) (pc' := 225) rfl (hb hby at_217) rfl (by decide) (by decide) (by decide) kont) ?_
      show Go _ _ _ _ _ _ _ (T106.setTop (mkF m 225 #[.val (.int k0), .val (.long t0), .second, .val (.long t1), .second, .val (.long t2), .second, .val (.long s0), .second, .val (.long s1), .second, .val (.int (0 : Int32)), .val (.int (0 : Int32)), .val (.long (t0 - s1)), .second, .val (.ref b102), .val (.ref b104), .val (.long (0 : Int64)), .second, .val (.long (0 : Int64)), .second, .val (.long (0 : Int64)), .second, .val (.long (0 : Int64)), .second, .unset, .unset, .unset, .unset] []))
      refine Go.by (fun _ kont => XS.lconst X106.here hx rfl (hb hby at_225) (XS.lstore X106.here hx rfl (hb hby at_226) rfl (l' := #[.val (.int k0), .val (.long t0), .second, .val (.long t1), .second, .val (.long t2), .second, .val (.long s0), .second, .val (.long s1), .second, .val (.int (0 : Int32)), .val (.int (0 : Int32)), .val (.long (t0 - s1)), .second, .val (.ref b102), .val (.ref b104), .val (.long (0 : Int64)), .second, .val (.long (0 : Int64)), .second, .val (.long (0 : Int64)), .second, .val (.long (0 : Int64)), .second, .val (.long (0 : Int64)), .second, .unset, .unset]) rfl (XS.iload X106.here hx rfl (hb hby at_228) rfl (XS.iconst X106.here hx rfl (hb hby at_230) kont)))) ?_
      show Go _ _ _ _ _ _ _ (T106.setTop (mkF m 231 #[.val (.int k0), .val (.long t0), .second, .val (.long t1), .second, .val (.long t2), .second, .val (.long s0), .second, .val (.long s1), .second, .val (.int (0 : Int32)), .val (.int (0 : Int32)), .val (.long (t0 - s1)), .second, .val (.ref b102), .val (.ref b104), .val (.long (0 : Int64)), .second, .val (.long (0 : Int64)), .second, .val (.long (0 : Int64)), .second, .val (.long (0 : Int64)), .second, .val (.long (0 : Int64)), .second, .unset, .unset] [(.int (2 : Int32)), (.int (0 : Int32))]))
      refine Go.by (fun _ kont => XS.icmpYes X106.here hx rfl (pc0 := 231) (pc' := 239) rfl (hb hby at_231) rfl (by decide) (by decide) (by decide) kont) ?_
      show Go _ _ _ _ _ _ _ (T106.setTop (mkF m 239 #[.val (.int k0), .val (.long t0), .second, .val (.long t1), .second, .val (.long t2), .second, .val (.long s0), .second, .val (.long s1), .second, .val (.int (0 : Int32)), .val (.int (0 : Int32)), .val (.long (t0 - s1)), .second, .val (.ref b102), .val (.ref b104), .val (.long (0 : Int64)), .second, .val (.long (0 : Int64)), .second, .val (.long (0 : Int64)), .second, .val (.long (0 : Int64)), .second, .val (.long (0 : Int64)), .second, .unset, .unset] []))
      refine Go.by (fun _ kont => XS.lconst X106.here hx rfl (hb hby at_239) (XS.lstore X106.here hx rfl (hb hby at_240) rfl (l' := #[.val (.int k0), .val (.long t0), .second, .val (.long t1), .second, .val (.long t2), .second, .val (.long s0), .second, .val (.long s1), .second, .val (.int (0 : Int32)), .val (.int (0 : Int32)), .val (.long (t0 - s1)), .second, .val (.ref b102), .val (.ref b104), .val (.long (0 : Int64)), .second, .val (.long (0 : Int64)), .second, .val (.long (0 : Int64)), .second, .val (.long (0 : Int64)), .second, .val (.long (0 : Int64)), .second, .val (.long (0 : Int64)), .second]) rfl (XS.aload X106.here hx rfl (hb hby at_242) rfl rfl kont))) ?_
      show Go _ _ _ _ _ _ _ (T106.setTop (mkF m 244 #[.val (.int k0), .val (.long t0), .second, .val (.long t1), .second, .val (.long t2), .second, .val (.long s0), .second, .val (.long s1), .second, .val (.int (0 : Int32)), .val (.int (0 : Int32)), .val (.long (t0 - s1)), .second, .val (.ref b102), .val (.ref b104), .val (.long (0 : Int64)), .second, .val (.long (0 : Int64)), .second, .val (.long (0 : Int64)), .second, .val (.long (0 : Int64)), .second, .val (.long (0 : Int64)), .second, .val (.long (0 : Int64)), .second] [(.ref b102)]))
      obtain ⟨cl_q107, Ar_q107, q1_q107, S_q107, N_q107, H_q107, G_q107⟩ := id V105_b102
      refine Go.by (X106.arraylength hx (by first | exact Ar_q107.1 | (rw [eh106]; exact Ar_q107.1)) (State.isArrayOf_alike hZ.alike Ar_q107.2.1) (g := (mkF m 244 #[.val (.int k0), .val (.long t0), .second, .val (.long t1), .second, .val (.long t2), .second, .val (.long s0), .second, .val (.long s1), .second, .val (.int (0 : Int32)), .val (.int (0 : Int32)), .val (.long (t0 - s1)), .second, .val (.ref b102), .val (.ref b104), .val (.long (0 : Int64)), .second, .val (.long (0 : Int64)), .second, .val (.long (0 : Int64)), .second, .val (.long (0 : Int64)), .second, .val (.long (0 : Int64)), .second, .val (.long (0 : Int64)), .second] [(.ref b102)])) rfl rfl (hb hby at_244)) ?_
      rw [len_of S_q107 N_q107]
      show Go _ _ _ _ _ _ _ (T106.setTop (mkF m 245 #[.val (.int k0), .val (.long t0), .second, .val (.long t1), .second, .val (.long t2), .second, .val (.long s0), .second, .val (.long s1), .second, .val (.int (0 : Int32)), .val (.int (0 : Int32)), .val (.long (t0 - s1)), .second, .val (.ref b102), .val (.ref b104), .val (.long (0 : Int64)), .second, .val (.long (0 : Int64)), .second, .val (.long (0 : Int64)), .second, .val (.long (0 : Int64)), .second, .val (.long (0 : Int64)), .second, .val (.long (0 : Int64)), .second] [(.int (0 : Int32))]))
      refine Go.by (fun _ kont => XS.iload X106.here hx rfl (hb hby at_245) rfl kont) ?_
      show Go _ _ _ _ _ _ _ (T106.setTop (mkF m 247 #[.val (.int k0), .val (.long t0), .second, .val (.long t1), .second, .val (.long t2), .second, .val (.long s0), .second, .val (.long s1), .second, .val (.int (0 : Int32)), .val (.int (0 : Int32)), .val (.long (t0 - s1)), .second, .val (.ref b102), .val (.ref b104), .val (.long (0 : Int64)), .second, .val (.long (0 : Int64)), .second, .val (.long (0 : Int64)), .second, .val (.long (0 : Int64)), .second, .val (.long (0 : Int64)), .second, .val (.long (0 : Int64)), .second] [(.int (0 : Int32)), (.int (0 : Int32))]))
      refine Go.by (fun _ kont => XS.icmpNo X106.here hx rfl (hb hby at_247) rfl (by decide) kont) ?_
      show Go _ _ _ _ _ _ _ (T106.setTop (mkF m 250 #[.val (.int k0), .val (.long t0), .second, .val (.long t1), .second, .val (.long t2), .second, .val (.long s0), .second, .val (.long s1), .second, .val (.int (0 : Int32)), .val (.int (0 : Int32)), .val (.long (t0 - s1)), .second, .val (.ref b102), .val (.ref b104), .val (.long (0 : Int64)), .second, .val (.long (0 : Int64)), .second, .val (.long (0 : Int64)), .second, .val (.long (0 : Int64)), .second, .val (.long (0 : Int64)), .second, .val (.long (0 : Int64)), .second] []))
      refine Go.by (fun _ kont => XS.aload X106.here hx rfl (hb hby at_250) rfl rfl kont) ?_
      show Go _ _ _ _ _ _ _ (T106.setTop (mkF m 252 #[.val (.int k0), .val (.long t0), .second, .val (.long t1), .second, .val (.long t2), .second, .val (.long s0), .second, .val (.long s1), .second, .val (.int (0 : Int32)), .val (.int (0 : Int32)), .val (.long (t0 - s1)), .second, .val (.ref b102), .val (.ref b104), .val (.long (0 : Int64)), .second, .val (.long (0 : Int64)), .second, .val (.long (0 : Int64)), .second, .val (.long (0 : Int64)), .second, .val (.long (0 : Int64)), .second, .val (.long (0 : Int64)), .second] [(.ref b104)]))
      obtain ⟨cl_q108, Ar_q108, q1_q108, S_q108, N_q108, H_q108, G_q108⟩ := id V104
      refine Go.by (X106.arraylength hx (by first | exact Ar_q108.1 | (rw [eh106]; exact Ar_q108.1)) (State.isArrayOf_alike hZ.alike Ar_q108.2.1) (g := (mkF m 252 #[.val (.int k0), .val (.long t0), .second, .val (.long t1), .second, .val (.long t2), .second, .val (.long s0), .second, .val (.long s1), .second, .val (.int (0 : Int32)), .val (.int (0 : Int32)), .val (.long (t0 - s1)), .second, .val (.ref b102), .val (.ref b104), .val (.long (0 : Int64)), .second, .val (.long (0 : Int64)), .second, .val (.long (0 : Int64)), .second, .val (.long (0 : Int64)), .second, .val (.long (0 : Int64)), .second, .val (.long (0 : Int64)), .second] [(.ref b104)])) rfl rfl (hb hby at_252)) ?_
      rw [len_of S_q108 N_q108]
      show Go _ _ _ _ _ _ _ (T106.setTop (mkF m 253 #[.val (.int k0), .val (.long t0), .second, .val (.long t1), .second, .val (.long t2), .second, .val (.long s0), .second, .val (.long s1), .second, .val (.int (0 : Int32)), .val (.int (0 : Int32)), .val (.long (t0 - s1)), .second, .val (.ref b102), .val (.ref b104), .val (.long (0 : Int64)), .second, .val (.long (0 : Int64)), .second, .val (.long (0 : Int64)), .second, .val (.long (0 : Int64)), .second, .val (.long (0 : Int64)), .second, .val (.long (0 : Int64)), .second] [(.int (0 : Int32))]))
      refine Go.by (fun _ kont => XS.iload X106.here hx rfl (hb hby at_253) rfl kont) ?_
      show Go _ _ _ _ _ _ _ (T106.setTop (mkF m 255 #[.val (.int k0), .val (.long t0), .second, .val (.long t1), .second, .val (.long t2), .second, .val (.long s0), .second, .val (.long s1), .second, .val (.int (0 : Int32)), .val (.int (0 : Int32)), .val (.long (t0 - s1)), .second, .val (.ref b102), .val (.ref b104), .val (.long (0 : Int64)), .second, .val (.long (0 : Int64)), .second, .val (.long (0 : Int64)), .second, .val (.long (0 : Int64)), .second, .val (.long (0 : Int64)), .second, .val (.long (0 : Int64)), .second] [(.int (0 : Int32)), (.int (0 : Int32))]))
      refine Go.by (fun _ kont => XS.icmpNo X106.here hx rfl (hb hby at_255) rfl (by decide) kont) ?_
      show Go _ _ _ _ _ _ _ (T106.setTop (mkF m 258 #[.val (.int k0), .val (.long t0), .second, .val (.long t1), .second, .val (.long t2), .second, .val (.long s0), .second, .val (.long s1), .second, .val (.int (0 : Int32)), .val (.int (0 : Int32)), .val (.long (t0 - s1)), .second, .val (.ref b102), .val (.ref b104), .val (.long (0 : Int64)), .second, .val (.long (0 : Int64)), .second, .val (.long (0 : Int64)), .second, .val (.long (0 : Int64)), .second, .val (.long (0 : Int64)), .second, .val (.long (0 : Int64)), .second] []))
      refine Go.by (fun _ kont => XS.aload X106.here hx rfl (hb hby at_258) rfl rfl (XS.iconst X106.here hx rfl (hb hby at_260) kont)) ?_
      show Go _ _ _ _ _ _ _ (T106.setTop (mkF m 261 #[.val (.int k0), .val (.long t0), .second, .val (.long t1), .second, .val (.long t2), .second, .val (.long s0), .second, .val (.long s1), .second, .val (.int (0 : Int32)), .val (.int (0 : Int32)), .val (.long (t0 - s1)), .second, .val (.ref b102), .val (.ref b104), .val (.long (0 : Int64)), .second, .val (.long (0 : Int64)), .second, .val (.long (0 : Int64)), .second, .val (.long (0 : Int64)), .second, .val (.long (0 : Int64)), .second, .val (.long (0 : Int64)), .second] [(.int (0 : Int32)), (.ref b102)]))
      obtain ⟨_, _, ⟨T109, L109, k109, n109⟩, -, X109, ⟨Lc109, hQ109, l109, y109, z109⟩, st109⟩ := Jvm.LawKit.callS X106 hx (y := (⟨"com/example/runs_to_nets/runstonets/core/Gf2BasisXorPinLaw", "word", "([JI)J"⟩ : MethodName)) hown (mvT hZ (hw _ (List.mem_of_getElem? (i := 5) rfl))) (mvT hZ (hw _ (List.mem_of_getElem? (i := 6) rfl))) (mvT hZ (hw _ (List.mem_of_getElem? (i := 7) rfl))) (mvT hZ (hw _ (List.mem_of_getElem? (i := 8) rfl))) (by decide) (backOf (W := 0) (rmW00 l Z a0 hw [] b102 k102 h104 n0 Z105 V105_b102) hZ (hw _ (List.mem_of_getElem? (i := 8) rfl)) (hw _ (List.mem_of_getElem? (i := 7) rfl)) (by decide) (by decide)) (g := (mkF m 261 #[.val (.int k0), .val (.long t0), .second, .val (.long t1), .second, .val (.long t2), .second, .val (.long s0), .second, .val (.long s1), .second, .val (.int (0 : Int32)), .val (.int (0 : Int32)), .val (.long (t0 - s1)), .second, .val (.ref b102), .val (.ref b104), .val (.long (0 : Int64)), .second, .val (.long (0 : Int64)), .second, .val (.long (0 : Int64)), .second, .val (.long (0 : Int64)), .second, .val (.long (0 : Int64)), .second, .val (.long (0 : Int64)), .second] [(.int (0 : Int32)), (.ref b102)])) rfl (by rw [hml]; rfl) (argsL := [(.ref b102), (.int (0 : Int32))]) (rest := []) (lenOf pd0_1 rfl) rfl (by show 2 * 0 + _ ≤ _; exact Nat.le_of_eq rfl) (hb hby at_261) (fun _ _ => ⟨rfl, eh106, (by decide : 2 + 0 ≤ _), (by decide : 0 + 0 ≤ _)⟩)
      dsimp only [Pt.U, Pt.locs, Pt.cells, Pt.slots] at X109 l109 y109 z109 st109 hQ109
      subst l109 y109 z109
      obtain ⟨rfl, N109q, eh109⟩ := hQ109
      have N109 := Fr.app N106 N109q
      refine Go.by st109 ?_
      show Go _ _ _ _ _ _ _ (T109.setTop (mkF m 264 #[.val (.int k0), .val (.long t0), .second, .val (.long t1), .second, .val (.long t2), .second, .val (.long s0), .second, .val (.long s1), .second, .val (.int (0 : Int32)), .val (.int (0 : Int32)), .val (.long (t0 - s1)), .second, .val (.ref b102), .val (.ref b104), .val (.long (0 : Int64)), .second, .val (.long (0 : Int64)), .second, .val (.long (0 : Int64)), .second, .val (.long (0 : Int64)), .second, .val (.long (0 : Int64)), .second, .val (.long (0 : Int64)), .second] [(.long (0 : Int64))]))
      refine Go.by (fun _ kont => XS.lload X109.here hx rfl (hb hby at_264) rfl (XS.lcmp X109.here hx rfl (hb hby at_266) rfl kont)) ?_
      show Go _ _ _ _ _ _ _ (T109.setTop (mkF m 267 #[.val (.int k0), .val (.long t0), .second, .val (.long t1), .second, .val (.long t2), .second, .val (.long s0), .second, .val (.long s1), .second, .val (.int (0 : Int32)), .val (.int (0 : Int32)), .val (.long (t0 - s1)), .second, .val (.ref b102), .val (.ref b104), .val (.long (0 : Int64)), .second, .val (.long (0 : Int64)), .second, .val (.long (0 : Int64)), .second, .val (.long (0 : Int64)), .second, .val (.long (0 : Int64)), .second, .val (.long (0 : Int64)), .second] [(.int (lcmpW (0 : Int64) (0 : Int64)))]))
      have hd110 : (0 : Int64) = (0 : Int64) := by decide
      refine Go.by (fun _ kont => XS.ifNo X109.here hx rfl (hb hby at_267) rfl ((if0 _ _).trans (teq ((lw_eq _ _).mpr hd110)).2) kont) ?_
      show Go _ _ _ _ _ _ _ (T109.setTop (mkF m 270 #[.val (.int k0), .val (.long t0), .second, .val (.long t1), .second, .val (.long t2), .second, .val (.long s0), .second, .val (.long s1), .second, .val (.int (0 : Int32)), .val (.int (0 : Int32)), .val (.long (t0 - s1)), .second, .val (.ref b102), .val (.ref b104), .val (.long (0 : Int64)), .second, .val (.long (0 : Int64)), .second, .val (.long (0 : Int64)), .second, .val (.long (0 : Int64)), .second, .val (.long (0 : Int64)), .second, .val (.long (0 : Int64)), .second] []))
      refine Go.by (fun _ kont => XS.aload X109.here hx rfl (hb hby at_270) rfl rfl (XS.iconst X109.here hx rfl (hb hby at_272) kont)) ?_
      show Go _ _ _ _ _ _ _ (T109.setTop (mkF m 273 #[.val (.int k0), .val (.long t0), .second, .val (.long t1), .second, .val (.long t2), .second, .val (.long s0), .second, .val (.long s1), .second, .val (.int (0 : Int32)), .val (.int (0 : Int32)), .val (.long (t0 - s1)), .second, .val (.ref b102), .val (.ref b104), .val (.long (0 : Int64)), .second, .val (.long (0 : Int64)), .second, .val (.long (0 : Int64)), .second, .val (.long (0 : Int64)), .second, .val (.long (0 : Int64)), .second, .val (.long (0 : Int64)), .second] [(.int (1 : Int32)), (.ref b102)]))
      obtain ⟨_, _, ⟨T111, L111, k111, n111⟩, -, X111, ⟨Lc111, hQ111, l111, y111, z111⟩, st111⟩ := Jvm.LawKit.callS X109 hx (y := (⟨"com/example/runs_to_nets/runstonets/core/Gf2BasisXorPinLaw", "word", "([JI)J"⟩ : MethodName)) hown (mvT hZ (hw _ (List.mem_of_getElem? (i := 5) rfl))) (mvT hZ (hw _ (List.mem_of_getElem? (i := 6) rfl))) (mvT hZ (hw _ (List.mem_of_getElem? (i := 7) rfl))) (mvT hZ (hw _ (List.mem_of_getElem? (i := 8) rfl))) (by decide) (backOf (W := 0) (rmW01 l Z a0 hw [] b102 k102 h104 n0 Z105 V105_b102) hZ (hw _ (List.mem_of_getElem? (i := 8) rfl)) (hw _ (List.mem_of_getElem? (i := 7) rfl)) (by decide) (by decide)) (g := (mkF m 273 #[.val (.int k0), .val (.long t0), .second, .val (.long t1), .second, .val (.long t2), .second, .val (.long s0), .second, .val (.long s1), .second, .val (.int (0 : Int32)), .val (.int (0 : Int32)), .val (.long (t0 - s1)), .second, .val (.ref b102), .val (.ref b104), .val (.long (0 : Int64)), .second, .val (.long (0 : Int64)), .second, .val (.long (0 : Int64)), .second, .val (.long (0 : Int64)), .second, .val (.long (0 : Int64)), .second, .val (.long (0 : Int64)), .second] [(.int (1 : Int32)), (.ref b102)])) rfl (by rw [hml]; rfl) (argsL := [(.ref b102), (.int (1 : Int32))]) (rest := []) (lenOf pd0_1 rfl) rfl (by show 2 * 0 + _ ≤ _; exact Nat.le_of_eq rfl) (hb hby at_273) (fun _ _ => ⟨rfl, eh109, (by decide : 2 + 0 ≤ _), (by decide : 0 + 0 ≤ _)⟩)
      dsimp only [Pt.U, Pt.locs, Pt.cells, Pt.slots] at X111 l111 y111 z111 st111 hQ111
      subst l111 y111 z111
      obtain ⟨rfl, N111q, eh111⟩ := hQ111
      have N111 := Fr.app N109 N111q
      refine Go.by st111 ?_
      show Go _ _ _ _ _ _ _ (T111.setTop (mkF m 276 #[.val (.int k0), .val (.long t0), .second, .val (.long t1), .second, .val (.long t2), .second, .val (.long s0), .second, .val (.long s1), .second, .val (.int (0 : Int32)), .val (.int (0 : Int32)), .val (.long (t0 - s1)), .second, .val (.ref b102), .val (.ref b104), .val (.long (0 : Int64)), .second, .val (.long (0 : Int64)), .second, .val (.long (0 : Int64)), .second, .val (.long (0 : Int64)), .second, .val (.long (0 : Int64)), .second, .val (.long (0 : Int64)), .second] [(.long (0 : Int64))]))
      refine Go.by (fun _ kont => XS.lload X111.here hx rfl (hb hby at_276) rfl (XS.lcmp X111.here hx rfl (hb hby at_278) rfl kont)) ?_
      show Go _ _ _ _ _ _ _ (T111.setTop (mkF m 279 #[.val (.int k0), .val (.long t0), .second, .val (.long t1), .second, .val (.long t2), .second, .val (.long s0), .second, .val (.long s1), .second, .val (.int (0 : Int32)), .val (.int (0 : Int32)), .val (.long (t0 - s1)), .second, .val (.ref b102), .val (.ref b104), .val (.long (0 : Int64)), .second, .val (.long (0 : Int64)), .second, .val (.long (0 : Int64)), .second, .val (.long (0 : Int64)), .second, .val (.long (0 : Int64)), .second, .val (.long (0 : Int64)), .second] [(.int (lcmpW (0 : Int64) (0 : Int64)))]))
      have hd112 : (0 : Int64) = (0 : Int64) := by decide
      refine Go.by (fun _ kont => XS.ifNo X111.here hx rfl (hb hby at_279) rfl ((if0 _ _).trans (teq ((lw_eq _ _).mpr hd112)).2) kont) ?_
      show Go _ _ _ _ _ _ _ (T111.setTop (mkF m 282 #[.val (.int k0), .val (.long t0), .second, .val (.long t1), .second, .val (.long t2), .second, .val (.long s0), .second, .val (.long s1), .second, .val (.int (0 : Int32)), .val (.int (0 : Int32)), .val (.long (t0 - s1)), .second, .val (.ref b102), .val (.ref b104), .val (.long (0 : Int64)), .second, .val (.long (0 : Int64)), .second, .val (.long (0 : Int64)), .second, .val (.long (0 : Int64)), .second, .val (.long (0 : Int64)), .second, .val (.long (0 : Int64)), .second] []))
      refine Go.by (fun _ kont => XS.aload X111.here hx rfl (hb hby at_282) rfl rfl (XS.iconst X111.here hx rfl (hb hby at_284) kont)) ?_
      show Go _ _ _ _ _ _ _ (T111.setTop (mkF m 285 #[.val (.int k0), .val (.long t0), .second, .val (.long t1), .second, .val (.long t2), .second, .val (.long s0), .second, .val (.long s1), .second, .val (.int (0 : Int32)), .val (.int (0 : Int32)), .val (.long (t0 - s1)), .second, .val (.ref b102), .val (.ref b104), .val (.long (0 : Int64)), .second, .val (.long (0 : Int64)), .second, .val (.long (0 : Int64)), .second, .val (.long (0 : Int64)), .second, .val (.long (0 : Int64)), .second, .val (.long (0 : Int64)), .second] [(.int (2 : Int32)), (.ref b102)]))
      obtain ⟨_, _, ⟨T113, L113, k113, n113⟩, -, X113, ⟨Lc113, hQ113, l113, y113, z113⟩, st113⟩ := Jvm.LawKit.callS X111 hx (y := (⟨"com/example/runs_to_nets/runstonets/core/Gf2BasisXorPinLaw", "word", "([JI)J"⟩ : MethodName)) hown (mvT hZ (hw _ (List.mem_of_getElem? (i := 5) rfl))) (mvT hZ (hw _ (List.mem_of_getElem? (i := 6) rfl))) (mvT hZ (hw _ (List.mem_of_getElem? (i := 7) rfl))) (mvT hZ (hw _ (List.mem_of_getElem? (i := 8) rfl))) (by decide) (backOf (W := 0) (rmW02 l Z a0 hw [] b102 k102 h104 n0 Z105 V105_b102) hZ (hw _ (List.mem_of_getElem? (i := 8) rfl)) (hw _ (List.mem_of_getElem? (i := 7) rfl)) (by decide) (by decide)) (g := (mkF m 285 #[.val (.int k0), .val (.long t0), .second, .val (.long t1), .second, .val (.long t2), .second, .val (.long s0), .second, .val (.long s1), .second, .val (.int (0 : Int32)), .val (.int (0 : Int32)), .val (.long (t0 - s1)), .second, .val (.ref b102), .val (.ref b104), .val (.long (0 : Int64)), .second, .val (.long (0 : Int64)), .second, .val (.long (0 : Int64)), .second, .val (.long (0 : Int64)), .second, .val (.long (0 : Int64)), .second, .val (.long (0 : Int64)), .second] [(.int (2 : Int32)), (.ref b102)])) rfl (by rw [hml]; rfl) (argsL := [(.ref b102), (.int (2 : Int32))]) (rest := []) (lenOf pd0_1 rfl) rfl (by show 2 * 0 + _ ≤ _; exact Nat.le_of_eq rfl) (hb hby at_285) (fun _ _ => ⟨rfl, eh111, (by decide : 2 + 0 ≤ _), (by decide : 0 + 0 ≤ _)⟩)
      dsimp only [Pt.U, Pt.locs, Pt.cells, Pt.slots] at X113 l113 y113 z113 st113 hQ113
      subst l113 y113 z113
      obtain ⟨rfl, N113q, eh113⟩ := hQ113
      have N113 := Fr.app N111 N113q
      refine Go.by st113 ?_
      show Go _ _ _ _ _ _ _ (T113.setTop (mkF m 288 #[.val (.int k0), .val (.long t0), .second, .val (.long t1), .second, .val (.long t2), .second, .val (.long s0), .second, .val (.long s1), .second, .val (.int (0 : Int32)), .val (.int (0 : Int32)), .val (.long (t0 - s1)), .second, .val (.ref b102), .val (.ref b104), .val (.long (0 : Int64)), .second, .val (.long (0 : Int64)), .second, .val (.long (0 : Int64)), .second, .val (.long (0 : Int64)), .second, .val (.long (0 : Int64)), .second, .val (.long (0 : Int64)), .second] [(.long (0 : Int64))]))
      refine Go.by (fun _ kont => XS.lload X113.here hx rfl (hb hby at_288) rfl (XS.lcmp X113.here hx rfl (hb hby at_290) rfl kont)) ?_
      show Go _ _ _ _ _ _ _ (T113.setTop (mkF m 291 #[.val (.int k0), .val (.long t0), .second, .val (.long t1), .second, .val (.long t2), .second, .val (.long s0), .second, .val (.long s1), .second, .val (.int (0 : Int32)), .val (.int (0 : Int32)), .val (.long (t0 - s1)), .second, .val (.ref b102), .val (.ref b104), .val (.long (0 : Int64)), .second, .val (.long (0 : Int64)), .second, .val (.long (0 : Int64)), .second, .val (.long (0 : Int64)), .second, .val (.long (0 : Int64)), .second, .val (.long (0 : Int64)), .second] [(.int (lcmpW (0 : Int64) (0 : Int64)))]))
      have hd114 : (0 : Int64) = (0 : Int64) := by decide
      refine Go.by (fun _ kont => XS.ifNo X113.here hx rfl (hb hby at_291) rfl ((if0 _ _).trans (teq ((lw_eq _ _).mpr hd114)).2) kont) ?_
      show Go _ _ _ _ _ _ _ (T113.setTop (mkF m 294 #[.val (.int k0), .val (.long t0), .second, .val (.long t1), .second, .val (.long t2), .second, .val (.long s0), .second, .val (.long s1), .second, .val (.int (0 : Int32)), .val (.int (0 : Int32)), .val (.long (t0 - s1)), .second, .val (.ref b102), .val (.ref b104), .val (.long (0 : Int64)), .second, .val (.long (0 : Int64)), .second, .val (.long (0 : Int64)), .second, .val (.long (0 : Int64)), .second, .val (.long (0 : Int64)), .second, .val (.long (0 : Int64)), .second] []))
      refine Go.by (fun _ kont => XS.aload X113.here hx rfl (hb hby at_294) rfl rfl (XS.iconst X113.here hx rfl (hb hby at_296) kont)) ?_
      show Go _ _ _ _ _ _ _ (T113.setTop (mkF m 297 #[.val (.int k0), .val (.long t0), .second, .val (.long t1), .second, .val (.long t2), .second, .val (.long s0), .second, .val (.long s1), .second, .val (.int (0 : Int32)), .val (.int (0 : Int32)), .val (.long (t0 - s1)), .second, .val (.ref b102), .val (.ref b104), .val (.long (0 : Int64)), .second, .val (.long (0 : Int64)), .second, .val (.long (0 : Int64)), .second, .val (.long (0 : Int64)), .second, .val (.long (0 : Int64)), .second, .val (.long (0 : Int64)), .second] [(.int (0 : Int32)), (.ref b104)]))
      obtain ⟨_, _, ⟨T115, L115, k115, n115⟩, -, X115, ⟨Lc115, hQ115, l115, y115, z115⟩, st115⟩ := Jvm.LawKit.callS X113 hx (y := (⟨"com/example/runs_to_nets/runstonets/core/Gf2BasisXorPinLaw", "word", "([JI)J"⟩ : MethodName)) hown (mvT hZ (hw _ (List.mem_of_getElem? (i := 5) rfl))) (mvT hZ (hw _ (List.mem_of_getElem? (i := 6) rfl))) (mvT hZ (hw _ (List.mem_of_getElem? (i := 7) rfl))) (mvT hZ (hw _ (List.mem_of_getElem? (i := 8) rfl))) (by decide) (backOf (W := 0) (rmW00 l Z a0 hw [] b104 k104 h104 n0 Z105 V104) hZ (hw _ (List.mem_of_getElem? (i := 8) rfl)) (hw _ (List.mem_of_getElem? (i := 7) rfl)) (by decide) (by decide)) (g := (mkF m 297 #[.val (.int k0), .val (.long t0), .second, .val (.long t1), .second, .val (.long t2), .second, .val (.long s0), .second, .val (.long s1), .second, .val (.int (0 : Int32)), .val (.int (0 : Int32)), .val (.long (t0 - s1)), .second, .val (.ref b102), .val (.ref b104), .val (.long (0 : Int64)), .second, .val (.long (0 : Int64)), .second, .val (.long (0 : Int64)), .second, .val (.long (0 : Int64)), .second, .val (.long (0 : Int64)), .second, .val (.long (0 : Int64)), .second] [(.int (0 : Int32)), (.ref b104)])) rfl (by rw [hml]; rfl) (argsL := [(.ref b104), (.int (0 : Int32))]) (rest := []) (lenOf pd0_1 rfl) rfl (by show 2 * 0 + _ ≤ _; exact Nat.le_of_eq rfl) (hb hby at_297) (fun _ _ => ⟨rfl, eh113, (by decide : 2 + 0 ≤ _), (by decide : 0 + 0 ≤ _)⟩)
      dsimp only [Pt.U, Pt.locs, Pt.cells, Pt.slots] at X115 l115 y115 z115 st115 hQ115
      subst l115 y115 z115
      obtain ⟨rfl, N115q, eh115⟩ := hQ115
      have N115 := Fr.app N113 N115q
      refine Go.by st115 ?_
      show Go _ _ _ _ _ _ _ (T115.setTop (mkF m 300 #[.val (.int k0), .val (.long t0), .second, .val (.long t1), .second, .val (.long t2), .second, .val (.long s0), .second, .val (.long s1), .second, .val (.int (0 : Int32)), .val (.int (0 : Int32)), .val (.long (t0 - s1)), .second, .val (.ref b102), .val (.ref b104), .val (.long (0 : Int64)), .second, .val (.long (0 : Int64)), .second, .val (.long (0 : Int64)), .second, .val (.long (0 : Int64)), .second, .val (.long (0 : Int64)), .second, .val (.long (0 : Int64)), .second] [(.long (0 : Int64))]))
      refine Go.by (fun _ kont => XS.lload X115.here hx rfl (hb hby at_300) rfl (XS.lcmp X115.here hx rfl (hb hby at_302) rfl kont)) ?_
      show Go _ _ _ _ _ _ _ (T115.setTop (mkF m 303 #[.val (.int k0), .val (.long t0), .second, .val (.long t1), .second, .val (.long t2), .second, .val (.long s0), .second, .val (.long s1), .second, .val (.int (0 : Int32)), .val (.int (0 : Int32)), .val (.long (t0 - s1)), .second, .val (.ref b102), .val (.ref b104), .val (.long (0 : Int64)), .second, .val (.long (0 : Int64)), .second, .val (.long (0 : Int64)), .second, .val (.long (0 : Int64)), .second, .val (.long (0 : Int64)), .second, .val (.long (0 : Int64)), .second] [(.int (lcmpW (0 : Int64) (0 : Int64)))]))
      have hd116 : (0 : Int64) = (0 : Int64) := by decide
      refine Go.by (fun _ kont => XS.ifNo X115.here hx rfl (hb hby at_303) rfl ((if0 _ _).trans (teq ((lw_eq _ _).mpr hd116)).2) kont) ?_
      show Go _ _ _ _ _ _ _ (T115.setTop (mkF m 306 #[.val (.int k0), .val (.long t0), .second, .val (.long t1), .second, .val (.long t2), .second, .val (.long s0), .second, .val (.long s1), .second, .val (.int (0 : Int32)), .val (.int (0 : Int32)), .val (.long (t0 - s1)), .second, .val (.ref b102), .val (.ref b104), .val (.long (0 : Int64)), .second, .val (.long (0 : Int64)), .second, .val (.long (0 : Int64)), .second, .val (.long (0 : Int64)), .second, .val (.long (0 : Int64)), .second, .val (.long (0 : Int64)), .second] []))
      refine Go.by (fun _ kont => XS.aload X115.here hx rfl (hb hby at_306) rfl rfl (XS.iconst X115.here hx rfl (hb hby at_308) kont)) ?_
      show Go _ _ _ _ _ _ _ (T115.setTop (mkF m 309 #[.val (.int k0), .val (.long t0), .second, .val (.long t1), .second, .val (.long t2), .second, .val (.long s0), .second, .val (.long s1), .second, .val (.int (0 : Int32)), .val (.int (0 : Int32)), .val (.long (t0 - s1)), .second, .val (.ref b102), .val (.ref b104), .val (.long (0 : Int64)), .second, .val (.long (0 : Int64)), .second, .val (.long (0 : Int64)), .second, .val (.long (0 : Int64)), .second, .val (.long (0 : Int64)), .second, .val (.long (0 : Int64)), .second] [(.int (1 : Int32)), (.ref b104)]))
      obtain ⟨_, _, ⟨T117, L117, k117, n117⟩, -, X117, ⟨Lc117, hQ117, l117, y117, z117⟩, st117⟩ := Jvm.LawKit.callS X115 hx (y := (⟨"com/example/runs_to_nets/runstonets/core/Gf2BasisXorPinLaw", "word", "([JI)J"⟩ : MethodName)) hown (mvT hZ (hw _ (List.mem_of_getElem? (i := 5) rfl))) (mvT hZ (hw _ (List.mem_of_getElem? (i := 6) rfl))) (mvT hZ (hw _ (List.mem_of_getElem? (i := 7) rfl))) (mvT hZ (hw _ (List.mem_of_getElem? (i := 8) rfl))) (by decide) (backOf (W := 0) (rmW01 l Z a0 hw [] b104 k104 h104 n0 Z105 V104) hZ (hw _ (List.mem_of_getElem? (i := 8) rfl)) (hw _ (List.mem_of_getElem? (i := 7) rfl)) (by decide) (by decide)) (g := (mkF m 309 #[.val (.int k0), .val (.long t0), .second, .val (.long t1), .second, .val (.long t2), .second, .val (.long s0), .second, .val (.long s1), .second, .val (.int (0 : Int32)), .val (.int (0 : Int32)), .val (.long (t0 - s1)), .second, .val (.ref b102), .val (.ref b104), .val (.long (0 : Int64)), .second, .val (.long (0 : Int64)), .second, .val (.long (0 : Int64)), .second, .val (.long (0 : Int64)), .second, .val (.long (0 : Int64)), .second, .val (.long (0 : Int64)), .second] [(.int (1 : Int32)), (.ref b104)])) rfl (by rw [hml]; rfl) (argsL := [(.ref b104), (.int (1 : Int32))]) (rest := []) (lenOf pd0_1 rfl) rfl (by show 2 * 0 + _ ≤ _; exact Nat.le_of_eq rfl) (hb hby at_309) (fun _ _ => ⟨rfl, eh115, (by decide : 2 + 0 ≤ _), (by decide : 0 + 0 ≤ _)⟩)
      dsimp only [Pt.U, Pt.locs, Pt.cells, Pt.slots] at X117 l117 y117 z117 st117 hQ117
      subst l117 y117 z117
      obtain ⟨rfl, N117q, eh117⟩ := hQ117
      have N117 := Fr.app N115 N117q
      refine Go.by st117 ?_
      show Go _ _ _ _ _ _ _ (T117.setTop (mkF m 312 #[.val (.int k0), .val (.long t0), .second, .val (.long t1), .second, .val (.long t2), .second, .val (.long s0), .second, .val (.long s1), .second, .val (.int (0 : Int32)), .val (.int (0 : Int32)), .val (.long (t0 - s1)), .second, .val (.ref b102), .val (.ref b104), .val (.long (0 : Int64)), .second, .val (.long (0 : Int64)), .second, .val (.long (0 : Int64)), .second, .val (.long (0 : Int64)), .second, .val (.long (0 : Int64)), .second, .val (.long (0 : Int64)), .second] [(.long (0 : Int64))]))
      refine Go.by (fun _ kont => XS.lload X117.here hx rfl (hb hby at_312) rfl (XS.lcmp X117.here hx rfl (hb hby at_314) rfl kont)) ?_
      show Go _ _ _ _ _ _ _ (T117.setTop (mkF m 315 #[.val (.int k0), .val (.long t0), .second, .val (.long t1), .second, .val (.long t2), .second, .val (.long s0), .second, .val (.long s1), .second, .val (.int (0 : Int32)), .val (.int (0 : Int32)), .val (.long (t0 - s1)), .second, .val (.ref b102), .val (.ref b104), .val (.long (0 : Int64)), .second, .val (.long (0 : Int64)), .second, .val (.long (0 : Int64)), .second, .val (.long (0 : Int64)), .second, .val (.long (0 : Int64)), .second, .val (.long (0 : Int64)), .second] [(.int (lcmpW (0 : Int64) (0 : Int64)))]))
      have hd118 : (0 : Int64) = (0 : Int64) := by decide
      refine Go.by (fun _ kont => XS.ifNo X117.here hx rfl (hb hby at_315) rfl ((if0 _ _).trans (teq ((lw_eq _ _).mpr hd118)).2) kont) ?_
      show Go _ _ _ _ _ _ _ (T117.setTop (mkF m 318 #[.val (.int k0), .val (.long t0), .second, .val (.long t1), .second, .val (.long t2), .second, .val (.long s0), .second, .val (.long s1), .second, .val (.int (0 : Int32)), .val (.int (0 : Int32)), .val (.long (t0 - s1)), .second, .val (.ref b102), .val (.ref b104), .val (.long (0 : Int64)), .second, .val (.long (0 : Int64)), .second, .val (.long (0 : Int64)), .second, .val (.long (0 : Int64)), .second, .val (.long (0 : Int64)), .second, .val (.long (0 : Int64)), .second] []))
      refine Go.by (fun _ kont => XS.aload X117.here hx rfl (hb hby at_318) rfl rfl (XS.iconst X117.here hx rfl (hb hby at_320) kont)) ?_
      show Go _ _ _ _ _ _ _ (T117.setTop (mkF m 321 #[.val (.int k0), .val (.long t0), .second, .val (.long t1), .second, .val (.long t2), .second, .val (.long s0), .second, .val (.long s1), .second, .val (.int (0 : Int32)), .val (.int (0 : Int32)), .val (.long (t0 - s1)), .second, .val (.ref b102), .val (.ref b104), .val (.long (0 : Int64)), .second, .val (.long (0 : Int64)), .second, .val (.long (0 : Int64)), .second, .val (.long (0 : Int64)), .second, .val (.long (0 : Int64)), .second, .val (.long (0 : Int64)), .second] [(.int (2 : Int32)), (.ref b104)]))
      obtain ⟨_, _, ⟨T119, L119, k119, n119⟩, -, X119, ⟨Lc119, hQ119, l119, y119, z119⟩, st119⟩ := Jvm.LawKit.callS X117 hx (y := (⟨"com/example/runs_to_nets/runstonets/core/Gf2BasisXorPinLaw", "word", "([JI)J"⟩ : MethodName)) hown (mvT hZ (hw _ (List.mem_of_getElem? (i := 5) rfl))) (mvT hZ (hw _ (List.mem_of_getElem? (i := 6) rfl))) (mvT hZ (hw _ (List.mem_of_getElem? (i := 7) rfl))) (mvT hZ (hw _ (List.mem_of_getElem? (i := 8) rfl))) (by decide) (backOf (W := 0) (rmW02 l Z a0 hw [] b104 k104 h104 n0 Z105 V104) hZ (hw _ (List.mem_of_getElem? (i := 8) rfl)) (hw _ (List.mem_of_getElem? (i := 7) rfl)) (by decide) (by decide)) (g := (mkF m 321 #[.val (.int k0), .val (.long t0), .second, .val (.long t1), .second, .val (.long t2), .second, .val (.long s0), .second, .val (.long s1), .second, .val (.int (0 : Int32)), .val (.int (0 : Int32)), .val (.long (t0 - s1)), .second, .val (.ref b102), .val (.ref b104), .val (.long (0 : Int64)), .second, .val (.long (0 : Int64)), .second, .val (.long (0 : Int64)), .second, .val (.long (0 : Int64)), .second, .val (.long (0 : Int64)), .second, .val (.long (0 : Int64)), .second] [(.int (2 : Int32)), (.ref b104)])) rfl (by rw [hml]; rfl) (argsL := [(.ref b104), (.int (2 : Int32))]) (rest := []) (lenOf pd0_1 rfl) rfl (by show 2 * 0 + _ ≤ _; exact Nat.le_of_eq rfl) (hb hby at_321) (fun _ _ => ⟨rfl, eh117, (by decide : 2 + 0 ≤ _), (by decide : 0 + 0 ≤ _)⟩)
      dsimp only [Pt.U, Pt.locs, Pt.cells, Pt.slots] at X119 l119 y119 z119 st119 hQ119
      subst l119 y119 z119
      obtain ⟨rfl, N119q, eh119⟩ := hQ119
      have N119 := Fr.app N117 N119q
      refine Go.by st119 ?_
      show Go _ _ _ _ _ _ _ (T119.setTop (mkF m 324 #[.val (.int k0), .val (.long t0), .second, .val (.long t1), .second, .val (.long t2), .second, .val (.long s0), .second, .val (.long s1), .second, .val (.int (0 : Int32)), .val (.int (0 : Int32)), .val (.long (t0 - s1)), .second, .val (.ref b102), .val (.ref b104), .val (.long (0 : Int64)), .second, .val (.long (0 : Int64)), .second, .val (.long (0 : Int64)), .second, .val (.long (0 : Int64)), .second, .val (.long (0 : Int64)), .second, .val (.long (0 : Int64)), .second] [(.long (0 : Int64))]))
      refine Go.by (fun _ kont => XS.lload X119.here hx rfl (hb hby at_324) rfl (XS.lcmp X119.here hx rfl (hb hby at_326) rfl kont)) ?_
      show Go _ _ _ _ _ _ _ (T119.setTop (mkF m 327 #[.val (.int k0), .val (.long t0), .second, .val (.long t1), .second, .val (.long t2), .second, .val (.long s0), .second, .val (.long s1), .second, .val (.int (0 : Int32)), .val (.int (0 : Int32)), .val (.long (t0 - s1)), .second, .val (.ref b102), .val (.ref b104), .val (.long (0 : Int64)), .second, .val (.long (0 : Int64)), .second, .val (.long (0 : Int64)), .second, .val (.long (0 : Int64)), .second, .val (.long (0 : Int64)), .second, .val (.long (0 : Int64)), .second] [(.int (lcmpW (0 : Int64) (0 : Int64)))]))
      have hd120 : (0 : Int64) = (0 : Int64) := by decide
      refine Go.by (fun _ kont => XS.ifNo X119.here hx rfl (hb hby at_327) rfl ((if0 _ _).trans (teq ((lw_eq _ _).mpr hd120)).2) kont) ?_
      show Go _ _ _ _ _ _ _ (T119.setTop (mkF m 330 #[.val (.int k0), .val (.long t0), .second, .val (.long t1), .second, .val (.long t2), .second, .val (.long s0), .second, .val (.long s1), .second, .val (.int (0 : Int32)), .val (.int (0 : Int32)), .val (.long (t0 - s1)), .second, .val (.ref b102), .val (.ref b104), .val (.long (0 : Int64)), .second, .val (.long (0 : Int64)), .second, .val (.long (0 : Int64)), .second, .val (.long (0 : Int64)), .second, .val (.long (0 : Int64)), .second, .val (.long (0 : Int64)), .second] []))
      refine Go.by (fun _ kont => XS.iconst X119.here hx rfl (hb hby at_330) (XS.goto X119.here hx rfl (pc0 := 331) (pc' := 335) rfl (hb hby at_331) (by decide) (by decide) kont)) ?_
      show Go _ _ _ _ _ _ _ (T119.setTop (mkF m 335 #[.val (.int k0), .val (.long t0), .second, .val (.long t1), .second, .val (.long t2), .second, .val (.long s0), .second, .val (.long s1), .second, .val (.int (0 : Int32)), .val (.int (0 : Int32)), .val (.long (t0 - s1)), .second, .val (.ref b102), .val (.ref b104), .val (.long (0 : Int64)), .second, .val (.long (0 : Int64)), .second, .val (.long (0 : Int64)), .second, .val (.long (0 : Int64)), .second, .val (.long (0 : Int64)), .second, .val (.long (0 : Int64)), .second] [(.int (1 : Int32))]))
      refine Go.retN X119 hx (t := .boolean) hret (by simp) hlk (hb hby at_335) ?_ (by decide) (by decide)
      show Q0 Z h0 n0 (some (.int (1 : Int32))) T119.heap _
      rw [eh119]
      exact ⟨rfl, N119⟩
    · refine Go.by (fun _ kont => XS.ifNo X0.here hx rfl (hb hby at_8) rfl ((if0 _ _).trans (feq hc101).1) kont) ?_
      show Go _ _ _ _ _ _ _ (s₁.setTop (mkF m 11 #[.val (.int k0), .val (.long t0), .second, .val (.long t1), .second, .val (.long t2), .second, .val (.long s0), .second, .val (.long s1), .second, .val (.int (0 : Int32)), .unset, .unset, .unset, .unset, .unset, .unset, .unset, .unset, .unset, .unset, .unset, .unset, .unset, .unset, .unset, .unset, .unset] []))
      refine Go.by (fun _ kont => XS.iconst X0.here hx rfl (hb hby at_11) (XS.goto X0.here hx rfl (pc0 := 12) (pc' := 16) rfl (hb hby at_12) (by decide) (by decide) (XS.istore X0.here hx rfl (hb hby at_16) rfl (l' := #[.val (.int k0), .val (.long t0), .second, .val (.long t1), .second, .val (.long t2), .second, .val (.long s0), .second, .val (.long s1), .second, .val (.int (0 : Int32)), .val (.int (1 : Int32)), .unset, .unset, .unset, .unset, .unset, .unset, .unset, .unset, .unset, .unset, .unset, .unset, .unset, .unset, .unset, .unset]) rfl (XS.lloadN X0.here hx rfl (hb hby at_18) rfl (XS.lload X0.here hx rfl (hb hby at_19) rfl (XS.lsub X0.here hx rfl (hb hby at_21) rfl kont)))))) ?_
      show Go _ _ _ _ _ _ _ (s₁.setTop (mkF m 22 #[.val (.int k0), .val (.long t0), .second, .val (.long t1), .second, .val (.long t2), .second, .val (.long s0), .second, .val (.long s1), .second, .val (.int (0 : Int32)), .val (.int (1 : Int32)), .unset, .unset, .unset, .unset, .unset, .unset, .unset, .unset, .unset, .unset, .unset, .unset, .unset, .unset, .unset, .unset] [(.long (t0 - s1))]))
      refine Go.by (fun _ kont => XS.lstore X0.here hx rfl (hb hby at_22) rfl (l' := #[.val (.int k0), .val (.long t0), .second, .val (.long t1), .second, .val (.long t2), .second, .val (.long s0), .second, .val (.long s1), .second, .val (.int (0 : Int32)), .val (.int (1 : Int32)), .val (.long (t0 - s1)), .second, .unset, .unset, .unset, .unset, .unset, .unset, .unset, .unset, .unset, .unset, .unset, .unset, .unset, .unset]) rfl (XS.iload X0.here hx rfl (hb hby at_24) rfl kont)) ?_
      show Go _ _ _ _ _ _ _ (s₁.setTop (mkF m 26 #[.val (.int k0), .val (.long t0), .second, .val (.long t1), .second, .val (.long t2), .second, .val (.long s0), .second, .val (.long s1), .second, .val (.int (0 : Int32)), .val (.int (1 : Int32)), .val (.long (t0 - s1)), .second, .unset, .unset, .unset, .unset, .unset, .unset, .unset, .unset, .unset, .unset, .unset, .unset, .unset, .unset] [(.int (0 : Int32))]))
      obtain ⟨T121, h121, k121, X121, e121, X_121, A121, st121⟩ := newP X0 hx hZ (hw _ (List.mem_of_getElem? (i := 0) rfl)) e0 (g := (mkF m 26 #[.val (.int k0), .val (.long t0), .second, .val (.long t1), .second, .val (.long t2), .second, .val (.long s0), .second, .val (.long s1), .second, .val (.int (0 : Int32)), .val (.int (1 : Int32)), .val (.long (t0 - s1)), .second, .unset, .unset, .unset, .unset, .unset, .unset, .unset, .unset, .unset, .unset, .unset, .unset, .unset, .unset] [(.int (0 : Int32))])) rfl (hb hby at_26) rfl (by decide) (cap := 0) (by decide) (by decide) (by decide) (by decide)
      obtain ⟨b121, g121⟩ : ∃ z, z = h0.size := ⟨_, rfl⟩
      rw [← g121] at A121 st121
      have ge_b121 : n0 ≤ b121 := Nat.le_trans Z0 (Nat.le_of_eq g121.symm)
      have sz_b121 : h0.size ≤ b121 := Nat.le_trans (Keep.refl h0 []).1 (Nat.le_of_eq g121.symm)
      have Z122 := Nat.le_trans Z0 X_121.1
      have K122 : Keep h0 h121 [] := (Keep.refl h0 []).ext X_121
      have V121 : Arv Z h121 b121 k121 .long (0 : Int32) [] (.long (0 : Int64)) := (Arv.new A121 (by decide)).pad (pad_rep [] (.long (0 : Int64)) 0)
      refine Go.by st121 ?_
      show Go _ _ _ _ _ _ _ (T121.setTop (mkF m 28 #[.val (.int k0), .val (.long t0), .second, .val (.long t1), .second, .val (.long t2), .second, .val (.long s0), .second, .val (.long s1), .second, .val (.int (0 : Int32)), .val (.int (1 : Int32)), .val (.long (t0 - s1)), .second, .unset, .unset, .unset, .unset, .unset, .unset, .unset, .unset, .unset, .unset, .unset, .unset, .unset, .unset] [(.ref b121)]))
      refine Go.by (fun _ kont => XS.astore X121.here hx rfl (hb hby at_28) rfl rfl (l' := #[.val (.int k0), .val (.long t0), .second, .val (.long t1), .second, .val (.long t2), .second, .val (.long s0), .second, .val (.long s1), .second, .val (.int (0 : Int32)), .val (.int (1 : Int32)), .val (.long (t0 - s1)), .second, .val (.ref b121), .unset, .unset, .unset, .unset, .unset, .unset, .unset, .unset, .unset, .unset, .unset, .unset, .unset]) rfl (XS.iload X121.here hx rfl (hb hby at_30) rfl kont)) ?_
      show Go _ _ _ _ _ _ _ (T121.setTop (mkF m 32 #[.val (.int k0), .val (.long t0), .second, .val (.long t1), .second, .val (.long t2), .second, .val (.long s0), .second, .val (.long s1), .second, .val (.int (0 : Int32)), .val (.int (1 : Int32)), .val (.long (t0 - s1)), .second, .val (.ref b121), .unset, .unset, .unset, .unset, .unset, .unset, .unset, .unset, .unset, .unset, .unset, .unset, .unset] [(.int (0 : Int32))]))
      obtain ⟨T123, h123, k123, X123, e123, X_123, A123, st123⟩ := newP X121 hx hZ (hw _ (List.mem_of_getElem? (i := 0) rfl)) e121 (g := (mkF m 32 #[.val (.int k0), .val (.long t0), .second, .val (.long t1), .second, .val (.long t2), .second, .val (.long s0), .second, .val (.long s1), .second, .val (.int (0 : Int32)), .val (.int (1 : Int32)), .val (.long (t0 - s1)), .second, .val (.ref b121), .unset, .unset, .unset, .unset, .unset, .unset, .unset, .unset, .unset, .unset, .unset, .unset, .unset] [(.int (0 : Int32))])) rfl (hb hby at_32) rfl (by decide) (cap := 0) (by decide) (by decide) (by decide) (by decide)
      obtain ⟨b123, g123⟩ : ∃ z, z = h121.size := ⟨_, rfl⟩
      rw [← g123] at A123 st123
      have ne_b121_b123 : b121 ≠ b123 := Nat.ne_of_lt (Nat.lt_of_lt_of_le V121.lt (Nat.le_of_eq g123.symm))
      have ge_b123 : n0 ≤ b123 := Nat.le_trans Z122 (Nat.le_of_eq g123.symm)
      have sz_b123 : h0.size ≤ b123 := Nat.le_trans K122.1 (Nat.le_of_eq g123.symm)
      have V124_b121 := V121.ext X_123
      have Z124 := Nat.le_trans Z122 X_123.1
      have K124 : Keep h0 h123 [] := K122.ext X_123
      have V123 : Arv Z h123 b123 k123 .long (0 : Int32) [] (.long (0 : Int64)) := (Arv.new A123 (by decide)).pad (pad_rep [] (.long (0 : Int64)) 0)
      refine Go.by st123 ?_
      show Go _ _ _ _ _ _ _ (T123.setTop (mkF m 34 #[.val (.int k0), .val (.long t0), .second, .val (.long t1), .second, .val (.long t2), .second, .val (.long s0), .second, .val (.long s1), .second, .val (.int (0 : Int32)), .val (.int (1 : Int32)), .val (.long (t0 - s1)), .second, .val (.ref b121), .unset, .unset, .unset, .unset, .unset, .unset, .unset, .unset, .unset, .unset, .unset, .unset, .unset] [(.ref b123)]))
      refine Go.by (fun _ kont => XS.astore X123.here hx rfl (hb hby at_34) rfl rfl (l' := #[.val (.int k0), .val (.long t0), .second, .val (.long t1), .second, .val (.long t2), .second, .val (.long s0), .second, .val (.long s1), .second, .val (.int (0 : Int32)), .val (.int (1 : Int32)), .val (.long (t0 - s1)), .second, .val (.ref b121), .val (.ref b123), .unset, .unset, .unset, .unset, .unset, .unset, .unset, .unset, .unset, .unset, .unset, .unset]) rfl (XS.iload X123.here hx rfl (hb hby at_36) rfl kont)) ?_
      show Go _ _ _ _ _ _ _ (T123.setTop (mkF m 38 #[.val (.int k0), .val (.long t0), .second, .val (.long t1), .second, .val (.long t2), .second, .val (.long s0), .second, .val (.long s1), .second, .val (.int (0 : Int32)), .val (.int (1 : Int32)), .val (.long (t0 - s1)), .second, .val (.ref b121), .val (.ref b123), .unset, .unset, .unset, .unset, .unset, .unset, .unset, .unset, .unset, .unset, .unset, .unset] [(.int (0 : Int32))]))
      refine Go.by (fun _ kont => XS.ifYes X123.here hx rfl (pc0 := 38) (pc' := 52) rfl (hb hby at_38) rfl (by decide) (by decide) (by decide) kont) ?_
      show Go _ _ _ _ _ _ _ (T123.setTop (mkF m 52 #[.val (.int k0), .val (.long t0), .second, .val (.long t1), .second, .val (.long t2), .second, .val (.long s0), .second, .val (.long s1), .second, .val (.int (0 : Int32)), .val (.int (1 : Int32)), .val (.long (t0 - s1)), .second, .val (.ref b121), .val (.ref b123), .unset, .unset, .unset, .unset, .unset, .unset, .unset, .unset, .unset, .unset, .unset, .unset] []))
      refine Go.by (fun _ kont => XS.iload X123.here hx rfl (hb hby at_52) rfl (XS.iconst X123.here hx rfl (hb hby at_54) kont)) ?_
      show Go _ _ _ _ _ _ _ (T123.setTop (mkF m 55 #[.val (.int k0), .val (.long t0), .second, .val (.long t1), .second, .val (.long t2), .second, .val (.long s0), .second, .val (.long s1), .second, .val (.int (0 : Int32)), .val (.int (1 : Int32)), .val (.long (t0 - s1)), .second, .val (.ref b121), .val (.ref b123), .unset, .unset, .unset, .unset, .unset, .unset, .unset, .unset, .unset, .unset, .unset, .unset] [(.int (1 : Int32)), (.int (0 : Int32))]))
      refine Go.by (fun _ kont => XS.icmpYes X123.here hx rfl (pc0 := 55) (pc' := 69) rfl (hb hby at_55) rfl (by decide) (by decide) (by decide) kont) ?_
      show Go _ _ _ _ _ _ _ (T123.setTop (mkF m 69 #[.val (.int k0), .val (.long t0), .second, .val (.long t1), .second, .val (.long t2), .second, .val (.long s0), .second, .val (.long s1), .second, .val (.int (0 : Int32)), .val (.int (1 : Int32)), .val (.long (t0 - s1)), .second, .val (.ref b121), .val (.ref b123), .unset, .unset, .unset, .unset, .unset, .unset, .unset, .unset, .unset, .unset, .unset, .unset] []))
      refine Go.by (fun _ kont => XS.iload X123.here hx rfl (hb hby at_69) rfl (XS.iconst X123.here hx rfl (hb hby at_71) kont)) ?_
      show Go _ _ _ _ _ _ _ (T123.setTop (mkF m 72 #[.val (.int k0), .val (.long t0), .second, .val (.long t1), .second, .val (.long t2), .second, .val (.long s0), .second, .val (.long s1), .second, .val (.int (0 : Int32)), .val (.int (1 : Int32)), .val (.long (t0 - s1)), .second, .val (.ref b121), .val (.ref b123), .unset, .unset, .unset, .unset, .unset, .unset, .unset, .unset, .unset, .unset, .unset, .unset] [(.int (2 : Int32)), (.int (0 : Int32))]))
      refine Go.by (fun _ kont => XS.icmpYes X123.here hx rfl (pc0 := 72) (pc' := 87) rfl (hb hby at_72) rfl (by decide) (by decide) (by decide) kont) ?_
      show Go _ _ _ _ _ _ _ (T123.setTop (mkF m 87 #[.val (.int k0), .val (.long t0), .second, .val (.long t1), .second, .val (.long t2), .second, .val (.long s0), .second, .val (.long s1), .second, .val (.int (0 : Int32)), .val (.int (1 : Int32)), .val (.long (t0 - s1)), .second, .val (.ref b121), .val (.ref b123), .unset, .unset, .unset, .unset, .unset, .unset, .unset, .unset, .unset, .unset, .unset, .unset] []))
      refine Go.by (fun _ kont => XS.iload X123.here hx rfl (hb hby at_87) rfl kont) ?_
      show Go _ _ _ _ _ _ _ (T123.setTop (mkF m 89 #[.val (.int k0), .val (.long t0), .second, .val (.long t1), .second, .val (.long t2), .second, .val (.long s0), .second, .val (.long s1), .second, .val (.int (0 : Int32)), .val (.int (1 : Int32)), .val (.long (t0 - s1)), .second, .val (.ref b121), .val (.ref b123), .unset, .unset, .unset, .unset, .unset, .unset, .unset, .unset, .unset, .unset, .unset, .unset] [(.int (1 : Int32))]))
      refine Go.by (fun _ kont => XS.ifNo X123.here hx rfl (hb hby at_89) rfl (by decide) kont) ?_
      show Go _ _ _ _ _ _ _ (T123.setTop (mkF m 92 #[.val (.int k0), .val (.long t0), .second, .val (.long t1), .second, .val (.long t2), .second, .val (.long s0), .second, .val (.long s1), .second, .val (.int (0 : Int32)), .val (.int (1 : Int32)), .val (.long (t0 - s1)), .second, .val (.ref b121), .val (.ref b123), .unset, .unset, .unset, .unset, .unset, .unset, .unset, .unset, .unset, .unset, .unset, .unset] []))
      refine Go.by (fun _ kont => XS.aload X123.here hx rfl (hb hby at_92) rfl rfl (XS.aload X123.here hx rfl (hb hby at_94) rfl rfl kont)) ?_
      show Go _ _ _ _ _ _ _ (T123.setTop (mkF m 96 #[.val (.int k0), .val (.long t0), .second, .val (.long t1), .second, .val (.long t2), .second, .val (.long s0), .second, .val (.long s1), .second, .val (.int (0 : Int32)), .val (.int (1 : Int32)), .val (.long (t0 - s1)), .second, .val (.ref b121), .val (.ref b123), .unset, .unset, .unset, .unset, .unset, .unset, .unset, .unset, .unset, .unset, .unset, .unset] [(.ref b121), (.ref b121)]))
      obtain ⟨_, _, ⟨T125, L125, k125, n125⟩, -, X125, ⟨Lc125, hQ125, l125, y125, z125⟩, st125⟩ := Jvm.LawKit.callS X123 hx (y := (⟨"com/example/runs_to_nets/runstonets/core/Gf2Basis", "xor", "([J[J)V"⟩ : MethodName)) hown (mvT hZ (hw _ (List.mem_of_getElem? (i := 1) rfl))) (mvT hZ (hw _ (List.mem_of_getElem? (i := 2) rfl))) (mvT hZ (hw _ (List.mem_of_getElem? (i := 3) rfl))) (mvT hZ (hw _ (List.mem_of_getElem? (i := 4) rfl))) (by decide) (backOf (W := 0) (rmXA0 l Z a0 hw [] b121 k121 h123 n0 Z124 V124_b121) hZ (hw _ (List.mem_of_getElem? (i := 4) rfl)) (hw _ (List.mem_of_getElem? (i := 3) rfl)) (by decide) (by decide)) (g := (mkF m 96 #[.val (.int k0), .val (.long t0), .second, .val (.long t1), .second, .val (.long t2), .second, .val (.long s0), .second, .val (.long s1), .second, .val (.int (0 : Int32)), .val (.int (1 : Int32)), .val (.long (t0 - s1)), .second, .val (.ref b121), .val (.ref b123), .unset, .unset, .unset, .unset, .unset, .unset, .unset, .unset, .unset, .unset, .unset, .unset] [(.ref b121), (.ref b121)])) rfl (by rw [hml]; rfl) (argsL := [(.ref b121), (.ref b121)]) (rest := []) (lenOf pd0_0 rfl) rfl (by show 2 * 0 + _ ≤ _; exact Nat.le_of_eq rfl) (hb hby at_96) (fun _ _ => ⟨rfl, e123, (by decide : 2 + 0 ≤ _), (by decide : 0 + 0 ≤ _)⟩)
      dsimp only [Pt.U, Pt.locs, Pt.cells, Pt.slots] at X125 l125 y125 z125 st125 hQ125
      subst l125 y125 z125
      obtain ⟨rfl, N125q, eh125⟩ := hQ125
      have N125 := Fr.app N0 N125q
      refine Go.by st125 ?_
      show Go _ _ _ _ _ _ _ (T125.setTop (mkF m 99 #[.val (.int k0), .val (.long t0), .second, .val (.long t1), .second, .val (.long t2), .second, .val (.long s0), .second, .val (.long s1), .second, .val (.int (0 : Int32)), .val (.int (1 : Int32)), .val (.long (t0 - s1)), .second, .val (.ref b121), .val (.ref b123), .unset, .unset, .unset, .unset, .unset, .unset, .unset, .unset, .unset, .unset, .unset, .unset] []))
      refine Go.by (fun _ kont => XS.aload X125.here hx rfl (hb hby at_99) rfl rfl kont) ?_
      show Go _ _ _ _ _ _ _ (T125.setTop (mkF m 101 #[.val (.int k0), .val (.long t0), .second, .val (.long t1), .second, .val (.long t2), .second, .val (.long s0), .second, .val (.long s1), .second, .val (.int (0 : Int32)), .val (.int (1 : Int32)), .val (.long (t0 - s1)), .second, .val (.ref b121), .val (.ref b123), .unset, .unset, .unset, .unset, .unset, .unset, .unset, .unset, .unset, .unset, .unset, .unset] [(.ref b121)]))
      obtain ⟨cl_q126, Ar_q126, q1_q126, S_q126, N_q126, H_q126, G_q126⟩ := id V124_b121
      refine Go.by (X125.arraylength hx (by first | exact Ar_q126.1 | (rw [eh125]; exact Ar_q126.1)) (State.isArrayOf_alike hZ.alike Ar_q126.2.1) (g := (mkF m 101 #[.val (.int k0), .val (.long t0), .second, .val (.long t1), .second, .val (.long t2), .second, .val (.long s0), .second, .val (.long s1), .second, .val (.int (0 : Int32)), .val (.int (1 : Int32)), .val (.long (t0 - s1)), .second, .val (.ref b121), .val (.ref b123), .unset, .unset, .unset, .unset, .unset, .unset, .unset, .unset, .unset, .unset, .unset, .unset] [(.ref b121)])) rfl rfl (hb hby at_101)) ?_
      rw [len_of S_q126 N_q126]
      show Go _ _ _ _ _ _ _ (T125.setTop (mkF m 102 #[.val (.int k0), .val (.long t0), .second, .val (.long t1), .second, .val (.long t2), .second, .val (.long s0), .second, .val (.long s1), .second, .val (.int (0 : Int32)), .val (.int (1 : Int32)), .val (.long (t0 - s1)), .second, .val (.ref b121), .val (.ref b123), .unset, .unset, .unset, .unset, .unset, .unset, .unset, .unset, .unset, .unset, .unset, .unset] [(.int (0 : Int32))]))
      refine Go.by (fun _ kont => XS.iload X125.here hx rfl (hb hby at_102) rfl kont) ?_
      show Go _ _ _ _ _ _ _ (T125.setTop (mkF m 104 #[.val (.int k0), .val (.long t0), .second, .val (.long t1), .second, .val (.long t2), .second, .val (.long s0), .second, .val (.long s1), .second, .val (.int (0 : Int32)), .val (.int (1 : Int32)), .val (.long (t0 - s1)), .second, .val (.ref b121), .val (.ref b123), .unset, .unset, .unset, .unset, .unset, .unset, .unset, .unset, .unset, .unset, .unset, .unset] [(.int (0 : Int32)), (.int (0 : Int32))]))
      refine Go.by (fun _ kont => XS.icmpNo X125.here hx rfl (hb hby at_104) rfl (by decide) kont) ?_
      show Go _ _ _ _ _ _ _ (T125.setTop (mkF m 107 #[.val (.int k0), .val (.long t0), .second, .val (.long t1), .second, .val (.long t2), .second, .val (.long s0), .second, .val (.long s1), .second, .val (.int (0 : Int32)), .val (.int (1 : Int32)), .val (.long (t0 - s1)), .second, .val (.ref b121), .val (.ref b123), .unset, .unset, .unset, .unset, .unset, .unset, .unset, .unset, .unset, .unset, .unset, .unset] []))
      refine Go.by (fun _ kont => XS.aload X125.here hx rfl (hb hby at_107) rfl rfl (XS.iconst X125.here hx rfl (hb hby at_109) kont)) ?_
      show Go _ _ _ _ _ _ _ (T125.setTop (mkF m 110 #[.val (.int k0), .val (.long t0), .second, .val (.long t1), .second, .val (.long t2), .second, .val (.long s0), .second, .val (.long s1), .second, .val (.int (0 : Int32)), .val (.int (1 : Int32)), .val (.long (t0 - s1)), .second, .val (.ref b121), .val (.ref b123), .unset, .unset, .unset, .unset, .unset, .unset, .unset, .unset, .unset, .unset, .unset, .unset] [(.int (0 : Int32)), (.ref b121)]))
      obtain ⟨_, _, ⟨T127, L127, k127, n127⟩, -, X127, ⟨Lc127, hQ127, l127, y127, z127⟩, st127⟩ := Jvm.LawKit.callS X125 hx (y := (⟨"com/example/runs_to_nets/runstonets/core/Gf2BasisXorPinLaw", "word", "([JI)J"⟩ : MethodName)) hown (mvT hZ (hw _ (List.mem_of_getElem? (i := 5) rfl))) (mvT hZ (hw _ (List.mem_of_getElem? (i := 6) rfl))) (mvT hZ (hw _ (List.mem_of_getElem? (i := 7) rfl))) (mvT hZ (hw _ (List.mem_of_getElem? (i := 8) rfl))) (by decide) (backOf (W := 0) (rmW00 l Z a0 hw [] b121 k121 h123 n0 Z124 V124_b121) hZ (hw _ (List.mem_of_getElem? (i := 8) rfl)) (hw _ (List.mem_of_getElem? (i := 7) rfl)) (by decide) (by decide)) (g := (mkF m 110 #[.val (.int k0), .val (.long t0), .second, .val (.long t1), .second, .val (.long t2), .second, .val (.long s0), .second, .val (.long s1), .second, .val (.int (0 : Int32)), .val (.int (1 : Int32)), .val (.long (t0 - s1)), .second, .val (.ref b121), .val (.ref b123), .unset, .unset, .unset, .unset, .unset, .unset, .unset, .unset, .unset, .unset, .unset, .unset] [(.int (0 : Int32)), (.ref b121)])) rfl (by rw [hml]; rfl) (argsL := [(.ref b121), (.int (0 : Int32))]) (rest := []) (lenOf pd0_1 rfl) rfl (by show 2 * 0 + _ ≤ _; exact Nat.le_of_eq rfl) (hb hby at_110) (fun _ _ => ⟨rfl, eh125, (by decide : 2 + 0 ≤ _), (by decide : 0 + 0 ≤ _)⟩)
      dsimp only [Pt.U, Pt.locs, Pt.cells, Pt.slots] at X127 l127 y127 z127 st127 hQ127
      subst l127 y127 z127
      obtain ⟨rfl, N127q, eh127⟩ := hQ127
      have N127 := Fr.app N125 N127q
      refine Go.by st127 ?_
      show Go _ _ _ _ _ _ _ (T127.setTop (mkF m 113 #[.val (.int k0), .val (.long t0), .second, .val (.long t1), .second, .val (.long t2), .second, .val (.long s0), .second, .val (.long s1), .second, .val (.int (0 : Int32)), .val (.int (1 : Int32)), .val (.long (t0 - s1)), .second, .val (.ref b121), .val (.ref b123), .unset, .unset, .unset, .unset, .unset, .unset, .unset, .unset, .unset, .unset, .unset, .unset] [(.long (0 : Int64))]))
      refine Go.by (fun _ kont => XS.lconst X127.here hx rfl (hb hby at_113) (XS.lcmp X127.here hx rfl (hb hby at_114) rfl kont)) ?_
      show Go _ _ _ _ _ _ _ (T127.setTop (mkF m 115 #[.val (.int k0), .val (.long t0), .second, .val (.long t1), .second, .val (.long t2), .second, .val (.long s0), .second, .val (.long s1), .second, .val (.int (0 : Int32)), .val (.int (1 : Int32)), .val (.long (t0 - s1)), .second, .val (.ref b121), .val (.ref b123), .unset, .unset, .unset, .unset, .unset, .unset, .unset, .unset, .unset, .unset, .unset, .unset] [(.int (lcmpW (0 : Int64) (0 : Int64)))]))
      have hd128 : (0 : Int64) = (0 : Int64) := by decide
      refine Go.by (fun _ kont => XS.ifNo X127.here hx rfl (hb hby at_115) rfl ((if0 _ _).trans (teq ((lw_eq _ _).mpr hd128)).2) kont) ?_
      show Go _ _ _ _ _ _ _ (T127.setTop (mkF m 118 #[.val (.int k0), .val (.long t0), .second, .val (.long t1), .second, .val (.long t2), .second, .val (.long s0), .second, .val (.long s1), .second, .val (.int (0 : Int32)), .val (.int (1 : Int32)), .val (.long (t0 - s1)), .second, .val (.ref b121), .val (.ref b123), .unset, .unset, .unset, .unset, .unset, .unset, .unset, .unset, .unset, .unset, .unset, .unset] []))
      refine Go.by (fun _ kont => XS.aload X127.here hx rfl (hb hby at_118) rfl rfl (XS.iconst X127.here hx rfl (hb hby at_120) kont)) ?_
      show Go _ _ _ _ _ _ _ (T127.setTop (mkF m 121 #[.val (.int k0), .val (.long t0), .second, .val (.long t1), .second, .val (.long t2), .second, .val (.long s0), .second, .val (.long s1), .second, .val (.int (0 : Int32)), .val (.int (1 : Int32)), .val (.long (t0 - s1)), .second, .val (.ref b121), .val (.ref b123), .unset, .unset, .unset, .unset, .unset, .unset, .unset, .unset, .unset, .unset, .unset, .unset] [(.int (1 : Int32)), (.ref b121)]))
      obtain ⟨_, _, ⟨T129, L129, k129, n129⟩, -, X129, ⟨Lc129, hQ129, l129, y129, z129⟩, st129⟩ := Jvm.LawKit.callS X127 hx (y := (⟨"com/example/runs_to_nets/runstonets/core/Gf2BasisXorPinLaw", "word", "([JI)J"⟩ : MethodName)) hown (mvT hZ (hw _ (List.mem_of_getElem? (i := 5) rfl))) (mvT hZ (hw _ (List.mem_of_getElem? (i := 6) rfl))) (mvT hZ (hw _ (List.mem_of_getElem? (i := 7) rfl))) (mvT hZ (hw _ (List.mem_of_getElem? (i := 8) rfl))) (by decide) (backOf (W := 0) (rmW01 l Z a0 hw [] b121 k121 h123 n0 Z124 V124_b121) hZ (hw _ (List.mem_of_getElem? (i := 8) rfl)) (hw _ (List.mem_of_getElem? (i := 7) rfl)) (by decide) (by decide)) (g := (mkF m 121 #[.val (.int k0), .val (.long t0), .second, .val (.long t1), .second, .val (.long t2), .second, .val (.long s0), .second, .val (.long s1), .second, .val (.int (0 : Int32)), .val (.int (1 : Int32)), .val (.long (t0 - s1)), .second, .val (.ref b121), .val (.ref b123), .unset, .unset, .unset, .unset, .unset, .unset, .unset, .unset, .unset, .unset, .unset, .unset] [(.int (1 : Int32)), (.ref b121)])) rfl (by rw [hml]; rfl) (argsL := [(.ref b121), (.int (1 : Int32))]) (rest := []) (lenOf pd0_1 rfl) rfl (by show 2 * 0 + _ ≤ _; exact Nat.le_of_eq rfl) (hb hby at_121) (fun _ _ => ⟨rfl, eh127, (by decide : 2 + 0 ≤ _), (by decide : 0 + 0 ≤ _)⟩)
      dsimp only [Pt.U, Pt.locs, Pt.cells, Pt.slots] at X129 l129 y129 z129 st129 hQ129
      subst l129 y129 z129
      obtain ⟨rfl, N129q, eh129⟩ := hQ129
      have N129 := Fr.app N127 N129q
      refine Go.by st129 ?_
      show Go _ _ _ _ _ _ _ (T129.setTop (mkF m 124 #[.val (.int k0), .val (.long t0), .second, .val (.long t1), .second, .val (.long t2), .second, .val (.long s0), .second, .val (.long s1), .second, .val (.int (0 : Int32)), .val (.int (1 : Int32)), .val (.long (t0 - s1)), .second, .val (.ref b121), .val (.ref b123), .unset, .unset, .unset, .unset, .unset, .unset, .unset, .unset, .unset, .unset, .unset, .unset] [(.long (0 : Int64))]))
      refine Go.by (fun _ kont => XS.lconst X129.here hx rfl (hb hby at_124) (XS.lcmp X129.here hx rfl (hb hby at_125) rfl kont)) ?_
      show Go _ _ _ _ _ _ _ (T129.setTop (mkF m 126 #[.val (.int k0), .val (.long t0), .second, .val (.long t1), .second, .val (.long t2), .second, .val (.long s0), .second, .val (.long s1), .second, .val (.int (0 : Int32)), .val (.int (1 : Int32)), .val (.long (t0 - s1)), .second, .val (.ref b121), .val (.ref b123), .unset, .unset, .unset, .unset, .unset, .unset, .unset, .unset, .unset, .unset, .unset, .unset] [(.int (lcmpW (0 : Int64) (0 : Int64)))]))
      have hd130 : (0 : Int64) = (0 : Int64) := by decide
      refine Go.by (fun _ kont => XS.ifNo X129.here hx rfl (hb hby at_126) rfl ((if0 _ _).trans (teq ((lw_eq _ _).mpr hd130)).2) kont) ?_
      show Go _ _ _ _ _ _ _ (T129.setTop (mkF m 129 #[.val (.int k0), .val (.long t0), .second, .val (.long t1), .second, .val (.long t2), .second, .val (.long s0), .second, .val (.long s1), .second, .val (.int (0 : Int32)), .val (.int (1 : Int32)), .val (.long (t0 - s1)), .second, .val (.ref b121), .val (.ref b123), .unset, .unset, .unset, .unset, .unset, .unset, .unset, .unset, .unset, .unset, .unset, .unset] []))
      refine Go.by (fun _ kont => XS.aload X129.here hx rfl (hb hby at_129) rfl rfl (XS.iconst X129.here hx rfl (hb hby at_131) kont)) ?_
      show Go _ _ _ _ _ _ _ (T129.setTop (mkF m 132 #[.val (.int k0), .val (.long t0), .second, .val (.long t1), .second, .val (.long t2), .second, .val (.long s0), .second, .val (.long s1), .second, .val (.int (0 : Int32)), .val (.int (1 : Int32)), .val (.long (t0 - s1)), .second, .val (.ref b121), .val (.ref b123), .unset, .unset, .unset, .unset, .unset, .unset, .unset, .unset, .unset, .unset, .unset, .unset] [(.int (2 : Int32)), (.ref b121)]))
      obtain ⟨_, _, ⟨T131, L131, k131, n131⟩, -, X131, ⟨Lc131, hQ131, l131, y131, z131⟩, st131⟩ := Jvm.LawKit.callS X129 hx (y := (⟨"com/example/runs_to_nets/runstonets/core/Gf2BasisXorPinLaw", "word", "([JI)J"⟩ : MethodName)) hown (mvT hZ (hw _ (List.mem_of_getElem? (i := 5) rfl))) (mvT hZ (hw _ (List.mem_of_getElem? (i := 6) rfl))) (mvT hZ (hw _ (List.mem_of_getElem? (i := 7) rfl))) (mvT hZ (hw _ (List.mem_of_getElem? (i := 8) rfl))) (by decide) (backOf (W := 0) (rmW02 l Z a0 hw [] b121 k121 h123 n0 Z124 V124_b121) hZ (hw _ (List.mem_of_getElem? (i := 8) rfl)) (hw _ (List.mem_of_getElem? (i := 7) rfl)) (by decide) (by decide)) (g := (mkF m 132 #[.val (.int k0), .val (.long t0), .second, .val (.long t1), .second, .val (.long t2), .second, .val (.long s0), .second, .val (.long s1), .second, .val (.int (0 : Int32)), .val (.int (1 : Int32)), .val (.long (t0 - s1)), .second, .val (.ref b121), .val (.ref b123), .unset, .unset, .unset, .unset, .unset, .unset, .unset, .unset, .unset, .unset, .unset, .unset] [(.int (2 : Int32)), (.ref b121)])) rfl (by rw [hml]; rfl) (argsL := [(.ref b121), (.int (2 : Int32))]) (rest := []) (lenOf pd0_1 rfl) rfl (by show 2 * 0 + _ ≤ _; exact Nat.le_of_eq rfl) (hb hby at_132) (fun _ _ => ⟨rfl, eh129, (by decide : 2 + 0 ≤ _), (by decide : 0 + 0 ≤ _)⟩)
      dsimp only [Pt.U, Pt.locs, Pt.cells, Pt.slots] at X131 l131 y131 z131 st131 hQ131
      subst l131 y131 z131
      obtain ⟨rfl, N131q, eh131⟩ := hQ131
      have N131 := Fr.app N129 N131q
      refine Go.by st131 ?_
      show Go _ _ _ _ _ _ _ (T131.setTop (mkF m 135 #[.val (.int k0), .val (.long t0), .second, .val (.long t1), .second, .val (.long t2), .second, .val (.long s0), .second, .val (.long s1), .second, .val (.int (0 : Int32)), .val (.int (1 : Int32)), .val (.long (t0 - s1)), .second, .val (.ref b121), .val (.ref b123), .unset, .unset, .unset, .unset, .unset, .unset, .unset, .unset, .unset, .unset, .unset, .unset] [(.long (0 : Int64))]))
      refine Go.by (fun _ kont => XS.lconst X131.here hx rfl (hb hby at_135) (XS.lcmp X131.here hx rfl (hb hby at_136) rfl kont)) ?_
      show Go _ _ _ _ _ _ _ (T131.setTop (mkF m 137 #[.val (.int k0), .val (.long t0), .second, .val (.long t1), .second, .val (.long t2), .second, .val (.long s0), .second, .val (.long s1), .second, .val (.int (0 : Int32)), .val (.int (1 : Int32)), .val (.long (t0 - s1)), .second, .val (.ref b121), .val (.ref b123), .unset, .unset, .unset, .unset, .unset, .unset, .unset, .unset, .unset, .unset, .unset, .unset] [(.int (lcmpW (0 : Int64) (0 : Int64)))]))
      have hd132 : (0 : Int64) = (0 : Int64) := by decide
      refine Go.by (fun _ kont => XS.ifNo X131.here hx rfl (hb hby at_137) rfl ((if0 _ _).trans (teq ((lw_eq _ _).mpr hd132)).2) kont) ?_
      show Go _ _ _ _ _ _ _ (T131.setTop (mkF m 140 #[.val (.int k0), .val (.long t0), .second, .val (.long t1), .second, .val (.long t2), .second, .val (.long s0), .second, .val (.long s1), .second, .val (.int (0 : Int32)), .val (.int (1 : Int32)), .val (.long (t0 - s1)), .second, .val (.ref b121), .val (.ref b123), .unset, .unset, .unset, .unset, .unset, .unset, .unset, .unset, .unset, .unset, .unset, .unset] []))
      refine Go.by (fun _ kont => XS.iconst X131.here hx rfl (hb hby at_140) (XS.goto X131.here hx rfl (pc0 := 141) (pc' := 145) rfl (hb hby at_141) (by decide) (by decide) kont)) ?_
      show Go _ _ _ _ _ _ _ (T131.setTop (mkF m 145 #[.val (.int k0), .val (.long t0), .second, .val (.long t1), .second, .val (.long t2), .second, .val (.long s0), .second, .val (.long s1), .second, .val (.int (0 : Int32)), .val (.int (1 : Int32)), .val (.long (t0 - s1)), .second, .val (.ref b121), .val (.ref b123), .unset, .unset, .unset, .unset, .unset, .unset, .unset, .unset, .unset, .unset, .unset, .unset] [(.int (1 : Int32))]))
      refine Go.retN X131 hx (t := .boolean) hret (by simp) hlk (hb hby at_145) ?_ (by decide) (by decide)
      show Q0 Z h0 n0 (some (.int (1 : Int32))) T131.heap _
      rw [eh131]
      exact ⟨rfl, N131⟩
  · show Go _ _ _ _ _ _ _ (s₁.setTop (mkF m 5 #[.val (.int k0), .val (.long t0), .second, .val (.long t1), .second, .val (.long t2), .second, .val (.long s0), .second, .val (.long s1), .second, .val (.int (1 : Int32)), .unset, .unset, .unset, .unset, .unset, .unset, .unset, .unset, .unset, .unset, .unset, .unset, .unset, .unset, .unset, .unset, .unset] []))
    refine Go.by (fun _ kont => XS.iloadN X0.here hx rfl (hb hby at_5) rfl (XS.iconst X0.here hx rfl (hb hby at_6) (XS.iand X0.here hx rfl (hb hby at_7) rfl kont))) ?_
    show Go _ _ _ _ _ _ _ (s₁.setTop (mkF m 8 #[.val (.int k0), .val (.long t0), .second, .val (.long t1), .second, .val (.long t2), .second, .val (.long s0), .second, .val (.long s1), .second, .val (.int (1 : Int32)), .unset, .unset, .unset, .unset, .unset, .unset, .unset, .unset, .unset, .unset, .unset, .unset, .unset, .unset, .unset, .unset, .unset] [(.int (k0 &&& (4 : Int32)))]))
    by_cases hc133 : (k0 &&& (4 : Int32)) = (0 : Int32)
    · refine Go.by (fun _ kont => XS.ifYes X0.here hx rfl (pc0 := 8) (pc' := 15) rfl (hb hby at_8) rfl ((if0 _ _).trans (teq hc133).1) (by decide) (by decide) kont) ?_
      show Go _ _ _ _ _ _ _ (s₁.setTop (mkF m 15 #[.val (.int k0), .val (.long t0), .second, .val (.long t1), .second, .val (.long t2), .second, .val (.long s0), .second, .val (.long s1), .second, .val (.int (1 : Int32)), .unset, .unset, .unset, .unset, .unset, .unset, .unset, .unset, .unset, .unset, .unset, .unset, .unset, .unset, .unset, .unset, .unset] []))
      refine Go.by (fun _ kont => XS.iconst X0.here hx rfl (hb hby at_15) (XS.istore X0.here hx rfl (hb hby at_16) rfl (l' := #[.val (.int k0), .val (.long t0), .second, .val (.long t1), .second, .val (.long t2), .second, .val (.long s0), .second, .val (.long s1), .second, .val (.int (1 : Int32)), .val (.int (0 : Int32)), .unset, .unset, .unset, .unset, .unset, .unset, .unset, .unset, .unset, .unset, .unset, .unset, .unset, .unset, .unset, .unset]) rfl (XS.lloadN X0.here hx rfl (hb hby at_18) rfl (XS.lload X0.here hx rfl (hb hby at_19) rfl (XS.lsub X0.here hx rfl (hb hby at_21) rfl (XS.lstore X0.here hx rfl (hb hby at_22) rfl (l' := #[.val (.int k0), .val (.long t0), .second, .val (.long t1), .second, .val (.long t2), .second, .val (.long s0), .second, .val (.long s1), .second, .val (.int (1 : Int32)), .val (.int (0 : Int32)), .val (.long (t0 - s1)), .second, .unset, .unset, .unset, .unset, .unset, .unset, .unset, .unset, .unset, .unset, .unset, .unset, .unset, .unset]) rfl kont)))))) ?_
      show Go _ _ _ _ _ _ _ (s₁.setTop (mkF m 24 #[.val (.int k0), .val (.long t0), .second, .val (.long t1), .second, .val (.long t2), .second, .val (.long s0), .second, .val (.long s1), .second, .val (.int (1 : Int32)), .val (.int (0 : Int32)), .val (.long (t0 - s1)), .second, .unset, .unset, .unset, .unset, .unset, .unset, .unset, .unset, .unset, .unset, .unset, .unset, .unset, .unset] []))
      refine Go.by (fun _ kont => XS.iload X0.here hx rfl (hb hby at_24) rfl kont) ?_
      show Go _ _ _ _ _ _ _ (s₁.setTop (mkF m 26 #[.val (.int k0), .val (.long t0), .second, .val (.long t1), .second, .val (.long t2), .second, .val (.long s0), .second, .val (.long s1), .second, .val (.int (1 : Int32)), .val (.int (0 : Int32)), .val (.long (t0 - s1)), .second, .unset, .unset, .unset, .unset, .unset, .unset, .unset, .unset, .unset, .unset, .unset, .unset, .unset, .unset] [(.int (1 : Int32))]))
      obtain ⟨T134, h134, k134, X134, e134, X_134, A134, st134⟩ := newP X0 hx hZ (hw _ (List.mem_of_getElem? (i := 0) rfl)) e0 (g := (mkF m 26 #[.val (.int k0), .val (.long t0), .second, .val (.long t1), .second, .val (.long t2), .second, .val (.long s0), .second, .val (.long s1), .second, .val (.int (1 : Int32)), .val (.int (0 : Int32)), .val (.long (t0 - s1)), .second, .unset, .unset, .unset, .unset, .unset, .unset, .unset, .unset, .unset, .unset, .unset, .unset, .unset, .unset] [(.int (1 : Int32))])) rfl (hb hby at_26) rfl (by decide) (cap := 1) (by decide) (by decide) (by decide) (by decide)
      obtain ⟨b134, g134⟩ : ∃ z, z = h0.size := ⟨_, rfl⟩
      rw [← g134] at A134 st134
      have ge_b134 : n0 ≤ b134 := Nat.le_trans Z0 (Nat.le_of_eq g134.symm)
      have sz_b134 : h0.size ≤ b134 := Nat.le_trans (Keep.refl h0 []).1 (Nat.le_of_eq g134.symm)
      have Z135 := Nat.le_trans Z0 X_134.1
      have K135 : Keep h0 h134 [] := (Keep.refl h0 []).ext X_134
      have V134 : Arv Z h134 b134 k134 .long (1 : Int32) [(.long (0 : Int64))] (.long (0 : Int64)) := (Arv.new A134 (by decide)).pad (pad_rep [] (.long (0 : Int64)) 1)
      refine Go.by st134 ?_
      show Go _ _ _ _ _ _ _ (T134.setTop (mkF m 28 #[.val (.int k0), .val (.long t0), .second, .val (.long t1), .second, .val (.long t2), .second, .val (.long s0), .second, .val (.long s1), .second, .val (.int (1 : Int32)), .val (.int (0 : Int32)), .val (.long (t0 - s1)), .second, .unset, .unset, .unset, .unset, .unset, .unset, .unset, .unset, .unset, .unset, .unset, .unset, .unset, .unset] [(.ref b134)]))
      refine Go.by (fun _ kont => XS.astore X134.here hx rfl (hb hby at_28) rfl rfl (l' := #[.val (.int k0), .val (.long t0), .second, .val (.long t1), .second, .val (.long t2), .second, .val (.long s0), .second, .val (.long s1), .second, .val (.int (1 : Int32)), .val (.int (0 : Int32)), .val (.long (t0 - s1)), .second, .val (.ref b134), .unset, .unset, .unset, .unset, .unset, .unset, .unset, .unset, .unset, .unset, .unset, .unset, .unset]) rfl (XS.iload X134.here hx rfl (hb hby at_30) rfl kont)) ?_
      show Go _ _ _ _ _ _ _ (T134.setTop (mkF m 32 #[.val (.int k0), .val (.long t0), .second, .val (.long t1), .second, .val (.long t2), .second, .val (.long s0), .second, .val (.long s1), .second, .val (.int (1 : Int32)), .val (.int (0 : Int32)), .val (.long (t0 - s1)), .second, .val (.ref b134), .unset, .unset, .unset, .unset, .unset, .unset, .unset, .unset, .unset, .unset, .unset, .unset, .unset] [(.int (1 : Int32))]))
      obtain ⟨T136, h136, k136, X136, e136, X_136, A136, st136⟩ := newP X134 hx hZ (hw _ (List.mem_of_getElem? (i := 0) rfl)) e134 (g := (mkF m 32 #[.val (.int k0), .val (.long t0), .second, .val (.long t1), .second, .val (.long t2), .second, .val (.long s0), .second, .val (.long s1), .second, .val (.int (1 : Int32)), .val (.int (0 : Int32)), .val (.long (t0 - s1)), .second, .val (.ref b134), .unset, .unset, .unset, .unset, .unset, .unset, .unset, .unset, .unset, .unset, .unset, .unset, .unset] [(.int (1 : Int32))])) rfl (hb hby at_32) rfl (by decide) (cap := 1) (by decide) (by decide) (by decide) (by decide)
      obtain ⟨b136, g136⟩ : ∃ z, z = h134.size := ⟨_, rfl⟩
      rw [← g136] at A136 st136
      have ne_b134_b136 : b134 ≠ b136 := Nat.ne_of_lt (Nat.lt_of_lt_of_le V134.lt (Nat.le_of_eq g136.symm))
      have ge_b136 : n0 ≤ b136 := Nat.le_trans Z135 (Nat.le_of_eq g136.symm)
      have sz_b136 : h0.size ≤ b136 := Nat.le_trans K135.1 (Nat.le_of_eq g136.symm)
      have V137_b134 := V134.ext X_136
      have Z137 := Nat.le_trans Z135 X_136.1
      have K137 : Keep h0 h136 [] := K135.ext X_136
      have V136 : Arv Z h136 b136 k136 .long (1 : Int32) [(.long (0 : Int64))] (.long (0 : Int64)) := (Arv.new A136 (by decide)).pad (pad_rep [] (.long (0 : Int64)) 1)
      refine Go.by st136 ?_
      show Go _ _ _ _ _ _ _ (T136.setTop (mkF m 34 #[.val (.int k0), .val (.long t0), .second, .val (.long t1), .second, .val (.long t2), .second, .val (.long s0), .second, .val (.long s1), .second, .val (.int (1 : Int32)), .val (.int (0 : Int32)), .val (.long (t0 - s1)), .second, .val (.ref b134), .unset, .unset, .unset, .unset, .unset, .unset, .unset, .unset, .unset, .unset, .unset, .unset, .unset] [(.ref b136)]))
      refine Go.by (fun _ kont => XS.astore X136.here hx rfl (hb hby at_34) rfl rfl (l' := #[.val (.int k0), .val (.long t0), .second, .val (.long t1), .second, .val (.long t2), .second, .val (.long s0), .second, .val (.long s1), .second, .val (.int (1 : Int32)), .val (.int (0 : Int32)), .val (.long (t0 - s1)), .second, .val (.ref b134), .val (.ref b136), .unset, .unset, .unset, .unset, .unset, .unset, .unset, .unset, .unset, .unset, .unset, .unset]) rfl (XS.iload X136.here hx rfl (hb hby at_36) rfl kont)) ?_
      show Go _ _ _ _ _ _ _ (T136.setTop (mkF m 38 #[.val (.int k0), .val (.long t0), .second, .val (.long t1), .second, .val (.long t2), .second, .val (.long s0), .second, .val (.long s1), .second, .val (.int (1 : Int32)), .val (.int (0 : Int32)), .val (.long (t0 - s1)), .second, .val (.ref b134), .val (.ref b136), .unset, .unset, .unset, .unset, .unset, .unset, .unset, .unset, .unset, .unset, .unset, .unset] [(.int (1 : Int32))]))
      refine Go.by (fun _ kont => XS.ifNo X136.here hx rfl (hb hby at_38) rfl (by decide) kont) ?_
      show Go _ _ _ _ _ _ _ (T136.setTop (mkF m 41 #[.val (.int k0), .val (.long t0), .second, .val (.long t1), .second, .val (.long t2), .second, .val (.long s0), .second, .val (.long s1), .second, .val (.int (1 : Int32)), .val (.int (0 : Int32)), .val (.long (t0 - s1)), .second, .val (.ref b134), .val (.ref b136), .unset, .unset, .unset, .unset, .unset, .unset, .unset, .unset, .unset, .unset, .unset, .unset] []))
      refine Go.by (fun _ kont => XS.aload X136.here hx rfl (hb hby at_41) rfl rfl (XS.iconst X136.here hx rfl (hb hby at_43) (XS.lloadN X136.here hx rfl (hb hby at_44) rfl kont))) ?_
      show Go _ _ _ _ _ _ _ (T136.setTop (mkF m 45 #[.val (.int k0), .val (.long t0), .second, .val (.long t1), .second, .val (.long t2), .second, .val (.long s0), .second, .val (.long s1), .second, .val (.int (1 : Int32)), .val (.int (0 : Int32)), .val (.long (t0 - s1)), .second, .val (.ref b134), .val (.ref b136), .unset, .unset, .unset, .unset, .unset, .unset, .unset, .unset, .unset, .unset, .unset, .unset] [(.long t0), (.int (0 : Int32)), (.ref b134)]))
      obtain ⟨cl_q138, Ar_q138, q1_q138, S_q138, N_q138, H_q138, G_q138⟩ := id V137_b134
      have hin_q138 : ¬ ((0 : Int32) < 0 ∨ cl_q138.slots.size ≤ ((0 : Int32)).toNatClampNeg) := inb_of S_q138 ⟨by decide, by decide⟩
      obtain ⟨T139, h139, X139, e139, W139, st139⟩ := stJ X136 hx hZ e136 Ar_q138 (j := (0 : Int32)) hin_q138 (g := (mkF m 45 #[.val (.int k0), .val (.long t0), .second, .val (.long t1), .second, .val (.long t2), .second, .val (.long s0), .second, .val (.long s1), .second, .val (.int (1 : Int32)), .val (.int (0 : Int32)), .val (.long (t0 - s1)), .second, .val (.ref b134), .val (.ref b136), .unset, .unset, .unset, .unset, .unset, .unset, .unset, .unset, .unset, .unset, .unset, .unset] [(.long t0), (.int (0 : Int32)), (.ref b134)])) rfl rfl (hb hby at_45)
      have V139 : Arv Z h139 b134 k134 .long (1 : Int32) [(.long t0)] (.long (0 : Int64)) := Arv.set Ar_q138 q1_q138 S_q138 N_q138 H_q138 G_q138 rfl W139 0 rfl (Nat.le_of_ble_eq_true rfl)
      have V140_b136 := V136.other W139 (Ne.symm ne_b134_b136)
      have Z140 := Nat.le_trans Z137 (Keep.of_wr W139).1
      have K140 : Keep h0 h139 [] := K137.wr W139 (Or.inr sz_b134)
      have N139 := Fr.snoc X139 N0 ge_b134
      refine Go.by st139 ?_
      show Go _ _ _ _ _ _ _ (T139.setTop (mkF m 46 #[.val (.int k0), .val (.long t0), .second, .val (.long t1), .second, .val (.long t2), .second, .val (.long s0), .second, .val (.long s1), .second, .val (.int (1 : Int32)), .val (.int (0 : Int32)), .val (.long (t0 - s1)), .second, .val (.ref b134), .val (.ref b136), .unset, .unset, .unset, .unset, .unset, .unset, .unset, .unset, .unset, .unset, .unset, .unset] []))
      refine Go.by (fun _ kont => XS.aload X139.here hx rfl (hb hby at_46) rfl rfl (XS.iconst X139.here hx rfl (hb hby at_48) (XS.lload X139.here hx rfl (hb hby at_49) rfl kont))) ?_
      show Go _ _ _ _ _ _ _ (T139.setTop (mkF m 51 #[.val (.int k0), .val (.long t0), .second, .val (.long t1), .second, .val (.long t2), .second, .val (.long s0), .second, .val (.long s1), .second, .val (.int (1 : Int32)), .val (.int (0 : Int32)), .val (.long (t0 - s1)), .second, .val (.ref b134), .val (.ref b136), .unset, .unset, .unset, .unset, .unset, .unset, .unset, .unset, .unset, .unset, .unset, .unset] [(.long s0), (.int (0 : Int32)), (.ref b136)]))
      obtain ⟨cl_q141, Ar_q141, q1_q141, S_q141, N_q141, H_q141, G_q141⟩ := id V140_b136
      have hin_q141 : ¬ ((0 : Int32) < 0 ∨ cl_q141.slots.size ≤ ((0 : Int32)).toNatClampNeg) := inb_of S_q141 ⟨by decide, by decide⟩
      obtain ⟨T142, h142, X142, e142, W142, st142⟩ := stJ X139 hx hZ e139 Ar_q141 (j := (0 : Int32)) hin_q141 (g := (mkF m 51 #[.val (.int k0), .val (.long t0), .second, .val (.long t1), .second, .val (.long t2), .second, .val (.long s0), .second, .val (.long s1), .second, .val (.int (1 : Int32)), .val (.int (0 : Int32)), .val (.long (t0 - s1)), .second, .val (.ref b134), .val (.ref b136), .unset, .unset, .unset, .unset, .unset, .unset, .unset, .unset, .unset, .unset, .unset, .unset] [(.long s0), (.int (0 : Int32)), (.ref b136)])) rfl rfl (hb hby at_51)
      have V142 : Arv Z h142 b136 k136 .long (1 : Int32) [(.long s0)] (.long (0 : Int64)) := Arv.set Ar_q141 q1_q141 S_q141 N_q141 H_q141 G_q141 rfl W142 0 rfl (Nat.le_of_ble_eq_true rfl)
      have V143_b134 := V139.other W142 ne_b134_b136
      have Z143 := Nat.le_trans Z140 (Keep.of_wr W142).1
      have K143 : Keep h0 h142 [] := K140.wr W142 (Or.inr sz_b136)
      have N142 := Fr.snoc X142 N139 ge_b136
      refine Go.by st142 ?_
      show Go _ _ _ _ _ _ _ (T142.setTop (mkF m 52 #[.val (.int k0), .val (.long t0), .second, .val (.long t1), .second, .val (.long t2), .second, .val (.long s0), .second, .val (.long s1), .second, .val (.int (1 : Int32)), .val (.int (0 : Int32)), .val (.long (t0 - s1)), .second, .val (.ref b134), .val (.ref b136), .unset, .unset, .unset, .unset, .unset, .unset, .unset, .unset, .unset, .unset, .unset, .unset] []))
      refine Go.by (fun _ kont => XS.iload X142.here hx rfl (hb hby at_52) rfl (XS.iconst X142.here hx rfl (hb hby at_54) kont)) ?_
      show Go _ _ _ _ _ _ _ (T142.setTop (mkF m 55 #[.val (.int k0), .val (.long t0), .second, .val (.long t1), .second, .val (.long t2), .second, .val (.long s0), .second, .val (.long s1), .second, .val (.int (1 : Int32)), .val (.int (0 : Int32)), .val (.long (t0 - s1)), .second, .val (.ref b134), .val (.ref b136), .unset, .unset, .unset, .unset, .unset, .unset, .unset, .unset, .unset, .unset, .unset, .unset] [(.int (1 : Int32)), (.int (1 : Int32))]))
      refine Go.by (fun _ kont => XS.icmpYes X142.here hx rfl (pc0 := 55) (pc' := 69) rfl (hb hby at_55) rfl (by decide) (by decide) (by decide) kont) ?_
      show Go _ _ _ _ _ _ _ (T142.setTop (mkF m 69 #[.val (.int k0), .val (.long t0), .second, .val (.long t1), .second, .val (.long t2), .second, .val (.long s0), .second, .val (.long s1), .second, .val (.int (1 : Int32)), .val (.int (0 : Int32)), .val (.long (t0 - s1)), .second, .val (.ref b134), .val (.ref b136), .unset, .unset, .unset, .unset, .unset, .unset, .unset, .unset, .unset, .unset, .unset, .unset] []))
      refine Go.by (fun _ kont => XS.iload X142.here hx rfl (hb hby at_69) rfl (XS.iconst X142.here hx rfl (hb hby at_71) kont)) ?_
      show Go _ _ _ _ _ _ _ (T142.setTop (mkF m 72 #[.val (.int k0), .val (.long t0), .second, .val (.long t1), .second, .val (.long t2), .second, .val (.long s0), .second, .val (.long s1), .second, .val (.int (1 : Int32)), .val (.int (0 : Int32)), .val (.long (t0 - s1)), .second, .val (.ref b134), .val (.ref b136), .unset, .unset, .unset, .unset, .unset, .unset, .unset, .unset, .unset, .unset, .unset, .unset] [(.int (2 : Int32)), (.int (1 : Int32))]))
      refine Go.by (fun _ kont => XS.icmpYes X142.here hx rfl (pc0 := 72) (pc' := 87) rfl (hb hby at_72) rfl (by decide) (by decide) (by decide) kont) ?_
      show Go _ _ _ _ _ _ _ (T142.setTop (mkF m 87 #[.val (.int k0), .val (.long t0), .second, .val (.long t1), .second, .val (.long t2), .second, .val (.long s0), .second, .val (.long s1), .second, .val (.int (1 : Int32)), .val (.int (0 : Int32)), .val (.long (t0 - s1)), .second, .val (.ref b134), .val (.ref b136), .unset, .unset, .unset, .unset, .unset, .unset, .unset, .unset, .unset, .unset, .unset, .unset] []))
      refine Go.by (fun _ kont => XS.iload X142.here hx rfl (hb hby at_87) rfl kont) ?_
      show Go _ _ _ _ _ _ _ (T142.setTop (mkF m 89 #[.val (.int k0), .val (.long t0), .second, .val (.long t1), .second, .val (.long t2), .second, .val (.long s0), .second, .val (.long s1), .second, .val (.int (1 : Int32)), .val (.int (0 : Int32)), .val (.long (t0 - s1)), .second, .val (.ref b134), .val (.ref b136), .unset, .unset, .unset, .unset, .unset, .unset, .unset, .unset, .unset, .unset, .unset, .unset] [(.int (0 : Int32))]))
      refine Go.by (fun _ kont => XS.ifYes X142.here hx rfl (pc0 := 89) (pc' := 146) rfl (hb hby at_89) rfl (by decide) (by decide) (by decide) kont) ?_
      show Go _ _ _ _ _ _ _ (T142.setTop (mkF m 146 #[.val (.int k0), .val (.long t0), .second, .val (.long t1), .second, .val (.long t2), .second, .val (.long s0), .second, .val (.long s1), .second, .val (.int (1 : Int32)), .val (.int (0 : Int32)), .val (.long (t0 - s1)), .second, .val (.ref b134), .val (.ref b136), .unset, .unset, .unset, .unset, .unset, .unset, .unset, .unset, .unset, .unset, .unset, .unset] []))
      refine Go.by (fun _ kont => XS.aload X142.here hx rfl (hb hby at_146) rfl rfl (XS.aload X142.here hx rfl (hb hby at_148) rfl rfl kont)) ?_
      show Go _ _ _ _ _ _ _ (T142.setTop (mkF m 150 #[.val (.int k0), .val (.long t0), .second, .val (.long t1), .second, .val (.long t2), .second, .val (.long s0), .second, .val (.long s1), .second, .val (.int (1 : Int32)), .val (.int (0 : Int32)), .val (.long (t0 - s1)), .second, .val (.ref b134), .val (.ref b136), .unset, .unset, .unset, .unset, .unset, .unset, .unset, .unset, .unset, .unset, .unset, .unset] [(.ref b136), (.ref b134)]))
      obtain ⟨_, _, ⟨T144, L144, k144, n144⟩, -, X144, ⟨Lc144, hQ144, l144, y144, z144⟩, st144⟩ := Jvm.LawKit.callS X142 hx (y := (⟨"com/example/runs_to_nets/runstonets/core/Gf2Basis", "xor", "([J[J)V"⟩ : MethodName)) hown (mvT hZ (hw _ (List.mem_of_getElem? (i := 1) rfl))) (mvT hZ (hw _ (List.mem_of_getElem? (i := 2) rfl))) (mvT hZ (hw _ (List.mem_of_getElem? (i := 3) rfl))) (mvT hZ (hw _ (List.mem_of_getElem? (i := 4) rfl))) (by decide) (backOf (W := 0) (rmXB1 l Z a0 hw [] b134 b136 k134 t0 k136 s0 h142 n0 Z143 V143_b134 V142 ne_b134_b136 ge_b134) hZ (hw _ (List.mem_of_getElem? (i := 4) rfl)) (hw _ (List.mem_of_getElem? (i := 3) rfl)) (by decide) (by decide)) (g := (mkF m 150 #[.val (.int k0), .val (.long t0), .second, .val (.long t1), .second, .val (.long t2), .second, .val (.long s0), .second, .val (.long s1), .second, .val (.int (1 : Int32)), .val (.int (0 : Int32)), .val (.long (t0 - s1)), .second, .val (.ref b134), .val (.ref b136), .unset, .unset, .unset, .unset, .unset, .unset, .unset, .unset, .unset, .unset, .unset, .unset] [(.ref b136), (.ref b134)])) rfl (by rw [hml]; rfl) (argsL := [(.ref b134), (.ref b136)]) (rest := []) (lenOf pd0_0 rfl) rfl (by show 2 * 0 + _ ≤ _; exact Nat.le_of_eq rfl) (hb hby at_150) (fun _ _ => ⟨rfl, e142, (by decide : 2 + 0 ≤ _), (by decide : 2 + 0 ≤ _)⟩)
      dsimp only [Pt.U, Pt.locs, Pt.cells, Pt.slots] at X144 l144 y144 z144 st144 hQ144
      subst l144 y144 z144
      obtain ⟨rfl, N144q, K144, g144_0⟩ := hQ144
      have V145_b136 := V142.keep K144 (ninS (Ne.symm ne_b134_b136) nin0)
      have Z145 := Nat.le_trans Z143 K144.1
      have K145 : Keep h0 T144.heap [] := Keep.trans K143 K144 (allS (Or.inr sz_b134) all0)
      have N144 := Fr.app N142 N144q
      refine Go.by st144 ?_
      show Go _ _ _ _ _ _ _ (T144.setTop (mkF m 153 #[.val (.int k0), .val (.long t0), .second, .val (.long t1), .second, .val (.long t2), .second, .val (.long s0), .second, .val (.long s1), .second, .val (.int (1 : Int32)), .val (.int (0 : Int32)), .val (.long (t0 - s1)), .second, .val (.ref b134), .val (.ref b136), .unset, .unset, .unset, .unset, .unset, .unset, .unset, .unset, .unset, .unset, .unset, .unset] []))
      refine Go.by (fun _ kont => XS.iload X144.here hx rfl (hb hby at_153) rfl kont) ?_
      show Go _ _ _ _ _ _ _ (T144.setTop (mkF m 155 #[.val (.int k0), .val (.long t0), .second, .val (.long t1), .second, .val (.long t2), .second, .val (.long s0), .second, .val (.long s1), .second, .val (.int (1 : Int32)), .val (.int (0 : Int32)), .val (.long (t0 - s1)), .second, .val (.ref b134), .val (.ref b136), .unset, .unset, .unset, .unset, .unset, .unset, .unset, .unset, .unset, .unset, .unset, .unset] [(.int (1 : Int32))]))
      refine Go.by (fun _ kont => XS.ifNo X144.here hx rfl (hb hby at_155) rfl (by decide) kont) ?_
      show Go _ _ _ _ _ _ _ (T144.setTop (mkF m 158 #[.val (.int k0), .val (.long t0), .second, .val (.long t1), .second, .val (.long t2), .second, .val (.long s0), .second, .val (.long s1), .second, .val (.int (1 : Int32)), .val (.int (0 : Int32)), .val (.long (t0 - s1)), .second, .val (.ref b134), .val (.ref b136), .unset, .unset, .unset, .unset, .unset, .unset, .unset, .unset, .unset, .unset, .unset, .unset] []))
      refine Go.by (fun _ kont => XS.lloadN X144.here hx rfl (hb hby at_158) rfl (XS.lload X144.here hx rfl (hb hby at_159) rfl (XS.lxor X144.here hx rfl (hb hby at_161) rfl (XS.goto X144.here hx rfl (pc0 := 162) (pc' := 166) rfl (hb hby at_162) (by decide) (by decide) (XS.lstore X144.here hx rfl (hb hby at_166) rfl (l' := #[.val (.int k0), .val (.long t0), .second, .val (.long t1), .second, .val (.long t2), .second, .val (.long s0), .second, .val (.long s1), .second, .val (.int (1 : Int32)), .val (.int (0 : Int32)), .val (.long (t0 - s1)), .second, .val (.ref b134), .val (.ref b136), .val (.long (t0 ^^^ s0)), .second, .unset, .unset, .unset, .unset, .unset, .unset, .unset, .unset, .unset, .unset]) rfl (XS.iload X144.here hx rfl (hb hby at_168) rfl kont)))))) ?_
      show Go _ _ _ _ _ _ _ (T144.setTop (mkF m 170 #[.val (.int k0), .val (.long t0), .second, .val (.long t1), .second, .val (.long t2), .second, .val (.long s0), .second, .val (.long s1), .second, .val (.int (1 : Int32)), .val (.int (0 : Int32)), .val (.long (t0 - s1)), .second, .val (.ref b134), .val (.ref b136), .val (.long (t0 ^^^ s0)), .second, .unset, .unset, .unset, .unset, .unset, .unset, .unset, .unset, .unset, .unset] [(.int (1 : Int32))]))
      refine Go.by (fun _ kont => XS.iconst X144.here hx rfl (hb hby at_170) kont) ?_
      show Go _ _ _ _ _ _ _ (T144.setTop (mkF m 171 #[.val (.int k0), .val (.long t0), .second, .val (.long t1), .second, .val (.long t2), .second, .val (.long s0), .second, .val (.long s1), .second, .val (.int (1 : Int32)), .val (.int (0 : Int32)), .val (.long (t0 - s1)), .second, .val (.ref b134), .val (.ref b136), .val (.long (t0 ^^^ s0)), .second, .unset, .unset, .unset, .unset, .unset, .unset, .unset, .unset, .unset, .unset] [(.int (1 : Int32)), (.int (1 : Int32))]))
      refine Go.by (fun _ kont => XS.icmpYes X144.here hx rfl (pc0 := 171) (pc' := 181) rfl (hb hby at_171) rfl (by decide) (by decide) (by decide) kont) ?_
      show Go _ _ _ _ _ _ _ (T144.setTop (mkF m 181 #[.val (.int k0), .val (.long t0), .second, .val (.long t1), .second, .val (.long t2), .second, .val (.long s0), .second, .val (.long s1), .second, .val (.int (1 : Int32)), .val (.int (0 : Int32)), .val (.long (t0 - s1)), .second, .val (.ref b134), .val (.ref b136), .val (.long (t0 ^^^ s0)), .second, .unset, .unset, .unset, .unset, .unset, .unset, .unset, .unset, .unset, .unset] []))
      refine Go.by (fun _ kont => XS.lconst X144.here hx rfl (hb hby at_181) (XS.lstore X144.here hx rfl (hb hby at_182) rfl (l' := #[.val (.int k0), .val (.long t0), .second, .val (.long t1), .second, .val (.long t2), .second, .val (.long s0), .second, .val (.long s1), .second, .val (.int (1 : Int32)), .val (.int (0 : Int32)), .val (.long (t0 - s1)), .second, .val (.ref b134), .val (.ref b136), .val (.long (t0 ^^^ s0)), .second, .val (.long (0 : Int64)), .second, .unset, .unset, .unset, .unset, .unset, .unset, .unset, .unset]) rfl (XS.iload X144.here hx rfl (hb hby at_184) rfl (XS.iconst X144.here hx rfl (hb hby at_186) kont)))) ?_
      show Go _ _ _ _ _ _ _ (T144.setTop (mkF m 187 #[.val (.int k0), .val (.long t0), .second, .val (.long t1), .second, .val (.long t2), .second, .val (.long s0), .second, .val (.long s1), .second, .val (.int (1 : Int32)), .val (.int (0 : Int32)), .val (.long (t0 - s1)), .second, .val (.ref b134), .val (.ref b136), .val (.long (t0 ^^^ s0)), .second, .val (.long (0 : Int64)), .second, .unset, .unset, .unset, .unset, .unset, .unset, .unset, .unset] [(.int (2 : Int32)), (.int (1 : Int32))]))
      refine Go.by (fun _ kont => XS.icmpYes X144.here hx rfl (pc0 := 187) (pc' := 198) rfl (hb hby at_187) rfl (by decide) (by decide) (by decide) kont) ?_
      show Go _ _ _ _ _ _ _ (T144.setTop (mkF m 198 #[.val (.int k0), .val (.long t0), .second, .val (.long t1), .second, .val (.long t2), .second, .val (.long s0), .second, .val (.long s1), .second, .val (.int (1 : Int32)), .val (.int (0 : Int32)), .val (.long (t0 - s1)), .second, .val (.ref b134), .val (.ref b136), .val (.long (t0 ^^^ s0)), .second, .val (.long (0 : Int64)), .second, .unset, .unset, .unset, .unset, .unset, .unset, .unset, .unset] []))
      refine Go.by (fun _ kont => XS.lconst X144.here hx rfl (hb hby at_198) (XS.lstore X144.here hx rfl (hb hby at_199) rfl (l' := #[.val (.int k0), .val (.long t0), .second, .val (.long t1), .second, .val (.long t2), .second, .val (.long s0), .second, .val (.long s1), .second, .val (.int (1 : Int32)), .val (.int (0 : Int32)), .val (.long (t0 - s1)), .second, .val (.ref b134), .val (.ref b136), .val (.long (t0 ^^^ s0)), .second, .val (.long (0 : Int64)), .second, .val (.long (0 : Int64)), .second, .unset, .unset, .unset, .unset, .unset, .unset]) rfl (XS.iload X144.here hx rfl (hb hby at_201) rfl kont))) ?_
      show Go _ _ _ _ _ _ _ (T144.setTop (mkF m 203 #[.val (.int k0), .val (.long t0), .second, .val (.long t1), .second, .val (.long t2), .second, .val (.long s0), .second, .val (.long s1), .second, .val (.int (1 : Int32)), .val (.int (0 : Int32)), .val (.long (t0 - s1)), .second, .val (.ref b134), .val (.ref b136), .val (.long (t0 ^^^ s0)), .second, .val (.long (0 : Int64)), .second, .val (.long (0 : Int64)), .second, .unset, .unset, .unset, .unset, .unset, .unset] [(.int (1 : Int32))]))
      refine Go.by (fun _ kont => XS.ifNo X144.here hx rfl (hb hby at_203) rfl (by decide) kont) ?_
      show Go _ _ _ _ _ _ _ (T144.setTop (mkF m 206 #[.val (.int k0), .val (.long t0), .second, .val (.long t1), .second, .val (.long t2), .second, .val (.long s0), .second, .val (.long s1), .second, .val (.int (1 : Int32)), .val (.int (0 : Int32)), .val (.long (t0 - s1)), .second, .val (.ref b134), .val (.ref b136), .val (.long (t0 ^^^ s0)), .second, .val (.long (0 : Int64)), .second, .val (.long (0 : Int64)), .second, .unset, .unset, .unset, .unset, .unset, .unset] []))
      refine Go.by (fun _ kont => XS.lload X144.here hx rfl (hb hby at_206) rfl (XS.goto X144.here hx rfl (pc0 := 208) (pc' := 212) rfl (hb hby at_208) (by decide) (by decide) (XS.lstore X144.here hx rfl (hb hby at_212) rfl (l' := #[.val (.int k0), .val (.long t0), .second, .val (.long t1), .second, .val (.long t2), .second, .val (.long s0), .second, .val (.long s1), .second, .val (.int (1 : Int32)), .val (.int (0 : Int32)), .val (.long (t0 - s1)), .second, .val (.ref b134), .val (.ref b136), .val (.long (t0 ^^^ s0)), .second, .val (.long (0 : Int64)), .second, .val (.long (0 : Int64)), .second, .val (.long s0), .second, .unset, .unset, .unset, .unset]) rfl (XS.iload X144.here hx rfl (hb hby at_214) rfl (XS.iconst X144.here hx rfl (hb hby at_216) kont))))) ?_
      show Go _ _ _ _ _ _ _ (T144.setTop (mkF m 217 #[.val (.int k0), .val (.long t0), .second, .val (.long t1), .second, .val (.long t2), .second, .val (.long s0), .second, .val (.long s1), .second, .val (.int (1 : Int32)), .val (.int (0 : Int32)), .val (.long (t0 - s1)), .second, .val (.ref b134), .val (.ref b136), .val (.long (t0 ^^^ s0)), .second, .val (.long (0 : Int64)), .second, .val (.long (0 : Int64)), .second, .val (.long s0), .second, .unset, .unset, .unset, .unset] [(.int (1 : Int32)), (.int (1 : Int32))]))
      refine Go.by (fun _ kont => XS.icmpYes X144.here hx rfl (pc0 := 217) (pc' := 225) rfl (hb hby at_217) rfl (by decide) (by decide) (by decide) kont) ?_
      show Go _ _ _ _ _ _ _ (T144.setTop (mkF m 225 #[.val (.int k0), .val (.long t0), .second, .val (.long t1), .second, .val (.long t2), .second, .val (.long s0), .second, .val (.long s1), .second, .val (.int (1 : Int32)), .val (.int (0 : Int32)), .val (.long (t0 - s1)), .second, .val (.ref b134), .val (.ref b136), .val (.long (t0 ^^^ s0)), .second, .val (.long (0 : Int64)), .second, .val (.long (0 : Int64)), .second, .val (.long s0), .second, .unset, .unset, .unset, .unset] []))
      refine Go.by (fun _ kont => XS.lconst X144.here hx rfl (hb hby at_225) (XS.lstore X144.here hx rfl (hb hby at_226) rfl (l' := #[.val (.int k0), .val (.long t0), .second, .val (.long t1), .second, .val (.long t2), .second, .val (.long s0), .second, .val (.long s1), .second, .val (.int (1 : Int32)), .val (.int (0 : Int32)), .val (.long (t0 - s1)), .second, .val (.ref b134), .val (.ref b136), .val (.long (t0 ^^^ s0)), .second, .val (.long (0 : Int64)), .second, .val (.long (0 : Int64)), .second, .val (.long s0), .second, .val (.long (0 : Int64)), .second, .unset, .unset]) rfl (XS.iload X144.here hx rfl (hb hby at_228) rfl (XS.iconst X144.here hx rfl (hb hby at_230) kont)))) ?_
      show Go _ _ _ _ _ _ _ (T144.setTop (mkF m 231 #[.val (.int k0), .val (.long t0), .second, .val (.long t1), .second, .val (.long t2), .second, .val (.long s0), .second, .val (.long s1), .second, .val (.int (1 : Int32)), .val (.int (0 : Int32)), .val (.long (t0 - s1)), .second, .val (.ref b134), .val (.ref b136), .val (.long (t0 ^^^ s0)), .second, .val (.long (0 : Int64)), .second, .val (.long (0 : Int64)), .second, .val (.long s0), .second, .val (.long (0 : Int64)), .second, .unset, .unset] [(.int (2 : Int32)), (.int (1 : Int32))]))
      refine Go.by (fun _ kont => XS.icmpYes X144.here hx rfl (pc0 := 231) (pc' := 239) rfl (hb hby at_231) rfl (by decide) (by decide) (by decide) kont) ?_
      show Go _ _ _ _ _ _ _ (T144.setTop (mkF m 239 #[.val (.int k0), .val (.long t0), .second, .val (.long t1), .second, .val (.long t2), .second, .val (.long s0), .second, .val (.long s1), .second, .val (.int (1 : Int32)), .val (.int (0 : Int32)), .val (.long (t0 - s1)), .second, .val (.ref b134), .val (.ref b136), .val (.long (t0 ^^^ s0)), .second, .val (.long (0 : Int64)), .second, .val (.long (0 : Int64)), .second, .val (.long s0), .second, .val (.long (0 : Int64)), .second, .unset, .unset] []))
      refine Go.by (fun _ kont => XS.lconst X144.here hx rfl (hb hby at_239) (XS.lstore X144.here hx rfl (hb hby at_240) rfl (l' := #[.val (.int k0), .val (.long t0), .second, .val (.long t1), .second, .val (.long t2), .second, .val (.long s0), .second, .val (.long s1), .second, .val (.int (1 : Int32)), .val (.int (0 : Int32)), .val (.long (t0 - s1)), .second, .val (.ref b134), .val (.ref b136), .val (.long (t0 ^^^ s0)), .second, .val (.long (0 : Int64)), .second, .val (.long (0 : Int64)), .second, .val (.long s0), .second, .val (.long (0 : Int64)), .second, .val (.long (0 : Int64)), .second]) rfl (XS.aload X144.here hx rfl (hb hby at_242) rfl rfl kont))) ?_
      show Go _ _ _ _ _ _ _ (T144.setTop (mkF m 244 #[.val (.int k0), .val (.long t0), .second, .val (.long t1), .second, .val (.long t2), .second, .val (.long s0), .second, .val (.long s1), .second, .val (.int (1 : Int32)), .val (.int (0 : Int32)), .val (.long (t0 - s1)), .second, .val (.ref b134), .val (.ref b136), .val (.long (t0 ^^^ s0)), .second, .val (.long (0 : Int64)), .second, .val (.long (0 : Int64)), .second, .val (.long s0), .second, .val (.long (0 : Int64)), .second, .val (.long (0 : Int64)), .second] [(.ref b134)]))
      obtain ⟨cl_q146, Ar_q146, q1_q146, S_q146, N_q146, H_q146, G_q146⟩ := id g144_0
      refine Go.by (X144.arraylength hx (by first | exact Ar_q146.1 | (rw [rfl]; exact Ar_q146.1)) (State.isArrayOf_alike hZ.alike Ar_q146.2.1) (g := (mkF m 244 #[.val (.int k0), .val (.long t0), .second, .val (.long t1), .second, .val (.long t2), .second, .val (.long s0), .second, .val (.long s1), .second, .val (.int (1 : Int32)), .val (.int (0 : Int32)), .val (.long (t0 - s1)), .second, .val (.ref b134), .val (.ref b136), .val (.long (t0 ^^^ s0)), .second, .val (.long (0 : Int64)), .second, .val (.long (0 : Int64)), .second, .val (.long s0), .second, .val (.long (0 : Int64)), .second, .val (.long (0 : Int64)), .second] [(.ref b134)])) rfl rfl (hb hby at_244)) ?_
      rw [len_of S_q146 N_q146]
      show Go _ _ _ _ _ _ _ (T144.setTop (mkF m 245 #[.val (.int k0), .val (.long t0), .second, .val (.long t1), .second, .val (.long t2), .second, .val (.long s0), .second, .val (.long s1), .second, .val (.int (1 : Int32)), .val (.int (0 : Int32)), .val (.long (t0 - s1)), .second, .val (.ref b134), .val (.ref b136), .val (.long (t0 ^^^ s0)), .second, .val (.long (0 : Int64)), .second, .val (.long (0 : Int64)), .second, .val (.long s0), .second, .val (.long (0 : Int64)), .second, .val (.long (0 : Int64)), .second] [(.int (1 : Int32))]))
      refine Go.by (fun _ kont => XS.iload X144.here hx rfl (hb hby at_245) rfl kont) ?_
      show Go _ _ _ _ _ _ _ (T144.setTop (mkF m 247 #[.val (.int k0), .val (.long t0), .second, .val (.long t1), .second, .val (.long t2), .second, .val (.long s0), .second, .val (.long s1), .second, .val (.int (1 : Int32)), .val (.int (0 : Int32)), .val (.long (t0 - s1)), .second, .val (.ref b134), .val (.ref b136), .val (.long (t0 ^^^ s0)), .second, .val (.long (0 : Int64)), .second, .val (.long (0 : Int64)), .second, .val (.long s0), .second, .val (.long (0 : Int64)), .second, .val (.long (0 : Int64)), .second] [(.int (1 : Int32)), (.int (1 : Int32))]))
      refine Go.by (fun _ kont => XS.icmpNo X144.here hx rfl (hb hby at_247) rfl (by decide) kont) ?_
      show Go _ _ _ _ _ _ _ (T144.setTop (mkF m 250 #[.val (.int k0), .val (.long t0), .second, .val (.long t1), .second, .val (.long t2), .second, .val (.long s0), .second, .val (.long s1), .second, .val (.int (1 : Int32)), .val (.int (0 : Int32)), .val (.long (t0 - s1)), .second, .val (.ref b134), .val (.ref b136), .val (.long (t0 ^^^ s0)), .second, .val (.long (0 : Int64)), .second, .val (.long (0 : Int64)), .second, .val (.long s0), .second, .val (.long (0 : Int64)), .second, .val (.long (0 : Int64)), .second] []))
      refine Go.by (fun _ kont => XS.aload X144.here hx rfl (hb hby at_250) rfl rfl kont) ?_
      show Go _ _ _ _ _ _ _ (T144.setTop (mkF m 252 #[.val (.int k0), .val (.long t0), .second, .val (.long t1), .second, .val (.long t2), .second, .val (.long s0), .second, .val (.long s1), .second, .val (.int (1 : Int32)), .val (.int (0 : Int32)), .val (.long (t0 - s1)), .second, .val (.ref b134), .val (.ref b136), .val (.long (t0 ^^^ s0)), .second, .val (.long (0 : Int64)), .second, .val (.long (0 : Int64)), .second, .val (.long s0), .second, .val (.long (0 : Int64)), .second, .val (.long (0 : Int64)), .second] [(.ref b136)]))
      obtain ⟨cl_q147, Ar_q147, q1_q147, S_q147, N_q147, H_q147, G_q147⟩ := id V145_b136
      refine Go.by (X144.arraylength hx (by first | exact Ar_q147.1 | (rw [rfl]; exact Ar_q147.1)) (State.isArrayOf_alike hZ.alike Ar_q147.2.1) (g := (mkF m 252 #[.val (.int k0), .val (.long t0), .second, .val (.long t1), .second, .val (.long t2), .second, .val (.long s0), .second, .val (.long s1), .second, .val (.int (1 : Int32)), .val (.int (0 : Int32)), .val (.long (t0 - s1)), .second, .val (.ref b134), .val (.ref b136), .val (.long (t0 ^^^ s0)), .second, .val (.long (0 : Int64)), .second, .val (.long (0 : Int64)), .second, .val (.long s0), .second, .val (.long (0 : Int64)), .second, .val (.long (0 : Int64)), .second] [(.ref b136)])) rfl rfl (hb hby at_252)) ?_
      rw [len_of S_q147 N_q147]
      show Go _ _ _ _ _ _ _ (T144.setTop (mkF m 253 #[.val (.int k0), .val (.long t0), .second, .val (.long t1), .second, .val (.long t2), .second, .val (.long s0), .second, .val (.long s1), .second, .val (.int (1 : Int32)), .val (.int (0 : Int32)), .val (.long (t0 - s1)), .second, .val (.ref b134), .val (.ref b136), .val (.long (t0 ^^^ s0)), .second, .val (.long (0 : Int64)), .second, .val (.long (0 : Int64)), .second, .val (.long s0), .second, .val (.long (0 : Int64)), .second, .val (.long (0 : Int64)), .second] [(.int (1 : Int32))]))
      refine Go.by (fun _ kont => XS.iload X144.here hx rfl (hb hby at_253) rfl kont) ?_
      show Go _ _ _ _ _ _ _ (T144.setTop (mkF m 255 #[.val (.int k0), .val (.long t0), .second, .val (.long t1), .second, .val (.long t2), .second, .val (.long s0), .second, .val (.long s1), .second, .val (.int (1 : Int32)), .val (.int (0 : Int32)), .val (.long (t0 - s1)), .second, .val (.ref b134), .val (.ref b136), .val (.long (t0 ^^^ s0)), .second, .val (.long (0 : Int64)), .second, .val (.long (0 : Int64)), .second, .val (.long s0), .second, .val (.long (0 : Int64)), .second, .val (.long (0 : Int64)), .second] [(.int (1 : Int32)), (.int (1 : Int32))]))
      refine Go.by (fun _ kont => XS.icmpNo X144.here hx rfl (hb hby at_255) rfl (by decide) kont) ?_
      show Go _ _ _ _ _ _ _ (T144.setTop (mkF m 258 #[.val (.int k0), .val (.long t0), .second, .val (.long t1), .second, .val (.long t2), .second, .val (.long s0), .second, .val (.long s1), .second, .val (.int (1 : Int32)), .val (.int (0 : Int32)), .val (.long (t0 - s1)), .second, .val (.ref b134), .val (.ref b136), .val (.long (t0 ^^^ s0)), .second, .val (.long (0 : Int64)), .second, .val (.long (0 : Int64)), .second, .val (.long s0), .second, .val (.long (0 : Int64)), .second, .val (.long (0 : Int64)), .second] []))
      refine Go.by (fun _ kont => XS.aload X144.here hx rfl (hb hby at_258) rfl rfl (XS.iconst X144.here hx rfl (hb hby at_260) kont)) ?_
      show Go _ _ _ _ _ _ _ (T144.setTop (mkF m 261 #[.val (.int k0), .val (.long t0), .second, .val (.long t1), .second, .val (.long t2), .second, .val (.long s0), .second, .val (.long s1), .second, .val (.int (1 : Int32)), .val (.int (0 : Int32)), .val (.long (t0 - s1)), .second, .val (.ref b134), .val (.ref b136), .val (.long (t0 ^^^ s0)), .second, .val (.long (0 : Int64)), .second, .val (.long (0 : Int64)), .second, .val (.long s0), .second, .val (.long (0 : Int64)), .second, .val (.long (0 : Int64)), .second] [(.int (0 : Int32)), (.ref b134)]))
      obtain ⟨_, _, ⟨T148, L148, k148, n148⟩, -, X148, ⟨Lc148, hQ148, l148, y148, z148⟩, st148⟩ := Jvm.LawKit.callS X144 hx (y := (⟨"com/example/runs_to_nets/runstonets/core/Gf2BasisXorPinLaw", "word", "([JI)J"⟩ : MethodName)) hown (mvT hZ (hw _ (List.mem_of_getElem? (i := 5) rfl))) (mvT hZ (hw _ (List.mem_of_getElem? (i := 6) rfl))) (mvT hZ (hw _ (List.mem_of_getElem? (i := 7) rfl))) (mvT hZ (hw _ (List.mem_of_getElem? (i := 8) rfl))) (by decide) (backOf (W := 0) (rmW10 l Z a0 hw [] b134 k134 (t0 ^^^ s0) T144.heap n0 Z145 g144_0) hZ (hw _ (List.mem_of_getElem? (i := 8) rfl)) (hw _ (List.mem_of_getElem? (i := 7) rfl)) (by decide) (by decide)) (g := (mkF m 261 #[.val (.int k0), .val (.long t0), .second, .val (.long t1), .second, .val (.long t2), .second, .val (.long s0), .second, .val (.long s1), .second, .val (.int (1 : Int32)), .val (.int (0 : Int32)), .val (.long (t0 - s1)), .second, .val (.ref b134), .val (.ref b136), .val (.long (t0 ^^^ s0)), .second, .val (.long (0 : Int64)), .second, .val (.long (0 : Int64)), .second, .val (.long s0), .second, .val (.long (0 : Int64)), .second, .val (.long (0 : Int64)), .second] [(.int (0 : Int32)), (.ref b134)])) rfl (by rw [hml]; rfl) (argsL := [(.ref b134), (.int (0 : Int32))]) (rest := []) (lenOf pd0_1 rfl) rfl (by show 2 * 0 + _ ≤ _; exact Nat.le_of_eq rfl) (hb hby at_261) (fun _ _ => ⟨rfl, rfl, (by decide : 2 + 0 ≤ _), (by decide : 2 + 0 ≤ _)⟩)
      dsimp only [Pt.U, Pt.locs, Pt.cells, Pt.slots] at X148 l148 y148 z148 st148 hQ148
      subst l148 y148 z148
      obtain ⟨rfl, N148q, eh148⟩ := hQ148
      have N148 := Fr.app N144 N148q
      refine Go.by st148 ?_
      show Go _ _ _ _ _ _ _ (T148.setTop (mkF m 264 #[.val (.int k0), .val (.long t0), .second, .val (.long t1), .second, .val (.long t2), .second, .val (.long s0), .second, .val (.long s1), .second, .val (.int (1 : Int32)), .val (.int (0 : Int32)), .val (.long (t0 - s1)), .second, .val (.ref b134), .val (.ref b136), .val (.long (t0 ^^^ s0)), .second, .val (.long (0 : Int64)), .second, .val (.long (0 : Int64)), .second, .val (.long s0), .second, .val (.long (0 : Int64)), .second, .val (.long (0 : Int64)), .second] [(.long (t0 ^^^ s0))]))
      refine Go.by (fun _ kont => XS.lload X148.here hx rfl (hb hby at_264) rfl (XS.lcmp X148.here hx rfl (hb hby at_266) rfl kont)) ?_
      show Go _ _ _ _ _ _ _ (T148.setTop (mkF m 267 #[.val (.int k0), .val (.long t0), .second, .val (.long t1), .second, .val (.long t2), .second, .val (.long s0), .second, .val (.long s1), .second, .val (.int (1 : Int32)), .val (.int (0 : Int32)), .val (.long (t0 - s1)), .second, .val (.ref b134), .val (.ref b136), .val (.long (t0 ^^^ s0)), .second, .val (.long (0 : Int64)), .second, .val (.long (0 : Int64)), .second, .val (.long s0), .second, .val (.long (0 : Int64)), .second, .val (.long (0 : Int64)), .second] [(.int (lcmpW (t0 ^^^ s0) (t0 ^^^ s0)))]))
      refine Go.by (fun _ kont => XS.ifNo X148.here hx rfl (hb hby at_267) rfl ((if0 _ _).trans (teq ((lw_eq _ _).mpr rfl)).2) kont) ?_
      show Go _ _ _ _ _ _ _ (T148.setTop (mkF m 270 #[.val (.int k0), .val (.long t0), .second, .val (.long t1), .second, .val (.long t2), .second, .val (.long s0), .second, .val (.long s1), .second, .val (.int (1 : Int32)), .val (.int (0 : Int32)), .val (.long (t0 - s1)), .second, .val (.ref b134), .val (.ref b136), .val (.long (t0 ^^^ s0)), .second, .val (.long (0 : Int64)), .second, .val (.long (0 : Int64)), .second, .val (.long s0), .second, .val (.long (0 : Int64)), .second, .val (.long (0 : Int64)), .second] []))
      refine Go.by (fun _ kont => XS.aload X148.here hx rfl (hb hby at_270) rfl rfl (XS.iconst X148.here hx rfl (hb hby at_272) kont)) ?_
      show Go _ _ _ _ _ _ _ (T148.setTop (mkF m 273 #[.val (.int k0), .val (.long t0), .second, .val (.long t1), .second, .val (.long t2), .second, .val (.long s0), .second, .val (.long s1), .second, .val (.int (1 : Int32)), .val (.int (0 : Int32)), .val (.long (t0 - s1)), .second, .val (.ref b134), .val (.ref b136), .val (.long (t0 ^^^ s0)), .second, .val (.long (0 : Int64)), .second, .val (.long (0 : Int64)), .second, .val (.long s0), .second, .val (.long (0 : Int64)), .second, .val (.long (0 : Int64)), .second] [(.int (1 : Int32)), (.ref b134)]))
      obtain ⟨_, _, ⟨T149, L149, k149, n149⟩, -, X149, ⟨Lc149, hQ149, l149, y149, z149⟩, st149⟩ := Jvm.LawKit.callS X148 hx (y := (⟨"com/example/runs_to_nets/runstonets/core/Gf2BasisXorPinLaw", "word", "([JI)J"⟩ : MethodName)) hown (mvT hZ (hw _ (List.mem_of_getElem? (i := 5) rfl))) (mvT hZ (hw _ (List.mem_of_getElem? (i := 6) rfl))) (mvT hZ (hw _ (List.mem_of_getElem? (i := 7) rfl))) (mvT hZ (hw _ (List.mem_of_getElem? (i := 8) rfl))) (by decide) (backOf (W := 0) (rmW11 l Z a0 hw [] b134 k134 (t0 ^^^ s0) T144.heap n0 Z145 g144_0) hZ (hw _ (List.mem_of_getElem? (i := 8) rfl)) (hw _ (List.mem_of_getElem? (i := 7) rfl)) (by decide) (by decide)) (g := (mkF m 273 #[.val (.int k0), .val (.long t0), .second, .val (.long t1), .second, .val (.long t2), .second, .val (.long s0), .second, .val (.long s1), .second, .val (.int (1 : Int32)), .val (.int (0 : Int32)), .val (.long (t0 - s1)), .second, .val (.ref b134), .val (.ref b136), .val (.long (t0 ^^^ s0)), .second, .val (.long (0 : Int64)), .second, .val (.long (0 : Int64)), .second, .val (.long s0), .second, .val (.long (0 : Int64)), .second, .val (.long (0 : Int64)), .second] [(.int (1 : Int32)), (.ref b134)])) rfl (by rw [hml]; rfl) (argsL := [(.ref b134), (.int (1 : Int32))]) (rest := []) (lenOf pd0_1 rfl) rfl (by show 2 * 0 + _ ≤ _; exact Nat.le_of_eq rfl) (hb hby at_273) (fun _ _ => ⟨rfl, eh148, (by decide : 2 + 0 ≤ _), (by decide : 2 + 0 ≤ _)⟩)
      dsimp only [Pt.U, Pt.locs, Pt.cells, Pt.slots] at X149 l149 y149 z149 st149 hQ149
      subst l149 y149 z149
      obtain ⟨rfl, N149q, eh149⟩ := hQ149
      have N149 := Fr.app N148 N149q
      refine Go.by st149 ?_
      show Go _ _ _ _ _ _ _ (T149.setTop (mkF m 276 #[.val (.int k0), .val (.long t0), .second, .val (.long t1), .second, .val (.long t2), .second, .val (.long s0), .second, .val (.long s1), .second, .val (.int (1 : Int32)), .val (.int (0 : Int32)), .val (.long (t0 - s1)), .second, .val (.ref b134), .val (.ref b136), .val (.long (t0 ^^^ s0)), .second, .val (.long (0 : Int64)), .second, .val (.long (0 : Int64)), .second, .val (.long s0), .second, .val (.long (0 : Int64)), .second, .val (.long (0 : Int64)), .second] [(.long (0 : Int64))]))
      refine Go.by (fun _ kont => XS.lload X149.here hx rfl (hb hby at_276) rfl (XS.lcmp X149.here hx rfl (hb hby at_278) rfl kont)) ?_
      show Go _ _ _ _ _ _ _ (T149.setTop (mkF m 279 #[.val (.int k0), .val (.long t0), .second, .val (.long t1), .second, .val (.long t2), .second, .val (.long s0), .second, .val (.long s1), .second, .val (.int (1 : Int32)), .val (.int (0 : Int32)), .val (.long (t0 - s1)), .second, .val (.ref b134), .val (.ref b136), .val (.long (t0 ^^^ s0)), .second, .val (.long (0 : Int64)), .second, .val (.long (0 : Int64)), .second, .val (.long s0), .second, .val (.long (0 : Int64)), .second, .val (.long (0 : Int64)), .second] [(.int (lcmpW (0 : Int64) (0 : Int64)))]))
      have hd150 : (0 : Int64) = (0 : Int64) := by decide
      refine Go.by (fun _ kont => XS.ifNo X149.here hx rfl (hb hby at_279) rfl ((if0 _ _).trans (teq ((lw_eq _ _).mpr hd150)).2) kont) ?_
      show Go _ _ _ _ _ _ _ (T149.setTop (mkF m 282 #[.val (.int k0), .val (.long t0), .second, .val (.long t1), .second, .val (.long t2), .second, .val (.long s0), .second, .val (.long s1), .second, .val (.int (1 : Int32)), .val (.int (0 : Int32)), .val (.long (t0 - s1)), .second, .val (.ref b134), .val (.ref b136), .val (.long (t0 ^^^ s0)), .second, .val (.long (0 : Int64)), .second, .val (.long (0 : Int64)), .second, .val (.long s0), .second, .val (.long (0 : Int64)), .second, .val (.long (0 : Int64)), .second] []))
      refine Go.by (fun _ kont => XS.aload X149.here hx rfl (hb hby at_282) rfl rfl (XS.iconst X149.here hx rfl (hb hby at_284) kont)) ?_
      show Go _ _ _ _ _ _ _ (T149.setTop (mkF m 285 #[.val (.int k0), .val (.long t0), .second, .val (.long t1), .second, .val (.long t2), .second, .val (.long s0), .second, .val (.long s1), .second, .val (.int (1 : Int32)), .val (.int (0 : Int32)), .val (.long (t0 - s1)), .second, .val (.ref b134), .val (.ref b136), .val (.long (t0 ^^^ s0)), .second, .val (.long (0 : Int64)), .second, .val (.long (0 : Int64)), .second, .val (.long s0), .second, .val (.long (0 : Int64)), .second, .val (.long (0 : Int64)), .second] [(.int (2 : Int32)), (.ref b134)]))
      obtain ⟨_, _, ⟨T151, L151, k151, n151⟩, -, X151, ⟨Lc151, hQ151, l151, y151, z151⟩, st151⟩ := Jvm.LawKit.callS X149 hx (y := (⟨"com/example/runs_to_nets/runstonets/core/Gf2BasisXorPinLaw", "word", "([JI)J"⟩ : MethodName)) hown (mvT hZ (hw _ (List.mem_of_getElem? (i := 5) rfl))) (mvT hZ (hw _ (List.mem_of_getElem? (i := 6) rfl))) (mvT hZ (hw _ (List.mem_of_getElem? (i := 7) rfl))) (mvT hZ (hw _ (List.mem_of_getElem? (i := 8) rfl))) (by decide) (backOf (W := 0) (rmW12 l Z a0 hw [] b134 k134 (t0 ^^^ s0) T144.heap n0 Z145 g144_0) hZ (hw _ (List.mem_of_getElem? (i := 8) rfl)) (hw _ (List.mem_of_getElem? (i := 7) rfl)) (by decide) (by decide)) (g := (mkF m 285 #[.val (.int k0), .val (.long t0), .second, .val (.long t1), .second, .val (.long t2), .second, .val (.long s0), .second, .val (.long s1), .second, .val (.int (1 : Int32)), .val (.int (0 : Int32)), .val (.long (t0 - s1)), .second, .val (.ref b134), .val (.ref b136), .val (.long (t0 ^^^ s0)), .second, .val (.long (0 : Int64)), .second, .val (.long (0 : Int64)), .second, .val (.long s0), .second, .val (.long (0 : Int64)), .second, .val (.long (0 : Int64)), .second] [(.int (2 : Int32)), (.ref b134)])) rfl (by rw [hml]; rfl) (argsL := [(.ref b134), (.int (2 : Int32))]) (rest := []) (lenOf pd0_1 rfl) rfl (by show 2 * 0 + _ ≤ _; exact Nat.le_of_eq rfl) (hb hby at_285) (fun _ _ => ⟨rfl, eh149, (by decide : 2 + 0 ≤ _), (by decide : 2 + 0 ≤ _)⟩)
      dsimp only [Pt.U, Pt.locs, Pt.cells, Pt.slots] at X151 l151 y151 z151 st151 hQ151
      subst l151 y151 z151
      obtain ⟨rfl, N151q, eh151⟩ := hQ151
      have N151 := Fr.app N149 N151q
      refine Go.by st151 ?_
      show Go _ _ _ _ _ _ _ (T151.setTop (mkF m 288 #[.val (.int k0), .val (.long t0), .second, .val (.long t1), .second, .val (.long t2), .second, .val (.long s0), .second, .val (.long s1), .second, .val (.int (1 : Int32)), .val (.int (0 : Int32)), .val (.long (t0 - s1)), .second, .val (.ref b134), .val (.ref b136), .val (.long (t0 ^^^ s0)), .second, .val (.long (0 : Int64)), .second, .val (.long (0 : Int64)), .second, .val (.long s0), .second, .val (.long (0 : Int64)), .second, .val (.long (0 : Int64)), .second] [(.long (0 : Int64))]))
      refine Go.by (fun _ kont => XS.lload X151.here hx rfl (hb hby at_288) rfl (XS.lcmp X151.here hx rfl (hb hby at_290) rfl kont)) ?_
      show Go _ _ _ _ _ _ _ (T151.setTop (mkF m 291 #[.val (.int k0), .val (.long t0), .second, .val (.long t1), .second, .val (.long t2), .second, .val (.long s0), .second, .val (.long s1), .second, .val (.int (1 : Int32)), .val (.int (0 : Int32)), .val (.long (t0 - s1)), .second, .val (.ref b134), .val (.ref b136), .val (.long (t0 ^^^ s0)), .second, .val (.long (0 : Int64)), .second, .val (.long (0 : Int64)), .second, .val (.long s0), .second, .val (.long (0 : Int64)), .second, .val (.long (0 : Int64)), .second] [(.int (lcmpW (0 : Int64) (0 : Int64)))]))
      have hd152 : (0 : Int64) = (0 : Int64) := by decide
      refine Go.by (fun _ kont => XS.ifNo X151.here hx rfl (hb hby at_291) rfl ((if0 _ _).trans (teq ((lw_eq _ _).mpr hd152)).2) kont) ?_
      show Go _ _ _ _ _ _ _ (T151.setTop (mkF m 294 #[.val (.int k0), .val (.long t0), .second, .val (.long t1), .second, .val (.long t2), .second, .val (.long s0), .second, .val (.long s1), .second, .val (.int (1 : Int32)), .val (.int (0 : Int32)), .val (.long (t0 - s1)), .second, .val (.ref b134), .val (.ref b136), .val (.long (t0 ^^^ s0)), .second, .val (.long (0 : Int64)), .second, .val (.long (0 : Int64)), .second, .val (.long s0), .second, .val (.long (0 : Int64)), .second, .val (.long (0 : Int64)), .second] []))
      refine Go.by (fun _ kont => XS.aload X151.here hx rfl (hb hby at_294) rfl rfl (XS.iconst X151.here hx rfl (hb hby at_296) kont)) ?_
      show Go _ _ _ _ _ _ _ (T151.setTop (mkF m 297 #[.val (.int k0), .val (.long t0), .second, .val (.long t1), .second, .val (.long t2), .second, .val (.long s0), .second, .val (.long s1), .second, .val (.int (1 : Int32)), .val (.int (0 : Int32)), .val (.long (t0 - s1)), .second, .val (.ref b134), .val (.ref b136), .val (.long (t0 ^^^ s0)), .second, .val (.long (0 : Int64)), .second, .val (.long (0 : Int64)), .second, .val (.long s0), .second, .val (.long (0 : Int64)), .second, .val (.long (0 : Int64)), .second] [(.int (0 : Int32)), (.ref b136)]))
      obtain ⟨_, _, ⟨T153, L153, k153, n153⟩, -, X153, ⟨Lc153, hQ153, l153, y153, z153⟩, st153⟩ := Jvm.LawKit.callS X151 hx (y := (⟨"com/example/runs_to_nets/runstonets/core/Gf2BasisXorPinLaw", "word", "([JI)J"⟩ : MethodName)) hown (mvT hZ (hw _ (List.mem_of_getElem? (i := 5) rfl))) (mvT hZ (hw _ (List.mem_of_getElem? (i := 6) rfl))) (mvT hZ (hw _ (List.mem_of_getElem? (i := 7) rfl))) (mvT hZ (hw _ (List.mem_of_getElem? (i := 8) rfl))) (by decide) (backOf (W := 0) (rmW10 l Z a0 hw [] b136 k136 s0 T144.heap n0 Z145 V145_b136) hZ (hw _ (List.mem_of_getElem? (i := 8) rfl)) (hw _ (List.mem_of_getElem? (i := 7) rfl)) (by decide) (by decide)) (g := (mkF m 297 #[.val (.int k0), .val (.long t0), .second, .val (.long t1), .second, .val (.long t2), .second, .val (.long s0), .second, .val (.long s1), .second, .val (.int (1 : Int32)), .val (.int (0 : Int32)), .val (.long (t0 - s1)), .second, .val (.ref b134), .val (.ref b136), .val (.long (t0 ^^^ s0)), .second, .val (.long (0 : Int64)), .second, .val (.long (0 : Int64)), .second, .val (.long s0), .second, .val (.long (0 : Int64)), .second, .val (.long (0 : Int64)), .second] [(.int (0 : Int32)), (.ref b136)])) rfl (by rw [hml]; rfl) (argsL := [(.ref b136), (.int (0 : Int32))]) (rest := []) (lenOf pd0_1 rfl) rfl (by show 2 * 0 + _ ≤ _; exact Nat.le_of_eq rfl) (hb hby at_297) (fun _ _ => ⟨rfl, eh151, (by decide : 2 + 0 ≤ _), (by decide : 2 + 0 ≤ _)⟩)
      dsimp only [Pt.U, Pt.locs, Pt.cells, Pt.slots] at X153 l153 y153 z153 st153 hQ153
      subst l153 y153 z153
      obtain ⟨rfl, N153q, eh153⟩ := hQ153
      have N153 := Fr.app N151 N153q
      refine Go.by st153 ?_
      show Go _ _ _ _ _ _ _ (T153.setTop (mkF m 300 #[.val (.int k0), .val (.long t0), .second, .val (.long t1), .second, .val (.long t2), .second, .val (.long s0), .second, .val (.long s1), .second, .val (.int (1 : Int32)), .val (.int (0 : Int32)), .val (.long (t0 - s1)), .second, .val (.ref b134), .val (.ref b136), .val (.long (t0 ^^^ s0)), .second, .val (.long (0 : Int64)), .second, .val (.long (0 : Int64)), .second, .val (.long s0), .second, .val (.long (0 : Int64)), .second, .val (.long (0 : Int64)), .second] [(.long s0)]))
      refine Go.by (fun _ kont => XS.lload X153.here hx rfl (hb hby at_300) rfl (XS.lcmp X153.here hx rfl (hb hby at_302) rfl kont)) ?_
      show Go _ _ _ _ _ _ _ (T153.setTop (mkF m 303 #[.val (.int k0), .val (.long t0), .second, .val (.long t1), .second, .val (.long t2), .second, .val (.long s0), .second, .val (.long s1), .second, .val (.int (1 : Int32)), .val (.int (0 : Int32)), .val (.long (t0 - s1)), .second, .val (.ref b134), .val (.ref b136), .val (.long (t0 ^^^ s0)), .second, .val (.long (0 : Int64)), .second, .val (.long (0 : Int64)), .second, .val (.long s0), .second, .val (.long (0 : Int64)), .second, .val (.long (0 : Int64)), .second] [(.int (lcmpW s0 s0))]))
      refine Go.by (fun _ kont => XS.ifNo X153.here hx rfl (hb hby at_303) rfl ((if0 _ _).trans (teq ((lw_eq _ _).mpr rfl)).2) kont) ?_
      show Go _ _ _ _ _ _ _ (T153.setTop (mkF m 306 #[.val (.int k0), .val (.long t0), .second, .val (.long t1), .second, .val (.long t2), .second, .val (.long s0), .second, .val (.long s1), .second, .val (.int (1 : Int32)), .val (.int (0 : Int32)), .val (.long (t0 - s1)), .second, .val (.ref b134), .val (.ref b136), .val (.long (t0 ^^^ s0)), .second, .val (.long (0 : Int64)), .second, .val (.long (0 : Int64)), .second, .val (.long s0), .second, .val (.long (0 : Int64)), .second, .val (.long (0 : Int64)), .second] []))
      refine Go.by (fun _ kont => XS.aload X153.here hx rfl (hb hby at_306) rfl rfl (XS.iconst X153.here hx rfl (hb hby at_308) kont)) ?_
      show Go _ _ _ _ _ _ _ (T153.setTop (mkF m 309 #[.val (.int k0), .val (.long t0), .second, .val (.long t1), .second, .val (.long t2), .second, .val (.long s0), .second, .val (.long s1), .second, .val (.int (1 : Int32)), .val (.int (0 : Int32)), .val (.long (t0 - s1)), .second, .val (.ref b134), .val (.ref b136), .val (.long (t0 ^^^ s0)), .second, .val (.long (0 : Int64)), .second, .val (.long (0 : Int64)), .second, .val (.long s0), .second, .val (.long (0 : Int64)), .second, .val (.long (0 : Int64)), .second] [(.int (1 : Int32)), (.ref b136)]))
      obtain ⟨_, _, ⟨T154, L154, k154, n154⟩, -, X154, ⟨Lc154, hQ154, l154, y154, z154⟩, st154⟩ := Jvm.LawKit.callS X153 hx (y := (⟨"com/example/runs_to_nets/runstonets/core/Gf2BasisXorPinLaw", "word", "([JI)J"⟩ : MethodName)) hown (mvT hZ (hw _ (List.mem_of_getElem? (i := 5) rfl))) (mvT hZ (hw _ (List.mem_of_getElem? (i := 6) rfl))) (mvT hZ (hw _ (List.mem_of_getElem? (i := 7) rfl))) (mvT hZ (hw _ (List.mem_of_getElem? (i := 8) rfl))) (by decide) (backOf (W := 0) (rmW11 l Z a0 hw [] b136 k136 s0 T144.heap n0 Z145 V145_b136) hZ (hw _ (List.mem_of_getElem? (i := 8) rfl)) (hw _ (List.mem_of_getElem? (i := 7) rfl)) (by decide) (by decide)) (g := (mkF m 309 #[.val (.int k0), .val (.long t0), .second, .val (.long t1), .second, .val (.long t2), .second, .val (.long s0), .second, .val (.long s1), .second, .val (.int (1 : Int32)), .val (.int (0 : Int32)), .val (.long (t0 - s1)), .second, .val (.ref b134), .val (.ref b136), .val (.long (t0 ^^^ s0)), .second, .val (.long (0 : Int64)), .second, .val (.long (0 : Int64)), .second, .val (.long s0), .second, .val (.long (0 : Int64)), .second, .val (.long (0 : Int64)), .second] [(.int (1 : Int32)), (.ref b136)])) rfl (by rw [hml]; rfl) (argsL := [(.ref b136), (.int (1 : Int32))]) (rest := []) (lenOf pd0_1 rfl) rfl (by show 2 * 0 + _ ≤ _; exact Nat.le_of_eq rfl) (hb hby at_309) (fun _ _ => ⟨rfl, eh153, (by decide : 2 + 0 ≤ _), (by decide : 2 + 0 ≤ _)⟩)
      dsimp only [Pt.U, Pt.locs, Pt.cells, Pt.slots] at X154 l154 y154 z154 st154 hQ154
      subst l154 y154 z154
      obtain ⟨rfl, N154q, eh154⟩ := hQ154
      have N154 := Fr.app N153 N154q
      refine Go.by st154 ?_
      show Go _ _ _ _ _ _ _ (T154.setTop (mkF m 312 #[.val (.int k0), .val (.long t0), .second, .val (.long t1), .second, .val (.long t2), .second, .val (.long s0), .second, .val (.long s1), .second, .val (.int (1 : Int32)), .val (.int (0 : Int32)), .val (.long (t0 - s1)), .second, .val (.ref b134), .val (.ref b136), .val (.long (t0 ^^^ s0)), .second, .val (.long (0 : Int64)), .second, .val (.long (0 : Int64)), .second, .val (.long s0), .second, .val (.long (0 : Int64)), .second, .val (.long (0 : Int64)), .second] [(.long (0 : Int64))]))
      refine Go.by (fun _ kont => XS.lload X154.here hx rfl (hb hby at_312) rfl (XS.lcmp X154.here hx rfl (hb hby at_314) rfl kont)) ?_
      show Go _ _ _ _ _ _ _ (T154.setTop (mkF m 315 #[.val (.int k0), .val (.long t0), .second, .val (.long t1), .second, .val (.long t2), .second, .val (.long s0), .second, .val (.long s1), .second, .val (.int (1 : Int32)), .val (.int (0 : Int32)), .val (.long (t0 - s1)), .second, .val (.ref b134), .val (.ref b136), .val (.long (t0 ^^^ s0)), .second, .val (.long (0 : Int64)), .second, .val (.long (0 : Int64)), .second, .val (.long s0), .second, .val (.long (0 : Int64)), .second, .val (.long (0 : Int64)), .second] [(.int (lcmpW (0 : Int64) (0 : Int64)))]))
      have hd155 : (0 : Int64) = (0 : Int64) := by decide
      refine Go.by (fun _ kont => XS.ifNo X154.here hx rfl (hb hby at_315) rfl ((if0 _ _).trans (teq ((lw_eq _ _).mpr hd155)).2) kont) ?_
      show Go _ _ _ _ _ _ _ (T154.setTop (mkF m 318 #[.val (.int k0), .val (.long t0), .second, .val (.long t1), .second, .val (.long t2), .second, .val (.long s0), .second, .val (.long s1), .second, .val (.int (1 : Int32)), .val (.int (0 : Int32)), .val (.long (t0 - s1)), .second, .val (.ref b134), .val (.ref b136), .val (.long (t0 ^^^ s0)), .second, .val (.long (0 : Int64)), .second, .val (.long (0 : Int64)), .second, .val (.long s0), .second, .val (.long (0 : Int64)), .second, .val (.long (0 : Int64)), .second] []))
      refine Go.by (fun _ kont => XS.aload X154.here hx rfl (hb hby at_318) rfl rfl (XS.iconst X154.here hx rfl (hb hby at_320) kont)) ?_
      show Go _ _ _ _ _ _ _ (T154.setTop (mkF m 321 #[.val (.int k0), .val (.long t0), .second, .val (.long t1), .second, .val (.long t2), .second, .val (.long s0), .second, .val (.long s1), .second, .val (.int (1 : Int32)), .val (.int (0 : Int32)), .val (.long (t0 - s1)), .second, .val (.ref b134), .val (.ref b136), .val (.long (t0 ^^^ s0)), .second, .val (.long (0 : Int64)), .second, .val (.long (0 : Int64)), .second, .val (.long s0), .second, .val (.long (0 : Int64)), .second, .val (.long (0 : Int64)), .second] [(.int (2 : Int32)), (.ref b136)]))
      obtain ⟨_, _, ⟨T156, L156, k156, n156⟩, -, X156, ⟨Lc156, hQ156, l156, y156, z156⟩, st156⟩ := Jvm.LawKit.callS X154 hx (y := (⟨"com/example/runs_to_nets/runstonets/core/Gf2BasisXorPinLaw", "word", "([JI)J"⟩ : MethodName)) hown (mvT hZ (hw _ (List.mem_of_getElem? (i := 5) rfl))) (mvT hZ (hw _ (List.mem_of_getElem? (i := 6) rfl))) (mvT hZ (hw _ (List.mem_of_getElem? (i := 7) rfl))) (mvT hZ (hw _ (List.mem_of_getElem? (i := 8) rfl))) (by decide) (backOf (W := 0) (rmW12 l Z a0 hw [] b136 k136 s0 T144.heap n0 Z145 V145_b136) hZ (hw _ (List.mem_of_getElem? (i := 8) rfl)) (hw _ (List.mem_of_getElem? (i := 7) rfl)) (by decide) (by decide)) (g := (mkF m 321 #[.val (.int k0), .val (.long t0), .second, .val (.long t1), .second, .val (.long t2), .second, .val (.long s0), .second, .val (.long s1), .second, .val (.int (1 : Int32)), .val (.int (0 : Int32)), .val (.long (t0 - s1)), .second, .val (.ref b134), .val (.ref b136), .val (.long (t0 ^^^ s0)), .second, .val (.long (0 : Int64)), .second, .val (.long (0 : Int64)), .second, .val (.long s0), .second, .val (.long (0 : Int64)), .second, .val (.long (0 : Int64)), .second] [(.int (2 : Int32)), (.ref b136)])) rfl (by rw [hml]; rfl) (argsL := [(.ref b136), (.int (2 : Int32))]) (rest := []) (lenOf pd0_1 rfl) rfl (by show 2 * 0 + _ ≤ _; exact Nat.le_of_eq rfl) (hb hby at_321) (fun _ _ => ⟨rfl, eh154, (by decide : 2 + 0 ≤ _), (by decide : 2 + 0 ≤ _)⟩)
      dsimp only [Pt.U, Pt.locs, Pt.cells, Pt.slots] at X156 l156 y156 z156 st156 hQ156
      subst l156 y156 z156
      obtain ⟨rfl, N156q, eh156⟩ := hQ156
      have N156 := Fr.app N154 N156q
      refine Go.by st156 ?_
      show Go _ _ _ _ _ _ _ (T156.setTop (mkF m 324 #[.val (.int k0), .val (.long t0), .second, .val (.long t1), .second, .val (.long t2), .second, .val (.long s0), .second, .val (.long s1), .second, .val (.int (1 : Int32)), .val (.int (0 : Int32)), .val (.long (t0 - s1)), .second, .val (.ref b134), .val (.ref b136), .val (.long (t0 ^^^ s0)), .second, .val (.long (0 : Int64)), .second, .val (.long (0 : Int64)), .second, .val (.long s0), .second, .val (.long (0 : Int64)), .second, .val (.long (0 : Int64)), .second] [(.long (0 : Int64))]))
      refine Go.by (fun _ kont => XS.lload X156.here hx rfl (hb hby at_324) rfl (XS.lcmp X156.here hx rfl (hb hby at_326) rfl kont)) ?_
      show Go _ _ _ _ _ _ _ (T156.setTop (mkF m 327 #[.val (.int k0), .val (.long t0), .second, .val (.long t1), .second, .val (.long t2), .second, .val (.long s0), .second, .val (.long s1), .second, .val (.int (1 : Int32)), .val (.int (0 : Int32)), .val (.long (t0 - s1)), .second, .val (.ref b134), .val (.ref b136), .val (.long (t0 ^^^ s0)), .second, .val (.long (0 : Int64)), .second, .val (.long (0 : Int64)), .second, .val (.long s0), .second, .val (.long (0 : Int64)), .second, .val (.long (0 : Int64)), .second] [(.int (lcmpW (0 : Int64) (0 : Int64)))]))
      have hd157 : (0 : Int64) = (0 : Int64) := by decide
      refine Go.by (fun _ kont => XS.ifNo X156.here hx rfl (hb hby at_327) rfl ((if0 _ _).trans (teq ((lw_eq _ _).mpr hd157)).2) kont) ?_
      show Go _ _ _ _ _ _ _ (T156.setTop (mkF m 330 #[.val (.int k0), .val (.long t0), .second, .val (.long t1), .second, .val (.long t2), .second, .val (.long s0), .second, .val (.long s1), .second, .val (.int (1 : Int32)), .val (.int (0 : Int32)), .val (.long (t0 - s1)), .second, .val (.ref b134), .val (.ref b136), .val (.long (t0 ^^^ s0)), .second, .val (.long (0 : Int64)), .second, .val (.long (0 : Int64)), .second, .val (.long s0), .second, .val (.long (0 : Int64)), .second, .val (.long (0 : Int64)), .second] []))
      refine Go.by (fun _ kont => XS.iconst X156.here hx rfl (hb hby at_330) (XS.goto X156.here hx rfl (pc0 := 331) (pc' := 335) rfl (hb hby at_331) (by decide) (by decide) kont)) ?_
      show Go _ _ _ _ _ _ _ (T156.setTop (mkF m 335 #[.val (.int k0), .val (.long t0), .second, .val (.long t1), .second, .val (.long t2), .second, .val (.long s0), .second, .val (.long s1), .second, .val (.int (1 : Int32)), .val (.int (0 : Int32)), .val (.long (t0 - s1)), .second, .val (.ref b134), .val (.ref b136), .val (.long (t0 ^^^ s0)), .second, .val (.long (0 : Int64)), .second, .val (.long (0 : Int64)), .second, .val (.long s0), .second, .val (.long (0 : Int64)), .second, .val (.long (0 : Int64)), .second] [(.int (1 : Int32))]))
      refine Go.retN X156 hx (t := .boolean) hret (by simp) hlk (hb hby at_335) ?_ (by decide) (by decide)
      show Q0 Z h0 n0 (some (.int (1 : Int32))) T156.heap _
      rw [eh156]
      exact ⟨rfl, N156⟩
    · refine Go.by (fun _ kont => XS.ifNo X0.here hx rfl (hb hby at_8) rfl ((if0 _ _).trans (feq hc133).1) kont) ?_
      show Go _ _ _ _ _ _ _ (s₁.setTop (mkF m 11 #[.val (.int k0), .val (.long t0), .second, .val (.long t1), .second, .val (.long t2), .second, .val (.long s0), .second, .val (.long s1), .second, .val (.int (1 : Int32)), .unset, .unset, .unset, .unset, .unset, .unset, .unset, .unset, .unset, .unset, .unset, .unset, .unset, .unset, .unset, .unset, .unset] []))
      refine Go.by (fun _ kont => XS.iconst X0.here hx rfl (hb hby at_11) (XS.goto X0.here hx rfl (pc0 := 12) (pc' := 16) rfl (hb hby at_12) (by decide) (by decide) (XS.istore X0.here hx rfl (hb hby at_16) rfl (l' := #[.val (.int k0), .val (.long t0), .second, .val (.long t1), .second, .val (.long t2), .second, .val (.long s0), .second, .val (.long s1), .second, .val (.int (1 : Int32)), .val (.int (1 : Int32)), .unset, .unset, .unset, .unset, .unset, .unset, .unset, .unset, .unset, .unset, .unset, .unset, .unset, .unset, .unset, .unset]) rfl (XS.lloadN X0.here hx rfl (hb hby at_18) rfl (XS.lload X0.here hx rfl (hb hby at_19) rfl (XS.lsub X0.here hx rfl (hb hby at_21) rfl kont)))))) ?_
      show Go _ _ _ _ _ _ _ (s₁.setTop (mkF m 22 #[.val (.int k0), .val (.long t0), .second, .val (.long t1), .second, .val (.long t2), .second, .val (.long s0), .second, .val (.long s1), .second, .val (.int (1 : Int32)), .val (.int (1 : Int32)), .unset, .unset, .unset, .unset, .unset, .unset, .unset, .unset, .unset, .unset, .unset, .unset, .unset, .unset, .unset, .unset] [(.long (t0 - s1))]))
      refine Go.by (fun _ kont => XS.lstore X0.here hx rfl (hb hby at_22) rfl (l' := #[.val (.int k0), .val (.long t0), .second, .val (.long t1), .second, .val (.long t2), .second, .val (.long s0), .second, .val (.long s1), .second, .val (.int (1 : Int32)), .val (.int (1 : Int32)), .val (.long (t0 - s1)), .second, .unset, .unset, .unset, .unset, .unset, .unset, .unset, .unset, .unset, .unset, .unset, .unset, .unset, .unset]) rfl (XS.iload X0.here hx rfl (hb hby at_24) rfl kont)) ?_
      show Go _ _ _ _ _ _ _ (s₁.setTop (mkF m 26 #[.val (.int k0), .val (.long t0), .second, .val (.long t1), .second, .val (.long t2), .second, .val (.long s0), .second, .val (.long s1), .second, .val (.int (1 : Int32)), .val (.int (1 : Int32)), .val (.long (t0 - s1)), .second, .unset, .unset, .unset, .unset, .unset, .unset, .unset, .unset, .unset, .unset, .unset, .unset, .unset, .unset] [(.int (1 : Int32))]))
      obtain ⟨T158, h158, k158, X158, e158, X_158, A158, st158⟩ := newP X0 hx hZ (hw _ (List.mem_of_getElem? (i := 0) rfl)) e0 (g := (mkF m 26 #[.val (.int k0), .val (.long t0), .second, .val (.long t1), .second, .val (.long t2), .second, .val (.long s0), .second, .val (.long s1), .second, .val (.int (1 : Int32)), .val (.int (1 : Int32)), .val (.long (t0 - s1)), .second, .unset, .unset, .unset, .unset, .unset, .unset, .unset, .unset, .unset, .unset, .unset, .unset, .unset, .unset] [(.int (1 : Int32))])) rfl (hb hby at_26) rfl (by decide) (cap := 1) (by decide) (by decide) (by decide) (by decide)
      obtain ⟨b158, g158⟩ : ∃ z, z = h0.size := ⟨_, rfl⟩
      rw [← g158] at A158 st158
      have ge_b158 : n0 ≤ b158 := Nat.le_trans Z0 (Nat.le_of_eq g158.symm)
      have sz_b158 : h0.size ≤ b158 := Nat.le_trans (Keep.refl h0 []).1 (Nat.le_of_eq g158.symm)
      have Z159 := Nat.le_trans Z0 X_158.1
      have K159 : Keep h0 h158 [] := (Keep.refl h0 []).ext X_158
      have V158 : Arv Z h158 b158 k158 .long (1 : Int32) [(.long (0 : Int64))] (.long (0 : Int64)) := (Arv.new A158 (by decide)).pad (pad_rep [] (.long (0 : Int64)) 1)
      refine Go.by st158 ?_
      show Go _ _ _ _ _ _ _ (T158.setTop (mkF m 28 #[.val (.int k0), .val (.long t0), .second, .val (.long t1), .second, .val (.long t2), .second, .val (.long s0), .second, .val (.long s1), .second, .val (.int (1 : Int32)), .val (.int (1 : Int32)), .val (.long (t0 - s1)), .second, .unset, .unset, .unset, .unset, .unset, .unset, .unset, .unset, .unset, .unset, .unset, .unset, .unset, .unset] [(.ref b158)]))
      refine Go.by (fun _ kont => XS.astore X158.here hx rfl (hb hby at_28) rfl rfl (l' := #[.val (.int k0), .val (.long t0), .second, .val (.long t1), .second, .val (.long t2), .second, .val (.long s0), .second, .val (.long s1), .second, .val (.int (1 : Int32)), .val (.int (1 : Int32)), .val (.long (t0 - s1)), .second, .val (.ref b158), .unset, .unset, .unset, .unset, .unset, .unset, .unset, .unset, .unset, .unset, .unset, .unset, .unset]) rfl (XS.iload X158.here hx rfl (hb hby at_30) rfl kont)) ?_
      show Go _ _ _ _ _ _ _ (T158.setTop (mkF m 32 #[.val (.int k0), .val (.long t0), .second, .val (.long t1), .second, .val (.long t2), .second, .val (.long s0), .second, .val (.long s1), .second, .val (.int (1 : Int32)), .val (.int (1 : Int32)), .val (.long (t0 - s1)), .second, .val (.ref b158), .unset, .unset, .unset, .unset, .unset, .unset, .unset, .unset, .unset, .unset, .unset, .unset, .unset] [(.int (1 : Int32))]))
      obtain ⟨T160, h160, k160, X160, e160, X_160, A160, st160⟩ := newP X158 hx hZ (hw _ (List.mem_of_getElem? (i := 0) rfl)) e158 (g := (mkF m 32 #[.val (.int k0), .val (.long t0), .second, .val (.long t1), .second, .val (.long t2), .second, .val (.long s0), .second, .val (.long s1), .second, .val (.int (1 : Int32)), .val (.int (1 : Int32)), .val (.long (t0 - s1)), .second, .val (.ref b158), .unset, .unset, .unset, .unset, .unset, .unset, .unset, .unset, .unset, .unset, .unset, .unset, .unset] [(.int (1 : Int32))])) rfl (hb hby at_32) rfl (by decide) (cap := 1) (by decide) (by decide) (by decide) (by decide)
      obtain ⟨b160, g160⟩ : ∃ z, z = h158.size := ⟨_, rfl⟩
      rw [← g160] at A160 st160
      have ne_b158_b160 : b158 ≠ b160 := Nat.ne_of_lt (Nat.lt_of_lt_of_le V158.lt (Nat.le_of_eq g160.symm))
      have ge_b160 : n0 ≤ b160 := Nat.le_trans Z159 (Nat.le_of_eq g160.symm)
      have sz_b160 : h0.size ≤ b160 := Nat.le_trans K159.1 (Nat.le_of_eq g160.symm)
      have V161_b158 := V158.ext X_160
      have Z161 := Nat.le_trans Z159 X_160.1
      have K161 : Keep h0 h160 [] := K159.ext X_160
      have V160 : Arv Z h160 b160 k160 .long (1 : Int32) [(.long (0 : Int64))] (.long (0 : Int64)) := (Arv.new A160 (by decide)).pad (pad_rep [] (.long (0 : Int64)) 1)
      refine Go.by st160 ?_
      show Go _ _ _ _ _ _ _ (T160.setTop (mkF m 34 #[.val (.int k0), .val (.long t0), .second, .val (.long t1), .second, .val (.long t2), .second, .val (.long s0), .second, .val (.long s1), .second, .val (.int (1 : Int32)), .val (.int (1 : Int32)), .val (.long (t0 - s1)), .second, .val (.ref b158), .unset, .unset, .unset, .unset, .unset, .unset, .unset, .unset, .unset, .unset, .unset, .unset, .unset] [(.ref b160)]))
      refine Go.by (fun _ kont => XS.astore X160.here hx rfl (hb hby at_34) rfl rfl (l' := #[.val (.int k0), .val (.long t0), .second, .val (.long t1), .second, .val (.long t2), .second, .val (.long s0), .second, .val (.long s1), .second, .val (.int (1 : Int32)), .val (.int (1 : Int32)), .val (.long (t0 - s1)), .second, .val (.ref b158), .val (.ref b160), .unset, .unset, .unset, .unset, .unset, .unset, .unset, .unset, .unset, .unset, .unset, .unset]) rfl (XS.iload X160.here hx rfl (hb hby at_36) rfl kont)) ?_
      show Go _ _ _ _ _ _ _ (T160.setTop (mkF m 38 #[.val (.int k0), .val (.long t0), .second, .val (.long t1), .second, .val (.long t2), .second, .val (.long s0), .second, .val (.long s1), .second, .val (.int (1 : Int32)), .val (.int (1 : Int32)), .val (.long (t0 - s1)), .second, .val (.ref b158), .val (.ref b160), .unset, .unset, .unset, .unset, .unset, .unset, .unset, .unset, .unset, .unset, .unset, .unset] [(.int (1 : Int32))]))
      refine Go.by (fun _ kont => XS.ifNo X160.here hx rfl (hb hby at_38) rfl (by decide) kont) ?_
      show Go _ _ _ _ _ _ _ (T160.setTop (mkF m 41 #[.val (.int k0), .val (.long t0), .second, .val (.long t1), .second, .val (.long t2), .second, .val (.long s0), .second, .val (.long s1), .second, .val (.int (1 : Int32)), .val (.int (1 : Int32)), .val (.long (t0 - s1)), .second, .val (.ref b158), .val (.ref b160), .unset, .unset, .unset, .unset, .unset, .unset, .unset, .unset, .unset, .unset, .unset, .unset] []))
      refine Go.by (fun _ kont => XS.aload X160.here hx rfl (hb hby at_41) rfl rfl (XS.iconst X160.here hx rfl (hb hby at_43) (XS.lloadN X160.here hx rfl (hb hby at_44) rfl kont))) ?_
      show Go _ _ _ _ _ _ _ (T160.setTop (mkF m 45 #[.val (.int k0), .val (.long t0), .second, .val (.long t1), .second, .val (.long t2), .second, .val (.long s0), .second, .val (.long s1), .second, .val (.int (1 : Int32)), .val (.int (1 : Int32)), .val (.long (t0 - s1)), .second, .val (.ref b158), .val (.ref b160), .unset, .unset, .unset, .unset, .unset, .unset, .unset, .unset, .unset, .unset, .unset, .unset] [(.long t0), (.int (0 : Int32)), (.ref b158)]))
      obtain ⟨cl_q162, Ar_q162, q1_q162, S_q162, N_q162, H_q162, G_q162⟩ := id V161_b158
      have hin_q162 : ¬ ((0 : Int32) < 0 ∨ cl_q162.slots.size ≤ ((0 : Int32)).toNatClampNeg) := inb_of S_q162 ⟨by decide, by decide⟩
      obtain ⟨T163, h163, X163, e163, W163, st163⟩ := stJ X160 hx hZ e160 Ar_q162 (j := (0 : Int32)) hin_q162 (g := (mkF m 45 #[.val (.int k0), .val (.long t0), .second, .val (.long t1), .second, .val (.long t2), .second, .val (.long s0), .second, .val (.long s1), .second, .val (.int (1 : Int32)), .val (.int (1 : Int32)), .val (.long (t0 - s1)), .second, .val (.ref b158), .val (.ref b160), .unset, .unset, .unset, .unset, .unset, .unset, .unset, .unset, .unset, .unset, .unset, .unset] [(.long t0), (.int (0 : Int32)), (.ref b158)])) rfl rfl (hb hby at_45)
      have V163 : Arv Z h163 b158 k158 .long (1 : Int32) [(.long t0)] (.long (0 : Int64)) := Arv.set Ar_q162 q1_q162 S_q162 N_q162 H_q162 G_q162 rfl W163 0 rfl (Nat.le_of_ble_eq_true rfl)
      have V164_b160 := V160.other W163 (Ne.symm ne_b158_b160)
      have Z164 := Nat.le_trans Z161 (Keep.of_wr W163).1
      have K164 : Keep h0 h163 [] := K161.wr W163 (Or.inr sz_b158)
      have N163 := Fr.snoc X163 N0 ge_b158
      refine Go.by st163 ?_
      show Go _ _ _ _ _ _ _ (T163.setTop (mkF m 46 #[.val (.int k0), .val (.long t0), .second, .val (.long t1), .second, .val (.long t2), .second, .val (.long s0), .second, .val (.long s1), .second, .val (.int (1 : Int32)), .val (.int (1 : Int32)), .val (.long (t0 - s1)), .second, .val (.ref b158), .val (.ref b160), .unset, .unset, .unset, .unset, .unset, .unset, .unset, .unset, .unset, .unset, .unset, .unset] []))
      refine Go.by (fun _ kont => XS.aload X163.here hx rfl (hb hby at_46) rfl rfl (XS.iconst X163.here hx rfl (hb hby at_48) (XS.lload X163.here hx rfl (hb hby at_49) rfl kont))) ?_
      show Go _ _ _ _ _ _ _ (T163.setTop (mkF m 51 #[.val (.int k0), .val (.long t0), .second, .val (.long t1), .second, .val (.long t2), .second, .val (.long s0), .second, .val (.long s1), .second, .val (.int (1 : Int32)), .val (.int (1 : Int32)), .val (.long (t0 - s1)), .second, .val (.ref b158), .val (.ref b160), .unset, .unset, .unset, .unset, .unset, .unset, .unset, .unset, .unset, .unset, .unset, .unset] [(.long s0), (.int (0 : Int32)), (.ref b160)]))
      obtain ⟨cl_q165, Ar_q165, q1_q165, S_q165, N_q165, H_q165, G_q165⟩ := id V164_b160
      have hin_q165 : ¬ ((0 : Int32) < 0 ∨ cl_q165.slots.size ≤ ((0 : Int32)).toNatClampNeg) := inb_of S_q165 ⟨by decide, by decide⟩
      obtain ⟨T166, h166, X166, e166, W166, st166⟩ := stJ X163 hx hZ e163 Ar_q165 (j := (0 : Int32)) hin_q165 (g := (mkF m 51 #[.val (.int k0), .val (.long t0), .second, .val (.long t1), .second, .val (.long t2), .second, .val (.long s0), .second, .val (.long s1), .second, .val (.int (1 : Int32)), .val (.int (1 : Int32)), .val (.long (t0 - s1)), .second, .val (.ref b158), .val (.ref b160), .unset, .unset, .unset, .unset, .unset, .unset, .unset, .unset, .unset, .unset, .unset, .unset] [(.long s0), (.int (0 : Int32)), (.ref b160)])) rfl rfl (hb hby at_51)
      have V166 : Arv Z h166 b160 k160 .long (1 : Int32) [(.long s0)] (.long (0 : Int64)) := Arv.set Ar_q165 q1_q165 S_q165 N_q165 H_q165 G_q165 rfl W166 0 rfl (Nat.le_of_ble_eq_true rfl)
      have V167_b158 := V163.other W166 ne_b158_b160
      have Z167 := Nat.le_trans Z164 (Keep.of_wr W166).1
      have K167 : Keep h0 h166 [] := K164.wr W166 (Or.inr sz_b160)
      have N166 := Fr.snoc X166 N163 ge_b160
      refine Go.by st166 ?_
      show Go _ _ _ _ _ _ _ (T166.setTop (mkF m 52 #[.val (.int k0), .val (.long t0), .second, .val (.long t1), .second, .val (.long t2), .second, .val (.long s0), .second, .val (.long s1), .second, .val (.int (1 : Int32)), .val (.int (1 : Int32)), .val (.long (t0 - s1)), .second, .val (.ref b158), .val (.ref b160), .unset, .unset, .unset, .unset, .unset, .unset, .unset, .unset, .unset, .unset, .unset, .unset] []))
      refine Go.by (fun _ kont => XS.iload X166.here hx rfl (hb hby at_52) rfl (XS.iconst X166.here hx rfl (hb hby at_54) kont)) ?_
      show Go _ _ _ _ _ _ _ (T166.setTop (mkF m 55 #[.val (.int k0), .val (.long t0), .second, .val (.long t1), .second, .val (.long t2), .second, .val (.long s0), .second, .val (.long s1), .second, .val (.int (1 : Int32)), .val (.int (1 : Int32)), .val (.long (t0 - s1)), .second, .val (.ref b158), .val (.ref b160), .unset, .unset, .unset, .unset, .unset, .unset, .unset, .unset, .unset, .unset, .unset, .unset] [(.int (1 : Int32)), (.int (1 : Int32))]))
      refine Go.by (fun _ kont => XS.icmpYes X166.here hx rfl (pc0 := 55) (pc' := 69) rfl (hb hby at_55) rfl (by decide) (by decide) (by decide) kont) ?_
      show Go _ _ _ _ _ _ _ (T166.setTop (mkF m 69 #[.val (.int k0), .val (.long t0), .second, .val (.long t1), .second, .val (.long t2), .second, .val (.long s0), .second, .val (.long s1), .second, .val (.int (1 : Int32)), .val (.int (1 : Int32)), .val (.long (t0 - s1)), .second, .val (.ref b158), .val (.ref b160), .unset, .unset, .unset, .unset, .unset, .unset, .unset, .unset, .unset, .unset, .unset, .unset] []))
      refine Go.by (fun _ kont => XS.iload X166.here hx rfl (hb hby at_69) rfl (XS.iconst X166.here hx rfl (hb hby at_71) kont)) ?_
      show Go _ _ _ _ _ _ _ (T166.setTop (mkF m 72 #[.val (.int k0), .val (.long t0), .second, .val (.long t1), .second, .val (.long t2), .second, .val (.long s0), .second, .val (.long s1), .second, .val (.int (1 : Int32)), .val (.int (1 : Int32)), .val (.long (t0 - s1)), .second, .val (.ref b158), .val (.ref b160), .unset, .unset, .unset, .unset, .unset, .unset, .unset, .unset, .unset, .unset, .unset, .unset] [(.int (2 : Int32)), (.int (1 : Int32))]))
      refine Go.by (fun _ kont => XS.icmpYes X166.here hx rfl (pc0 := 72) (pc' := 87) rfl (hb hby at_72) rfl (by decide) (by decide) (by decide) kont) ?_
      show Go _ _ _ _ _ _ _ (T166.setTop (mkF m 87 #[.val (.int k0), .val (.long t0), .second, .val (.long t1), .second, .val (.long t2), .second, .val (.long s0), .second, .val (.long s1), .second, .val (.int (1 : Int32)), .val (.int (1 : Int32)), .val (.long (t0 - s1)), .second, .val (.ref b158), .val (.ref b160), .unset, .unset, .unset, .unset, .unset, .unset, .unset, .unset, .unset, .unset, .unset, .unset] []))
      refine Go.by (fun _ kont => XS.iload X166.here hx rfl (hb hby at_87) rfl kont) ?_
      show Go _ _ _ _ _ _ _ (T166.setTop (mkF m 89 #[.val (.int k0), .val (.long t0), .second, .val (.long t1), .second, .val (.long t2), .second, .val (.long s0), .second, .val (.long s1), .second, .val (.int (1 : Int32)), .val (.int (1 : Int32)), .val (.long (t0 - s1)), .second, .val (.ref b158), .val (.ref b160), .unset, .unset, .unset, .unset, .unset, .unset, .unset, .unset, .unset, .unset, .unset, .unset] [(.int (1 : Int32))]))
      refine Go.by (fun _ kont => XS.ifNo X166.here hx rfl (hb hby at_89) rfl (by decide) kont) ?_
      show Go _ _ _ _ _ _ _ (T166.setTop (mkF m 92 #[.val (.int k0), .val (.long t0), .second, .val (.long t1), .second, .val (.long t2), .second, .val (.long s0), .second, .val (.long s1), .second, .val (.int (1 : Int32)), .val (.int (1 : Int32)), .val (.long (t0 - s1)), .second, .val (.ref b158), .val (.ref b160), .unset, .unset, .unset, .unset, .unset, .unset, .unset, .unset, .unset, .unset, .unset, .unset] []))
      refine Go.by (fun _ kont => XS.aload X166.here hx rfl (hb hby at_92) rfl rfl (XS.aload X166.here hx rfl (hb hby at_94) rfl rfl kont)) ?_
      show Go _ _ _ _ _ _ _ (T166.setTop (mkF m 96 #[.val (.int k0), .val (.long t0), .second, .val (.long t1), .second, .val (.long t2), .second, .val (.long s0), .second, .val (.long s1), .second, .val (.int (1 : Int32)), .val (.int (1 : Int32)), .val (.long (t0 - s1)), .second, .val (.ref b158), .val (.ref b160), .unset, .unset, .unset, .unset, .unset, .unset, .unset, .unset, .unset, .unset, .unset, .unset] [(.ref b158), (.ref b158)]))
      obtain ⟨_, _, ⟨T168, L168, k168, n168⟩, -, X168, ⟨Lc168, hQ168, l168, y168, z168⟩, st168⟩ := Jvm.LawKit.callS X166 hx (y := (⟨"com/example/runs_to_nets/runstonets/core/Gf2Basis", "xor", "([J[J)V"⟩ : MethodName)) hown (mvT hZ (hw _ (List.mem_of_getElem? (i := 1) rfl))) (mvT hZ (hw _ (List.mem_of_getElem? (i := 2) rfl))) (mvT hZ (hw _ (List.mem_of_getElem? (i := 3) rfl))) (mvT hZ (hw _ (List.mem_of_getElem? (i := 4) rfl))) (by decide) (backOf (W := 0) (rmXA1 l Z a0 hw [] b158 k158 t0 h166 n0 Z167 V167_b158 ge_b158) hZ (hw _ (List.mem_of_getElem? (i := 4) rfl)) (hw _ (List.mem_of_getElem? (i := 3) rfl)) (by decide) (by decide)) (g := (mkF m 96 #[.val (.int k0), .val (.long t0), .second, .val (.long t1), .second, .val (.long t2), .second, .val (.long s0), .second, .val (.long s1), .second, .val (.int (1 : Int32)), .val (.int (1 : Int32)), .val (.long (t0 - s1)), .second, .val (.ref b158), .val (.ref b160), .unset, .unset, .unset, .unset, .unset, .unset, .unset, .unset, .unset, .unset, .unset, .unset] [(.ref b158), (.ref b158)])) rfl (by rw [hml]; rfl) (argsL := [(.ref b158), (.ref b158)]) (rest := []) (lenOf pd0_0 rfl) rfl (by show 2 * 0 + _ ≤ _; exact Nat.le_of_eq rfl) (hb hby at_96) (fun _ _ => ⟨rfl, e166, (by decide : 2 + 0 ≤ _), (by decide : 2 + 0 ≤ _)⟩)
      dsimp only [Pt.U, Pt.locs, Pt.cells, Pt.slots] at X168 l168 y168 z168 st168 hQ168
      subst l168 y168 z168
      obtain ⟨rfl, N168q, K168, g168_0⟩ := hQ168
      have V169_b160 := V166.keep K168 (ninS (Ne.symm ne_b158_b160) nin0)
      have Z169 := Nat.le_trans Z167 K168.1
      have K169 : Keep h0 T168.heap [] := Keep.trans K167 K168 (allS (Or.inr sz_b158) all0)
      have N168 := Fr.app N166 N168q
      refine Go.by st168 ?_
      show Go _ _ _ _ _ _ _ (T168.setTop (mkF m 99 #[.val (.int k0), .val (.long t0), .second, .val (.long t1), .second, .val (.long t2), .second, .val (.long s0), .second, .val (.long s1), .second, .val (.int (1 : Int32)), .val (.int (1 : Int32)), .val (.long (t0 - s1)), .second, .val (.ref b158), .val (.ref b160), .unset, .unset, .unset, .unset, .unset, .unset, .unset, .unset, .unset, .unset, .unset, .unset] []))
      refine Go.by (fun _ kont => XS.aload X168.here hx rfl (hb hby at_99) rfl rfl kont) ?_
      show Go _ _ _ _ _ _ _ (T168.setTop (mkF m 101 #[.val (.int k0), .val (.long t0), .second, .val (.long t1), .second, .val (.long t2), .second, .val (.long s0), .second, .val (.long s1), .second, .val (.int (1 : Int32)), .val (.int (1 : Int32)), .val (.long (t0 - s1)), .second, .val (.ref b158), .val (.ref b160), .unset, .unset, .unset, .unset, .unset, .unset, .unset, .unset, .unset, .unset, .unset, .unset] [(.ref b158)]))
      obtain ⟨cl_q170, Ar_q170, q1_q170, S_q170, N_q170, H_q170, G_q170⟩ := id g168_0
      refine Go.by (X168.arraylength hx (by first | exact Ar_q170.1 | (rw [rfl]; exact Ar_q170.1)) (State.isArrayOf_alike hZ.alike Ar_q170.2.1) (g := (mkF m 101 #[.val (.int k0), .val (.long t0), .second, .val (.long t1), .second, .val (.long t2), .second, .val (.long s0), .second, .val (.long s1), .second, .val (.int (1 : Int32)), .val (.int (1 : Int32)), .val (.long (t0 - s1)), .second, .val (.ref b158), .val (.ref b160), .unset, .unset, .unset, .unset, .unset, .unset, .unset, .unset, .unset, .unset, .unset, .unset] [(.ref b158)])) rfl rfl (hb hby at_101)) ?_
      rw [len_of S_q170 N_q170]
      show Go _ _ _ _ _ _ _ (T168.setTop (mkF m 102 #[.val (.int k0), .val (.long t0), .second, .val (.long t1), .second, .val (.long t2), .second, .val (.long s0), .second, .val (.long s1), .second, .val (.int (1 : Int32)), .val (.int (1 : Int32)), .val (.long (t0 - s1)), .second, .val (.ref b158), .val (.ref b160), .unset, .unset, .unset, .unset, .unset, .unset, .unset, .unset, .unset, .unset, .unset, .unset] [(.int (1 : Int32))]))
      refine Go.by (fun _ kont => XS.iload X168.here hx rfl (hb hby at_102) rfl kont) ?_
      show Go _ _ _ _ _ _ _ (T168.setTop (mkF m 104 #[.val (.int k0), .val (.long t0), .second, .val (.long t1), .second, .val (.long t2), .second, .val (.long s0), .second, .val (.long s1), .second, .val (.int (1 : Int32)), .val (.int (1 : Int32)), .val (.long (t0 - s1)), .second, .val (.ref b158), .val (.ref b160), .unset, .unset, .unset, .unset, .unset, .unset, .unset, .unset, .unset, .unset, .unset, .unset] [(.int (1 : Int32)), (.int (1 : Int32))]))
      refine Go.by (fun _ kont => XS.icmpNo X168.here hx rfl (hb hby at_104) rfl (by decide) kont) ?_
      show Go _ _ _ _ _ _ _ (T168.setTop (mkF m 107 #[.val (.int k0), .val (.long t0), .second, .val (.long t1), .second, .val (.long t2), .second, .val (.long s0), .second, .val (.long s1), .second, .val (.int (1 : Int32)), .val (.int (1 : Int32)), .val (.long (t0 - s1)), .second, .val (.ref b158), .val (.ref b160), .unset, .unset, .unset, .unset, .unset, .unset, .unset, .unset, .unset, .unset, .unset, .unset] []))
      refine Go.by (fun _ kont => XS.aload X168.here hx rfl (hb hby at_107) rfl rfl (XS.iconst X168.here hx rfl (hb hby at_109) kont)) ?_
      show Go _ _ _ _ _ _ _ (T168.setTop (mkF m 110 #[.val (.int k0), .val (.long t0), .second, .val (.long t1), .second, .val (.long t2), .second, .val (.long s0), .second, .val (.long s1), .second, .val (.int (1 : Int32)), .val (.int (1 : Int32)), .val (.long (t0 - s1)), .second, .val (.ref b158), .val (.ref b160), .unset, .unset, .unset, .unset, .unset, .unset, .unset, .unset, .unset, .unset, .unset, .unset] [(.int (0 : Int32)), (.ref b158)]))
      obtain ⟨_, _, ⟨T171, L171, k171, n171⟩, -, X171, ⟨Lc171, hQ171, l171, y171, z171⟩, st171⟩ := Jvm.LawKit.callS X168 hx (y := (⟨"com/example/runs_to_nets/runstonets/core/Gf2BasisXorPinLaw", "word", "([JI)J"⟩ : MethodName)) hown (mvT hZ (hw _ (List.mem_of_getElem? (i := 5) rfl))) (mvT hZ (hw _ (List.mem_of_getElem? (i := 6) rfl))) (mvT hZ (hw _ (List.mem_of_getElem? (i := 7) rfl))) (mvT hZ (hw _ (List.mem_of_getElem? (i := 8) rfl))) (by decide) (backOf (W := 0) (rmW10 l Z a0 hw [] b158 k158 (t0 ^^^ t0) T168.heap n0 Z169 g168_0) hZ (hw _ (List.mem_of_getElem? (i := 8) rfl)) (hw _ (List.mem_of_getElem? (i := 7) rfl)) (by decide) (by decide)) (g := (mkF m 110 #[.val (.int k0), .val (.long t0), .second, .val (.long t1), .second, .val (.long t2), .second, .val (.long s0), .second, .val (.long s1), .second, .val (.int (1 : Int32)), .val (.int (1 : Int32)), .val (.long (t0 - s1)), .second, .val (.ref b158), .val (.ref b160), .unset, .unset, .unset, .unset, .unset, .unset, .unset, .unset, .unset, .unset, .unset, .unset] [(.int (0 : Int32)), (.ref b158)])) rfl (by rw [hml]; rfl) (argsL := [(.ref b158), (.int (0 : Int32))]) (rest := []) (lenOf pd0_1 rfl) rfl (by show 2 * 0 + _ ≤ _; exact Nat.le_of_eq rfl) (hb hby at_110) (fun _ _ => ⟨rfl, rfl, (by decide : 2 + 0 ≤ _), (by decide : 2 + 0 ≤ _)⟩)
      dsimp only [Pt.U, Pt.locs, Pt.cells, Pt.slots] at X171 l171 y171 z171 st171 hQ171
      subst l171 y171 z171
      obtain ⟨rfl, N171q, eh171⟩ := hQ171
      have N171 := Fr.app N168 N171q
      refine Go.by st171 ?_
      show Go _ _ _ _ _ _ _ (T171.setTop (mkF m 113 #[.val (.int k0), .val (.long t0), .second, .val (.long t1), .second, .val (.long t2), .second, .val (.long s0), .second, .val (.long s1), .second, .val (.int (1 : Int32)), .val (.int (1 : Int32)), .val (.long (t0 - s1)), .second, .val (.ref b158), .val (.ref b160), .unset, .unset, .unset, .unset, .unset, .unset, .unset, .unset, .unset, .unset, .unset, .unset] [(.long (t0 ^^^ t0))]))
      refine Go.by (fun _ kont => XS.lconst X171.here hx rfl (hb hby at_113) (XS.lcmp X171.here hx rfl (hb hby at_114) rfl kont)) ?_
      show Go _ _ _ _ _ _ _ (T171.setTop (mkF m 115 #[.val (.int k0), .val (.long t0), .second, .val (.long t1), .second, .val (.long t2), .second, .val (.long s0), .second, .val (.long s1), .second, .val (.int (1 : Int32)), .val (.int (1 : Int32)), .val (.long (t0 - s1)), .second, .val (.ref b158), .val (.ref b160), .unset, .unset, .unset, .unset, .unset, .unset, .unset, .unset, .unset, .unset, .unset, .unset] [(.int (lcmpW (t0 ^^^ t0) (0 : Int64)))]))
      have hd172 : (t0 ^^^ t0) = (0 : Int64) := Int64.xor_self
      refine Go.by (fun _ kont => XS.ifNo X171.here hx rfl (hb hby at_115) rfl ((if0 _ _).trans (teq ((lw_eq _ _).mpr hd172)).2) kont) ?_
      show Go _ _ _ _ _ _ _ (T171.setTop (mkF m 118 #[.val (.int k0), .val (.long t0), .second, .val (.long t1), .second, .val (.long t2), .second, .val (.long s0), .second, .val (.long s1), .second, .val (.int (1 : Int32)), .val (.int (1 : Int32)), .val (.long (t0 - s1)), .second, .val (.ref b158), .val (.ref b160), .unset, .unset, .unset, .unset, .unset, .unset, .unset, .unset, .unset, .unset, .unset, .unset] []))
      refine Go.by (fun _ kont => XS.aload X171.here hx rfl (hb hby at_118) rfl rfl (XS.iconst X171.here hx rfl (hb hby at_120) kont)) ?_
      show Go _ _ _ _ _ _ _ (T171.setTop (mkF m 121 #[.val (.int k0), .val (.long t0), .second, .val (.long t1), .second, .val (.long t2), .second, .val (.long s0), .second, .val (.long s1), .second, .val (.int (1 : Int32)), .val (.int (1 : Int32)), .val (.long (t0 - s1)), .second, .val (.ref b158), .val (.ref b160), .unset, .unset, .unset, .unset, .unset, .unset, .unset, .unset, .unset, .unset, .unset, .unset] [(.int (1 : Int32)), (.ref b158)]))
      obtain ⟨_, _, ⟨T173, L173, k173, n173⟩, -, X173, ⟨Lc173, hQ173, l173, y173, z173⟩, st173⟩ := Jvm.LawKit.callS X171 hx (y := (⟨"com/example/runs_to_nets/runstonets/core/Gf2BasisXorPinLaw", "word", "([JI)J"⟩ : MethodName)) hown (mvT hZ (hw _ (List.mem_of_getElem? (i := 5) rfl))) (mvT hZ (hw _ (List.mem_of_getElem? (i := 6) rfl))) (mvT hZ (hw _ (List.mem_of_getElem? (i := 7) rfl))) (mvT hZ (hw _ (List.mem_of_getElem? (i := 8) rfl))) (by decide) (backOf (W := 0) (rmW11 l Z a0 hw [] b158 k158 (t0 ^^^ t0) T168.heap n0 Z169 g168_0) hZ (hw _ (List.mem_of_getElem? (i := 8) rfl)) (hw _ (List.mem_of_getElem? (i := 7) rfl)) (by decide) (by decide)) (g := (mkF m 121 #[.val (.int k0), .val (.long t0), .second, .val (.long t1), .second, .val (.long t2), .second, .val (.long s0), .second, .val (.long s1), .second, .val (.int (1 : Int32)), .val (.int (1 : Int32)), .val (.long (t0 - s1)), .second, .val (.ref b158), .val (.ref b160), .unset, .unset, .unset, .unset, .unset, .unset, .unset, .unset, .unset, .unset, .unset, .unset] [(.int (1 : Int32)), (.ref b158)])) rfl (by rw [hml]; rfl) (argsL := [(.ref b158), (.int (1 : Int32))]) (rest := []) (lenOf pd0_1 rfl) rfl (by show 2 * 0 + _ ≤ _; exact Nat.le_of_eq rfl) (hb hby at_121) (fun _ _ => ⟨rfl, eh171, (by decide : 2 + 0 ≤ _), (by decide : 2 + 0 ≤ _)⟩)
      dsimp only [Pt.U, Pt.locs, Pt.cells, Pt.slots] at X173 l173 y173 z173 st173 hQ173
      subst l173 y173 z173
      obtain ⟨rfl, N173q, eh173⟩ := hQ173
      have N173 := Fr.app N171 N173q
      refine Go.by st173 ?_
      show Go _ _ _ _ _ _ _ (T173.setTop (mkF m 124 #[.val (.int k0), .val (.long t0), .second, .val (.long t1), .second, .val (.long t2), .second, .val (.long s0), .second, .val (.long s1), .second, .val (.int (1 : Int32)), .val (.int (1 : Int32)), .val (.long (t0 - s1)), .second, .val (.ref b158), .val (.ref b160), .unset, .unset, .unset, .unset, .unset, .unset, .unset, .unset, .unset, .unset, .unset, .unset] [(.long (0 : Int64))]))
      refine Go.by (fun _ kont => XS.lconst X173.here hx rfl (hb hby at_124) (XS.lcmp X173.here hx rfl (hb hby at_125) rfl kont)) ?_
      show Go _ _ _ _ _ _ _ (T173.setTop (mkF m 126 #[.val (.int k0), .val (.long t0), .second, .val (.long t1), .second, .val (.long t2), .second, .val (.long s0), .second, .val (.long s1), .second, .val (.int (1 : Int32)), .val (.int (1 : Int32)), .val (.long (t0 - s1)), .second, .val (.ref b158), .val (.ref b160), .unset, .unset, .unset, .unset, .unset, .unset, .unset, .unset, .unset, .unset, .unset, .unset] [(.int (lcmpW (0 : Int64) (0 : Int64)))]))
      have hd174 : (0 : Int64) = (0 : Int64) := by decide
      refine Go.by (fun _ kont => XS.ifNo X173.here hx rfl (hb hby at_126) rfl ((if0 _ _).trans (teq ((lw_eq _ _).mpr hd174)).2) kont) ?_
      show Go _ _ _ _ _ _ _ (T173.setTop (mkF m 129 #[.val (.int k0), .val (.long t0), .second, .val (.long t1), .second, .val (.long t2), .second, .val (.long s0), .second, .val (.long s1), .second, .val (.int (1 : Int32)), .val (.int (1 : Int32)), .val (.long (t0 - s1)), .second, .val (.ref b158), .val (.ref b160), .unset, .unset, .unset, .unset, .unset, .unset, .unset, .unset, .unset, .unset, .unset, .unset] []))
      refine Go.by (fun _ kont => XS.aload X173.here hx rfl (hb hby at_129) rfl rfl (XS.iconst X173.here hx rfl (hb hby at_131) kont)) ?_
      show Go _ _ _ _ _ _ _ (T173.setTop (mkF m 132 #[.val (.int k0), .val (.long t0), .second, .val (.long t1), .second, .val (.long t2), .second, .val (.long s0), .second, .val (.long s1), .second, .val (.int (1 : Int32)), .val (.int (1 : Int32)), .val (.long (t0 - s1)), .second, .val (.ref b158), .val (.ref b160), .unset, .unset, .unset, .unset, .unset, .unset, .unset, .unset, .unset, .unset, .unset, .unset] [(.int (2 : Int32)), (.ref b158)]))
      obtain ⟨_, _, ⟨T175, L175, k175, n175⟩, -, X175, ⟨Lc175, hQ175, l175, y175, z175⟩, st175⟩ := Jvm.LawKit.callS X173 hx (y := (⟨"com/example/runs_to_nets/runstonets/core/Gf2BasisXorPinLaw", "word", "([JI)J"⟩ : MethodName)) hown (mvT hZ (hw _ (List.mem_of_getElem? (i := 5) rfl))) (mvT hZ (hw _ (List.mem_of_getElem? (i := 6) rfl))) (mvT hZ (hw _ (List.mem_of_getElem? (i := 7) rfl))) (mvT hZ (hw _ (List.mem_of_getElem? (i := 8) rfl))) (by decide) (backOf (W := 0) (rmW12 l Z a0 hw [] b158 k158 (t0 ^^^ t0) T168.heap n0 Z169 g168_0) hZ (hw _ (List.mem_of_getElem? (i := 8) rfl)) (hw _ (List.mem_of_getElem? (i := 7) rfl)) (by decide) (by decide)) (g := (mkF m 132 #[.val (.int k0), .val (.long t0), .second, .val (.long t1), .second, .val (.long t2), .second, .val (.long s0), .second, .val (.long s1), .second, .val (.int (1 : Int32)), .val (.int (1 : Int32)), .val (.long (t0 - s1)), .second, .val (.ref b158), .val (.ref b160), .unset, .unset, .unset, .unset, .unset, .unset, .unset, .unset, .unset, .unset, .unset, .unset] [(.int (2 : Int32)), (.ref b158)])) rfl (by rw [hml]; rfl) (argsL := [(.ref b158), (.int (2 : Int32))]) (rest := []) (lenOf pd0_1 rfl) rfl (by show 2 * 0 + _ ≤ _; exact Nat.le_of_eq rfl) (hb hby at_132) (fun _ _ => ⟨rfl, eh173, (by decide : 2 + 0 ≤ _), (by decide : 2 + 0 ≤ _)⟩)
      dsimp only [Pt.U, Pt.locs, Pt.cells, Pt.slots] at X175 l175 y175 z175 st175 hQ175
      subst l175 y175 z175
      obtain ⟨rfl, N175q, eh175⟩ := hQ175
      have N175 := Fr.app N173 N175q
      refine Go.by st175 ?_
      show Go _ _ _ _ _ _ _ (T175.setTop (mkF m 135 #[.val (.int k0), .val (.long t0), .second, .val (.long t1), .second, .val (.long t2), .second, .val (.long s0), .second, .val (.long s1), .second, .val (.int (1 : Int32)), .val (.int (1 : Int32)), .val (.long (t0 - s1)), .second, .val (.ref b158), .val (.ref b160), .unset, .unset, .unset, .unset, .unset, .unset, .unset, .unset, .unset, .unset, .unset, .unset] [(.long (0 : Int64))]))
      refine Go.by (fun _ kont => XS.lconst X175.here hx rfl (hb hby at_135) (XS.lcmp X175.here hx rfl (hb hby at_136) rfl kont)) ?_
      show Go _ _ _ _ _ _ _ (T175.setTop (mkF m 137 #[.val (.int k0), .val (.long t0), .second, .val (.long t1), .second, .val (.long t2), .second, .val (.long s0), .second, .val (.long s1), .second, .val (.int (1 : Int32)), .val (.int (1 : Int32)), .val (.long (t0 - s1)), .second, .val (.ref b158), .val (.ref b160), .unset, .unset, .unset, .unset, .unset, .unset, .unset, .unset, .unset, .unset, .unset, .unset] [(.int (lcmpW (0 : Int64) (0 : Int64)))]))
      have hd176 : (0 : Int64) = (0 : Int64) := by decide
      refine Go.by (fun _ kont => XS.ifNo X175.here hx rfl (hb hby at_137) rfl ((if0 _ _).trans (teq ((lw_eq _ _).mpr hd176)).2) kont) ?_
      show Go _ _ _ _ _ _ _ (T175.setTop (mkF m 140 #[.val (.int k0), .val (.long t0), .second, .val (.long t1), .second, .val (.long t2), .second, .val (.long s0), .second, .val (.long s1), .second, .val (.int (1 : Int32)), .val (.int (1 : Int32)), .val (.long (t0 - s1)), .second, .val (.ref b158), .val (.ref b160), .unset, .unset, .unset, .unset, .unset, .unset, .unset, .unset, .unset, .unset, .unset, .unset] []))
      refine Go.by (fun _ kont => XS.iconst X175.here hx rfl (hb hby at_140) (XS.goto X175.here hx rfl (pc0 := 141) (pc' := 145) rfl (hb hby at_141) (by decide) (by decide) kont)) ?_
      show Go _ _ _ _ _ _ _ (T175.setTop (mkF m 145 #[.val (.int k0), .val (.long t0), .second, .val (.long t1), .second, .val (.long t2), .second, .val (.long s0), .second, .val (.long s1), .second, .val (.int (1 : Int32)), .val (.int (1 : Int32)), .val (.long (t0 - s1)), .second, .val (.ref b158), .val (.ref b160), .unset, .unset, .unset, .unset, .unset, .unset, .unset, .unset, .unset, .unset, .unset, .unset] [(.int (1 : Int32))]))
      refine Go.retN X175 hx (t := .boolean) hret (by simp) hlk (hb hby at_145) ?_ (by decide) (by decide)
      show Q0 Z h0 n0 (some (.int (1 : Int32))) T175.heap _
      rw [eh175]
      exact ⟨rfl, N175⟩
  · show Go _ _ _ _ _ _ _ (s₁.setTop (mkF m 5 #[.val (.int k0), .val (.long t0), .second, .val (.long t1), .second, .val (.long t2), .second, .val (.long s0), .second, .val (.long s1), .second, .val (.int (2 : Int32)), .unset, .unset, .unset, .unset, .unset, .unset, .unset, .unset, .unset, .unset, .unset, .unset, .unset, .unset, .unset, .unset, .unset] []))
    refine Go.by (fun _ kont => XS.iloadN X0.here hx rfl (hb hby at_5) rfl (XS.iconst X0.here hx rfl (hb hby at_6) (XS.iand X0.here hx rfl (hb hby at_7) rfl kont))) ?_
    show Go _ _ _ _ _ _ _ (s₁.setTop (mkF m 8 #[.val (.int k0), .val (.long t0), .second, .val (.long t1), .second, .val (.long t2), .second, .val (.long s0), .second, .val (.long s1), .second, .val (.int (2 : Int32)), .unset, .unset, .unset, .unset, .unset, .unset, .unset, .unset, .unset, .unset, .unset, .unset, .unset, .unset, .unset, .unset, .unset] [(.int (k0 &&& (4 : Int32)))]))
    by_cases hc177 : (k0 &&& (4 : Int32)) = (0 : Int32)
    · refine Go.by (fun _ kont => XS.ifYes X0.here hx rfl (pc0 := 8) (pc' := 15) rfl (hb hby at_8) rfl ((if0 _ _).trans (teq hc177).1) (by decide) (by decide) kont) ?_
      show Go _ _ _ _ _ _ _ (s₁.setTop (mkF m 15 #[.val (.int k0), .val (.long t0), .second, .val (.long t1), .second, .val (.long t2), .second, .val (.long s0), .second, .val (.long s1), .second, .val (.int (2 : Int32)), .unset, .unset, .unset, .unset, .unset, .unset, .unset, .unset, .unset, .unset, .unset, .unset, .unset, .unset, .unset, .unset, .unset] []))
      refine Go.by (fun _ kont => XS.iconst X0.here hx rfl (hb hby at_15) (XS.istore X0.here hx rfl (hb hby at_16) rfl (l' := #[.val (.int k0), .val (.long t0), .second, .val (.long t1), .second, .val (.long t2), .second, .val (.long s0), .second, .val (.long s1), .second, .val (.int (2 : Int32)), .val (.int (0 : Int32)), .unset, .unset, .unset, .unset, .unset, .unset, .unset, .unset, .unset, .unset, .unset, .unset, .unset, .unset, .unset, .unset]) rfl (XS.lloadN X0.here hx rfl (hb hby at_18) rfl (XS.lload X0.here hx rfl (hb hby at_19) rfl (XS.lsub X0.here hx rfl (hb hby at_21) rfl (XS.lstore X0.here hx rfl (hb hby at_22) rfl (l' := #[.val (.int k0), .val (.long t0), .second, .val (.long t1), .second, .val (.long t2), .second, .val (.long s0), .second, .val (.long s1), .second, .val (.int (2 : Int32)), .val (.int (0 : Int32)), .val (.long (t0 - s1)), .second, .unset, .unset, .unset, .unset, .unset, .unset, .unset, .unset, .unset, .unset, .unset, .unset, .unset, .unset]) rfl kont)))))) ?_
      show Go _ _ _ _ _ _ _ (s₁.setTop (mkF m 24 #[.val (.int k0), .val (.long t0), .second, .val (.long t1), .second, .val (.long t2), .second, .val (.long s0), .second, .val (.long s1), .second, .val (.int (2 : Int32)), .val (.int (0 : Int32)), .val (.long (t0 - s1)), .second, .unset, .unset, .unset, .unset, .unset, .unset, .unset, .unset, .unset, .unset, .unset, .unset, .unset, .unset] []))
      refine Go.by (fun _ kont => XS.iload X0.here hx rfl (hb hby at_24) rfl kont) ?_
      show Go _ _ _ _ _ _ _ (s₁.setTop (mkF m 26 #[.val (.int k0), .val (.long t0), .second, .val (.long t1), .second, .val (.long t2), .second, .val (.long s0), .second, .val (.long s1), .second, .val (.int (2 : Int32)), .val (.int (0 : Int32)), .val (.long (t0 - s1)), .second, .unset, .unset, .unset, .unset, .unset, .unset, .unset, .unset, .unset, .unset, .unset, .unset, .unset, .unset] [(.int (2 : Int32))]))
      obtain ⟨T178, h178, k178, X178, e178, X_178, A178, st178⟩ := newP X0 hx hZ (hw _ (List.mem_of_getElem? (i := 0) rfl)) e0 (g := (mkF m 26 #[.val (.int k0), .val (.long t0), .second, .val (.long t1), .second, .val (.long t2), .second, .val (.long s0), .second, .val (.long s1), .second, .val (.int (2 : Int32)), .val (.int (0 : Int32)), .val (.long (t0 - s1)), .second, .unset, .unset, .unset, .unset, .unset, .unset, .unset, .unset, .unset, .unset, .unset, .unset, .unset, .unset] [(.int (2 : Int32))])) rfl (hb hby at_26) rfl (by decide) (cap := 2) (by decide) (by decide) (by decide) (by decide)
      obtain ⟨b178, g178⟩ : ∃ z, z = h0.size := ⟨_, rfl⟩
      rw [← g178] at A178 st178
      have ge_b178 : n0 ≤ b178 := Nat.le_trans Z0 (Nat.le_of_eq g178.symm)
      have sz_b178 : h0.size ≤ b178 := Nat.le_trans (Keep.refl h0 []).1 (Nat.le_of_eq g178.symm)
      have Z179 := Nat.le_trans Z0 X_178.1
      have K179 : Keep h0 h178 [] := (Keep.refl h0 []).ext X_178
      have V178 : Arv Z h178 b178 k178 .long (2 : Int32) [(.long (0 : Int64)), (.long (0 : Int64))] (.long (0 : Int64)) := (Arv.new A178 (by decide)).pad (pad_rep [] (.long (0 : Int64)) 2)
      refine Go.by st178 ?_
      show Go _ _ _ _ _ _ _ (T178.setTop (mkF m 28 #[.val (.int k0), .val (.long t0), .second, .val (.long t1), .second, .val (.long t2), .second, .val (.long s0), .second, .val (.long s1), .second, .val (.int (2 : Int32)), .val (.int (0 : Int32)), .val (.long (t0 - s1)), .second, .unset, .unset, .unset, .unset, .unset, .unset, .unset, .unset, .unset, .unset, .unset, .unset, .unset, .unset] [(.ref b178)]))
      refine Go.by (fun _ kont => XS.astore X178.here hx rfl (hb hby at_28) rfl rfl (l' := #[.val (.int k0), .val (.long t0), .second, .val (.long t1), .second, .val (.long t2), .second, .val (.long s0), .second, .val (.long s1), .second, .val (.int (2 : Int32)), .val (.int (0 : Int32)), .val (.long (t0 - s1)), .second, .val (.ref b178), .unset, .unset, .unset, .unset, .unset, .unset, .unset, .unset, .unset, .unset, .unset, .unset, .unset]) rfl (XS.iload X178.here hx rfl (hb hby at_30) rfl kont)) ?_
      show Go _ _ _ _ _ _ _ (T178.setTop (mkF m 32 #[.val (.int k0), .val (.long t0), .second, .val (.long t1), .second, .val (.long t2), .second, .val (.long s0), .second, .val (.long s1), .second, .val (.int (2 : Int32)), .val (.int (0 : Int32)), .val (.long (t0 - s1)), .second, .val (.ref b178), .unset, .unset, .unset, .unset, .unset, .unset, .unset, .unset, .unset, .unset, .unset, .unset, .unset] [(.int (2 : Int32))]))
      obtain ⟨T180, h180, k180, X180, e180, X_180, A180, st180⟩ := newP X178 hx hZ (hw _ (List.mem_of_getElem? (i := 0) rfl)) e178 (g := (mkF m 32 #[.val (.int k0), .val (.long t0), .second, .val (.long t1), .second, .val (.long t2), .second, .val (.long s0), .second, .val (.long s1), .second, .val (.int (2 : Int32)), .val (.int (0 : Int32)), .val (.long (t0 - s1)), .second, .val (.ref b178), .unset, .unset, .unset, .unset, .unset, .unset, .unset, .unset, .unset, .unset, .unset, .unset, .unset] [(.int (2 : Int32))])) rfl (hb hby at_32) rfl (by decide) (cap := 2) (by decide) (by decide) (by decide) (by decide)
      obtain ⟨b180, g180⟩ : ∃ z, z = h178.size := ⟨_, rfl⟩
      rw [← g180] at A180 st180
      have ne_b178_b180 : b178 ≠ b180 := Nat.ne_of_lt (Nat.lt_of_lt_of_le V178.lt (Nat.le_of_eq g180.symm))
      have ge_b180 : n0 ≤ b180 := Nat.le_trans Z179 (Nat.le_of_eq g180.symm)
      have sz_b180 : h0.size ≤ b180 := Nat.le_trans K179.1 (Nat.le_of_eq g180.symm)
      have V181_b178 := V178.ext X_180
      have Z181 := Nat.le_trans Z179 X_180.1
      have K181 : Keep h0 h180 [] := K179.ext X_180
      have V180 : Arv Z h180 b180 k180 .long (2 : Int32) [(.long (0 : Int64)), (.long (0 : Int64))] (.long (0 : Int64)) := (Arv.new A180 (by decide)).pad (pad_rep [] (.long (0 : Int64)) 2)
      refine Go.by st180 ?_
      show Go _ _ _ _ _ _ _ (T180.setTop (mkF m 34 #[.val (.int k0), .val (.long t0), .second, .val (.long t1), .second, .val (.long t2), .second, .val (.long s0), .second, .val (.long s1), .second, .val (.int (2 : Int32)), .val (.int (0 : Int32)), .val (.long (t0 - s1)), .second, .val (.ref b178), .unset, .unset, .unset, .unset, .unset, .unset, .unset, .unset, .unset, .unset, .unset, .unset, .unset] [(.ref b180)]))
      refine Go.by (fun _ kont => XS.astore X180.here hx rfl (hb hby at_34) rfl rfl (l' := #[.val (.int k0), .val (.long t0), .second, .val (.long t1), .second, .val (.long t2), .second, .val (.long s0), .second, .val (.long s1), .second, .val (.int (2 : Int32)), .val (.int (0 : Int32)), .val (.long (t0 - s1)), .second, .val (.ref b178), .val (.ref b180), .unset, .unset, .unset, .unset, .unset, .unset, .unset, .unset, .unset, .unset, .unset, .unset]) rfl (XS.iload X180.here hx rfl (hb hby at_36) rfl kont)) ?_
      show Go _ _ _ _ _ _ _ (T180.setTop (mkF m 38 #[.val (.int k0), .val (.long t0), .second, .val (.long t1), .second, .val (.long t2), .second, .val (.long s0), .second, .val (.long s1), .second, .val (.int (2 : Int32)), .val (.int (0 : Int32)), .val (.long (t0 - s1)), .second, .val (.ref b178), .val (.ref b180), .unset, .unset, .unset, .unset, .unset, .unset, .unset, .unset, .unset, .unset, .unset, .unset] [(.int (2 : Int32))]))
      refine Go.by (fun _ kont => XS.ifNo X180.here hx rfl (hb hby at_38) rfl (by decide) kont) ?_
      show Go _ _ _ _ _ _ _ (T180.setTop (mkF m 41 #[.val (.int k0), .val (.long t0), .second, .val (.long t1), .second, .val (.long t2), .second, .val (.long s0), .second, .val (.long s1), .second, .val (.int (2 : Int32)), .val (.int (0 : Int32)), .val (.long (t0 - s1)), .second, .val (.ref b178), .val (.ref b180), .unset, .unset, .unset, .unset, .unset, .unset, .unset, .unset, .unset, .unset, .unset, .unset] []))
      refine Go.by (fun _ kont => XS.aload X180.here hx rfl (hb hby at_41) rfl rfl (XS.iconst X180.here hx rfl (hb hby at_43) (XS.lloadN X180.here hx rfl (hb hby at_44) rfl kont))) ?_
      show Go _ _ _ _ _ _ _ (T180.setTop (mkF m 45 #[.val (.int k0), .val (.long t0), .second, .val (.long t1), .second, .val (.long t2), .second, .val (.long s0), .second, .val (.long s1), .second, .val (.int (2 : Int32)), .val (.int (0 : Int32)), .val (.long (t0 - s1)), .second, .val (.ref b178), .val (.ref b180), .unset, .unset, .unset, .unset, .unset, .unset, .unset, .unset, .unset, .unset, .unset, .unset] [(.long t0), (.int (0 : Int32)), (.ref b178)]))
      obtain ⟨cl_q182, Ar_q182, q1_q182, S_q182, N_q182, H_q182, G_q182⟩ := id V181_b178
      have hin_q182 : ¬ ((0 : Int32) < 0 ∨ cl_q182.slots.size ≤ ((0 : Int32)).toNatClampNeg) := inb_of S_q182 ⟨by decide, by decide⟩
      obtain ⟨T183, h183, X183, e183, W183, st183⟩ := stJ X180 hx hZ e180 Ar_q182 (j := (0 : Int32)) hin_q182 (g := (mkF m 45 #[.val (.int k0), .val (.long t0), .second, .val (.long t1), .second, .val (.long t2), .second, .val (.long s0), .second, .val (.long s1), .second, .val (.int (2 : Int32)), .val (.int (0 : Int32)), .val (.long (t0 - s1)), .second, .val (.ref b178), .val (.ref b180), .unset, .unset, .unset, .unset, .unset, .unset, .unset, .unset, .unset, .unset, .unset, .unset] [(.long t0), (.int (0 : Int32)), (.ref b178)])) rfl rfl (hb hby at_45)
      have V183 : Arv Z h183 b178 k178 .long (2 : Int32) [(.long t0), (.long (0 : Int64))] (.long (0 : Int64)) := Arv.set Ar_q182 q1_q182 S_q182 N_q182 H_q182 G_q182 rfl W183 0 rfl (Nat.le_of_ble_eq_true rfl)
      have V184_b180 := V180.other W183 (Ne.symm ne_b178_b180)
      have Z184 := Nat.le_trans Z181 (Keep.of_wr W183).1
      have K184 : Keep h0 h183 [] := K181.wr W183 (Or.inr sz_b178)
      have N183 := Fr.snoc X183 N0 ge_b178
      refine Go.by st183 ?_
      show Go _ _ _ _ _ _ _ (T183.setTop (mkF m 46 #[.val (.int k0), .val (.long t0), .second, .val (.long t1), .second, .val (.long t2), .second, .val (.long s0), .second, .val (.long s1), .second, .val (.int (2 : Int32)), .val (.int (0 : Int32)), .val (.long (t0 - s1)), .second, .val (.ref b178), .val (.ref b180), .unset, .unset, .unset, .unset, .unset, .unset, .unset, .unset, .unset, .unset, .unset, .unset] []))
      refine Go.by (fun _ kont => XS.aload X183.here hx rfl (hb hby at_46) rfl rfl (XS.iconst X183.here hx rfl (hb hby at_48) (XS.lload X183.here hx rfl (hb hby at_49) rfl kont))) ?_
      show Go _ _ _ _ _ _ _ (T183.setTop (mkF m 51 #[.val (.int k0), .val (.long t0), .second, .val (.long t1), .second, .val (.long t2), .second, .val (.long s0), .second, .val (.long s1), .second, .val (.int (2 : Int32)), .val (.int (0 : Int32)), .val (.long (t0 - s1)), .second, .val (.ref b178), .val (.ref b180), .unset, .unset, .unset, .unset, .unset, .unset, .unset, .unset, .unset, .unset, .unset, .unset] [(.long s0), (.int (0 : Int32)), (.ref b180)]))
      obtain ⟨cl_q185, Ar_q185, q1_q185, S_q185, N_q185, H_q185, G_q185⟩ := id V184_b180
      have hin_q185 : ¬ ((0 : Int32) < 0 ∨ cl_q185.slots.size ≤ ((0 : Int32)).toNatClampNeg) := inb_of S_q185 ⟨by decide, by decide⟩
      obtain ⟨T186, h186, X186, e186, W186, st186⟩ := stJ X183 hx hZ e183 Ar_q185 (j := (0 : Int32)) hin_q185 (g := (mkF m 51 #[.val (.int k0), .val (.long t0), .second, .val (.long t1), .second, .val (.long t2), .second, .val (.long s0), .second, .val (.long s1), .second, .val (.int (2 : Int32)), .val (.int (0 : Int32)), .val (.long (t0 - s1)), .second, .val (.ref b178), .val (.ref b180), .unset, .unset, .unset, .unset, .unset, .unset, .unset, .unset, .unset, .unset, .unset, .unset] [(.long s0), (.int (0 : Int32)), (.ref b180)])) rfl rfl (hb hby at_51)
      have V186 : Arv Z h186 b180 k180 .long (2 : Int32) [(.long s0), (.long (0 : Int64))] (.long (0 : Int64)) := Arv.set Ar_q185 q1_q185 S_q185 N_q185 H_q185 G_q185 rfl W186 0 rfl (Nat.le_of_ble_eq_true rfl)
      have V187_b178 := V183.other W186 ne_b178_b180
      have Z187 := Nat.le_trans Z184 (Keep.of_wr W186).1
      have K187 : Keep h0 h186 [] := K184.wr W186 (Or.inr sz_b180)
      have N186 := Fr.snoc X186 N183 ge_b180
      refine Go.by st186 ?_
      show Go _ _ _ _ _ _ _ (T186.setTop (mkF m 52 #[.val (.int k0), .val (.long t0), .second, .val (.long t1), .second, .val (.long t2), .second, .val (.long s0), .second, .val (.long s1), .second, .val (.int (2 : Int32)), .val (.int (0 : Int32)), .val (.long (t0 - s1)), .second, .val (.ref b178), .val (.ref b180), .unset, .unset, .unset, .unset, .unset, .unset, .unset, .unset, .unset, .unset, .unset, .unset] []))
      refine Go.by (fun _ kont => XS.iload X186.here hx rfl (hb hby at_52) rfl (XS.iconst X186.here hx rfl (hb hby at_54) kont)) ?_
      show Go _ _ _ _ _ _ _ (T186.setTop (mkF m 55 #[.val (.int k0), .val (.long t0), .second, .val (.long t1), .second, .val (.long t2), .second, .val (.long s0), .second, .val (.long s1), .second, .val (.int (2 : Int32)), .val (.int (0 : Int32)), .val (.long (t0 - s1)), .second, .val (.ref b178), .val (.ref b180), .unset, .unset, .unset, .unset, .unset, .unset, .unset, .unset, .unset, .unset, .unset, .unset] [(.int (1 : Int32)), (.int (2 : Int32))]))
      refine Go.by (fun _ kont => XS.icmpNo X186.here hx rfl (hb hby at_55) rfl (by decide) kont) ?_
      show Go _ _ _ _ _ _ _ (T186.setTop (mkF m 58 #[.val (.int k0), .val (.long t0), .second, .val (.long t1), .second, .val (.long t2), .second, .val (.long s0), .second, .val (.long s1), .second, .val (.int (2 : Int32)), .val (.int (0 : Int32)), .val (.long (t0 - s1)), .second, .val (.ref b178), .val (.ref b180), .unset, .unset, .unset, .unset, .unset, .unset, .unset, .unset, .unset, .unset, .unset, .unset] []))
      refine Go.by (fun _ kont => XS.aload X186.here hx rfl (hb hby at_58) rfl rfl (XS.iconst X186.here hx rfl (hb hby at_60) (XS.lloadN X186.here hx rfl (hb hby at_61) rfl kont))) ?_
      show Go _ _ _ _ _ _ _ (T186.setTop (mkF m 62 #[.val (.int k0), .val (.long t0), .second, .val (.long t1), .second, .val (.long t2), .second, .val (.long s0), .second, .val (.long s1), .second, .val (.int (2 : Int32)), .val (.int (0 : Int32)), .val (.long (t0 - s1)), .second, .val (.ref b178), .val (.ref b180), .unset, .unset, .unset, .unset, .unset, .unset, .unset, .unset, .unset, .unset, .unset, .unset] [(.long t1), (.int (1 : Int32)), (.ref b178)]))
      obtain ⟨cl_q188, Ar_q188, q1_q188, S_q188, N_q188, H_q188, G_q188⟩ := id V187_b178
      have hin_q188 : ¬ ((1 : Int32) < 0 ∨ cl_q188.slots.size ≤ ((1 : Int32)).toNatClampNeg) := inb_of S_q188 ⟨by decide, by decide⟩
      obtain ⟨T189, h189, X189, e189, W189, st189⟩ := stJ X186 hx hZ e186 Ar_q188 (j := (1 : Int32)) hin_q188 (g := (mkF m 62 #[.val (.int k0), .val (.long t0), .second, .val (.long t1), .second, .val (.long t2), .second, .val (.long s0), .second, .val (.long s1), .second, .val (.int (2 : Int32)), .val (.int (0 : Int32)), .val (.long (t0 - s1)), .second, .val (.ref b178), .val (.ref b180), .unset, .unset, .unset, .unset, .unset, .unset, .unset, .unset, .unset, .unset, .unset, .unset] [(.long t1), (.int (1 : Int32)), (.ref b178)])) rfl rfl (hb hby at_62)
      have V189 : Arv Z h189 b178 k178 .long (2 : Int32) [(.long t0), (.long t1)] (.long (0 : Int64)) := Arv.set Ar_q188 q1_q188 S_q188 N_q188 H_q188 G_q188 rfl W189 1 rfl (Nat.le_of_ble_eq_true rfl)
      have V190_b180 := V186.other W189 (Ne.symm ne_b178_b180)
      have Z190 := Nat.le_trans Z187 (Keep.of_wr W189).1
      have K190 : Keep h0 h189 [] := K187.wr W189 (Or.inr sz_b178)
      have N189 := Fr.snoc X189 N186 ge_b178
      refine Go.by st189 ?_
      show Go _ _ _ _ _ _ _ (T189.setTop (mkF m 63 #[.val (.int k0), .val (.long t0), .second, .val (.long t1), .second, .val (.long t2), .second, .val (.long s0), .second, .val (.long s1), .second, .val (.int (2 : Int32)), .val (.int (0 : Int32)), .val (.long (t0 - s1)), .second, .val (.ref b178), .val (.ref b180), .unset, .unset, .unset, .unset, .unset, .unset, .unset, .unset, .unset, .unset, .unset, .unset] []))
      refine Go.by (fun _ kont => XS.aload X189.here hx rfl (hb hby at_63) rfl rfl (XS.iconst X189.here hx rfl (hb hby at_65) (XS.lload X189.here hx rfl (hb hby at_66) rfl kont))) ?_
      show Go _ _ _ _ _ _ _ (T189.setTop (mkF m 68 #[.val (.int k0), .val (.long t0), .second, .val (.long t1), .second, .val (.long t2), .second, .val (.long s0), .second, .val (.long s1), .second, .val (.int (2 : Int32)), .val (.int (0 : Int32)), .val (.long (t0 - s1)), .second, .val (.ref b178), .val (.ref b180), .unset, .unset, .unset, .unset, .unset, .unset, .unset, .unset, .unset, .unset, .unset, .unset] [(.long s1), (.int (1 : Int32)), (.ref b180)]))
      obtain ⟨cl_q191, Ar_q191, q1_q191, S_q191, N_q191, H_q191, G_q191⟩ := id V190_b180
      have hin_q191 : ¬ ((1 : Int32) < 0 ∨ cl_q191.slots.size ≤ ((1 : Int32)).toNatClampNeg) := inb_of S_q191 ⟨by decide, by decide⟩
      obtain ⟨T192, h192, X192, e192, W192, st192⟩ := stJ X189 hx hZ e189 Ar_q191 (j := (1 : Int32)) hin_q191 (g := (mkF m 68 #[.val (.int k0), .val (.long t0), .second, .val (.long t1), .second, .val (.long t2), .second, .val (.long s0), .second, .val (.long s1), .second, .val (.int (2 : Int32)), .val (.int (0 : Int32)), .val (.long (t0 - s1)), .second, .val (.ref b178), .val (.ref b180), .unset, .unset, .unset, .unset, .unset, .unset, .unset, .unset, .unset, .unset, .unset, .unset] [(.long s1), (.int (1 : Int32)), (.ref b180)])) rfl rfl (hb hby at_68)
      have V192 : Arv Z h192 b180 k180 .long (2 : Int32) [(.long s0), (.long s1)] (.long (0 : Int64)) := Arv.set Ar_q191 q1_q191 S_q191 N_q191 H_q191 G_q191 rfl W192 1 rfl (Nat.le_of_ble_eq_true rfl)
      have V193_b178 := V189.other W192 ne_b178_b180
      have Z193 := Nat.le_trans Z190 (Keep.of_wr W192).1
      have K193 : Keep h0 h192 [] := K190.wr W192 (Or.inr sz_b180)
      have N192 := Fr.snoc X192 N189 ge_b180
      refine Go.by st192 ?_
      show Go _ _ _ _ _ _ _ (T192.setTop (mkF m 69 #[.val (.int k0), .val (.long t0), .second, .val (.long t1), .second, .val (.long t2), .second, .val (.long s0), .second, .val (.long s1), .second, .val (.int (2 : Int32)), .val (.int (0 : Int32)), .val (.long (t0 - s1)), .second, .val (.ref b178), .val (.ref b180), .unset, .unset, .unset, .unset, .unset, .unset, .unset, .unset, .unset, .unset, .unset, .unset] []))
      refine Go.by (fun _ kont => XS.iload X192.here hx rfl (hb hby at_69) rfl (XS.iconst X192.here hx rfl (hb hby at_71) kont)) ?_
      show Go _ _ _ _ _ _ _ (T192.setTop (mkF m 72 #[.val (.int k0), .val (.long t0), .second, .val (.long t1), .second, .val (.long t2), .second, .val (.long s0), .second, .val (.long s1), .second, .val (.int (2 : Int32)), .val (.int (0 : Int32)), .val (.long (t0 - s1)), .second, .val (.ref b178), .val (.ref b180), .unset, .unset, .unset, .unset, .unset, .unset, .unset, .unset, .unset, .unset, .unset, .unset] [(.int (2 : Int32)), (.int (2 : Int32))]))
      refine Go.by (fun _ kont => XS.icmpYes X192.here hx rfl (pc0 := 72) (pc' := 87) rfl (hb hby at_72) rfl (by decide) (by decide) (by decide) kont) ?_
      show Go _ _ _ _ _ _ _ (T192.setTop (mkF m 87 #[.val (.int k0), .val (.long t0), .second, .val (.long t1), .second, .val (.long t2), .second, .val (.long s0), .second, .val (.long s1), .second, .val (.int (2 : Int32)), .val (.int (0 : Int32)), .val (.long (t0 - s1)), .second, .val (.ref b178), .val (.ref b180), .unset, .unset, .unset, .unset, .unset, .unset, .unset, .unset, .unset, .unset, .unset, .unset] []))
      refine Go.by (fun _ kont => XS.iload X192.here hx rfl (hb hby at_87) rfl kont) ?_
      show Go _ _ _ _ _ _ _ (T192.setTop (mkF m 89 #[.val (.int k0), .val (.long t0), .second, .val (.long t1), .second, .val (.long t2), .second, .val (.long s0), .second, .val (.long s1), .second, .val (.int (2 : Int32)), .val (.int (0 : Int32)), .val (.long (t0 - s1)), .second, .val (.ref b178), .val (.ref b180), .unset, .unset, .unset, .unset, .unset, .unset, .unset, .unset, .unset, .unset, .unset, .unset] [(.int (0 : Int32))]))
      refine Go.by (fun _ kont => XS.ifYes X192.here hx rfl (pc0 := 89) (pc' := 146) rfl (hb hby at_89) rfl (by decide) (by decide) (by decide) kont) ?_
      show Go _ _ _ _ _ _ _ (T192.setTop (mkF m 146 #[.val (.int k0), .val (.long t0), .second, .val (.long t1), .second, .val (.long t2), .second, .val (.long s0), .second, .val (.long s1), .second, .val (.int (2 : Int32)), .val (.int (0 : Int32)), .val (.long (t0 - s1)), .second, .val (.ref b178), .val (.ref b180), .unset, .unset, .unset, .unset, .unset, .unset, .unset, .unset, .unset, .unset, .unset, .unset] []))
      refine Go.by (fun _ kont => XS.aload X192.here hx rfl (hb hby at_146) rfl rfl (XS.aload X192.here hx rfl (hb hby at_148) rfl rfl kont)) ?_
      show Go _ _ _ _ _ _ _ (T192.setTop (mkF m 150 #[.val (.int k0), .val (.long t0), .second, .val (.long t1), .second, .val (.long t2), .second, .val (.long s0), .second, .val (.long s1), .second, .val (.int (2 : Int32)), .val (.int (0 : Int32)), .val (.long (t0 - s1)), .second, .val (.ref b178), .val (.ref b180), .unset, .unset, .unset, .unset, .unset, .unset, .unset, .unset, .unset, .unset, .unset, .unset] [(.ref b180), (.ref b178)]))
      obtain ⟨_, _, ⟨T194, L194, k194, n194⟩, -, X194, ⟨Lc194, hQ194, l194, y194, z194⟩, st194⟩ := Jvm.LawKit.callS X192 hx (y := (⟨"com/example/runs_to_nets/runstonets/core/Gf2Basis", "xor", "([J[J)V"⟩ : MethodName)) hown (mvT hZ (hw _ (List.mem_of_getElem? (i := 1) rfl))) (mvT hZ (hw _ (List.mem_of_getElem? (i := 2) rfl))) (mvT hZ (hw _ (List.mem_of_getElem? (i := 3) rfl))) (mvT hZ (hw _ (List.mem_of_getElem? (i := 4) rfl))) (by decide) (backOf (W := 0) (rmXB2 l Z a0 hw [] b178 b180 k178 t0 t1 k180 s0 s1 h192 n0 Z193 V193_b178 V192 ne_b178_b180 ge_b178) hZ (hw _ (List.mem_of_getElem? (i := 4) rfl)) (hw _ (List.mem_of_getElem? (i := 3) rfl)) (by decide) (by decide)) (g := (mkF m 150 #[.val (.int k0), .val (.long t0), .second, .val (.long t1), .second, .val (.long t2), .second, .val (.long s0), .second, .val (.long s1), .second, .val (.int (2 : Int32)), .val (.int (0 : Int32)), .val (.long (t0 - s1)), .second, .val (.ref b178), .val (.ref b180), .unset, .unset, .unset, .unset, .unset, .unset, .unset, .unset, .unset, .unset, .unset, .unset] [(.ref b180), (.ref b178)])) rfl (by rw [hml]; rfl) (argsL := [(.ref b178), (.ref b180)]) (rest := []) (lenOf pd0_0 rfl) rfl (by show 2 * 0 + _ ≤ _; exact Nat.le_of_eq rfl) (hb hby at_150) (fun _ _ => ⟨rfl, e192, (by decide : 2 + 0 ≤ _), (by decide : 4 + 0 ≤ _)⟩)
      dsimp only [Pt.U, Pt.locs, Pt.cells, Pt.slots] at X194 l194 y194 z194 st194 hQ194
      subst l194 y194 z194
      obtain ⟨rfl, N194q, K194, g194_0⟩ := hQ194
      have V195_b180 := V192.keep K194 (ninS (Ne.symm ne_b178_b180) nin0)
      have Z195 := Nat.le_trans Z193 K194.1
      have K195 : Keep h0 T194.heap [] := Keep.trans K193 K194 (allS (Or.inr sz_b178) all0)
      have N194 := Fr.app N192 N194q
      refine Go.by st194 ?_
      show Go _ _ _ _ _ _ _ (T194.setTop (mkF m 153 #[.val (.int k0), .val (.long t0), .second, .val (.long t1), .second, .val (.long t2), .second, .val (.long s0), .second, .val (.long s1), .second, .val (.int (2 : Int32)), .val (.int (0 : Int32)), .val (.long (t0 - s1)), .second, .val (.ref b178), .val (.ref b180), .unset, .unset, .unset, .unset, .unset, .unset, .unset, .unset, .unset, .unset, .unset, .unset] []))
      refine Go.by (fun _ kont => XS.iload X194.here hx rfl (hb hby at_153) rfl kont) ?_
      show Go _ _ _ _ _ _ _ (T194.setTop (mkF m 155 #[.val (.int k0), .val (.long t0), .second, .val (.long t1), .second, .val (.long t2), .second, .val (.long s0), .second, .val (.long s1), .second, .val (.int (2 : Int32)), .val (.int (0 : Int32)), .val (.long (t0 - s1)), .second, .val (.ref b178), .val (.ref b180), .unset, .unset, .unset, .unset, .unset, .unset, .unset, .unset, .unset, .unset, .unset, .unset] [(.int (2 : Int32))]))
      refine Go.by (fun _ kont => XS.ifNo X194.here hx rfl (hb hby at_155) rfl (by decide) kont) ?_
      show Go _ _ _ _ _ _ _ (T194.setTop (mkF m 158 #[.val (.int k0), .val (.long t0), .second, .val (.long t1), .second, .val (.long t2), .second, .val (.long s0), .second, .val (.long s1), .second, .val (.int (2 : Int32)), .val (.int (0 : Int32)), .val (.long (t0 - s1)), .second, .val (.ref b178), .val (.ref b180), .unset, .unset, .unset, .unset, .unset, .unset, .unset, .unset, .unset, .unset, .unset, .unset] []))
      refine Go.by (fun _ kont => XS.lloadN X194.here hx rfl (hb hby at_158) rfl (XS.lload X194.here hx rfl (hb hby at_159) rfl (XS.lxor X194.here hx rfl (hb hby at_161) rfl (XS.goto X194.here hx rfl (pc0 := 162) (pc' := 166) rfl (hb hby at_162) (by decide) (by decide) (XS.lstore X194.here hx rfl (hb hby at_166) rfl (l' := #[.val (.int k0), .val (.long t0), .second, .val (.long t1), .second, .val (.long t2), .second, .val (.long s0), .second, .val (.long s1), .second, .val (.int (2 : Int32)), .val (.int (0 : Int32)), .val (.long (t0 - s1)), .second, .val (.ref b178), .val (.ref b180), .val (.long (t0 ^^^ s0)), .second, .unset, .unset, .unset, .unset, .unset, .unset, .unset, .unset, .unset, .unset]) rfl (XS.iload X194.here hx rfl (hb hby at_168) rfl kont)))))) ?_
      show Go _ _ _ _ _ _ _ (T194.setTop (mkF m 170 #[.val (.int k0), .val (.long t0), .second, .val (.long t1), .second, .val (.long t2), .second, .val (.long s0), .second, .val (.long s1), .second, .val (.int (2 : Int32)), .val (.int (0 : Int32)), .val (.long (t0 - s1)), .second, .val (.ref b178), .val (.ref b180), .val (.long (t0 ^^^ s0)), .second, .unset, .unset, .unset, .unset, .unset, .unset, .unset, .unset, .unset, .unset] [(.int (2 : Int32))]))
      refine Go.by (fun _ kont => XS.iconst X194.here hx rfl (hb hby at_170) kont) ?_
      show Go _ _ _ _ _ _ _ (T194.setTop (mkF m 171 #[.val (.int k0), .val (.long t0), .second, .val (.long t1), .second, .val (.long t2), .second, .val (.long s0), .second, .val (.long s1), .second, .val (.int (2 : Int32)), .val (.int (0 : Int32)), .val (.long (t0 - s1)), .second, .val (.ref b178), .val (.ref b180), .val (.long (t0 ^^^ s0)), .second, .unset, .unset, .unset, .unset, .unset, .unset, .unset, .unset, .unset, .unset] [(.int (1 : Int32)), (.int (2 : Int32))]))
      refine Go.by (fun _ kont => XS.icmpNo X194.here hx rfl (hb hby at_171) rfl (by decide) kont) ?_
      show Go _ _ _ _ _ _ _ (T194.setTop (mkF m 174 #[.val (.int k0), .val (.long t0), .second, .val (.long t1), .second, .val (.long t2), .second, .val (.long s0), .second, .val (.long s1), .second, .val (.int (2 : Int32)), .val (.int (0 : Int32)), .val (.long (t0 - s1)), .second, .val (.ref b178), .val (.ref b180), .val (.long (t0 ^^^ s0)), .second, .unset, .unset, .unset, .unset, .unset, .unset, .unset, .unset, .unset, .unset] []))
      refine Go.by (fun _ kont => XS.lloadN X194.here hx rfl (hb hby at_174) rfl (XS.lload X194.here hx rfl (hb hby at_175) rfl (XS.lxor X194.here hx rfl (hb hby at_177) rfl (XS.goto X194.here hx rfl (pc0 := 178) (pc' := 182) rfl (hb hby at_178) (by decide) (by decide) (XS.lstore X194.here hx rfl (hb hby at_182) rfl (l' := #[.val (.int k0), .val (.long t0), .second, .val (.long t1), .second, .val (.long t2), .second, .val (.long s0), .second, .val (.long s1), .second, .val (.int (2 : Int32)), .val (.int (0 : Int32)), .val (.long (t0 - s1)), .second, .val (.ref b178), .val (.ref b180), .val (.long (t0 ^^^ s0)), .second, .val (.long (t1 ^^^ s1)), .second, .unset, .unset, .unset, .unset, .unset, .unset, .unset, .unset]) rfl (XS.iload X194.here hx rfl (hb hby at_184) rfl kont)))))) ?_
      show Go _ _ _ _ _ _ _ (T194.setTop (mkF m 186 #[.val (.int k0), .val (.long t0), .second, .val (.long t1), .second, .val (.long t2), .second, .val (.long s0), .second, .val (.long s1), .second, .val (.int (2 : Int32)), .val (.int (0 : Int32)), .val (.long (t0 - s1)), .second, .val (.ref b178), .val (.ref b180), .val (.long (t0 ^^^ s0)), .second, .val (.long (t1 ^^^ s1)), .second, .unset, .unset, .unset, .unset, .unset, .unset, .unset, .unset] [(.int (2 : Int32))]))
      refine Go.by (fun _ kont => XS.iconst X194.here hx rfl (hb hby at_186) kont) ?_
      show Go _ _ _ _ _ _ _ (T194.setTop (mkF m 187 #[.val (.int k0), .val (.long t0), .second, .val (.long t1), .second, .val (.long t2), .second, .val (.long s0), .second, .val (.long s1), .second, .val (.int (2 : Int32)), .val (.int (0 : Int32)), .val (.long (t0 - s1)), .second, .val (.ref b178), .val (.ref b180), .val (.long (t0 ^^^ s0)), .second, .val (.long (t1 ^^^ s1)), .second, .unset, .unset, .unset, .unset, .unset, .unset, .unset, .unset] [(.int (2 : Int32)), (.int (2 : Int32))]))
      refine Go.by (fun _ kont => XS.icmpYes X194.here hx rfl (pc0 := 187) (pc' := 198) rfl (hb hby at_187) rfl (by decide) (by decide) (by decide) kont) ?_
      show Go _ _ _ _ _ _ _ (T194.setTop (mkF m 198 #[.val (.int k0), .val (.long t0), .second, .val (.long t1), .second, .val (.long t2), .second, .val (.long s0), .second, .val (.long s1), .second, .val (.int (2 : Int32)), .val (.int (0 : Int32)), .val (.long (t0 - s1)), .second, .val (.ref b178), .val (.ref b180), .val (.long (t0 ^^^ s0)), .second, .val (.long (t1 ^^^ s1)), .second, .unset, .unset, .unset, .unset, .unset, .unset, .unset, .unset] []))
      refine Go.by (fun _ kont => XS.lconst X194.here hx rfl (hb hby at_198) (XS.lstore X194.here hx rfl (hb hby at_199) rfl (l' := #[.val (.int k0), .val (.long t0), .second, .val (.long t1), .second, .val (.long t2), .second, .val (.long s0), .second, .val (.long s1), .second, .val (.int (2 : Int32)), .val (.int (0 : Int32)), .val (.long (t0 - s1)), .second, .val (.ref b178), .val (.ref b180), .val (.long (t0 ^^^ s0)), .second, .val (.long (t1 ^^^ s1)), .second, .val (.long (0 : Int64)), .second, .unset, .unset, .unset, .unset, .unset, .unset]) rfl (XS.iload X194.here hx rfl (hb hby at_201) rfl kont))) ?_
      show Go _ _ _ _ _ _ _ (T194.setTop (mkF m 203 #[.val (.int k0), .val (.long t0), .second, .val (.long t1), .second, .val (.long t2), .second, .val (.long s0), .second, .val (.long s1), .second, .val (.int (2 : Int32)), .val (.int (0 : Int32)), .val (.long (t0 - s1)), .second, .val (.ref b178), .val (.ref b180), .val (.long (t0 ^^^ s0)), .second, .val (.long (t1 ^^^ s1)), .second, .val (.long (0 : Int64)), .second, .unset, .unset, .unset, .unset, .unset, .unset] [(.int (2 : Int32))]))
      refine Go.by (fun _ kont => XS.ifNo X194.here hx rfl (hb hby at_203) rfl (by decide) kont) ?_
      show Go _ _ _ _ _ _ _ (T194.setTop (mkF m 206 #[.val (.int k0), .val (.long t0), .second, .val (.long t1), .second, .val (.long t2), .second, .val (.long s0), .second, .val (.long s1), .second, .val (.int (2 : Int32)), .val (.int (0 : Int32)), .val (.long (t0 - s1)), .second, .val (.ref b178), .val (.ref b180), .val (.long (t0 ^^^ s0)), .second, .val (.long (t1 ^^^ s1)), .second, .val (.long (0 : Int64)), .second, .unset, .unset, .unset, .unset, .unset, .unset] []))
      refine Go.by (fun _ kont => XS.lload X194.here hx rfl (hb hby at_206) rfl (XS.goto X194.here hx rfl (pc0 := 208) (pc' := 212) rfl (hb hby at_208) (by decide) (by decide) (XS.lstore X194.here hx rfl (hb hby at_212) rfl (l' := #[.val (.int k0), .val (.long t0), .second, .val (.long t1), .second, .val (.long t2), .second, .val (.long s0), .second, .val (.long s1), .second, .val (.int (2 : Int32)), .val (.int (0 : Int32)), .val (.long (t0 - s1)), .second, .val (.ref b178), .val (.ref b180), .val (.long (t0 ^^^ s0)), .second, .val (.long (t1 ^^^ s1)), .second, .val (.long (0 : Int64)), .second, .val (.long s0), .second, .unset, .unset, .unset, .unset]) rfl (XS.iload X194.here hx rfl (hb hby at_214) rfl (XS.iconst X194.here hx rfl (hb hby at_216) kont))))) ?_
      show Go _ _ _ _ _ _ _ (T194.setTop (mkF m 217 #[.val (.int k0), .val (.long t0), .second, .val (.long t1), .second, .val (.long t2), .second, .val (.long s0), .second, .val (.long s1), .second, .val (.int (2 : Int32)), .val (.int (0 : Int32)), .val (.long (t0 - s1)), .second, .val (.ref b178), .val (.ref b180), .val (.long (t0 ^^^ s0)), .second, .val (.long (t1 ^^^ s1)), .second, .val (.long (0 : Int64)), .second, .val (.long s0), .second, .unset, .unset, .unset, .unset] [(.int (1 : Int32)), (.int (2 : Int32))]))
      refine Go.by (fun _ kont => XS.icmpNo X194.here hx rfl (hb hby at_217) rfl (by decide) kont) ?_
      show Go _ _ _ _ _ _ _ (T194.setTop (mkF m 220 #[.val (.int k0), .val (.long t0), .second, .val (.long t1), .second, .val (.long t2), .second, .val (.long s0), .second, .val (.long s1), .second, .val (.int (2 : Int32)), .val (.int (0 : Int32)), .val (.long (t0 - s1)), .second, .val (.ref b178), .val (.ref b180), .val (.long (t0 ^^^ s0)), .second, .val (.long (t1 ^^^ s1)), .second, .val (.long (0 : Int64)), .second, .val (.long s0), .second, .unset, .unset, .unset, .unset] []))
      refine Go.by (fun _ kont => XS.lload X194.here hx rfl (hb hby at_220) rfl (XS.goto X194.here hx rfl (pc0 := 222) (pc' := 226) rfl (hb hby at_222) (by decide) (by decide) (XS.lstore X194.here hx rfl (hb hby at_226) rfl (l' := #[.val (.int k0), .val (.long t0), .second, .val (.long t1), .second, .val (.long t2), .second, .val (.long s0), .second, .val (.long s1), .second, .val (.int (2 : Int32)), .val (.int (0 : Int32)), .val (.long (t0 - s1)), .second, .val (.ref b178), .val (.ref b180), .val (.long (t0 ^^^ s0)), .second, .val (.long (t1 ^^^ s1)), .second, .val (.long (0 : Int64)), .second, .val (.long s0), .second, .val (.long s1), .second, .unset, .unset]) rfl (XS.iload X194.here hx rfl (hb hby at_228) rfl (XS.iconst X194.here hx rfl (hb hby at_230) kont))))) ?_
      show Go _ _ _ _ _ _ _ (T194.setTop (mkF m 231 #[.val (.int k0), .val (.long t0), .second, .val (.long t1), .second, .val (.long t2), .second, .val (.long s0), .second, .val (.long s1), .second, .val (.int (2 : Int32)), .val (.int (0 : Int32)), .val (.long (t0 - s1)), .second, .val (.ref b178), .val (.ref b180), .val (.long (t0 ^^^ s0)), .second, .val (.long (t1 ^^^ s1)), .second, .val (.long (0 : Int64)), .second, .val (.long s0), .second, .val (.long s1), .second, .unset, .unset] [(.int (2 : Int32)), (.int (2 : Int32))]))
      refine Go.by (fun _ kont => XS.icmpYes X194.here hx rfl (pc0 := 231) (pc' := 239) rfl (hb hby at_231) rfl (by decide) (by decide) (by decide) kont) ?_
      show Go _ _ _ _ _ _ _ (T194.setTop (mkF m 239 #[.val (.int k0), .val (.long t0), .second, .val (.long t1), .second, .val (.long t2), .second, .val (.long s0), .second, .val (.long s1), .second, .val (.int (2 : Int32)), .val (.int (0 : Int32)), .val (.long (t0 - s1)), .second, .val (.ref b178), .val (.ref b180), .val (.long (t0 ^^^ s0)), .second, .val (.long (t1 ^^^ s1)), .second, .val (.long (0 : Int64)), .second, .val (.long s0), .second, .val (.long s1), .second, .unset, .unset] []))
      refine Go.by (fun _ kont => XS.lconst X194.here hx rfl (hb hby at_239) (XS.lstore X194.here hx rfl (hb hby at_240) rfl (l' := #[.val (.int k0), .val (.long t0), .second, .val (.long t1), .second, .val (.long t2), .second, .val (.long s0), .second, .val (.long s1), .second, .val (.int (2 : Int32)), .val (.int (0 : Int32)), .val (.long (t0 - s1)), .second, .val (.ref b178), .val (.ref b180), .val (.long (t0 ^^^ s0)), .second, .val (.long (t1 ^^^ s1)), .second, .val (.long (0 : Int64)), .second, .val (.long s0), .second, .val (.long s1), .second, .val (.long (0 : Int64)), .second]) rfl (XS.aload X194.here hx rfl (hb hby at_242) rfl rfl kont))) ?_
      show Go _ _ _ _ _ _ _ (T194.setTop (mkF m 244 #[.val (.int k0), .val (.long t0), .second, .val (.long t1), .second, .val (.long t2), .second, .val (.long s0), .second, .val (.long s1), .second, .val (.int (2 : Int32)), .val (.int (0 : Int32)), .val (.long (t0 - s1)), .second, .val (.ref b178), .val (.ref b180), .val (.long (t0 ^^^ s0)), .second, .val (.long (t1 ^^^ s1)), .second, .val (.long (0 : Int64)), .second, .val (.long s0), .second, .val (.long s1), .second, .val (.long (0 : Int64)), .second] [(.ref b178)]))
      obtain ⟨cl_q196, Ar_q196, q1_q196, S_q196, N_q196, H_q196, G_q196⟩ := id g194_0
      refine Go.by (X194.arraylength hx (by first | exact Ar_q196.1 | (rw [rfl]; exact Ar_q196.1)) (State.isArrayOf_alike hZ.alike Ar_q196.2.1) (g := (mkF m 244 #[.val (.int k0), .val (.long t0), .second, .val (.long t1), .second, .val (.long t2), .second, .val (.long s0), .second, .val (.long s1), .second, .val (.int (2 : Int32)), .val (.int (0 : Int32)), .val (.long (t0 - s1)), .second, .val (.ref b178), .val (.ref b180), .val (.long (t0 ^^^ s0)), .second, .val (.long (t1 ^^^ s1)), .second, .val (.long (0 : Int64)), .second, .val (.long s0), .second, .val (.long s1), .second, .val (.long (0 : Int64)), .second] [(.ref b178)])) rfl rfl (hb hby at_244)) ?_
      rw [len_of S_q196 N_q196]
      show Go _ _ _ _ _ _ _ (T194.setTop (mkF m 245 #[.val (.int k0), .val (.long t0), .second, .val (.long t1), .second, .val (.long t2), .second, .val (.long s0), .second, .val (.long s1), .second, .val (.int (2 : Int32)), .val (.int (0 : Int32)), .val (.long (t0 - s1)), .second, .val (.ref b178), .val (.ref b180), .val (.long (t0 ^^^ s0)), .second, .val (.long (t1 ^^^ s1)), .second, .val (.long (0 : Int64)), .second, .val (.long s0), .second, .val (.long s1), .second, .val (.long (0 : Int64)), .second] [(.int (2 : Int32))]))
      refine Go.by (fun _ kont => XS.iload X194.here hx rfl (hb hby at_245) rfl kont) ?_
      show Go _ _ _ _ _ _ _ (T194.setTop (mkF m 247 #[.val (.int k0), .val (.long t0), .second, .val (.long t1), .second, .val (.long t2), .second, .val (.long s0), .second, .val (.long s1), .second, .val (.int (2 : Int32)), .val (.int (0 : Int32)), .val (.long (t0 - s1)), .second, .val (.ref b178), .val (.ref b180), .val (.long (t0 ^^^ s0)), .second, .val (.long (t1 ^^^ s1)), .second, .val (.long (0 : Int64)), .second, .val (.long s0), .second, .val (.long s1), .second, .val (.long (0 : Int64)), .second] [(.int (2 : Int32)), (.int (2 : Int32))]))
      refine Go.by (fun _ kont => XS.icmpNo X194.here hx rfl (hb hby at_247) rfl (by decide) kont) ?_
      show Go _ _ _ _ _ _ _ (T194.setTop (mkF m 250 #[.val (.int k0), .val (.long t0), .second, .val (.long t1), .second, .val (.long t2), .second, .val (.long s0), .second, .val (.long s1), .second, .val (.int (2 : Int32)), .val (.int (0 : Int32)), .val (.long (t0 - s1)), .second, .val (.ref b178), .val (.ref b180), .val (.long (t0 ^^^ s0)), .second, .val (.long (t1 ^^^ s1)), .second, .val (.long (0 : Int64)), .second, .val (.long s0), .second, .val (.long s1), .second, .val (.long (0 : Int64)), .second] []))
      refine Go.by (fun _ kont => XS.aload X194.here hx rfl (hb hby at_250) rfl rfl kont) ?_
      show Go _ _ _ _ _ _ _ (T194.setTop (mkF m 252 #[.val (.int k0), .val (.long t0), .second, .val (.long t1), .second, .val (.long t2), .second, .val (.long s0), .second, .val (.long s1), .second, .val (.int (2 : Int32)), .val (.int (0 : Int32)), .val (.long (t0 - s1)), .second, .val (.ref b178), .val (.ref b180), .val (.long (t0 ^^^ s0)), .second, .val (.long (t1 ^^^ s1)), .second, .val (.long (0 : Int64)), .second, .val (.long s0), .second, .val (.long s1), .second, .val (.long (0 : Int64)), .second] [(.ref b180)]))
      obtain ⟨cl_q197, Ar_q197, q1_q197, S_q197, N_q197, H_q197, G_q197⟩ := id V195_b180
      refine Go.by (X194.arraylength hx (by first | exact Ar_q197.1 | (rw [rfl]; exact Ar_q197.1)) (State.isArrayOf_alike hZ.alike Ar_q197.2.1) (g := (mkF m 252 #[.val (.int k0), .val (.long t0), .second, .val (.long t1), .second, .val (.long t2), .second, .val (.long s0), .second, .val (.long s1), .second, .val (.int (2 : Int32)), .val (.int (0 : Int32)), .val (.long (t0 - s1)), .second, .val (.ref b178), .val (.ref b180), .val (.long (t0 ^^^ s0)), .second, .val (.long (t1 ^^^ s1)), .second, .val (.long (0 : Int64)), .second, .val (.long s0), .second, .val (.long s1), .second, .val (.long (0 : Int64)), .second] [(.ref b180)])) rfl rfl (hb hby at_252)) ?_
      rw [len_of S_q197 N_q197]
      show Go _ _ _ _ _ _ _ (T194.setTop (mkF m 253 #[.val (.int k0), .val (.long t0), .second, .val (.long t1), .second, .val (.long t2), .second, .val (.long s0), .second, .val (.long s1), .second, .val (.int (2 : Int32)), .val (.int (0 : Int32)), .val (.long (t0 - s1)), .second, .val (.ref b178), .val (.ref b180), .val (.long (t0 ^^^ s0)), .second, .val (.long (t1 ^^^ s1)), .second, .val (.long (0 : Int64)), .second, .val (.long s0), .second, .val (.long s1), .second, .val (.long (0 : Int64)), .second] [(.int (2 : Int32))]))
      refine Go.by (fun _ kont => XS.iload X194.here hx rfl (hb hby at_253) rfl kont) ?_
      show Go _ _ _ _ _ _ _ (T194.setTop (mkF m 255 #[.val (.int k0), .val (.long t0), .second, .val (.long t1), .second, .val (.long t2), .second, .val (.long s0), .second, .val (.long s1), .second, .val (.int (2 : Int32)), .val (.int (0 : Int32)), .val (.long (t0 - s1)), .second, .val (.ref b178), .val (.ref b180), .val (.long (t0 ^^^ s0)), .second, .val (.long (t1 ^^^ s1)), .second, .val (.long (0 : Int64)), .second, .val (.long s0), .second, .val (.long s1), .second, .val (.long (0 : Int64)), .second] [(.int (2 : Int32)), (.int (2 : Int32))]))
      refine Go.by (fun _ kont => XS.icmpNo X194.here hx rfl (hb hby at_255) rfl (by decide) kont) ?_
      show Go _ _ _ _ _ _ _ (T194.setTop (mkF m 258 #[.val (.int k0), .val (.long t0), .second, .val (.long t1), .second, .val (.long t2), .second, .val (.long s0), .second, .val (.long s1), .second, .val (.int (2 : Int32)), .val (.int (0 : Int32)), .val (.long (t0 - s1)), .second, .val (.ref b178), .val (.ref b180), .val (.long (t0 ^^^ s0)), .second, .val (.long (t1 ^^^ s1)), .second, .val (.long (0 : Int64)), .second, .val (.long s0), .second, .val (.long s1), .second, .val (.long (0 : Int64)), .second] []))
      refine Go.by (fun _ kont => XS.aload X194.here hx rfl (hb hby at_258) rfl rfl (XS.iconst X194.here hx rfl (hb hby at_260) kont)) ?_
      show Go _ _ _ _ _ _ _ (T194.setTop (mkF m 261 #[.val (.int k0), .val (.long t0), .second, .val (.long t1), .second, .val (.long t2), .second, .val (.long s0), .second, .val (.long s1), .second, .val (.int (2 : Int32)), .val (.int (0 : Int32)), .val (.long (t0 - s1)), .second, .val (.ref b178), .val (.ref b180), .val (.long (t0 ^^^ s0)), .second, .val (.long (t1 ^^^ s1)), .second, .val (.long (0 : Int64)), .second, .val (.long s0), .second, .val (.long s1), .second, .val (.long (0 : Int64)), .second] [(.int (0 : Int32)), (.ref b178)]))
      obtain ⟨_, _, ⟨T198, L198, k198, n198⟩, -, X198, ⟨Lc198, hQ198, l198, y198, z198⟩, st198⟩ := Jvm.LawKit.callS X194 hx (y := (⟨"com/example/runs_to_nets/runstonets/core/Gf2BasisXorPinLaw", "word", "([JI)J"⟩ : MethodName)) hown (mvT hZ (hw _ (List.mem_of_getElem? (i := 5) rfl))) (mvT hZ (hw _ (List.mem_of_getElem? (i := 6) rfl))) (mvT hZ (hw _ (List.mem_of_getElem? (i := 7) rfl))) (mvT hZ (hw _ (List.mem_of_getElem? (i := 8) rfl))) (by decide) (backOf (W := 0) (rmW20 l Z a0 hw [] b178 k178 (t0 ^^^ s0) (t1 ^^^ s1) T194.heap n0 Z195 g194_0) hZ (hw _ (List.mem_of_getElem? (i := 8) rfl)) (hw _ (List.mem_of_getElem? (i := 7) rfl)) (by decide) (by decide)) (g := (mkF m 261 #[.val (.int k0), .val (.long t0), .second, .val (.long t1), .second, .val (.long t2), .second, .val (.long s0), .second, .val (.long s1), .second, .val (.int (2 : Int32)), .val (.int (0 : Int32)), .val (.long (t0 - s1)), .second, .val (.ref b178), .val (.ref b180), .val (.long (t0 ^^^ s0)), .second, .val (.long (t1 ^^^ s1)), .second, .val (.long (0 : Int64)), .second, .val (.long s0), .second, .val (.long s1), .second, .val (.long (0 : Int64)), .second] [(.int (0 : Int32)), (.ref b178)])) rfl (by rw [hml]; rfl) (argsL := [(.ref b178), (.int (0 : Int32))]) (rest := []) (lenOf pd0_1 rfl) rfl (by show 2 * 0 + _ ≤ _; exact Nat.le_of_eq rfl) (hb hby at_261) (fun _ _ => ⟨rfl, rfl, (by decide : 2 + 0 ≤ _), (by decide : 4 + 0 ≤ _)⟩)
      dsimp only [Pt.U, Pt.locs, Pt.cells, Pt.slots] at X198 l198 y198 z198 st198 hQ198
      subst l198 y198 z198
      obtain ⟨rfl, N198q, eh198⟩ := hQ198
      have N198 := Fr.app N194 N198q
      refine Go.by st198 ?_
      show Go _ _ _ _ _ _ _ (T198.setTop (mkF m 264 #[.val (.int k0), .val (.long t0), .second, .val (.long t1), .second, .val (.long t2), .second, .val (.long s0), .second, .val (.long s1), .second, .val (.int (2 : Int32)), .val (.int (0 : Int32)), .val (.long (t0 - s1)), .second, .val (.ref b178), .val (.ref b180), .val (.long (t0 ^^^ s0)), .second, .val (.long (t1 ^^^ s1)), .second, .val (.long (0 : Int64)), .second, .val (.long s0), .second, .val (.long s1), .second, .val (.long (0 : Int64)), .second] [(.long (t0 ^^^ s0))]))
      refine Go.by (fun _ kont => XS.lload X198.here hx rfl (hb hby at_264) rfl (XS.lcmp X198.here hx rfl (hb hby at_266) rfl kont)) ?_
      show Go _ _ _ _ _ _ _ (T198.setTop (mkF m 267 #[.val (.int k0), .val (.long t0), .second, .val (.long t1), .second, .val (.long t2), .second, .val (.long s0), .second, .val (.long s1), .second, .val (.int (2 : Int32)), .val (.int (0 : Int32)), .val (.long (t0 - s1)), .second, .val (.ref b178), .val (.ref b180), .val (.long (t0 ^^^ s0)), .second, .val (.long (t1 ^^^ s1)), .second, .val (.long (0 : Int64)), .second, .val (.long s0), .second, .val (.long s1), .second, .val (.long (0 : Int64)), .second] [(.int (lcmpW (t0 ^^^ s0) (t0 ^^^ s0)))]))
      refine Go.by (fun _ kont => XS.ifNo X198.here hx rfl (hb hby at_267) rfl ((if0 _ _).trans (teq ((lw_eq _ _).mpr rfl)).2) kont) ?_
      show Go _ _ _ _ _ _ _ (T198.setTop (mkF m 270 #[.val (.int k0), .val (.long t0), .second, .val (.long t1), .second, .val (.long t2), .second, .val (.long s0), .second, .val (.long s1), .second, .val (.int (2 : Int32)), .val (.int (0 : Int32)), .val (.long (t0 - s1)), .second, .val (.ref b178), .val (.ref b180), .val (.long (t0 ^^^ s0)), .second, .val (.long (t1 ^^^ s1)), .second, .val (.long (0 : Int64)), .second, .val (.long s0), .second, .val (.long s1), .second, .val (.long (0 : Int64)), .second] []))
      refine Go.by (fun _ kont => XS.aload X198.here hx rfl (hb hby at_270) rfl rfl (XS.iconst X198.here hx rfl (hb hby at_272) kont)) ?_
      show Go _ _ _ _ _ _ _ (T198.setTop (mkF m 273 #[.val (.int k0), .val (.long t0), .second, .val (.long t1), .second, .val (.long t2), .second, .val (.long s0), .second, .val (.long s1), .second, .val (.int (2 : Int32)), .val (.int (0 : Int32)), .val (.long (t0 - s1)), .second, .val (.ref b178), .val (.ref b180), .val (.long (t0 ^^^ s0)), .second, .val (.long (t1 ^^^ s1)), .second, .val (.long (0 : Int64)), .second, .val (.long s0), .second, .val (.long s1), .second, .val (.long (0 : Int64)), .second] [(.int (1 : Int32)), (.ref b178)]))
      obtain ⟨_, _, ⟨T199, L199, k199, n199⟩, -, X199, ⟨Lc199, hQ199, l199, y199, z199⟩, st199⟩ := Jvm.LawKit.callS X198 hx (y := (⟨"com/example/runs_to_nets/runstonets/core/Gf2BasisXorPinLaw", "word", "([JI)J"⟩ : MethodName)) hown (mvT hZ (hw _ (List.mem_of_getElem? (i := 5) rfl))) (mvT hZ (hw _ (List.mem_of_getElem? (i := 6) rfl))) (mvT hZ (hw _ (List.mem_of_getElem? (i := 7) rfl))) (mvT hZ (hw _ (List.mem_of_getElem? (i := 8) rfl))) (by decide) (backOf (W := 0) (rmW21 l Z a0 hw [] b178 k178 (t0 ^^^ s0) (t1 ^^^ s1) T194.heap n0 Z195 g194_0) hZ (hw _ (List.mem_of_getElem? (i := 8) rfl)) (hw _ (List.mem_of_getElem? (i := 7) rfl)) (by decide) (by decide)) (g := (mkF m 273 #[.val (.int k0), .val (.long t0), .second, .val (.long t1), .second, .val (.long t2), .second, .val (.long s0), .second, .val (.long s1), .second, .val (.int (2 : Int32)), .val (.int (0 : Int32)), .val (.long (t0 - s1)), .second, .val (.ref b178), .val (.ref b180), .val (.long (t0 ^^^ s0)), .second, .val (.long (t1 ^^^ s1)), .second, .val (.long (0 : Int64)), .second, .val (.long s0), .second, .val (.long s1), .second, .val (.long (0 : Int64)), .second] [(.int (1 : Int32)), (.ref b178)])) rfl (by rw [hml]; rfl) (argsL := [(.ref b178), (.int (1 : Int32))]) (rest := []) (lenOf pd0_1 rfl) rfl (by show 2 * 0 + _ ≤ _; exact Nat.le_of_eq rfl) (hb hby at_273) (fun _ _ => ⟨rfl, eh198, (by decide : 2 + 0 ≤ _), (by decide : 4 + 0 ≤ _)⟩)
      dsimp only [Pt.U, Pt.locs, Pt.cells, Pt.slots] at X199 l199 y199 z199 st199 hQ199
      subst l199 y199 z199
      obtain ⟨rfl, N199q, eh199⟩ := hQ199
      have N199 := Fr.app N198 N199q
      refine Go.by st199 ?_
      show Go _ _ _ _ _ _ _ (T199.setTop (mkF m 276 #[.val (.int k0), .val (.long t0), .second, .val (.long t1), .second, .val (.long t2), .second, .val (.long s0), .second, .val (.long s1), .second, .val (.int (2 : Int32)), .val (.int (0 : Int32)), .val (.long (t0 - s1)), .second, .val (.ref b178), .val (.ref b180), .val (.long (t0 ^^^ s0)), .second, .val (.long (t1 ^^^ s1)), .second, .val (.long (0 : Int64)), .second, .val (.long s0), .second, .val (.long s1), .second, .val (.long (0 : Int64)), .second] [(.long (t1 ^^^ s1))]))
      refine Go.by (fun _ kont => XS.lload X199.here hx rfl (hb hby at_276) rfl (XS.lcmp X199.here hx rfl (hb hby at_278) rfl kont)) ?_
      show Go _ _ _ _ _ _ _ (T199.setTop (mkF m 279 #[.val (.int k0), .val (.long t0), .second, .val (.long t1), .second, .val (.long t2), .second, .val (.long s0), .second, .val (.long s1), .second, .val (.int (2 : Int32)), .val (.int (0 : Int32)), .val (.long (t0 - s1)), .second, .val (.ref b178), .val (.ref b180), .val (.long (t0 ^^^ s0)), .second, .val (.long (t1 ^^^ s1)), .second, .val (.long (0 : Int64)), .second, .val (.long s0), .second, .val (.long s1), .second, .val (.long (0 : Int64)), .second] [(.int (lcmpW (t1 ^^^ s1) (t1 ^^^ s1)))]))
      refine Go.by (fun _ kont => XS.ifNo X199.here hx rfl (hb hby at_279) rfl ((if0 _ _).trans (teq ((lw_eq _ _).mpr rfl)).2) kont) ?_
      show Go _ _ _ _ _ _ _ (T199.setTop (mkF m 282 #[.val (.int k0), .val (.long t0), .second, .val (.long t1), .second, .val (.long t2), .second, .val (.long s0), .second, .val (.long s1), .second, .val (.int (2 : Int32)), .val (.int (0 : Int32)), .val (.long (t0 - s1)), .second, .val (.ref b178), .val (.ref b180), .val (.long (t0 ^^^ s0)), .second, .val (.long (t1 ^^^ s1)), .second, .val (.long (0 : Int64)), .second, .val (.long s0), .second, .val (.long s1), .second, .val (.long (0 : Int64)), .second] []))
      refine Go.by (fun _ kont => XS.aload X199.here hx rfl (hb hby at_282) rfl rfl (XS.iconst X199.here hx rfl (hb hby at_284) kont)) ?_
      show Go _ _ _ _ _ _ _ (T199.setTop (mkF m 285 #[.val (.int k0), .val (.long t0), .second, .val (.long t1), .second, .val (.long t2), .second, .val (.long s0), .second, .val (.long s1), .second, .val (.int (2 : Int32)), .val (.int (0 : Int32)), .val (.long (t0 - s1)), .second, .val (.ref b178), .val (.ref b180), .val (.long (t0 ^^^ s0)), .second, .val (.long (t1 ^^^ s1)), .second, .val (.long (0 : Int64)), .second, .val (.long s0), .second, .val (.long s1), .second, .val (.long (0 : Int64)), .second] [(.int (2 : Int32)), (.ref b178)]))
      obtain ⟨_, _, ⟨T200, L200, k200, n200⟩, -, X200, ⟨Lc200, hQ200, l200, y200, z200⟩, st200⟩ := Jvm.LawKit.callS X199 hx (y := (⟨"com/example/runs_to_nets/runstonets/core/Gf2BasisXorPinLaw", "word", "([JI)J"⟩ : MethodName)) hown (mvT hZ (hw _ (List.mem_of_getElem? (i := 5) rfl))) (mvT hZ (hw _ (List.mem_of_getElem? (i := 6) rfl))) (mvT hZ (hw _ (List.mem_of_getElem? (i := 7) rfl))) (mvT hZ (hw _ (List.mem_of_getElem? (i := 8) rfl))) (by decide) (backOf (W := 0) (rmW22 l Z a0 hw [] b178 k178 (t0 ^^^ s0) (t1 ^^^ s1) T194.heap n0 Z195 g194_0) hZ (hw _ (List.mem_of_getElem? (i := 8) rfl)) (hw _ (List.mem_of_getElem? (i := 7) rfl)) (by decide) (by decide)) (g := (mkF m 285 #[.val (.int k0), .val (.long t0), .second, .val (.long t1), .second, .val (.long t2), .second, .val (.long s0), .second, .val (.long s1), .second, .val (.int (2 : Int32)), .val (.int (0 : Int32)), .val (.long (t0 - s1)), .second, .val (.ref b178), .val (.ref b180), .val (.long (t0 ^^^ s0)), .second, .val (.long (t1 ^^^ s1)), .second, .val (.long (0 : Int64)), .second, .val (.long s0), .second, .val (.long s1), .second, .val (.long (0 : Int64)), .second] [(.int (2 : Int32)), (.ref b178)])) rfl (by rw [hml]; rfl) (argsL := [(.ref b178), (.int (2 : Int32))]) (rest := []) (lenOf pd0_1 rfl) rfl (by show 2 * 0 + _ ≤ _; exact Nat.le_of_eq rfl) (hb hby at_285) (fun _ _ => ⟨rfl, eh199, (by decide : 2 + 0 ≤ _), (by decide : 4 + 0 ≤ _)⟩)
      dsimp only [Pt.U, Pt.locs, Pt.cells, Pt.slots] at X200 l200 y200 z200 st200 hQ200
      subst l200 y200 z200
      obtain ⟨rfl, N200q, eh200⟩ := hQ200
      have N200 := Fr.app N199 N200q
      refine Go.by st200 ?_
      show Go _ _ _ _ _ _ _ (T200.setTop (mkF m 288 #[.val (.int k0), .val (.long t0), .second, .val (.long t1), .second, .val (.long t2), .second, .val (.long s0), .second, .val (.long s1), .second, .val (.int (2 : Int32)), .val (.int (0 : Int32)), .val (.long (t0 - s1)), .second, .val (.ref b178), .val (.ref b180), .val (.long (t0 ^^^ s0)), .second, .val (.long (t1 ^^^ s1)), .second, .val (.long (0 : Int64)), .second, .val (.long s0), .second, .val (.long s1), .second, .val (.long (0 : Int64)), .second] [(.long (0 : Int64))]))
      refine Go.by (fun _ kont => XS.lload X200.here hx rfl (hb hby at_288) rfl (XS.lcmp X200.here hx rfl (hb hby at_290) rfl kont)) ?_
      show Go _ _ _ _ _ _ _ (T200.setTop (mkF m 291 #[.val (.int k0), .val (.long t0), .second, .val (.long t1), .second, .val (.long t2), .second, .val (.long s0), .second, .val (.long s1), .second, .val (.int (2 : Int32)), .val (.int (0 : Int32)), .val (.long (t0 - s1)), .second, .val (.ref b178), .val (.ref b180), .val (.long (t0 ^^^ s0)), .second, .val (.long (t1 ^^^ s1)), .second, .val (.long (0 : Int64)), .second, .val (.long s0), .second, .val (.long s1), .second, .val (.long (0 : Int64)), .second] [(.int (lcmpW (0 : Int64) (0 : Int64)))]))
      have hd201 : (0 : Int64) = (0 : Int64) := by decide
      refine Go.by (fun _ kont => XS.ifNo X200.here hx rfl (hb hby at_291) rfl ((if0 _ _).trans (teq ((lw_eq _ _).mpr hd201)).2) kont) ?_
      show Go _ _ _ _ _ _ _ (T200.setTop (mkF m 294 #[.val (.int k0), .val (.long t0), .second, .val (.long t1), .second, .val (.long t2), .second, .val (.long s0), .second, .val (.long s1), .second, .val (.int (2 : Int32)), .val (.int (0 : Int32)), .val (.long (t0 - s1)), .second, .val (.ref b178), .val (.ref b180), .val (.long (t0 ^^^ s0)), .second, .val (.long (t1 ^^^ s1)), .second, .val (.long (0 : Int64)), .second, .val (.long s0), .second, .val (.long s1), .second, .val (.long (0 : Int64)), .second] []))
      refine Go.by (fun _ kont => XS.aload X200.here hx rfl (hb hby at_294) rfl rfl (XS.iconst X200.here hx rfl (hb hby at_296) kont)) ?_
      show Go _ _ _ _ _ _ _ (T200.setTop (mkF m 297 #[.val (.int k0), .val (.long t0), .second, .val (.long t1), .second, .val (.long t2), .second, .val (.long s0), .second, .val (.long s1), .second, .val (.int (2 : Int32)), .val (.int (0 : Int32)), .val (.long (t0 - s1)), .second, .val (.ref b178), .val (.ref b180), .val (.long (t0 ^^^ s0)), .second, .val (.long (t1 ^^^ s1)), .second, .val (.long (0 : Int64)), .second, .val (.long s0), .second, .val (.long s1), .second, .val (.long (0 : Int64)), .second] [(.int (0 : Int32)), (.ref b180)]))
      obtain ⟨_, _, ⟨T202, L202, k202, n202⟩, -, X202, ⟨Lc202, hQ202, l202, y202, z202⟩, st202⟩ := Jvm.LawKit.callS X200 hx (y := (⟨"com/example/runs_to_nets/runstonets/core/Gf2BasisXorPinLaw", "word", "([JI)J"⟩ : MethodName)) hown (mvT hZ (hw _ (List.mem_of_getElem? (i := 5) rfl))) (mvT hZ (hw _ (List.mem_of_getElem? (i := 6) rfl))) (mvT hZ (hw _ (List.mem_of_getElem? (i := 7) rfl))) (mvT hZ (hw _ (List.mem_of_getElem? (i := 8) rfl))) (by decide) (backOf (W := 0) (rmW20 l Z a0 hw [] b180 k180 s0 s1 T194.heap n0 Z195 V195_b180) hZ (hw _ (List.mem_of_getElem? (i := 8) rfl)) (hw _ (List.mem_of_getElem? (i := 7) rfl)) (by decide) (by decide)) (g := (mkF m 297 #[.val (.int k0), .val (.long t0), .second, .val (.long t1), .second, .val (.long t2), .second, .val (.long s0), .second, .val (.long s1), .second, .val (.int (2 : Int32)), .val (.int (0 : Int32)), .val (.long (t0 - s1)), .second, .val (.ref b178), .val (.ref b180), .val (.long (t0 ^^^ s0)), .second, .val (.long (t1 ^^^ s1)), .second, .val (.long (0 : Int64)), .second, .val (.long s0), .second, .val (.long s1), .second, .val (.long (0 : Int64)), .second] [(.int (0 : Int32)), (.ref b180)])) rfl (by rw [hml]; rfl) (argsL := [(.ref b180), (.int (0 : Int32))]) (rest := []) (lenOf pd0_1 rfl) rfl (by show 2 * 0 + _ ≤ _; exact Nat.le_of_eq rfl) (hb hby at_297) (fun _ _ => ⟨rfl, eh200, (by decide : 2 + 0 ≤ _), (by decide : 4 + 0 ≤ _)⟩)
      dsimp only [Pt.U, Pt.locs, Pt.cells, Pt.slots] at X202 l202 y202 z202 st202 hQ202
      subst l202 y202 z202
      obtain ⟨rfl, N202q, eh202⟩ := hQ202
      have N202 := Fr.app N200 N202q
      refine Go.by st202 ?_
      show Go _ _ _ _ _ _ _ (T202.setTop (mkF m 300 #[.val (.int k0), .val (.long t0), .second, .val (.long t1), .second, .val (.long t2), .second, .val (.long s0), .second, .val (.long s1), .second, .val (.int (2 : Int32)), .val (.int (0 : Int32)), .val (.long (t0 - s1)), .second, .val (.ref b178), .val (.ref b180), .val (.long (t0 ^^^ s0)), .second, .val (.long (t1 ^^^ s1)), .second, .val (.long (0 : Int64)), .second, .val (.long s0), .second, .val (.long s1), .second, .val (.long (0 : Int64)), .second] [(.long s0)]))
      refine Go.by (fun _ kont => XS.lload X202.here hx rfl (hb hby at_300) rfl (XS.lcmp X202.here hx rfl (hb hby at_302) rfl kont)) ?_
      show Go _ _ _ _ _ _ _ (T202.setTop (mkF m 303 #[.val (.int k0), .val (.long t0), .second, .val (.long t1), .second, .val (.long t2), .second, .val (.long s0), .second, .val (.long s1), .second, .val (.int (2 : Int32)), .val (.int (0 : Int32)), .val (.long (t0 - s1)), .second, .val (.ref b178), .val (.ref b180), .val (.long (t0 ^^^ s0)), .second, .val (.long (t1 ^^^ s1)), .second, .val (.long (0 : Int64)), .second, .val (.long s0), .second, .val (.long s1), .second, .val (.long (0 : Int64)), .second] [(.int (lcmpW s0 s0))]))
      refine Go.by (fun _ kont => XS.ifNo X202.here hx rfl (hb hby at_303) rfl ((if0 _ _).trans (teq ((lw_eq _ _).mpr rfl)).2) kont) ?_
      show Go _ _ _ _ _ _ _ (T202.setTop (mkF m 306 #[.val (.int k0), .val (.long t0), .second, .val (.long t1), .second, .val (.long t2), .second, .val (.long s0), .second, .val (.long s1), .second, .val (.int (2 : Int32)), .val (.int (0 : Int32)), .val (.long (t0 - s1)), .second, .val (.ref b178), .val (.ref b180), .val (.long (t0 ^^^ s0)), .second, .val (.long (t1 ^^^ s1)), .second, .val (.long (0 : Int64)), .second, .val (.long s0), .second, .val (.long s1), .second, .val (.long (0 : Int64)), .second] []))
      refine Go.by (fun _ kont => XS.aload X202.here hx rfl (hb hby at_306) rfl rfl (XS.iconst X202.here hx rfl (hb hby at_308) kont)) ?_
      show Go _ _ _ _ _ _ _ (T202.setTop (mkF m 309 #[.val (.int k0), .val (.long t0), .second, .val (.long t1), .second, .val (.long t2), .second, .val (.long s0), .second, .val (.long s1), .second, .val (.int (2 : Int32)), .val (.int (0 : Int32)), .val (.long (t0 - s1)), .second, .val (.ref b178), .val (.ref b180), .val (.long (t0 ^^^ s0)), .second, .val (.long (t1 ^^^ s1)), .second, .val (.long (0 : Int64)), .second, .val (.long s0), .second, .val (.long s1), .second, .val (.long (0 : Int64)), .second] [(.int (1 : Int32)), (.ref b180)]))
      obtain ⟨_, _, ⟨T203, L203, k203, n203⟩, -, X203, ⟨Lc203, hQ203, l203, y203, z203⟩, st203⟩ := Jvm.LawKit.callS X202 hx (y := (⟨"com/example/runs_to_nets/runstonets/core/Gf2BasisXorPinLaw", "word", "([JI)J"⟩ : MethodName)) hown (mvT hZ (hw _ (List.mem_of_getElem? (i := 5) rfl))) (mvT hZ (hw _ (List.mem_of_getElem? (i := 6) rfl))) (mvT hZ (hw _ (List.mem_of_getElem? (i := 7) rfl))) (mvT hZ (hw _ (List.mem_of_getElem? (i := 8) rfl))) (by decide) (backOf (W := 0) (rmW21 l Z a0 hw [] b180 k180 s0 s1 T194.heap n0 Z195 V195_b180) hZ (hw _ (List.mem_of_getElem? (i := 8) rfl)) (hw _ (List.mem_of_getElem? (i := 7) rfl)) (by decide) (by decide)) (g := (mkF m 309 #[.val (.int k0), .val (.long t0), .second, .val (.long t1), .second, .val (.long t2), .second, .val (.long s0), .second, .val (.long s1), .second, .val (.int (2 : Int32)), .val (.int (0 : Int32)), .val (.long (t0 - s1)), .second, .val (.ref b178), .val (.ref b180), .val (.long (t0 ^^^ s0)), .second, .val (.long (t1 ^^^ s1)), .second, .val (.long (0 : Int64)), .second, .val (.long s0), .second, .val (.long s1), .second, .val (.long (0 : Int64)), .second] [(.int (1 : Int32)), (.ref b180)])) rfl (by rw [hml]; rfl) (argsL := [(.ref b180), (.int (1 : Int32))]) (rest := []) (lenOf pd0_1 rfl) rfl (by show 2 * 0 + _ ≤ _; exact Nat.le_of_eq rfl) (hb hby at_309) (fun _ _ => ⟨rfl, eh202, (by decide : 2 + 0 ≤ _), (by decide : 4 + 0 ≤ _)⟩)
      dsimp only [Pt.U, Pt.locs, Pt.cells, Pt.slots] at X203 l203 y203 z203 st203 hQ203
      subst l203 y203 z203
      obtain ⟨rfl, N203q, eh203⟩ := hQ203
      have N203 := Fr.app N202 N203q
      refine Go.by st203 ?_
      show Go _ _ _ _ _ _ _ (T203.setTop (mkF m 312 #[.val (.int k0), .val (.long t0), .second, .val (.long t1), .second, .val (.long t2), .second, .val (.long s0), .second, .val (.long s1), .second, .val (.int (2 : Int32)), .val (.int (0 : Int32)), .val (.long (t0 - s1)), .second, .val (.ref b178), .val (.ref b180), .val (.long (t0 ^^^ s0)), .second, .val (.long (t1 ^^^ s1)), .second, .val (.long (0 : Int64)), .second, .val (.long s0), .second, .val (.long s1), .second, .val (.long (0 : Int64)), .second] [(.long s1)]))
      refine Go.by (fun _ kont => XS.lload X203.here hx rfl (hb hby at_312) rfl (XS.lcmp X203.here hx rfl (hb hby at_314) rfl kont)) ?_
      show Go _ _ _ _ _ _ _ (T203.setTop (mkF m 315 #[.val (.int k0), .val (.long t0), .second, .val (.long t1), .second, .val (.long t2), .second, .val (.long s0), .second, .val (.long s1), .second, .val (.int (2 : Int32)), .val (.int (0 : Int32)), .val (.long (t0 - s1)), .second, .val (.ref b178), .val (.ref b180), .val (.long (t0 ^^^ s0)), .second, .val (.long (t1 ^^^ s1)), .second, .val (.long (0 : Int64)), .second, .val (.long s0), .second, .val (.long s1), .second, .val (.long (0 : Int64)), .second] [(.int (lcmpW s1 s1))]))
      refine Go.by (fun _ kont => XS.ifNo X203.here hx rfl (hb hby at_315) rfl ((if0 _ _).trans (teq ((lw_eq _ _).mpr rfl)).2) kont) ?_
      show Go _ _ _ _ _ _ _ (T203.setTop (mkF m 318 #[.val (.int k0), .val (.long t0), .second, .val (.long t1), .second, .val (.long t2), .second, .val (.long s0), .second, .val (.long s1), .second, .val (.int (2 : Int32)), .val (.int (0 : Int32)), .val (.long (t0 - s1)), .second, .val (.ref b178), .val (.ref b180), .val (.long (t0 ^^^ s0)), .second, .val (.long (t1 ^^^ s1)), .second, .val (.long (0 : Int64)), .second, .val (.long s0), .second, .val (.long s1), .second, .val (.long (0 : Int64)), .second] []))
      refine Go.by (fun _ kont => XS.aload X203.here hx rfl (hb hby at_318) rfl rfl (XS.iconst X203.here hx rfl (hb hby at_320) kont)) ?_
      show Go _ _ _ _ _ _ _ (T203.setTop (mkF m 321 #[.val (.int k0), .val (.long t0), .second, .val (.long t1), .second, .val (.long t2), .second, .val (.long s0), .second, .val (.long s1), .second, .val (.int (2 : Int32)), .val (.int (0 : Int32)), .val (.long (t0 - s1)), .second, .val (.ref b178), .val (.ref b180), .val (.long (t0 ^^^ s0)), .second, .val (.long (t1 ^^^ s1)), .second, .val (.long (0 : Int64)), .second, .val (.long s0), .second, .val (.long s1), .second, .val (.long (0 : Int64)), .second] [(.int (2 : Int32)), (.ref b180)]))
      obtain ⟨_, _, ⟨T204, L204, k204, n204⟩, -, X204, ⟨Lc204, hQ204, l204, y204, z204⟩, st204⟩ := Jvm.LawKit.callS X203 hx (y := (⟨"com/example/runs_to_nets/runstonets/core/Gf2BasisXorPinLaw", "word", "([JI)J"⟩ : MethodName)) hown (mvT hZ (hw _ (List.mem_of_getElem? (i := 5) rfl))) (mvT hZ (hw _ (List.mem_of_getElem? (i := 6) rfl))) (mvT hZ (hw _ (List.mem_of_getElem? (i := 7) rfl))) (mvT hZ (hw _ (List.mem_of_getElem? (i := 8) rfl))) (by decide) (backOf (W := 0) (rmW22 l Z a0 hw [] b180 k180 s0 s1 T194.heap n0 Z195 V195_b180) hZ (hw _ (List.mem_of_getElem? (i := 8) rfl)) (hw _ (List.mem_of_getElem? (i := 7) rfl)) (by decide) (by decide)) (g := (mkF m 321 #[.val (.int k0), .val (.long t0), .second, .val (.long t1), .second, .val (.long t2), .second, .val (.long s0), .second, .val (.long s1), .second, .val (.int (2 : Int32)), .val (.int (0 : Int32)), .val (.long (t0 - s1)), .second, .val (.ref b178), .val (.ref b180), .val (.long (t0 ^^^ s0)), .second, .val (.long (t1 ^^^ s1)), .second, .val (.long (0 : Int64)), .second, .val (.long s0), .second, .val (.long s1), .second, .val (.long (0 : Int64)), .second] [(.int (2 : Int32)), (.ref b180)])) rfl (by rw [hml]; rfl) (argsL := [(.ref b180), (.int (2 : Int32))]) (rest := []) (lenOf pd0_1 rfl) rfl (by show 2 * 0 + _ ≤ _; exact Nat.le_of_eq rfl) (hb hby at_321) (fun _ _ => ⟨rfl, eh203, (by decide : 2 + 0 ≤ _), (by decide : 4 + 0 ≤ _)⟩)
      dsimp only [Pt.U, Pt.locs, Pt.cells, Pt.slots] at X204 l204 y204 z204 st204 hQ204
      subst l204 y204 z204
      obtain ⟨rfl, N204q, eh204⟩ := hQ204
      have N204 := Fr.app N203 N204q
      refine Go.by st204 ?_
      show Go _ _ _ _ _ _ _ (T204.setTop (mkF m 324 #[.val (.int k0), .val (.long t0), .second, .val (.long t1), .second, .val (.long t2), .second, .val (.long s0), .second, .val (.long s1), .second, .val (.int (2 : Int32)), .val (.int (0 : Int32)), .val (.long (t0 - s1)), .second, .val (.ref b178), .val (.ref b180), .val (.long (t0 ^^^ s0)), .second, .val (.long (t1 ^^^ s1)), .second, .val (.long (0 : Int64)), .second, .val (.long s0), .second, .val (.long s1), .second, .val (.long (0 : Int64)), .second] [(.long (0 : Int64))]))
      refine Go.by (fun _ kont => XS.lload X204.here hx rfl (hb hby at_324) rfl (XS.lcmp X204.here hx rfl (hb hby at_326) rfl kont)) ?_
      show Go _ _ _ _ _ _ _ (T204.setTop (mkF m 327 #[.val (.int k0), .val (.long t0), .second, .val (.long t1), .second, .val (.long t2), .second, .val (.long s0), .second, .val (.long s1), .second, .val (.int (2 : Int32)), .val (.int (0 : Int32)), .val (.long (t0 - s1)), .second, .val (.ref b178), .val (.ref b180), .val (.long (t0 ^^^ s0)), .second, .val (.long (t1 ^^^ s1)), .second, .val (.long (0 : Int64)), .second, .val (.long s0), .second, .val (.long s1), .second, .val (.long (0 : Int64)), .second] [(.int (lcmpW (0 : Int64) (0 : Int64)))]))
      have hd205 : (0 : Int64) = (0 : Int64) := by decide
      refine Go.by (fun _ kont => XS.ifNo X204.here hx rfl (hb hby at_327) rfl ((if0 _ _).trans (teq ((lw_eq _ _).mpr hd205)).2) kont) ?_
      show Go _ _ _ _ _ _ _ (T204.setTop (mkF m 330 #[.val (.int k0), .val (.long t0), .second, .val (.long t1), .second, .val (.long t2), .second, .val (.long s0), .second, .val (.long s1), .second, .val (.int (2 : Int32)), .val (.int (0 : Int32)), .val (.long (t0 - s1)), .second, .val (.ref b178), .val (.ref b180), .val (.long (t0 ^^^ s0)), .second, .val (.long (t1 ^^^ s1)), .second, .val (.long (0 : Int64)), .second, .val (.long s0), .second, .val (.long s1), .second, .val (.long (0 : Int64)), .second] []))
      refine Go.by (fun _ kont => XS.iconst X204.here hx rfl (hb hby at_330) (XS.goto X204.here hx rfl (pc0 := 331) (pc' := 335) rfl (hb hby at_331) (by decide) (by decide) kont)) ?_
      show Go _ _ _ _ _ _ _ (T204.setTop (mkF m 335 #[.val (.int k0), .val (.long t0), .second, .val (.long t1), .second, .val (.long t2), .second, .val (.long s0), .second, .val (.long s1), .second, .val (.int (2 : Int32)), .val (.int (0 : Int32)), .val (.long (t0 - s1)), .second, .val (.ref b178), .val (.ref b180), .val (.long (t0 ^^^ s0)), .second, .val (.long (t1 ^^^ s1)), .second, .val (.long (0 : Int64)), .second, .val (.long s0), .second, .val (.long s1), .second, .val (.long (0 : Int64)), .second] [(.int (1 : Int32))]))
      refine Go.retN X204 hx (t := .boolean) hret (by simp) hlk (hb hby at_335) ?_ (by decide) (by decide)
      show Q0 Z h0 n0 (some (.int (1 : Int32))) T204.heap _
      rw [eh204]
      exact ⟨rfl, N204⟩
    · refine Go.by (fun _ kont => XS.ifNo X0.here hx rfl (hb hby at_8) rfl ((if0 _ _).trans (feq hc177).1) kont) ?_
      show Go _ _ _ _ _ _ _ (s₁.setTop (mkF m 11 #[.val (.int k0), .val (.long t0), .second, .val (.long t1), .second, .val (.long t2), .second, .val (.long s0), .second, .val (.long s1), .second, .val (.int (2 : Int32)), .unset, .unset, .unset, .unset, .unset, .unset, .unset, .unset, .unset, .unset, .unset, .unset, .unset, .unset, .unset, .unset, .unset] []))
      refine Go.by (fun _ kont => XS.iconst X0.here hx rfl (hb hby at_11) (XS.goto X0.here hx rfl (pc0 := 12) (pc' := 16) rfl (hb hby at_12) (by decide) (by decide) (XS.istore X0.here hx rfl (hb hby at_16) rfl (l' := #[.val (.int k0), .val (.long t0), .second, .val (.long t1), .second, .val (.long t2), .second, .val (.long s0), .second, .val (.long s1), .second, .val (.int (2 : Int32)), .val (.int (1 : Int32)), .unset, .unset, .unset, .unset, .unset, .unset, .unset, .unset, .unset, .unset, .unset, .unset, .unset, .unset, .unset, .unset]) rfl (XS.lloadN X0.here hx rfl (hb hby at_18) rfl (XS.lload X0.here hx rfl (hb hby at_19) rfl (XS.lsub X0.here hx rfl (hb hby at_21) rfl kont)))))) ?_
      show Go _ _ _ _ _ _ _ (s₁.setTop (mkF m 22 #[.val (.int k0), .val (.long t0), .second, .val (.long t1), .second, .val (.long t2), .second, .val (.long s0), .second, .val (.long s1), .second, .val (.int (2 : Int32)), .val (.int (1 : Int32)), .unset, .unset, .unset, .unset, .unset, .unset, .unset, .unset, .unset, .unset, .unset, .unset, .unset, .unset, .unset, .unset] [(.long (t0 - s1))]))
      refine Go.by (fun _ kont => XS.lstore X0.here hx rfl (hb hby at_22) rfl (l' := #[.val (.int k0), .val (.long t0), .second, .val (.long t1), .second, .val (.long t2), .second, .val (.long s0), .second, .val (.long s1), .second, .val (.int (2 : Int32)), .val (.int (1 : Int32)), .val (.long (t0 - s1)), .second, .unset, .unset, .unset, .unset, .unset, .unset, .unset, .unset, .unset, .unset, .unset, .unset, .unset, .unset]) rfl (XS.iload X0.here hx rfl (hb hby at_24) rfl kont)) ?_
      show Go _ _ _ _ _ _ _ (s₁.setTop (mkF m 26 #[.val (.int k0), .val (.long t0), .second, .val (.long t1), .second, .val (.long t2), .second, .val (.long s0), .second, .val (.long s1), .second, .val (.int (2 : Int32)), .val (.int (1 : Int32)), .val (.long (t0 - s1)), .second, .unset, .unset, .unset, .unset, .unset, .unset, .unset, .unset, .unset, .unset, .unset, .unset, .unset, .unset] [(.int (2 : Int32))]))
      obtain ⟨T206, h206, k206, X206, e206, X_206, A206, st206⟩ := newP X0 hx hZ (hw _ (List.mem_of_getElem? (i := 0) rfl)) e0 (g := (mkF m 26 #[.val (.int k0), .val (.long t0), .second, .val (.long t1), .second, .val (.long t2), .second, .val (.long s0), .second, .val (.long s1), .second, .val (.int (2 : Int32)), .val (.int (1 : Int32)), .val (.long (t0 - s1)), .second, .unset, .unset, .unset, .unset, .unset, .unset, .unset, .unset, .unset, .unset, .unset, .unset, .unset, .unset] [(.int (2 : Int32))])) rfl (hb hby at_26) rfl (by decide) (cap := 2) (by decide) (by decide) (by decide) (by decide)
      obtain ⟨b206, g206⟩ : ∃ z, z = h0.size := ⟨_, rfl⟩
      rw [← g206] at A206 st206
      have ge_b206 : n0 ≤ b206 := Nat.le_trans Z0 (Nat.le_of_eq g206.symm)
      have sz_b206 : h0.size ≤ b206 := Nat.le_trans (Keep.refl h0 []).1 (Nat.le_of_eq g206.symm)
      have Z207 := Nat.le_trans Z0 X_206.1
      have K207 : Keep h0 h206 [] := (Keep.refl h0 []).ext X_206
      have V206 : Arv Z h206 b206 k206 .long (2 : Int32) [(.long (0 : Int64)), (.long (0 : Int64))] (.long (0 : Int64)) := (Arv.new A206 (by decide)).pad (pad_rep [] (.long (0 : Int64)) 2)
      refine Go.by st206 ?_
      show Go _ _ _ _ _ _ _ (T206.setTop (mkF m 28 #[.val (.int k0), .val (.long t0), .second, .val (.long t1), .second, .val (.long t2), .second, .val (.long s0), .second, .val (.long s1), .second, .val (.int (2 : Int32)), .val (.int (1 : Int32)), .val (.long (t0 - s1)), .second, .unset, .unset, .unset, .unset, .unset, .unset, .unset, .unset, .unset, .unset, .unset, .unset, .unset, .unset] [(.ref b206)]))
      refine Go.by (fun _ kont => XS.astore X206.here hx rfl (hb hby at_28) rfl rfl (l' := #[.val (.int k0), .val (.long t0), .second, .val (.long t1), .second, .val (.long t2), .second, .val (.long s0), .second, .val (.long s1), .second, .val (.int (2 : Int32)), .val (.int (1 : Int32)), .val (.long (t0 - s1)), .second, .val (.ref b206), .unset, .unset, .unset, .unset, .unset, .unset, .unset, .unset, .unset, .unset, .unset, .unset, .unset]) rfl (XS.iload X206.here hx rfl (hb hby at_30) rfl kont)) ?_
      show Go _ _ _ _ _ _ _ (T206.setTop (mkF m 32 #[.val (.int k0), .val (.long t0), .second, .val (.long t1), .second, .val (.long t2), .second, .val (.long s0), .second, .val (.long s1), .second, .val (.int (2 : Int32)), .val (.int (1 : Int32)), .val (.long (t0 - s1)), .second, .val (.ref b206), .unset, .unset, .unset, .unset, .unset, .unset, .unset, .unset, .unset, .unset, .unset, .unset, .unset] [(.int (2 : Int32))]))
      obtain ⟨T208, h208, k208, X208, e208, X_208, A208, st208⟩ := newP X206 hx hZ (hw _ (List.mem_of_getElem? (i := 0) rfl)) e206 (g := (mkF m 32 #[.val (.int k0), .val (.long t0), .second, .val (.long t1), .second, .val (.long t2), .second, .val (.long s0), .second, .val (.long s1), .second, .val (.int (2 : Int32)), .val (.int (1 : Int32)), .val (.long (t0 - s1)), .second, .val (.ref b206), .unset, .unset, .unset, .unset, .unset, .unset, .unset, .unset, .unset, .unset, .unset, .unset, .unset] [(.int (2 : Int32))])) rfl (hb hby at_32) rfl (by decide) (cap := 2) (by decide) (by decide) (by decide) (by decide)
      obtain ⟨b208, g208⟩ : ∃ z, z = h206.size := ⟨_, rfl⟩
      rw [← g208] at A208 st208
      have ne_b206_b208 : b206 ≠ b208 := Nat.ne_of_lt (Nat.lt_of_lt_of_le V206.lt (Nat.le_of_eq g208.symm))
      have ge_b208 : n0 ≤ b208 := Nat.le_trans Z207 (Nat.le_of_eq g208.symm)
      have sz_b208 : h0.size ≤ b208 := Nat.le_trans K207.1 (Nat.le_of_eq g208.symm)
      have V209_b206 := V206.ext X_208
      have Z209 := Nat.le_trans Z207 X_208.1
      have K209 : Keep h0 h208 [] := K207.ext X_208
      have V208 : Arv Z h208 b208 k208 .long (2 : Int32) [(.long (0 : Int64)), (.long (0 : Int64))] (.long (0 : Int64)) := (Arv.new A208 (by decide)).pad (pad_rep [] (.long (0 : Int64)) 2)
      refine Go.by st208 ?_
      show Go _ _ _ _ _ _ _ (T208.setTop (mkF m 34 #[.val (.int k0), .val (.long t0), .second, .val (.long t1), .second, .val (.long t2), .second, .val (.long s0), .second, .val (.long s1), .second, .val (.int (2 : Int32)), .val (.int (1 : Int32)), .val (.long (t0 - s1)), .second, .val (.ref b206), .unset, .unset, .unset, .unset, .unset, .unset, .unset, .unset, .unset, .unset, .unset, .unset, .unset] [(.ref b208)]))
      refine Go.by (fun _ kont => XS.astore X208.here hx rfl (hb hby at_34) rfl rfl (l' := #[.val (.int k0), .val (.long t0), .second, .val (.long t1), .second, .val (.long t2), .second, .val (.long s0), .second, .val (.long s1), .second, .val (.int (2 : Int32)), .val (.int (1 : Int32)), .val (.long (t0 - s1)), .second, .val (.ref b206), .val (.ref b208), .unset, .unset, .unset, .unset, .unset, .unset, .unset, .unset, .unset, .unset, .unset, .unset]) rfl (XS.iload X208.here hx rfl (hb hby at_36) rfl kont)) ?_
      show Go _ _ _ _ _ _ _ (T208.setTop (mkF m 38 #[.val (.int k0), .val (.long t0), .second, .val (.long t1), .second, .val (.long t2), .second, .val (.long s0), .second, .val (.long s1), .second, .val (.int (2 : Int32)), .val (.int (1 : Int32)), .val (.long (t0 - s1)), .second, .val (.ref b206), .val (.ref b208), .unset, .unset, .unset, .unset, .unset, .unset, .unset, .unset, .unset, .unset, .unset, .unset] [(.int (2 : Int32))]))
      refine Go.by (fun _ kont => XS.ifNo X208.here hx rfl (hb hby at_38) rfl (by decide) kont) ?_
      show Go _ _ _ _ _ _ _ (T208.setTop (mkF m 41 #[.val (.int k0), .val (.long t0), .second, .val (.long t1), .second, .val (.long t2), .second, .val (.long s0), .second, .val (.long s1), .second, .val (.int (2 : Int32)), .val (.int (1 : Int32)), .val (.long (t0 - s1)), .second, .val (.ref b206), .val (.ref b208), .unset, .unset, .unset, .unset, .unset, .unset, .unset, .unset, .unset, .unset, .unset, .unset] []))
      refine Go.by (fun _ kont => XS.aload X208.here hx rfl (hb hby at_41) rfl rfl (XS.iconst X208.here hx rfl (hb hby at_43) (XS.lloadN X208.here hx rfl (hb hby at_44) rfl kont))) ?_
      show Go _ _ _ _ _ _ _ (T208.setTop (mkF m 45 #[.val (.int k0), .val (.long t0), .second, .val (.long t1), .second, .val (.long t2), .second, .val (.long s0), .second, .val (.long s1), .second, .val (.int (2 : Int32)), .val (.int (1 : Int32)), .val (.long (t0 - s1)), .second, .val (.ref b206), .val (.ref b208), .unset, .unset, .unset, .unset, .unset, .unset, .unset, .unset, .unset, .unset, .unset, .unset] [(.long t0), (.int (0 : Int32)), (.ref b206)]))
      obtain ⟨cl_q210, Ar_q210, q1_q210, S_q210, N_q210, H_q210, G_q210⟩ := id V209_b206
      have hin_q210 : ¬ ((0 : Int32) < 0 ∨ cl_q210.slots.size ≤ ((0 : Int32)).toNatClampNeg) := inb_of S_q210 ⟨by decide, by decide⟩
      obtain ⟨T211, h211, X211, e211, W211, st211⟩ := stJ X208 hx hZ e208 Ar_q210 (j := (0 : Int32)) hin_q210 (g := (mkF m 45 #[.val (.int k0), .val (.long t0), .second, .val (.long t1), .second, .val (.long t2), .second, .val (.long s0), .second, .val (.long s1), .second, .val (.int (2 : Int32)), .val (.int (1 : Int32)), .val (.long (t0 - s1)), .second, .val (.ref b206), .val (.ref b208), .unset, .unset, .unset, .unset, .unset, .unset, .unset, .unset, .unset, .unset, .unset, .unset] [(.long t0), (.int (0 : Int32)), (.ref b206)])) rfl rfl (hb hby at_45)
      have V211 : Arv Z h211 b206 k206 .long (2 : Int32) [(.long t0), (.long (0 : Int64))] (.long (0 : Int64)) := Arv.set Ar_q210 q1_q210 S_q210 N_q210 H_q210 G_q210 rfl W211 0 rfl (Nat.le_of_ble_eq_true rfl)
      have V212_b208 := V208.other W211 (Ne.symm ne_b206_b208)
      have Z212 := Nat.le_trans Z209 (Keep.of_wr W211).1
      have K212 : Keep h0 h211 [] := K209.wr W211 (Or.inr sz_b206)
      have N211 := Fr.snoc X211 N0 ge_b206
      refine Go.by st211 ?_
      show Go _ _ _ _ _ _ _ (T211.setTop (mkF m 46 #[.val (.int k0), .val (.long t0), .second, .val (.long t1), .second, .val (.long t2), .second, .val (.long s0), .second, .val (.long s1), .second, .val (.int (2 : Int32)), .val (.int (1 : Int32)), .val (.long (t0 - s1)), .second, .val (.ref b206), .val (.ref b208), .unset, .unset, .unset, .unset, .unset, .unset, .unset, .unset, .unset, .unset, .unset, .unset] []))
      refine Go.by (fun _ kont => XS.aload X211.here hx rfl (hb hby at_46) rfl rfl (XS.iconst X211.here hx rfl (hb hby at_48) (XS.lload X211.here hx rfl (hb hby at_49) rfl kont))) ?_
      show Go _ _ _ _ _ _ _ (T211.setTop (mkF m 51 #[.val (.int k0), .val (.long t0), .second, .val (.long t1), .second, .val (.long t2), .second, .val (.long s0), .second, .val (.long s1), .second, .val (.int (2 : Int32)), .val (.int (1 : Int32)), .val (.long (t0 - s1)), .second, .val (.ref b206), .val (.ref b208), .unset, .unset, .unset, .unset, .unset, .unset, .unset, .unset, .unset, .unset, .unset, .unset] [(.long s0), (.int (0 : Int32)), (.ref b208)]))
      obtain ⟨cl_q213, Ar_q213, q1_q213, S_q213, N_q213, H_q213, G_q213⟩ := id V212_b208
      have hin_q213 : ¬ ((0 : Int32) < 0 ∨ cl_q213.slots.size ≤ ((0 : Int32)).toNatClampNeg) := inb_of S_q213 ⟨by decide, by decide⟩
      obtain ⟨T214, h214, X214, e214, W214, st214⟩ := stJ X211 hx hZ e211 Ar_q213 (j := (0 : Int32)) hin_q213 (g := (mkF m 51 #[.val (.int k0), .val (.long t0), .second, .val (.long t1), .second, .val (.long t2), .second, .val (.long s0), .second, .val (.long s1), .second, .val (.int (2 : Int32)), .val (.int (1 : Int32)), .val (.long (t0 - s1)), .second, .val (.ref b206), .val (.ref b208), .unset, .unset, .unset, .unset, .unset, .unset, .unset, .unset, .unset, .unset, .unset, .unset] [(.long s0), (.int (0 : Int32)), (.ref b208)])) rfl rfl (hb hby at_51)
      have V214 : Arv Z h214 b208 k208 .long (2 : Int32) [(.long s0), (.long (0 : Int64))] (.long (0 : Int64)) := Arv.set Ar_q213 q1_q213 S_q213 N_q213 H_q213 G_q213 rfl W214 0 rfl (Nat.le_of_ble_eq_true rfl)
      have V215_b206 := V211.other W214 ne_b206_b208
      have Z215 := Nat.le_trans Z212 (Keep.of_wr W214).1
      have K215 : Keep h0 h214 [] := K212.wr W214 (Or.inr sz_b208)
      have N214 := Fr.snoc X214 N211 ge_b208
      refine Go.by st214 ?_
      show Go _ _ _ _ _ _ _ (T214.setTop (mkF m 52 #[.val (.int k0), .val (.long t0), .second, .val (.long t1), .second, .val (.long t2), .second, .val (.long s0), .second, .val (.long s1), .second, .val (.int (2 : Int32)), .val (.int (1 : Int32)), .val (.long (t0 - s1)), .second, .val (.ref b206), .val (.ref b208), .unset, .unset, .unset, .unset, .unset, .unset, .unset, .unset, .unset, .unset, .unset, .unset] []))
      refine Go.by (fun _ kont => XS.iload X214.here hx rfl (hb hby at_52) rfl (XS.iconst X214.here hx rfl (hb hby at_54) kont)) ?_
      show Go _ _ _ _ _ _ _ (T214.setTop (mkF m 55 #[.val (.int k0), .val (.long t0), .second, .val (.long t1), .second, .val (.long t2), .second, .val (.long s0), .second, .val (.long s1), .second, .val (.int (2 : Int32)), .val (.int (1 : Int32)), .val (.long (t0 - s1)), .second, .val (.ref b206), .val (.ref b208), .unset, .unset, .unset, .unset, .unset, .unset, .unset, .unset, .unset, .unset, .unset, .unset] [(.int (1 : Int32)), (.int (2 : Int32))]))
      refine Go.by (fun _ kont => XS.icmpNo X214.here hx rfl (hb hby at_55) rfl (by decide) kont) ?_
      show Go _ _ _ _ _ _ _ (T214.setTop (mkF m 58 #[.val (.int k0), .val (.long t0), .second, .val (.long t1), .second, .val (.long t2), .second, .val (.long s0), .second, .val (.long s1), .second, .val (.int (2 : Int32)), .val (.int (1 : Int32)), .val (.long (t0 - s1)), .second, .val (.ref b206), .val (.ref b208), .unset, .unset, .unset, .unset, .unset, .unset, .unset, .unset, .unset, .unset, .unset, .unset] []))
      refine Go.by (fun _ kont => XS.aload X214.here hx rfl (hb hby at_58) rfl rfl (XS.iconst X214.here hx rfl (hb hby at_60) (XS.lloadN X214.here hx rfl (hb hby at_61) rfl kont))) ?_
      show Go _ _ _ _ _ _ _ (T214.setTop (mkF m 62 #[.val (.int k0), .val (.long t0), .second, .val (.long t1), .second, .val (.long t2), .second, .val (.long s0), .second, .val (.long s1), .second, .val (.int (2 : Int32)), .val (.int (1 : Int32)), .val (.long (t0 - s1)), .second, .val (.ref b206), .val (.ref b208), .unset, .unset, .unset, .unset, .unset, .unset, .unset, .unset, .unset, .unset, .unset, .unset] [(.long t1), (.int (1 : Int32)), (.ref b206)]))
      obtain ⟨cl_q216, Ar_q216, q1_q216, S_q216, N_q216, H_q216, G_q216⟩ := id V215_b206
      have hin_q216 : ¬ ((1 : Int32) < 0 ∨ cl_q216.slots.size ≤ ((1 : Int32)).toNatClampNeg) := inb_of S_q216 ⟨by decide, by decide⟩
      obtain ⟨T217, h217, X217, e217, W217, st217⟩ := stJ X214 hx hZ e214 Ar_q216 (j := (1 : Int32)) hin_q216 (g := (mkF m 62 #[.val (.int k0), .val (.long t0), .second, .val (.long t1), .second, .val (.long t2), .second, .val (.long s0), .second, .val (.long s1), .second, .val (.int (2 : Int32)), .val (.int (1 : Int32)), .val (.long (t0 - s1)), .second, .val (.ref b206), .val (.ref b208), .unset, .unset, .unset, .unset, .unset, .unset, .unset, .unset, .unset, .unset, .unset, .unset] [(.long t1), (.int (1 : Int32)), (.ref b206)])) rfl rfl (hb hby at_62)
      have V217 : Arv Z h217 b206 k206 .long (2 : Int32) [(.long t0), (.long t1)] (.long (0 : Int64)) := Arv.set Ar_q216 q1_q216 S_q216 N_q216 H_q216 G_q216 rfl W217 1 rfl (Nat.le_of_ble_eq_true rfl)
      have V218_b208 := V214.other W217 (Ne.symm ne_b206_b208)
      have Z218 := Nat.le_trans Z215 (Keep.of_wr W217).1
      have K218 : Keep h0 h217 [] := K215.wr W217 (Or.inr sz_b206)
      have N217 := Fr.snoc X217 N214 ge_b206
      refine Go.by st217 ?_
      show Go _ _ _ _ _ _ _ (T217.setTop (mkF m 63 #[.val (.int k0), .val (.long t0), .second, .val (.long t1), .second, .val (.long t2), .second, .val (.long s0), .second, .val (.long s1), .second, .val (.int (2 : Int32)), .val (.int (1 : Int32)), .val (.long (t0 - s1)), .second, .val (.ref b206), .val (.ref b208), .unset, .unset, .unset, .unset, .unset, .unset, .unset, .unset, .unset, .unset, .unset, .unset] []))
      refine Go.by (fun _ kont => XS.aload X217.here hx rfl (hb hby at_63) rfl rfl (XS.iconst X217.here hx rfl (hb hby at_65) (XS.lload X217.here hx rfl (hb hby at_66) rfl kont))) ?_
      show Go _ _ _ _ _ _ _ (T217.setTop (mkF m 68 #[.val (.int k0), .val (.long t0), .second, .val (.long t1), .second, .val (.long t2), .second, .val (.long s0), .second, .val (.long s1), .second, .val (.int (2 : Int32)), .val (.int (1 : Int32)), .val (.long (t0 - s1)), .second, .val (.ref b206), .val (.ref b208), .unset, .unset, .unset, .unset, .unset, .unset, .unset, .unset, .unset, .unset, .unset, .unset] [(.long s1), (.int (1 : Int32)), (.ref b208)]))
      obtain ⟨cl_q219, Ar_q219, q1_q219, S_q219, N_q219, H_q219, G_q219⟩ := id V218_b208
      have hin_q219 : ¬ ((1 : Int32) < 0 ∨ cl_q219.slots.size ≤ ((1 : Int32)).toNatClampNeg) := inb_of S_q219 ⟨by decide, by decide⟩
      obtain ⟨T220, h220, X220, e220, W220, st220⟩ := stJ X217 hx hZ e217 Ar_q219 (j := (1 : Int32)) hin_q219 (g := (mkF m 68 #[.val (.int k0), .val (.long t0), .second, .val (.long t1), .second, .val (.long t2), .second, .val (.long s0), .second, .val (.long s1), .second, .val (.int (2 : Int32)), .val (.int (1 : Int32)), .val (.long (t0 - s1)), .second, .val (.ref b206), .val (.ref b208), .unset, .unset, .unset, .unset, .unset, .unset, .unset, .unset, .unset, .unset, .unset, .unset] [(.long s1), (.int (1 : Int32)), (.ref b208)])) rfl rfl (hb hby at_68)
      have V220 : Arv Z h220 b208 k208 .long (2 : Int32) [(.long s0), (.long s1)] (.long (0 : Int64)) := Arv.set Ar_q219 q1_q219 S_q219 N_q219 H_q219 G_q219 rfl W220 1 rfl (Nat.le_of_ble_eq_true rfl)
      have V221_b206 := V217.other W220 ne_b206_b208
      have Z221 := Nat.le_trans Z218 (Keep.of_wr W220).1
      have K221 : Keep h0 h220 [] := K218.wr W220 (Or.inr sz_b208)
      have N220 := Fr.snoc X220 N217 ge_b208
      refine Go.by st220 ?_
      show Go _ _ _ _ _ _ _ (T220.setTop (mkF m 69 #[.val (.int k0), .val (.long t0), .second, .val (.long t1), .second, .val (.long t2), .second, .val (.long s0), .second, .val (.long s1), .second, .val (.int (2 : Int32)), .val (.int (1 : Int32)), .val (.long (t0 - s1)), .second, .val (.ref b206), .val (.ref b208), .unset, .unset, .unset, .unset, .unset, .unset, .unset, .unset, .unset, .unset, .unset, .unset] []))
      refine Go.by (fun _ kont => XS.iload X220.here hx rfl (hb hby at_69) rfl (XS.iconst X220.here hx rfl (hb hby at_71) kont)) ?_
      show Go _ _ _ _ _ _ _ (T220.setTop (mkF m 72 #[.val (.int k0), .val (.long t0), .second, .val (.long t1), .second, .val (.long t2), .second, .val (.long s0), .second, .val (.long s1), .second, .val (.int (2 : Int32)), .val (.int (1 : Int32)), .val (.long (t0 - s1)), .second, .val (.ref b206), .val (.ref b208), .unset, .unset, .unset, .unset, .unset, .unset, .unset, .unset, .unset, .unset, .unset, .unset] [(.int (2 : Int32)), (.int (2 : Int32))]))
      refine Go.by (fun _ kont => XS.icmpYes X220.here hx rfl (pc0 := 72) (pc' := 87) rfl (hb hby at_72) rfl (by decide) (by decide) (by decide) kont) ?_
      show Go _ _ _ _ _ _ _ (T220.setTop (mkF m 87 #[.val (.int k0), .val (.long t0), .second, .val (.long t1), .second, .val (.long t2), .second, .val (.long s0), .second, .val (.long s1), .second, .val (.int (2 : Int32)), .val (.int (1 : Int32)), .val (.long (t0 - s1)), .second, .val (.ref b206), .val (.ref b208), .unset, .unset, .unset, .unset, .unset, .unset, .unset, .unset, .unset, .unset, .unset, .unset] []))
      refine Go.by (fun _ kont => XS.iload X220.here hx rfl (hb hby at_87) rfl kont) ?_
      show Go _ _ _ _ _ _ _ (T220.setTop (mkF m 89 #[.val (.int k0), .val (.long t0), .second, .val (.long t1), .second, .val (.long t2), .second, .val (.long s0), .second, .val (.long s1), .second, .val (.int (2 : Int32)), .val (.int (1 : Int32)), .val (.long (t0 - s1)), .second, .val (.ref b206), .val (.ref b208), .unset, .unset, .unset, .unset, .unset, .unset, .unset, .unset, .unset, .unset, .unset, .unset] [(.int (1 : Int32))]))
      refine Go.by (fun _ kont => XS.ifNo X220.here hx rfl (hb hby at_89) rfl (by decide) kont) ?_
      show Go _ _ _ _ _ _ _ (T220.setTop (mkF m 92 #[.val (.int k0), .val (.long t0), .second, .val (.long t1), .second, .val (.long t2), .second, .val (.long s0), .second, .val (.long s1), .second, .val (.int (2 : Int32)), .val (.int (1 : Int32)), .val (.long (t0 - s1)), .second, .val (.ref b206), .val (.ref b208), .unset, .unset, .unset, .unset, .unset, .unset, .unset, .unset, .unset, .unset, .unset, .unset] []))
      refine Go.by (fun _ kont => XS.aload X220.here hx rfl (hb hby at_92) rfl rfl (XS.aload X220.here hx rfl (hb hby at_94) rfl rfl kont)) ?_
      show Go _ _ _ _ _ _ _ (T220.setTop (mkF m 96 #[.val (.int k0), .val (.long t0), .second, .val (.long t1), .second, .val (.long t2), .second, .val (.long s0), .second, .val (.long s1), .second, .val (.int (2 : Int32)), .val (.int (1 : Int32)), .val (.long (t0 - s1)), .second, .val (.ref b206), .val (.ref b208), .unset, .unset, .unset, .unset, .unset, .unset, .unset, .unset, .unset, .unset, .unset, .unset] [(.ref b206), (.ref b206)]))
      obtain ⟨_, _, ⟨T222, L222, k222, n222⟩, -, X222, ⟨Lc222, hQ222, l222, y222, z222⟩, st222⟩ := Jvm.LawKit.callS X220 hx (y := (⟨"com/example/runs_to_nets/runstonets/core/Gf2Basis", "xor", "([J[J)V"⟩ : MethodName)) hown (mvT hZ (hw _ (List.mem_of_getElem? (i := 1) rfl))) (mvT hZ (hw _ (List.mem_of_getElem? (i := 2) rfl))) (mvT hZ (hw _ (List.mem_of_getElem? (i := 3) rfl))) (mvT hZ (hw _ (List.mem_of_getElem? (i := 4) rfl))) (by decide) (backOf (W := 0) (rmXA2 l Z a0 hw [] b206 k206 t0 t1 h220 n0 Z221 V221_b206 ge_b206) hZ (hw _ (List.mem_of_getElem? (i := 4) rfl)) (hw _ (List.mem_of_getElem? (i := 3) rfl)) (by decide) (by decide)) (g := (mkF m 96 #[.val (.int k0), .val (.long t0), .second, .val (.long t1), .second, .val (.long t2), .second, .val (.long s0), .second, .val (.long s1), .second, .val (.int (2 : Int32)), .val (.int (1 : Int32)), .val (.long (t0 - s1)), .second, .val (.ref b206), .val (.ref b208), .unset, .unset, .unset, .unset, .unset, .unset, .unset, .unset, .unset, .unset, .unset, .unset] [(.ref b206), (.ref b206)])) rfl (by rw [hml]; rfl) (argsL := [(.ref b206), (.ref b206)]) (rest := []) (lenOf pd0_0 rfl) rfl (by show 2 * 0 + _ ≤ _; exact Nat.le_of_eq rfl) (hb hby at_96) (fun _ _ => ⟨rfl, e220, (by decide : 2 + 0 ≤ _), (by decide : 4 + 0 ≤ _)⟩)
      dsimp only [Pt.U, Pt.locs, Pt.cells, Pt.slots] at X222 l222 y222 z222 st222 hQ222
      subst l222 y222 z222
      obtain ⟨rfl, N222q, K222, g222_0⟩ := hQ222
      have V223_b208 := V220.keep K222 (ninS (Ne.symm ne_b206_b208) nin0)
      have Z223 := Nat.le_trans Z221 K222.1
      have K223 : Keep h0 T222.heap [] := Keep.trans K221 K222 (allS (Or.inr sz_b206) all0)
      have N222 := Fr.app N220 N222q
      refine Go.by st222 ?_
      show Go _ _ _ _ _ _ _ (T222.setTop (mkF m 99 #[.val (.int k0), .val (.long t0), .second, .val (.long t1), .second, .val (.long t2), .second, .val (.long s0), .second, .val (.long s1), .second, .val (.int (2 : Int32)), .val (.int (1 : Int32)), .val (.long (t0 - s1)), .second, .val (.ref b206), .val (.ref b208), .unset, .unset, .unset, .unset, .unset, .unset, .unset, .unset, .unset, .unset, .unset, .unset] []))
      refine Go.by (fun _ kont => XS.aload X222.here hx rfl (hb hby at_99) rfl rfl kont) ?_
      show Go _ _ _ _ _ _ _ (T222.setTop (mkF m 101 #[.val (.int k0), .val (.long t0), .second, .val (.long t1), .second, .val (.long t2), .second, .val (.long s0), .second, .val (.long s1), .second, .val (.int (2 : Int32)), .val (.int (1 : Int32)), .val (.long (t0 - s1)), .second, .val (.ref b206), .val (.ref b208), .unset, .unset, .unset, .unset, .unset, .unset, .unset, .unset, .unset, .unset, .unset, .unset] [(.ref b206)]))
      obtain ⟨cl_q224, Ar_q224, q1_q224, S_q224, N_q224, H_q224, G_q224⟩ := id g222_0
      refine Go.by (X222.arraylength hx (by first | exact Ar_q224.1 | (rw [rfl]; exact Ar_q224.1)) (State.isArrayOf_alike hZ.alike Ar_q224.2.1) (g := (mkF m 101 #[.val (.int k0), .val (.long t0), .second, .val (.long t1), .second, .val (.long t2), .second, .val (.long s0), .second, .val (.long s1), .second, .val (.int (2 : Int32)), .val (.int (1 : Int32)), .val (.long (t0 - s1)), .second, .val (.ref b206), .val (.ref b208), .unset, .unset, .unset, .unset, .unset, .unset, .unset, .unset, .unset, .unset, .unset, .unset] [(.ref b206)])) rfl rfl (hb hby at_101)) ?_
      rw [len_of S_q224 N_q224]
      show Go _ _ _ _ _ _ _ (T222.setTop (mkF m 102 #[.val (.int k0), .val (.long t0), .second, .val (.long t1), .second, .val (.long t2), .second, .val (.long s0), .second, .val (.long s1), .second, .val (.int (2 : Int32)), .val (.int (1 : Int32)), .val (.long (t0 - s1)), .second, .val (.ref b206), .val (.ref b208), .unset, .unset, .unset, .unset, .unset, .unset, .unset, .unset, .unset, .unset, .unset, .unset] [(.int (2 : Int32))]))
      refine Go.by (fun _ kont => XS.iload X222.here hx rfl (hb hby at_102) rfl kont) ?_
      show Go _ _ _ _ _ _ _ (T222.setTop (mkF m 104 #[.val (.int k0), .val (.long t0), .second, .val (.long t1), .second, .val (.long t2), .second, .val (.long s0), .second, .val (.long s1), .second, .val (.int (2 : Int32)), .val (.int (1 : Int32)), .val (.long (t0 - s1)), .second, .val (.ref b206), .val (.ref b208), .unset, .unset, .unset, .unset, .unset, .unset, .unset, .unset, .unset, .unset, .unset, .unset] [(.int (2 : Int32)), (.int (2 : Int32))]))
      refine Go.by (fun _ kont => XS.icmpNo X222.here hx rfl (hb hby at_104) rfl (by decide) kont) ?_
      show Go _ _ _ _ _ _ _ (T222.setTop (mkF m 107 #[.val (.int k0), .val (.long t0), .second, .val (.long t1), .second, .val (.long t2), .second, .val (.long s0), .second, .val (.long s1), .second, .val (.int (2 : Int32)), .val (.int (1 : Int32)), .val (.long (t0 - s1)), .second, .val (.ref b206), .val (.ref b208), .unset, .unset, .unset, .unset, .unset, .unset, .unset, .unset, .unset, .unset, .unset, .unset] []))
      refine Go.by (fun _ kont => XS.aload X222.here hx rfl (hb hby at_107) rfl rfl (XS.iconst X222.here hx rfl (hb hby at_109) kont)) ?_
      show Go _ _ _ _ _ _ _ (T222.setTop (mkF m 110 #[.val (.int k0), .val (.long t0), .second, .val (.long t1), .second, .val (.long t2), .second, .val (.long s0), .second, .val (.long s1), .second, .val (.int (2 : Int32)), .val (.int (1 : Int32)), .val (.long (t0 - s1)), .second, .val (.ref b206), .val (.ref b208), .unset, .unset, .unset, .unset, .unset, .unset, .unset, .unset, .unset, .unset, .unset, .unset] [(.int (0 : Int32)), (.ref b206)]))
      obtain ⟨_, _, ⟨T225, L225, k225, n225⟩, -, X225, ⟨Lc225, hQ225, l225, y225, z225⟩, st225⟩ := Jvm.LawKit.callS X222 hx (y := (⟨"com/example/runs_to_nets/runstonets/core/Gf2BasisXorPinLaw", "word", "([JI)J"⟩ : MethodName)) hown (mvT hZ (hw _ (List.mem_of_getElem? (i := 5) rfl))) (mvT hZ (hw _ (List.mem_of_getElem? (i := 6) rfl))) (mvT hZ (hw _ (List.mem_of_getElem? (i := 7) rfl))) (mvT hZ (hw _ (List.mem_of_getElem? (i := 8) rfl))) (by decide) (backOf (W := 0) (rmW20 l Z a0 hw [] b206 k206 (t0 ^^^ t0) (t1 ^^^ t1) T222.heap n0 Z223 g222_0) hZ (hw _ (List.mem_of_getElem? (i := 8) rfl)) (hw _ (List.mem_of_getElem? (i := 7) rfl)) (by decide) (by decide)) (g := (mkF m 110 #[.val (.int k0), .val (.long t0), .second, .val (.long t1), .second, .val (.long t2), .second, .val (.long s0), .second, .val (.long s1), .second, .val (.int (2 : Int32)), .val (.int (1 : Int32)), .val (.long (t0 - s1)), .second, .val (.ref b206), .val (.ref b208), .unset, .unset, .unset, .unset, .unset, .unset, .unset, .unset, .unset, .unset, .unset, .unset] [(.int (0 : Int32)), (.ref b206)])) rfl (by rw [hml]; rfl) (argsL := [(.ref b206), (.int (0 : Int32))]) (rest := []) (lenOf pd0_1 rfl) rfl (by show 2 * 0 + _ ≤ _; exact Nat.le_of_eq rfl) (hb hby at_110) (fun _ _ => ⟨rfl, rfl, (by decide : 2 + 0 ≤ _), (by decide : 4 + 0 ≤ _)⟩)
      dsimp only [Pt.U, Pt.locs, Pt.cells, Pt.slots] at X225 l225 y225 z225 st225 hQ225
      subst l225 y225 z225
      obtain ⟨rfl, N225q, eh225⟩ := hQ225
      have N225 := Fr.app N222 N225q
      refine Go.by st225 ?_
      show Go _ _ _ _ _ _ _ (T225.setTop (mkF m 113 #[.val (.int k0), .val (.long t0), .second, .val (.long t1), .second, .val (.long t2), .second, .val (.long s0), .second, .val (.long s1), .second, .val (.int (2 : Int32)), .val (.int (1 : Int32)), .val (.long (t0 - s1)), .second, .val (.ref b206), .val (.ref b208), .unset, .unset, .unset, .unset, .unset, .unset, .unset, .unset, .unset, .unset, .unset, .unset] [(.long (t0 ^^^ t0))]))
      refine Go.by (fun _ kont => XS.lconst X225.here hx rfl (hb hby at_113) (XS.lcmp X225.here hx rfl (hb hby at_114) rfl kont)) ?_
      show Go _ _ _ _ _ _ _ (T225.setTop (mkF m 115 #[.val (.int k0), .val (.long t0), .second, .val (.long t1), .second, .val (.long t2), .second, .val (.long s0), .second, .val (.long s1), .second, .val (.int (2 : Int32)), .val (.int (1 : Int32)), .val (.long (t0 - s1)), .second, .val (.ref b206), .val (.ref b208), .unset, .unset, .unset, .unset, .unset, .unset, .unset, .unset, .unset, .unset, .unset, .unset] [(.int (lcmpW (t0 ^^^ t0) (0 : Int64)))]))
      have hd226 : (t0 ^^^ t0) = (0 : Int64) := Int64.xor_self
      refine Go.by (fun _ kont => XS.ifNo X225.here hx rfl (hb hby at_115) rfl ((if0 _ _).trans (teq ((lw_eq _ _).mpr hd226)).2) kont) ?_
      show Go _ _ _ _ _ _ _ (T225.setTop (mkF m 118 #[.val (.int k0), .val (.long t0), .second, .val (.long t1), .second, .val (.long t2), .second, .val (.long s0), .second, .val (.long s1), .second, .val (.int (2 : Int32)), .val (.int (1 : Int32)), .val (.long (t0 - s1)), .second, .val (.ref b206), .val (.ref b208), .unset, .unset, .unset, .unset, .unset, .unset, .unset, .unset, .unset, .unset, .unset, .unset] []))
      refine Go.by (fun _ kont => XS.aload X225.here hx rfl (hb hby at_118) rfl rfl (XS.iconst X225.here hx rfl (hb hby at_120) kont)) ?_
      show Go _ _ _ _ _ _ _ (T225.setTop (mkF m 121 #[.val (.int k0), .val (.long t0), .second, .val (.long t1), .second, .val (.long t2), .second, .val (.long s0), .second, .val (.long s1), .second, .val (.int (2 : Int32)), .val (.int (1 : Int32)), .val (.long (t0 - s1)), .second, .val (.ref b206), .val (.ref b208), .unset, .unset, .unset, .unset, .unset, .unset, .unset, .unset, .unset, .unset, .unset, .unset] [(.int (1 : Int32)), (.ref b206)]))
      obtain ⟨_, _, ⟨T227, L227, k227, n227⟩, -, X227, ⟨Lc227, hQ227, l227, y227, z227⟩, st227⟩ := Jvm.LawKit.callS X225 hx (y := (⟨"com/example/runs_to_nets/runstonets/core/Gf2BasisXorPinLaw", "word", "([JI)J"⟩ : MethodName)) hown (mvT hZ (hw _ (List.mem_of_getElem? (i := 5) rfl))) (mvT hZ (hw _ (List.mem_of_getElem? (i := 6) rfl))) (mvT hZ (hw _ (List.mem_of_getElem? (i := 7) rfl))) (mvT hZ (hw _ (List.mem_of_getElem? (i := 8) rfl))) (by decide) (backOf (W := 0) (rmW21 l Z a0 hw [] b206 k206 (t0 ^^^ t0) (t1 ^^^ t1) T222.heap n0 Z223 g222_0) hZ (hw _ (List.mem_of_getElem? (i := 8) rfl)) (hw _ (List.mem_of_getElem? (i := 7) rfl)) (by decide) (by decide)) (g := (mkF m 121 #[.val (.int k0), .val (.long t0), .second, .val (.long t1), .second, .val (.long t2), .second, .val (.long s0), .second, .val (.long s1), .second, .val (.int (2 : Int32)), .val (.int (1 : Int32)), .val (.long (t0 - s1)), .second, .val (.ref b206), .val (.ref b208), .unset, .unset, .unset, .unset, .unset, .unset, .unset, .unset, .unset, .unset, .unset, .unset] [(.int (1 : Int32)), (.ref b206)])) rfl (by rw [hml]; rfl) (argsL := [(.ref b206), (.int (1 : Int32))]) (rest := []) (lenOf pd0_1 rfl) rfl (by show 2 * 0 + _ ≤ _; exact Nat.le_of_eq rfl) (hb hby at_121) (fun _ _ => ⟨rfl, eh225, (by decide : 2 + 0 ≤ _), (by decide : 4 + 0 ≤ _)⟩)
      dsimp only [Pt.U, Pt.locs, Pt.cells, Pt.slots] at X227 l227 y227 z227 st227 hQ227
      subst l227 y227 z227
      obtain ⟨rfl, N227q, eh227⟩ := hQ227
      have N227 := Fr.app N225 N227q
      refine Go.by st227 ?_
      show Go _ _ _ _ _ _ _ (T227.setTop (mkF m 124 #[.val (.int k0), .val (.long t0), .second, .val (.long t1), .second, .val (.long t2), .second, .val (.long s0), .second, .val (.long s1), .second, .val (.int (2 : Int32)), .val (.int (1 : Int32)), .val (.long (t0 - s1)), .second, .val (.ref b206), .val (.ref b208), .unset, .unset, .unset, .unset, .unset, .unset, .unset, .unset, .unset, .unset, .unset, .unset] [(.long (t1 ^^^ t1))]))
      refine Go.by (fun _ kont => XS.lconst X227.here hx rfl (hb hby at_124) (XS.lcmp X227.here hx rfl (hb hby at_125) rfl kont)) ?_
      show Go _ _ _ _ _ _ _ (T227.setTop (mkF m 126 #[.val (.int k0), .val (.long t0), .second, .val (.long t1), .second, .val (.long t2), .second, .val (.long s0), .second, .val (.long s1), .second, .val (.int (2 : Int32)), .val (.int (1 : Int32)), .val (.long (t0 - s1)), .second, .val (.ref b206), .val (.ref b208), .unset, .unset, .unset, .unset, .unset, .unset, .unset, .unset, .unset, .unset, .unset, .unset] [(.int (lcmpW (t1 ^^^ t1) (0 : Int64)))]))
      have hd228 : (t1 ^^^ t1) = (0 : Int64) := Int64.xor_self
      refine Go.by (fun _ kont => XS.ifNo X227.here hx rfl (hb hby at_126) rfl ((if0 _ _).trans (teq ((lw_eq _ _).mpr hd228)).2) kont) ?_
      show Go _ _ _ _ _ _ _ (T227.setTop (mkF m 129 #[.val (.int k0), .val (.long t0), .second, .val (.long t1), .second, .val (.long t2), .second, .val (.long s0), .second, .val (.long s1), .second, .val (.int (2 : Int32)), .val (.int (1 : Int32)), .val (.long (t0 - s1)), .second, .val (.ref b206), .val (.ref b208), .unset, .unset, .unset, .unset, .unset, .unset, .unset, .unset, .unset, .unset, .unset, .unset] []))
      refine Go.by (fun _ kont => XS.aload X227.here hx rfl (hb hby at_129) rfl rfl (XS.iconst X227.here hx rfl (hb hby at_131) kont)) ?_
      show Go _ _ _ _ _ _ _ (T227.setTop (mkF m 132 #[.val (.int k0), .val (.long t0), .second, .val (.long t1), .second, .val (.long t2), .second, .val (.long s0), .second, .val (.long s1), .second, .val (.int (2 : Int32)), .val (.int (1 : Int32)), .val (.long (t0 - s1)), .second, .val (.ref b206), .val (.ref b208), .unset, .unset, .unset, .unset, .unset, .unset, .unset, .unset, .unset, .unset, .unset, .unset] [(.int (2 : Int32)), (.ref b206)]))
      obtain ⟨_, _, ⟨T229, L229, k229, n229⟩, -, X229, ⟨Lc229, hQ229, l229, y229, z229⟩, st229⟩ := Jvm.LawKit.callS X227 hx (y := (⟨"com/example/runs_to_nets/runstonets/core/Gf2BasisXorPinLaw", "word", "([JI)J"⟩ : MethodName)) hown (mvT hZ (hw _ (List.mem_of_getElem? (i := 5) rfl))) (mvT hZ (hw _ (List.mem_of_getElem? (i := 6) rfl))) (mvT hZ (hw _ (List.mem_of_getElem? (i := 7) rfl))) (mvT hZ (hw _ (List.mem_of_getElem? (i := 8) rfl))) (by decide) (backOf (W := 0) (rmW22 l Z a0 hw [] b206 k206 (t0 ^^^ t0) (t1 ^^^ t1) T222.heap n0 Z223 g222_0) hZ (hw _ (List.mem_of_getElem? (i := 8) rfl)) (hw _ (List.mem_of_getElem? (i := 7) rfl)) (by decide) (by decide)) (g := (mkF m 132 #[.val (.int k0), .val (.long t0), .second, .val (.long t1), .second, .val (.long t2), .second, .val (.long s0), .second, .val (.long s1), .second, .val (.int (2 : Int32)), .val (.int (1 : Int32)), .val (.long (t0 - s1)), .second, .val (.ref b206), .val (.ref b208), .unset, .unset, .unset, .unset, .unset, .unset, .unset, .unset, .unset, .unset, .unset, .unset] [(.int (2 : Int32)), (.ref b206)])) rfl (by rw [hml]; rfl) (argsL := [(.ref b206), (.int (2 : Int32))]) (rest := []) (lenOf pd0_1 rfl) rfl (by show 2 * 0 + _ ≤ _; exact Nat.le_of_eq rfl) (hb hby at_132) (fun _ _ => ⟨rfl, eh227, (by decide : 2 + 0 ≤ _), (by decide : 4 + 0 ≤ _)⟩)
      dsimp only [Pt.U, Pt.locs, Pt.cells, Pt.slots] at X229 l229 y229 z229 st229 hQ229
      subst l229 y229 z229
      obtain ⟨rfl, N229q, eh229⟩ := hQ229
      have N229 := Fr.app N227 N229q
      refine Go.by st229 ?_
      show Go _ _ _ _ _ _ _ (T229.setTop (mkF m 135 #[.val (.int k0), .val (.long t0), .second, .val (.long t1), .second, .val (.long t2), .second, .val (.long s0), .second, .val (.long s1), .second, .val (.int (2 : Int32)), .val (.int (1 : Int32)), .val (.long (t0 - s1)), .second, .val (.ref b206), .val (.ref b208), .unset, .unset, .unset, .unset, .unset, .unset, .unset, .unset, .unset, .unset, .unset, .unset] [(.long (0 : Int64))]))
      refine Go.by (fun _ kont => XS.lconst X229.here hx rfl (hb hby at_135) (XS.lcmp X229.here hx rfl (hb hby at_136) rfl kont)) ?_
      show Go _ _ _ _ _ _ _ (T229.setTop (mkF m 137 #[.val (.int k0), .val (.long t0), .second, .val (.long t1), .second, .val (.long t2), .second, .val (.long s0), .second, .val (.long s1), .second, .val (.int (2 : Int32)), .val (.int (1 : Int32)), .val (.long (t0 - s1)), .second, .val (.ref b206), .val (.ref b208), .unset, .unset, .unset, .unset, .unset, .unset, .unset, .unset, .unset, .unset, .unset, .unset] [(.int (lcmpW (0 : Int64) (0 : Int64)))]))
      have hd230 : (0 : Int64) = (0 : Int64) := by decide
      refine Go.by (fun _ kont => XS.ifNo X229.here hx rfl (hb hby at_137) rfl ((if0 _ _).trans (teq ((lw_eq _ _).mpr hd230)).2) kont) ?_
      show Go _ _ _ _ _ _ _ (T229.setTop (mkF m 140 #[.val (.int k0), .val (.long t0), .second, .val (.long t1), .second, .val (.long t2), .second, .val (.long s0), .second, .val (.long s1), .second, .val (.int (2 : Int32)), .val (.int (1 : Int32)), .val (.long (t0 - s1)), .second, .val (.ref b206), .val (.ref b208), .unset, .unset, .unset, .unset, .unset, .unset, .unset, .unset, .unset, .unset, .unset, .unset] []))
      refine Go.by (fun _ kont => XS.iconst X229.here hx rfl (hb hby at_140) (XS.goto X229.here hx rfl (pc0 := 141) (pc' := 145) rfl (hb hby at_141) (by decide) (by decide) kont)) ?_
      show Go _ _ _ _ _ _ _ (T229.setTop (mkF m 145 #[.val (.int k0), .val (.long t0), .second, .val (.long t1), .second, .val (.long t2), .second, .val (.long s0), .second, .val (.long s1), .second, .val (.int (2 : Int32)), .val (.int (1 : Int32)), .val (.long (t0 - s1)), .second, .val (.ref b206), .val (.ref b208), .unset, .unset, .unset, .unset, .unset, .unset, .unset, .unset, .unset, .unset, .unset, .unset] [(.int (1 : Int32))]))
      refine Go.retN X229 hx (t := .boolean) hret (by simp) hlk (hb hby at_145) ?_ (by decide) (by decide)
      show Q0 Z h0 n0 (some (.int (1 : Int32))) T229.heap _
      rw [eh229]
      exact ⟨rfl, N229⟩
  · show Go _ _ _ _ _ _ _ (s₁.setTop (mkF m 5 #[.val (.int k0), .val (.long t0), .second, .val (.long t1), .second, .val (.long t2), .second, .val (.long s0), .second, .val (.long s1), .second, .val (.int (3 : Int32)), .unset, .unset, .unset, .unset, .unset, .unset, .unset, .unset, .unset, .unset, .unset, .unset, .unset, .unset, .unset, .unset, .unset] []))
    refine Go.by (fun _ kont => XS.iloadN X0.here hx rfl (hb hby at_5) rfl (XS.iconst X0.here hx rfl (hb hby at_6) (XS.iand X0.here hx rfl (hb hby at_7) rfl kont))) ?_
    show Go _ _ _ _ _ _ _ (s₁.setTop (mkF m 8 #[.val (.int k0), .val (.long t0), .second, .val (.long t1), .second, .val (.long t2), .second, .val (.long s0), .second, .val (.long s1), .second, .val (.int (3 : Int32)), .unset, .unset, .unset, .unset, .unset, .unset, .unset, .unset, .unset, .unset, .unset, .unset, .unset, .unset, .unset, .unset, .unset] [(.int (k0 &&& (4 : Int32)))]))
    by_cases hc231 : (k0 &&& (4 : Int32)) = (0 : Int32)
    · refine Go.by (fun _ kont => XS.ifYes X0.here hx rfl (pc0 := 8) (pc' := 15) rfl (hb hby at_8) rfl ((if0 _ _).trans (teq hc231).1) (by decide) (by decide) kont) ?_
      show Go _ _ _ _ _ _ _ (s₁.setTop (mkF m 15 #[.val (.int k0), .val (.long t0), .second, .val (.long t1), .second, .val (.long t2), .second, .val (.long s0), .second, .val (.long s1), .second, .val (.int (3 : Int32)), .unset, .unset, .unset, .unset, .unset, .unset, .unset, .unset, .unset, .unset, .unset, .unset, .unset, .unset, .unset, .unset, .unset] []))
      refine Go.by (fun _ kont => XS.iconst X0.here hx rfl (hb hby at_15) (XS.istore X0.here hx rfl (hb hby at_16) rfl (l' := #[.val (.int k0), .val (.long t0), .second, .val (.long t1), .second, .val (.long t2), .second, .val (.long s0), .second, .val (.long s1), .second, .val (.int (3 : Int32)), .val (.int (0 : Int32)), .unset, .unset, .unset, .unset, .unset, .unset, .unset, .unset, .unset, .unset, .unset, .unset, .unset, .unset, .unset, .unset]) rfl (XS.lloadN X0.here hx rfl (hb hby at_18) rfl (XS.lload X0.here hx rfl (hb hby at_19) rfl (XS.lsub X0.here hx rfl (hb hby at_21) rfl (XS.lstore X0.here hx rfl (hb hby at_22) rfl (l' := #[.val (.int k0), .val (.long t0), .second, .val (.long t1), .second, .val (.long t2), .second, .val (.long s0), .second, .val (.long s1), .second, .val (.int (3 : Int32)), .val (.int (0 : Int32)), .val (.long (t0 - s1)), .second, .unset, .unset, .unset, .unset, .unset, .unset, .unset, .unset, .unset, .unset, .unset, .unset, .unset, .unset]) rfl kont)))))) ?_
      show Go _ _ _ _ _ _ _ (s₁.setTop (mkF m 24 #[.val (.int k0), .val (.long t0), .second, .val (.long t1), .second, .val (.long t2), .second, .val (.long s0), .second, .val (.long s1), .second, .val (.int (3 : Int32)), .val (.int (0 : Int32)), .val (.long (t0 - s1)), .second, .unset, .unset, .unset, .unset, .unset, .unset, .unset, .unset, .unset, .unset, .unset, .unset, .unset, .unset] []))
      refine Go.by (fun _ kont => XS.iload X0.here hx rfl (hb hby at_24) rfl kont) ?_
      show Go _ _ _ _ _ _ _ (s₁.setTop (mkF m 26 #[.val (.int k0), .val (.long t0), .second, .val (.long t1), .second, .val (.long t2), .second, .val (.long s0), .second, .val (.long s1), .second, .val (.int (3 : Int32)), .val (.int (0 : Int32)), .val (.long (t0 - s1)), .second, .unset, .unset, .unset, .unset, .unset, .unset, .unset, .unset, .unset, .unset, .unset, .unset, .unset, .unset] [(.int (3 : Int32))]))
      obtain ⟨T232, h232, k232, X232, e232, X_232, A232, st232⟩ := newP X0 hx hZ (hw _ (List.mem_of_getElem? (i := 0) rfl)) e0 (g := (mkF m 26 #[.val (.int k0), .val (.long t0), .second, .val (.long t1), .second, .val (.long t2), .second, .val (.long s0), .second, .val (.long s1), .second, .val (.int (3 : Int32)), .val (.int (0 : Int32)), .val (.long (t0 - s1)), .second, .unset, .unset, .unset, .unset, .unset, .unset, .unset, .unset, .unset, .unset, .unset, .unset, .unset, .unset] [(.int (3 : Int32))])) rfl (hb hby at_26) rfl (by decide) (cap := 3) (by decide) (by decide) (by decide) (by decide)
      obtain ⟨b232, g232⟩ : ∃ z, z = h0.size := ⟨_, rfl⟩
      rw [← g232] at A232 st232
      have ge_b232 : n0 ≤ b232 := Nat.le_trans Z0 (Nat.le_of_eq g232.symm)
      have sz_b232 : h0.size ≤ b232 := Nat.le_trans (Keep.refl h0 []).1 (Nat.le_of_eq g232.symm)
      have Z233 := Nat.le_trans Z0 X_232.1
      have K233 : Keep h0 h232 [] := (Keep.refl h0 []).ext X_232
      have V232 : Arv Z h232 b232 k232 .long (3 : Int32) [(.long (0 : Int64)), (.long (0 : Int64)), (.long (0 : Int64))] (.long (0 : Int64)) := (Arv.new A232 (by decide)).pad (pad_rep [] (.long (0 : Int64)) 3)
      refine Go.by st232 ?_
      show Go _ _ _ _ _ _ _ (T232.setTop (mkF m 28 #[.val (.int k0), .val (.long t0), .second, .val (.long t1), .second, .val (.long t2), .second, .val (.long s0), .second, .val (.long s1), .second, .val (.int (3 : Int32)), .val (.int (0 : Int32)), .val (.long (t0 - s1)), .second, .unset, .unset, .unset, .unset, .unset, .unset, .unset, .unset, .unset, .unset, .unset, .unset, .unset, .unset] [(.ref b232)]))
      refine Go.by (fun _ kont => XS.astore X232.here hx rfl (hb hby at_28) rfl rfl (l' := #[.val (.int k0), .val (.long t0), .second, .val (.long t1), .second, .val (.long t2), .second, .val (.long s0), .second, .val (.long s1), .second, .val (.int (3 : Int32)), .val (.int (0 : Int32)), .val (.long (t0 - s1)), .second, .val (.ref b232), .unset, .unset, .unset, .unset, .unset, .unset, .unset, .unset, .unset, .unset, .unset, .unset, .unset]) rfl (XS.iload X232.here hx rfl (hb hby at_30) rfl kont)) ?_
      show Go _ _ _ _ _ _ _ (T232.setTop (mkF m 32 #[.val (.int k0), .val (.long t0), .second, .val (.long t1), .second, .val (.long t2), .second, .val (.long s0), .second, .val (.long s1), .second, .val (.int (3 : Int32)), .val (.int (0 : Int32)), .val (.long (t0 - s1)), .second, .val (.ref b232), .unset, .unset, .unset, .unset, .unset, .unset, .unset, .unset, .unset, .unset, .unset, .unset, .unset] [(.int (3 : Int32))]))
      obtain ⟨T234, h234, k234, X234, e234, X_234, A234, st234⟩ := newP X232 hx hZ (hw _ (List.mem_of_getElem? (i := 0) rfl)) e232 (g := (mkF m 32 #[.val (.int k0), .val (.long t0), .second, .val (.long t1), .second, .val (.long t2), .second, .val (.long s0), .second, .val (.long s1), .second, .val (.int (3 : Int32)), .val (.int (0 : Int32)), .val (.long (t0 - s1)), .second, .val (.ref b232), .unset, .unset, .unset, .unset, .unset, .unset, .unset, .unset, .unset, .unset, .unset, .unset, .unset] [(.int (3 : Int32))])) rfl (hb hby at_32) rfl (by decide) (cap := 3) (by decide) (by decide) (by decide) (by decide)
      obtain ⟨b234, g234⟩ : ∃ z, z = h232.size := ⟨_, rfl⟩
      rw [← g234] at A234 st234
      have ne_b232_b234 : b232 ≠ b234 := Nat.ne_of_lt (Nat.lt_of_lt_of_le V232.lt (Nat.le_of_eq g234.symm))
      have ge_b234 : n0 ≤ b234 := Nat.le_trans Z233 (Nat.le_of_eq g234.symm)
      have sz_b234 : h0.size ≤ b234 := Nat.le_trans K233.1 (Nat.le_of_eq g234.symm)
      have V235_b232 := V232.ext X_234
      have Z235 := Nat.le_trans Z233 X_234.1
      have K235 : Keep h0 h234 [] := K233.ext X_234
      have V234 : Arv Z h234 b234 k234 .long (3 : Int32) [(.long (0 : Int64)), (.long (0 : Int64)), (.long (0 : Int64))] (.long (0 : Int64)) := (Arv.new A234 (by decide)).pad (pad_rep [] (.long (0 : Int64)) 3)
      refine Go.by st234 ?_
      show Go _ _ _ _ _ _ _ (T234.setTop (mkF m 34 #[.val (.int k0), .val (.long t0), .second, .val (.long t1), .second, .val (.long t2), .second, .val (.long s0), .second, .val (.long s1), .second, .val (.int (3 : Int32)), .val (.int (0 : Int32)), .val (.long (t0 - s1)), .second, .val (.ref b232), .unset, .unset, .unset, .unset, .unset, .unset, .unset, .unset, .unset, .unset, .unset, .unset, .unset] [(.ref b234)]))
      refine Go.by (fun _ kont => XS.astore X234.here hx rfl (hb hby at_34) rfl rfl (l' := #[.val (.int k0), .val (.long t0), .second, .val (.long t1), .second, .val (.long t2), .second, .val (.long s0), .second, .val (.long s1), .second, .val (.int (3 : Int32)), .val (.int (0 : Int32)), .val (.long (t0 - s1)), .second, .val (.ref b232), .val (.ref b234), .unset, .unset, .unset, .unset, .unset, .unset, .unset, .unset, .unset, .unset, .unset, .unset]) rfl (XS.iload X234.here hx rfl (hb hby at_36) rfl kont)) ?_
      show Go _ _ _ _ _ _ _ (T234.setTop (mkF m 38 #[.val (.int k0), .val (.long t0), .second, .val (.long t1), .second, .val (.long t2), .second, .val (.long s0), .second, .val (.long s1), .second, .val (.int (3 : Int32)), .val (.int (0 : Int32)), .val (.long (t0 - s1)), .second, .val (.ref b232), .val (.ref b234), .unset, .unset, .unset, .unset, .unset, .unset, .unset, .unset, .unset, .unset, .unset, .unset] [(.int (3 : Int32))]))
      refine Go.by (fun _ kont => XS.ifNo X234.here hx rfl (hb hby at_38) rfl (by decide) kont) ?_
      show Go _ _ _ _ _ _ _ (T234.setTop (mkF m 41 #[.val (.int k0), .val (.long t0), .second, .val (.long t1), .second, .val (.long t2), .second, .val (.long s0), .second, .val (.long s1), .second, .val (.int (3 : Int32)), .val (.int (0 : Int32)), .val (.long (t0 - s1)), .second, .val (.ref b232), .val (.ref b234), .unset, .unset, .unset, .unset, .unset, .unset, .unset, .unset, .unset, .unset, .unset, .unset] []))
      refine Go.by (fun _ kont => XS.aload X234.here hx rfl (hb hby at_41) rfl rfl (XS.iconst X234.here hx rfl (hb hby at_43) (XS.lloadN X234.here hx rfl (hb hby at_44) rfl kont))) ?_
      show Go _ _ _ _ _ _ _ (T234.setTop (mkF m 45 #[.val (.int k0), .val (.long t0), .second, .val (.long t1), .second, .val (.long t2), .second, .val (.long s0), .second, .val (.long s1), .second, .val (.int (3 : Int32)), .val (.int (0 : Int32)), .val (.long (t0 - s1)), .second, .val (.ref b232), .val (.ref b234), .unset, .unset, .unset, .unset, .unset, .unset, .unset, .unset, .unset, .unset, .unset, .unset] [(.long t0), (.int (0 : Int32)), (.ref b232)]))
      obtain ⟨cl_q236, Ar_q236, q1_q236, S_q236, N_q236, H_q236, G_q236⟩ := id V235_b232
      have hin_q236 : ¬ ((0 : Int32) < 0 ∨ cl_q236.slots.size ≤ ((0 : Int32)).toNatClampNeg) := inb_of S_q236 ⟨by decide, by decide⟩
      obtain ⟨T237, h237, X237, e237, W237, st237⟩ := stJ X234 hx hZ e234 Ar_q236 (j := (0 : Int32)) hin_q236 (g := (mkF m 45 #[.val (.int k0), .val (.long t0), .second, .val (.long t1), .second, .val (.long t2), .second, .val (.long s0), .second, .val (.long s1), .second, .val (.int (3 : Int32)), .val (.int (0 : Int32)), .val (.long (t0 - s1)), .second, .val (.ref b232), .val (.ref b234), .unset, .unset, .unset, .unset, .unset, .unset, .unset, .unset, .unset, .unset, .unset, .unset] [(.long t0), (.int (0 : Int32)), (.ref b232)])) rfl rfl (hb hby at_45)
      have V237 : Arv Z h237 b232 k232 .long (3 : Int32) [(.long t0), (.long (0 : Int64)), (.long (0 : Int64))] (.long (0 : Int64)) := Arv.set Ar_q236 q1_q236 S_q236 N_q236 H_q236 G_q236 rfl W237 0 rfl (Nat.le_of_ble_eq_true rfl)
      have V238_b234 := V234.other W237 (Ne.symm ne_b232_b234)
      have Z238 := Nat.le_trans Z235 (Keep.of_wr W237).1
      have K238 : Keep h0 h237 [] := K235.wr W237 (Or.inr sz_b232)
      have N237 := Fr.snoc X237 N0 ge_b232
      refine Go.by st237 ?_
      show Go _ _ _ _ _ _ _ (T237.setTop (mkF m 46 #[.val (.int k0), .val (.long t0), .second, .val (.long t1), .second, .val (.long t2), .second, .val (.long s0), .second, .val (.long s1), .second, .val (.int (3 : Int32)), .val (.int (0 : Int32)), .val (.long (t0 - s1)), .second, .val (.ref b232), .val (.ref b234), .unset, .unset, .unset, .unset, .unset, .unset, .unset, .unset, .unset, .unset, .unset, .unset] []))
      refine Go.by (fun _ kont => XS.aload X237.here hx rfl (hb hby at_46) rfl rfl (XS.iconst X237.here hx rfl (hb hby at_48) (XS.lload X237.here hx rfl (hb hby at_49) rfl kont))) ?_
      show Go _ _ _ _ _ _ _ (T237.setTop (mkF m 51 #[.val (.int k0), .val (.long t0), .second, .val (.long t1), .second, .val (.long t2), .second, .val (.long s0), .second, .val (.long s1), .second, .val (.int (3 : Int32)), .val (.int (0 : Int32)), .val (.long (t0 - s1)), .second, .val (.ref b232), .val (.ref b234), .unset, .unset, .unset, .unset, .unset, .unset, .unset, .unset, .unset, .unset, .unset, .unset] [(.long s0), (.int (0 : Int32)), (.ref b234)]))
      obtain ⟨cl_q239, Ar_q239, q1_q239, S_q239, N_q239, H_q239, G_q239⟩ := id V238_b234
      have hin_q239 : ¬ ((0 : Int32) < 0 ∨ cl_q239.slots.size ≤ ((0 : Int32)).toNatClampNeg) := inb_of S_q239 ⟨by decide, by decide⟩
      obtain ⟨T240, h240, X240, e240, W240, st240⟩ := stJ X237 hx hZ e237 Ar_q239 (j := (0 : Int32)) hin_q239 (g := (mkF m 51 #[.val (.int k0), .val (.long t0), .second, .val (.long t1), .second, .val (.long t2), .second, .val (.long s0), .second, .val (.long s1), .second, .val (.int (3 : Int32)), .val (.int (0 : Int32)), .val (.long (t0 - s1)), .second, .val (.ref b232), .val (.ref b234), .unset, .unset, .unset, .unset, .unset, .unset, .unset, .unset, .unset, .unset, .unset, .unset] [(.long s0), (.int (0 : Int32)), (.ref b234)])) rfl rfl (hb hby at_51)
      have V240 : Arv Z h240 b234 k234 .long (3 : Int32) [(.long s0), (.long (0 : Int64)), (.long (0 : Int64))] (.long (0 : Int64)) := Arv.set Ar_q239 q1_q239 S_q239 N_q239 H_q239 G_q239 rfl W240 0 rfl (Nat.le_of_ble_eq_true rfl)
      have V241_b232 := V237.other W240 ne_b232_b234
      have Z241 := Nat.le_trans Z238 (Keep.of_wr W240).1
      have K241 : Keep h0 h240 [] := K238.wr W240 (Or.inr sz_b234)
      have N240 := Fr.snoc X240 N237 ge_b234
      refine Go.by st240 ?_
      show Go _ _ _ _ _ _ _ (T240.setTop (mkF m 52 #[.val (.int k0), .val (.long t0), .second, .val (.long t1), .second, .val (.long t2), .second, .val (.long s0), .second, .val (.long s1), .second, .val (.int (3 : Int32)), .val (.int (0 : Int32)), .val (.long (t0 - s1)), .second, .val (.ref b232), .val (.ref b234), .unset, .unset, .unset, .unset, .unset, .unset, .unset, .unset, .unset, .unset, .unset, .unset] []))
      refine Go.by (fun _ kont => XS.iload X240.here hx rfl (hb hby at_52) rfl (XS.iconst X240.here hx rfl (hb hby at_54) kont)) ?_
      show Go _ _ _ _ _ _ _ (T240.setTop (mkF m 55 #[.val (.int k0), .val (.long t0), .second, .val (.long t1), .second, .val (.long t2), .second, .val (.long s0), .second, .val (.long s1), .second, .val (.int (3 : Int32)), .val (.int (0 : Int32)), .val (.long (t0 - s1)), .second, .val (.ref b232), .val (.ref b234), .unset, .unset, .unset, .unset, .unset, .unset, .unset, .unset, .unset, .unset, .unset, .unset] [(.int (1 : Int32)), (.int (3 : Int32))]))
      refine Go.by (fun _ kont => XS.icmpNo X240.here hx rfl (hb hby at_55) rfl (by decide) kont) ?_
      show Go _ _ _ _ _ _ _ (T240.setTop (mkF m 58 #[.val (.int k0), .val (.long t0), .second, .val (.long t1), .second, .val (.long t2), .second, .val (.long s0), .second, .val (.long s1), .second, .val (.int (3 : Int32)), .val (.int (0 : Int32)), .val (.long (t0 - s1)), .second, .val (.ref b232), .val (.ref b234), .unset, .unset, .unset, .unset, .unset, .unset, .unset, .unset, .unset, .unset, .unset, .unset] []))
      refine Go.by (fun _ kont => XS.aload X240.here hx rfl (hb hby at_58) rfl rfl (XS.iconst X240.here hx rfl (hb hby at_60) (XS.lloadN X240.here hx rfl (hb hby at_61) rfl kont))) ?_
      show Go _ _ _ _ _ _ _ (T240.setTop (mkF m 62 #[.val (.int k0), .val (.long t0), .second, .val (.long t1), .second, .val (.long t2), .second, .val (.long s0), .second, .val (.long s1), .second, .val (.int (3 : Int32)), .val (.int (0 : Int32)), .val (.long (t0 - s1)), .second, .val (.ref b232), .val (.ref b234), .unset, .unset, .unset, .unset, .unset, .unset, .unset, .unset, .unset, .unset, .unset, .unset] [(.long t1), (.int (1 : Int32)), (.ref b232)]))
      obtain ⟨cl_q242, Ar_q242, q1_q242, S_q242, N_q242, H_q242, G_q242⟩ := id V241_b232
      have hin_q242 : ¬ ((1 : Int32) < 0 ∨ cl_q242.slots.size ≤ ((1 : Int32)).toNatClampNeg) := inb_of S_q242 ⟨by decide, by decide⟩
      obtain ⟨T243, h243, X243, e243, W243, st243⟩ := stJ X240 hx hZ e240 Ar_q242 (j := (1 : Int32)) hin_q242 (g := (mkF m 62 #[.val (.int k0), .val (.long t0), .second, .val (.long t1), .second, .val (.long t2), .second, .val (.long s0), .second, .val (.long s1), .second, .val (.int (3 : Int32)), .val (.int (0 : Int32)), .val (.long (t0 - s1)), .second, .val (.ref b232), .val (.ref b234), .unset, .unset, .unset, .unset, .unset, .unset, .unset, .unset, .unset, .unset, .unset, .unset] [(.long t1), (.int (1 : Int32)), (.ref b232)])) rfl rfl (hb hby at_62)
      have V243 : Arv Z h243 b232 k232 .long (3 : Int32) [(.long t0), (.long t1), (.long (0 : Int64))] (.long (0 : Int64)) := Arv.set Ar_q242 q1_q242 S_q242 N_q242 H_q242 G_q242 rfl W243 1 rfl (Nat.le_of_ble_eq_true rfl)
      have V244_b234 := V240.other W243 (Ne.symm ne_b232_b234)
      have Z244 := Nat.le_trans Z241 (Keep.of_wr W243).1
      have K244 : Keep h0 h243 [] := K241.wr W243 (Or.inr sz_b232)
      have N243 := Fr.snoc X243 N240 ge_b232
      refine Go.by st243 ?_
      show Go _ _ _ _ _ _ _ (T243.setTop (mkF m 63 #[.val (.int k0), .val (.long t0), .second, .val (.long t1), .second, .val (.long t2), .second, .val (.long s0), .second, .val (.long s1), .second, .val (.int (3 : Int32)), .val (.int (0 : Int32)), .val (.long (t0 - s1)), .second, .val (.ref b232), .val (.ref b234), .unset, .unset, .unset, .unset, .unset, .unset, .unset, .unset, .unset, .unset, .unset, .unset] []))
      refine Go.by (fun _ kont => XS.aload X243.here hx rfl (hb hby at_63) rfl rfl (XS.iconst X243.here hx rfl (hb hby at_65) (XS.lload X243.here hx rfl (hb hby at_66) rfl kont))) ?_
      show Go _ _ _ _ _ _ _ (T243.setTop (mkF m 68 #[.val (.int k0), .val (.long t0), .second, .val (.long t1), .second, .val (.long t2), .second, .val (.long s0), .second, .val (.long s1), .second, .val (.int (3 : Int32)), .val (.int (0 : Int32)), .val (.long (t0 - s1)), .second, .val (.ref b232), .val (.ref b234), .unset, .unset, .unset, .unset, .unset, .unset, .unset, .unset, .unset, .unset, .unset, .unset] [(.long s1), (.int (1 : Int32)), (.ref b234)]))
      obtain ⟨cl_q245, Ar_q245, q1_q245, S_q245, N_q245, H_q245, G_q245⟩ := id V244_b234
      have hin_q245 : ¬ ((1 : Int32) < 0 ∨ cl_q245.slots.size ≤ ((1 : Int32)).toNatClampNeg) := inb_of S_q245 ⟨by decide, by decide⟩
      obtain ⟨T246, h246, X246, e246, W246, st246⟩ := stJ X243 hx hZ e243 Ar_q245 (j := (1 : Int32)) hin_q245 (g := (mkF m 68 #[.val (.int k0), .val (.long t0), .second, .val (.long t1), .second, .val (.long t2), .second, .val (.long s0), .second, .val (.long s1), .second, .val (.int (3 : Int32)), .val (.int (0 : Int32)), .val (.long (t0 - s1)), .second, .val (.ref b232), .val (.ref b234), .unset, .unset, .unset, .unset, .unset, .unset, .unset, .unset, .unset, .unset, .unset, .unset] [(.long s1), (.int (1 : Int32)), (.ref b234)])) rfl rfl (hb hby at_68)
      have V246 : Arv Z h246 b234 k234 .long (3 : Int32) [(.long s0), (.long s1), (.long (0 : Int64))] (.long (0 : Int64)) := Arv.set Ar_q245 q1_q245 S_q245 N_q245 H_q245 G_q245 rfl W246 1 rfl (Nat.le_of_ble_eq_true rfl)
      have V247_b232 := V243.other W246 ne_b232_b234
      have Z247 := Nat.le_trans Z244 (Keep.of_wr W246).1
      have K247 : Keep h0 h246 [] := K244.wr W246 (Or.inr sz_b234)
      have N246 := Fr.snoc X246 N243 ge_b234
      refine Go.by st246 ?_
      show Go _ _ _ _ _ _ _ (T246.setTop (mkF m 69 #[.val (.int k0), .val (.long t0), .second, .val (.long t1), .second, .val (.long t2), .second, .val (.long s0), .second, .val (.long s1), .second, .val (.int (3 : Int32)), .val (.int (0 : Int32)), .val (.long (t0 - s1)), .second, .val (.ref b232), .val (.ref b234), .unset, .unset, .unset, .unset, .unset, .unset, .unset, .unset, .unset, .unset, .unset, .unset] []))
      refine Go.by (fun _ kont => XS.iload X246.here hx rfl (hb hby at_69) rfl (XS.iconst X246.here hx rfl (hb hby at_71) kont)) ?_
      show Go _ _ _ _ _ _ _ (T246.setTop (mkF m 72 #[.val (.int k0), .val (.long t0), .second, .val (.long t1), .second, .val (.long t2), .second, .val (.long s0), .second, .val (.long s1), .second, .val (.int (3 : Int32)), .val (.int (0 : Int32)), .val (.long (t0 - s1)), .second, .val (.ref b232), .val (.ref b234), .unset, .unset, .unset, .unset, .unset, .unset, .unset, .unset, .unset, .unset, .unset, .unset] [(.int (2 : Int32)), (.int (3 : Int32))]))
      refine Go.by (fun _ kont => XS.icmpNo X246.here hx rfl (hb hby at_72) rfl (by decide) kont) ?_
      show Go _ _ _ _ _ _ _ (T246.setTop (mkF m 75 #[.val (.int k0), .val (.long t0), .second, .val (.long t1), .second, .val (.long t2), .second, .val (.long s0), .second, .val (.long s1), .second, .val (.int (3 : Int32)), .val (.int (0 : Int32)), .val (.long (t0 - s1)), .second, .val (.ref b232), .val (.ref b234), .unset, .unset, .unset, .unset, .unset, .unset, .unset, .unset, .unset, .unset, .unset, .unset] []))
      refine Go.by (fun _ kont => XS.aload X246.here hx rfl (hb hby at_75) rfl rfl (XS.iconst X246.here hx rfl (hb hby at_77) (XS.lload X246.here hx rfl (hb hby at_78) rfl kont))) ?_
      show Go _ _ _ _ _ _ _ (T246.setTop (mkF m 80 #[.val (.int k0), .val (.long t0), .second, .val (.long t1), .second, .val (.long t2), .second, .val (.long s0), .second, .val (.long s1), .second, .val (.int (3 : Int32)), .val (.int (0 : Int32)), .val (.long (t0 - s1)), .second, .val (.ref b232), .val (.ref b234), .unset, .unset, .unset, .unset, .unset, .unset, .unset, .unset, .unset, .unset, .unset, .unset] [(.long t2), (.int (2 : Int32)), (.ref b232)]))
      obtain ⟨cl_q248, Ar_q248, q1_q248, S_q248, N_q248, H_q248, G_q248⟩ := id V247_b232
      have hin_q248 : ¬ ((2 : Int32) < 0 ∨ cl_q248.slots.size ≤ ((2 : Int32)).toNatClampNeg) := inb_of S_q248 ⟨by decide, by decide⟩
      obtain ⟨T249, h249, X249, e249, W249, st249⟩ := stJ X246 hx hZ e246 Ar_q248 (j := (2 : Int32)) hin_q248 (g := (mkF m 80 #[.val (.int k0), .val (.long t0), .second, .val (.long t1), .second, .val (.long t2), .second, .val (.long s0), .second, .val (.long s1), .second, .val (.int (3 : Int32)), .val (.int (0 : Int32)), .val (.long (t0 - s1)), .second, .val (.ref b232), .val (.ref b234), .unset, .unset, .unset, .unset, .unset, .unset, .unset, .unset, .unset, .unset, .unset, .unset] [(.long t2), (.int (2 : Int32)), (.ref b232)])) rfl rfl (hb hby at_80)
      have V249 : Arv Z h249 b232 k232 .long (3 : Int32) [(.long t0), (.long t1), (.long t2)] (.long (0 : Int64)) := Arv.set Ar_q248 q1_q248 S_q248 N_q248 H_q248 G_q248 rfl W249 2 rfl (Nat.le_of_ble_eq_true rfl)
      have V250_b234 := V246.other W249 (Ne.symm ne_b232_b234)
      have Z250 := Nat.le_trans Z247 (Keep.of_wr W249).1
      have K250 : Keep h0 h249 [] := K247.wr W249 (Or.inr sz_b232)
      have N249 := Fr.snoc X249 N246 ge_b232
      refine Go.by st249 ?_
      show Go _ _ _ _ _ _ _ (T249.setTop (mkF m 81 #[.val (.int k0), .val (.long t0), .second, .val (.long t1), .second, .val (.long t2), .second, .val (.long s0), .second, .val (.long s1), .second, .val (.int (3 : Int32)), .val (.int (0 : Int32)), .val (.long (t0 - s1)), .second, .val (.ref b232), .val (.ref b234), .unset, .unset, .unset, .unset, .unset, .unset, .unset, .unset, .unset, .unset, .unset, .unset] []))
      refine Go.by (fun _ kont => XS.aload X249.here hx rfl (hb hby at_81) rfl rfl (XS.iconst X249.here hx rfl (hb hby at_83) (XS.lload X249.here hx rfl (hb hby at_84) rfl kont))) ?_
      show Go _ _ _ _ _ _ _ (T249.setTop (mkF m 86 #[.val (.int k0), .val (.long t0), .second, .val (.long t1), .second, .val (.long t2), .second, .val (.long s0), .second, .val (.long s1), .second, .val (.int (3 : Int32)), .val (.int (0 : Int32)), .val (.long (t0 - s1)), .second, .val (.ref b232), .val (.ref b234), .unset, .unset, .unset, .unset, .unset, .unset, .unset, .unset, .unset, .unset, .unset, .unset] [(.long (t0 - s1)), (.int (2 : Int32)), (.ref b234)]))
      obtain ⟨cl_q251, Ar_q251, q1_q251, S_q251, N_q251, H_q251, G_q251⟩ := id V250_b234
      have hin_q251 : ¬ ((2 : Int32) < 0 ∨ cl_q251.slots.size ≤ ((2 : Int32)).toNatClampNeg) := inb_of S_q251 ⟨by decide, by decide⟩
      obtain ⟨T252, h252, X252, e252, W252, st252⟩ := stJ X249 hx hZ e249 Ar_q251 (j := (2 : Int32)) hin_q251 (g := (mkF m 86 #[.val (.int k0), .val (.long t0), .second, .val (.long t1), .second, .val (.long t2), .second, .val (.long s0), .second, .val (.long s1), .second, .val (.int (3 : Int32)), .val (.int (0 : Int32)), .val (.long (t0 - s1)), .second, .val (.ref b232), .val (.ref b234), .unset, .unset, .unset, .unset, .unset, .unset, .unset, .unset, .unset, .unset, .unset, .unset] [(.long (t0 - s1)), (.int (2 : Int32)), (.ref b234)])) rfl rfl (hb hby at_86)
      have V252 : Arv Z h252 b234 k234 .long (3 : Int32) [(.long s0), (.long s1), (.long (t0 - s1))] (.long (0 : Int64)) := Arv.set Ar_q251 q1_q251 S_q251 N_q251 H_q251 G_q251 rfl W252 2 rfl (Nat.le_of_ble_eq_true rfl)
      have V253_b232 := V249.other W252 ne_b232_b234
      have Z253 := Nat.le_trans Z250 (Keep.of_wr W252).1
      have K253 : Keep h0 h252 [] := K250.wr W252 (Or.inr sz_b234)
      have N252 := Fr.snoc X252 N249 ge_b234
      refine Go.by st252 ?_
      show Go _ _ _ _ _ _ _ (T252.setTop (mkF m 87 #[.val (.int k0), .val (.long t0), .second, .val (.long t1), .second, .val (.long t2), .second, .val (.long s0), .second, .val (.long s1), .second, .val (.int (3 : Int32)), .val (.int (0 : Int32)), .val (.long (t0 - s1)), .second, .val (.ref b232), .val (.ref b234), .unset, .unset, .unset, .unset, .unset, .unset, .unset, .unset, .unset, .unset, .unset, .unset] []))
      refine Go.by (fun _ kont => XS.iload X252.here hx rfl (hb hby at_87) rfl kont) ?_
      show Go _ _ _ _ _ _ _ (T252.setTop (mkF m 89 #[.val (.int k0), .val (.long t0), .second, .val (.long t1), .second, .val (.long t2), .second, .val (.long s0), .second, .val (.long s1), .second, .val (.int (3 : Int32)), .val (.int (0 : Int32)), .val (.long (t0 - s1)), .second, .val (.ref b232), .val (.ref b234), .unset, .unset, .unset, .unset, .unset, .unset, .unset, .unset, .unset, .unset, .unset, .unset] [(.int (0 : Int32))]))
      refine Go.by (fun _ kont => XS.ifYes X252.here hx rfl (pc0 := 89) (pc' := 146) rfl (hb hby at_89) rfl (by decide) (by decide) (by decide) kont) ?_
      show Go _ _ _ _ _ _ _ (T252.setTop (mkF m 146 #[.val (.int k0), .val (.long t0), .second, .val (.long t1), .second, .val (.long t2), .second, .val (.long s0), .second, .val (.long s1), .second, .val (.int (3 : Int32)), .val (.int (0 : Int32)), .val (.long (t0 - s1)), .second, .val (.ref b232), .val (.ref b234), .unset, .unset, .unset, .unset, .unset, .unset, .unset, .unset, .unset, .unset, .unset, .unset] []))
      refine Go.by (fun _ kont => XS.aload X252.here hx rfl (hb hby at_146) rfl rfl (XS.aload X252.here hx rfl (hb hby at_148) rfl rfl kont)) ?_
      show Go _ _ _ _ _ _ _ (T252.setTop (mkF m 150 #[.val (.int k0), .val (.long t0), .second, .val (.long t1), .second, .val (.long t2), .second, .val (.long s0), .second, .val (.long s1), .second, .val (.int (3 : Int32)), .val (.int (0 : Int32)), .val (.long (t0 - s1)), .second, .val (.ref b232), .val (.ref b234), .unset, .unset, .unset, .unset, .unset, .unset, .unset, .unset, .unset, .unset, .unset, .unset] [(.ref b234), (.ref b232)]))
      obtain ⟨_, _, ⟨T254, L254, k254, n254⟩, -, X254, ⟨Lc254, hQ254, l254, y254, z254⟩, st254⟩ := Jvm.LawKit.callS X252 hx (y := (⟨"com/example/runs_to_nets/runstonets/core/Gf2Basis", "xor", "([J[J)V"⟩ : MethodName)) hown (mvT hZ (hw _ (List.mem_of_getElem? (i := 1) rfl))) (mvT hZ (hw _ (List.mem_of_getElem? (i := 2) rfl))) (mvT hZ (hw _ (List.mem_of_getElem? (i := 3) rfl))) (mvT hZ (hw _ (List.mem_of_getElem? (i := 4) rfl))) (by decide) (backOf (W := 0) (rmXB3 l Z a0 hw [] b232 b234 k232 t0 t1 t2 k234 s0 s1 (t0 - s1) h252 n0 Z253 V253_b232 V252 ne_b232_b234 ge_b232) hZ (hw _ (List.mem_of_getElem? (i := 4) rfl)) (hw _ (List.mem_of_getElem? (i := 3) rfl)) (by decide) (by decide)) (g := (mkF m 150 #[.val (.int k0), .val (.long t0), .second, .val (.long t1), .second, .val (.long t2), .second, .val (.long s0), .second, .val (.long s1), .second, .val (.int (3 : Int32)), .val (.int (0 : Int32)), .val (.long (t0 - s1)), .second, .val (.ref b232), .val (.ref b234), .unset, .unset, .unset, .unset, .unset, .unset, .unset, .unset, .unset, .unset, .unset, .unset] [(.ref b234), (.ref b232)])) rfl (by rw [hml]; rfl) (argsL := [(.ref b232), (.ref b234)]) (rest := []) (lenOf pd0_0 rfl) rfl (by show 2 * 0 + _ ≤ _; exact Nat.le_of_eq rfl) (hb hby at_150) (fun _ _ => ⟨rfl, e252, (by decide : 2 + 0 ≤ _), (by decide : 6 + 0 ≤ _)⟩)
      dsimp only [Pt.U, Pt.locs, Pt.cells, Pt.slots] at X254 l254 y254 z254 st254 hQ254
      subst l254 y254 z254
      obtain ⟨rfl, N254q, K254, g254_0⟩ := hQ254
      have V255_b234 := V252.keep K254 (ninS (Ne.symm ne_b232_b234) nin0)
      have Z255 := Nat.le_trans Z253 K254.1
      have K255 : Keep h0 T254.heap [] := Keep.trans K253 K254 (allS (Or.inr sz_b232) all0)
      have N254 := Fr.app N252 N254q
      refine Go.by st254 ?_
      show Go _ _ _ _ _ _ _ (T254.setTop (mkF m 153 #[.val (.int k0), .val (.long t0), .second, .val (.long t1), .second, .val (.long t2), .second, .val (.long s0), .second, .val (.long s1), .second, .val (.int (3 : Int32)), .val (.int (0 : Int32)), .val (.long (t0 - s1)), .second, .val (.ref b232), .val (.ref b234), .unset, .unset, .unset, .unset, .unset, .unset, .unset, .unset, .unset, .unset, .unset, .unset] []))
      refine Go.by (fun _ kont => XS.iload X254.here hx rfl (hb hby at_153) rfl kont) ?_
      show Go _ _ _ _ _ _ _ (T254.setTop (mkF m 155 #[.val (.int k0), .val (.long t0), .second, .val (.long t1), .second, .val (.long t2), .second, .val (.long s0), .second, .val (.long s1), .second, .val (.int (3 : Int32)), .val (.int (0 : Int32)), .val (.long (t0 - s1)), .second, .val (.ref b232), .val (.ref b234), .unset, .unset, .unset, .unset, .unset, .unset, .unset, .unset, .unset, .unset, .unset, .unset] [(.int (3 : Int32))]))
      refine Go.by (fun _ kont => XS.ifNo X254.here hx rfl (hb hby at_155) rfl (by decide) kont) ?_
      show Go _ _ _ _ _ _ _ (T254.setTop (mkF m 158 #[.val (.int k0), .val (.long t0), .second, .val (.long t1), .second, .val (.long t2), .second, .val (.long s0), .second, .val (.long s1), .second, .val (.int (3 : Int32)), .val (.int (0 : Int32)), .val (.long (t0 - s1)), .second, .val (.ref b232), .val (.ref b234), .unset, .unset, .unset, .unset, .unset, .unset, .unset, .unset, .unset, .unset, .unset, .unset] []))
      refine Go.by (fun _ kont => XS.lloadN X254.here hx rfl (hb hby at_158) rfl (XS.lload X254.here hx rfl (hb hby at_159) rfl (XS.lxor X254.here hx rfl (hb hby at_161) rfl (XS.goto X254.here hx rfl (pc0 := 162) (pc' := 166) rfl (hb hby at_162) (by decide) (by decide) (XS.lstore X254.here hx rfl (hb hby at_166) rfl (l' := #[.val (.int k0), .val (.long t0), .second, .val (.long t1), .second, .val (.long t2), .second, .val (.long s0), .second, .val (.long s1), .second, .val (.int (3 : Int32)), .val (.int (0 : Int32)), .val (.long (t0 - s1)), .second, .val (.ref b232), .val (.ref b234), .val (.long (t0 ^^^ s0)), .second, .unset, .unset, .unset, .unset, .unset, .unset, .unset, .unset, .unset, .unset]) rfl (XS.iload X254.here hx rfl (hb hby at_168) rfl kont)))))) ?_
      show Go _ _ _ _ _ _ _ (T254.setTop (mkF m 170 #[.val (.int k0), .val (.long t0), .second, .val (.long t1), .second, .val (.long t2), .second, .val (.long s0), .second, .val (.long s1), .second, .val (.int (3 : Int32)), .val (.int (0 : Int32)), .val (.long (t0 - s1)), .second, .val (.ref b232), .val (.ref b234), .val (.long (t0 ^^^ s0)), .second, .unset, .unset, .unset, .unset, .unset, .unset, .unset, .unset, .unset, .unset] [(.int (3 : Int32))]))
      refine Go.by (fun _ kont => XS.iconst X254.here hx rfl (hb hby at_170) kont) ?_
      show Go _ _ _ _ _ _ _ (T254.setTop (mkF m 171 #[.val (.int k0), .val (.long t0), .second, .val (.long t1), .second, .val (.long t2), .second, .val (.long s0), .second, .val (.long s1), .second, .val (.int (3 : Int32)), .val (.int (0 : Int32)), .val (.long (t0 - s1)), .second, .val (.ref b232), .val (.ref b234), .val (.long (t0 ^^^ s0)), .second, .unset, .unset, .unset, .unset, .unset, .unset, .unset, .unset, .unset, .unset] [(.int (1 : Int32)), (.int (3 : Int32))]))
      refine Go.by (fun _ kont => XS.icmpNo X254.here hx rfl (hb hby at_171) rfl (by decide) kont) ?_
      show Go _ _ _ _ _ _ _ (T254.setTop (mkF m 174 #[.val (.int k0), .val (.long t0), .second, .val (.long t1), .second, .val (.long t2), .second, .val (.long s0), .second, .val (.long s1), .second, .val (.int (3 : Int32)), .val (.int (0 : Int32)), .val (.long (t0 - s1)), .second, .val (.ref b232), .val (.ref b234), .val (.long (t0 ^^^ s0)), .second, .unset, .unset, .unset, .unset, .unset, .unset, .unset, .unset, .unset, .unset] []))
      refine Go.by (fun _ kont => XS.lloadN X254.here hx rfl (hb hby at_174) rfl (XS.lload X254.here hx rfl (hb hby at_175) rfl (XS.lxor X254.here hx rfl (hb hby at_177) rfl (XS.goto X254.here hx rfl (pc0 := 178) (pc' := 182) rfl (hb hby at_178) (by decide) (by decide) (XS.lstore X254.here hx rfl (hb hby at_182) rfl (l' := #[.val (.int k0), .val (.long t0), .second, .val (.long t1), .second, .val (.long t2), .second, .val (.long s0), .second, .val (.long s1), .second, .val (.int (3 : Int32)), .val (.int (0 : Int32)), .val (.long (t0 - s1)), .second, .val (.ref b232), .val (.ref b234), .val (.long (t0 ^^^ s0)), .second, .val (.long (t1 ^^^ s1)), .second, .unset, .unset, .unset, .unset, .unset, .unset, .unset, .unset]) rfl (XS.iload X254.here hx rfl (hb hby at_184) rfl kont)))))) ?_
      show Go _ _ _ _ _ _ _ (T254.setTop (mkF m 186 #[.val (.int k0), .val (.long t0), .second, .val (.long t1), .second, .val (.long t2), .second, .val (.long s0), .second, .val (.long s1), .second, .val (.int (3 : Int32)), .val (.int (0 : Int32)), .val (.long (t0 - s1)), .second, .val (.ref b232), .val (.ref b234), .val (.long (t0 ^^^ s0)), .second, .val (.long (t1 ^^^ s1)), .second, .unset, .unset, .unset, .unset, .unset, .unset, .unset, .unset] [(.int (3 : Int32))]))
      refine Go.by (fun _ kont => XS.iconst X254.here hx rfl (hb hby at_186) kont) ?_
      show Go _ _ _ _ _ _ _ (T254.setTop (mkF m 187 #[.val (.int k0), .val (.long t0), .second, .val (.long t1), .second, .val (.long t2), .second, .val (.long s0), .second, .val (.long s1), .second, .val (.int (3 : Int32)), .val (.int (0 : Int32)), .val (.long (t0 - s1)), .second, .val (.ref b232), .val (.ref b234), .val (.long (t0 ^^^ s0)), .second, .val (.long (t1 ^^^ s1)), .second, .unset, .unset, .unset, .unset, .unset, .unset, .unset, .unset] [(.int (2 : Int32)), (.int (3 : Int32))]))
      refine Go.by (fun _ kont => XS.icmpNo X254.here hx rfl (hb hby at_187) rfl (by decide) kont) ?_
      show Go _ _ _ _ _ _ _ (T254.setTop (mkF m 190 #[.val (.int k0), .val (.long t0), .second, .val (.long t1), .second, .val (.long t2), .second, .val (.long s0), .second, .val (.long s1), .second, .val (.int (3 : Int32)), .val (.int (0 : Int32)), .val (.long (t0 - s1)), .second, .val (.ref b232), .val (.ref b234), .val (.long (t0 ^^^ s0)), .second, .val (.long (t1 ^^^ s1)), .second, .unset, .unset, .unset, .unset, .unset, .unset, .unset, .unset] []))
      refine Go.by (fun _ kont => XS.lload X254.here hx rfl (hb hby at_190) rfl (XS.lload X254.here hx rfl (hb hby at_192) rfl (XS.lxor X254.here hx rfl (hb hby at_194) rfl (XS.goto X254.here hx rfl (pc0 := 195) (pc' := 199) rfl (hb hby at_195) (by decide) (by decide) (XS.lstore X254.here hx rfl (hb hby at_199) rfl (l' := #[.val (.int k0), .val (.long t0), .second, .val (.long t1), .second, .val (.long t2), .second, .val (.long s0), .second, .val (.long s1), .second, .val (.int (3 : Int32)), .val (.int (0 : Int32)), .val (.long (t0 - s1)), .second, .val (.ref b232), .val (.ref b234), .val (.long (t0 ^^^ s0)), .second, .val (.long (t1 ^^^ s1)), .second, .val (.long (t2 ^^^ (t0 - s1))), .second, .unset, .unset, .unset, .unset, .unset, .unset]) rfl (XS.iload X254.here hx rfl (hb hby at_201) rfl kont)))))) ?_
      show Go _ _ _ _ _ _ _ (T254.setTop (mkF m 203 #[.val (.int k0), .val (.long t0), .second, .val (.long t1), .second, .val (.long t2), .second, .val (.long s0), .second, .val (.long s1), .second, .val (.int (3 : Int32)), .val (.int (0 : Int32)), .val (.long (t0 - s1)), .second, .val (.ref b232), .val (.ref b234), .val (.long (t0 ^^^ s0)), .second, .val (.long (t1 ^^^ s1)), .second, .val (.long (t2 ^^^ (t0 - s1))), .second, .unset, .unset, .unset, .unset, .unset, .unset] [(.int (3 : Int32))]))
      refine Go.by (fun _ kont => XS.ifNo X254.here hx rfl (hb hby at_203) rfl (by decide) kont) ?_
      show Go _ _ _ _ _ _ _ (T254.setTop (mkF m 206 #[.val (.int k0), .val (.long t0), .second, .val (.long t1), .second, .val (.long t2), .second, .val (.long s0), .second, .val (.long s1), .second, .val (.int (3 : Int32)), .val (.int (0 : Int32)), .val (.long (t0 - s1)), .second, .val (.ref b232), .val (.ref b234), .val (.long (t0 ^^^ s0)), .second, .val (.long (t1 ^^^ s1)), .second, .val (.long (t2 ^^^ (t0 - s1))), .second, .unset, .unset, .unset, .unset, .unset, .unset] []))
      refine Go.by (fun _ kont => XS.lload X254.here hx rfl (hb hby at_206) rfl (XS.goto X254.here hx rfl (pc0 := 208) (pc' := 212) rfl (hb hby at_208) (by decide) (by decide) (XS.lstore X254.here hx rfl (hb hby at_212) rfl (l' := #[.val (.int k0), .val (.long t0), .second, .val (.long t1), .second, .val (.long t2), .second, .val (.long s0), .second, .val (.long s1), .second, .val (.int (3 : Int32)), .val (.int (0 : Int32)), .val (.long (t0 - s1)), .second, .val (.ref b232), .val (.ref b234), .val (.long (t0 ^^^ s0)), .second, .val (.long (t1 ^^^ s1)), .second, .val (.long (t2 ^^^ (t0 - s1))), .second, .val (.long s0), .second, .unset, .unset, .unset, .unset]) rfl (XS.iload X254.here hx rfl (hb hby at_214) rfl (XS.iconst X254.here hx rfl (hb hby at_216) kont))))) ?_
      show Go _ _ _ _ _ _ _ (T254.setTop (mkF m 217 #[.val (.int k0), .val (.long t0), .second, .val (.long t1), .second, .val (.long t2), .second, .val (.long s0), .second, .val (.long s1), .second, .val (.int (3 : Int32)), .val (.int (0 : Int32)), .val (.long (t0 - s1)), .second, .val (.ref b232), .val (.ref b234), .val (.long (t0 ^^^ s0)), .second, .val (.long (t1 ^^^ s1)), .second, .val (.long (t2 ^^^ (t0 - s1))), .second, .val (.long s0), .second, .unset, .unset, .unset, .unset] [(.int (1 : Int32)), (.int (3 : Int32))]))
      refine Go.by (fun _ kont => XS.icmpNo X254.here hx rfl (hb hby at_217) rfl (by decide) kont) ?_
      show Go _ _ _ _ _ _ _ (T254.setTop (mkF m 220 #[.val (.int k0), .val (.long t0), .second, .val (.long t1), .second, .val (.long t2), .second, .val (.long s0), .second, .val (.long s1), .second, .val (.int (3 : Int32)), .val (.int (0 : Int32)), .val (.long (t0 - s1)), .second, .val (.ref b232), .val (.ref b234), .val (.long (t0 ^^^ s0)), .second, .val (.long (t1 ^^^ s1)), .second, .val (.long (t2 ^^^ (t0 - s1))), .second, .val (.long s0), .second, .unset, .unset, .unset, .unset] []))
      refine Go.by (fun _ kont => XS.lload X254.here hx rfl (hb hby at_220) rfl (XS.goto X254.here hx rfl (pc0 := 222) (pc' := 226) rfl (hb hby at_222) (by decide) (by decide) (XS.lstore X254.here hx rfl (hb hby at_226) rfl (l' := #[.val (.int k0), .val (.long t0), .second, .val (.long t1), .second, .val (.long t2), .second, .val (.long s0), .second, .val (.long s1), .second, .val (.int (3 : Int32)), .val (.int (0 : Int32)), .val (.long (t0 - s1)), .second, .val (.ref b232), .val (.ref b234), .val (.long (t0 ^^^ s0)), .second, .val (.long (t1 ^^^ s1)), .second, .val (.long (t2 ^^^ (t0 - s1))), .second, .val (.long s0), .second, .val (.long s1), .second, .unset, .unset]) rfl (XS.iload X254.here hx rfl (hb hby at_228) rfl (XS.iconst X254.here hx rfl (hb hby at_230) kont))))) ?_
      show Go _ _ _ _ _ _ _ (T254.setTop (mkF m 231 #[.val (.int k0), .val (.long t0), .second, .val (.long t1), .second, .val (.long t2), .second, .val (.long s0), .second, .val (.long s1), .second, .val (.int (3 : Int32)), .val (.int (0 : Int32)), .val (.long (t0 - s1)), .second, .val (.ref b232), .val (.ref b234), .val (.long (t0 ^^^ s0)), .second, .val (.long (t1 ^^^ s1)), .second, .val (.long (t2 ^^^ (t0 - s1))), .second, .val (.long s0), .second, .val (.long s1), .second, .unset, .unset] [(.int (2 : Int32)), (.int (3 : Int32))]))
      refine Go.by (fun _ kont => XS.icmpNo X254.here hx rfl (hb hby at_231) rfl (by decide) kont) ?_
      show Go _ _ _ _ _ _ _ (T254.setTop (mkF m 234 #[.val (.int k0), .val (.long t0), .second, .val (.long t1), .second, .val (.long t2), .second, .val (.long s0), .second, .val (.long s1), .second, .val (.int (3 : Int32)), .val (.int (0 : Int32)), .val (.long (t0 - s1)), .second, .val (.ref b232), .val (.ref b234), .val (.long (t0 ^^^ s0)), .second, .val (.long (t1 ^^^ s1)), .second, .val (.long (t2 ^^^ (t0 - s1))), .second, .val (.long s0), .second, .val (.long s1), .second, .unset, .unset] []))
      refine Go.by (fun _ kont => XS.lload X254.here hx rfl (hb hby at_234) rfl (XS.goto X254.here hx rfl (pc0 := 236) (pc' := 240) rfl (hb hby at_236) (by decide) (by decide) (XS.lstore X254.here hx rfl (hb hby at_240) rfl (l' := #[.val (.int k0), .val (.long t0), .second, .val (.long t1), .second, .val (.long t2), .second, .val (.long s0), .second, .val (.long s1), .second, .val (.int (3 : Int32)), .val (.int (0 : Int32)), .val (.long (t0 - s1)), .second, .val (.ref b232), .val (.ref b234), .val (.long (t0 ^^^ s0)), .second, .val (.long (t1 ^^^ s1)), .second, .val (.long (t2 ^^^ (t0 - s1))), .second, .val (.long s0), .second, .val (.long s1), .second, .val (.long (t0 - s1)), .second]) rfl (XS.aload X254.here hx rfl (hb hby at_242) rfl rfl kont)))) ?_
      show Go _ _ _ _ _ _ _ (T254.setTop (mkF m 244 #[.val (.int k0), .val (.long t0), .second, .val (.long t1), .second, .val (.long t2), .second, .val (.long s0), .second, .val (.long s1), .second, .val (.int (3 : Int32)), .val (.int (0 : Int32)), .val (.long (t0 - s1)), .second, .val (.ref b232), .val (.ref b234), .val (.long (t0 ^^^ s0)), .second, .val (.long (t1 ^^^ s1)), .second, .val (.long (t2 ^^^ (t0 - s1))), .second, .val (.long s0), .second, .val (.long s1), .second, .val (.long (t0 - s1)), .second] [(.ref b232)]))
      obtain ⟨cl_q256, Ar_q256, q1_q256, S_q256, N_q256, H_q256, G_q256⟩ := id g254_0
      refine Go.by (X254.arraylength hx (by first | exact Ar_q256.1 | (rw [rfl]; exact Ar_q256.1)) (State.isArrayOf_alike hZ.alike Ar_q256.2.1) (g := (mkF m 244 #[.val (.int k0), .val (.long t0), .second, .val (.long t1), .second, .val (.long t2), .second, .val (.long s0), .second, .val (.long s1), .second, .val (.int (3 : Int32)), .val (.int (0 : Int32)), .val (.long (t0 - s1)), .second, .val (.ref b232), .val (.ref b234), .val (.long (t0 ^^^ s0)), .second, .val (.long (t1 ^^^ s1)), .second, .val (.long (t2 ^^^ (t0 - s1))), .second, .val (.long s0), .second, .val (.long s1), .second, .val (.long (t0 - s1)), .second] [(.ref b232)])) rfl rfl (hb hby at_244)) ?_
      rw [len_of S_q256 N_q256]
      show Go _ _ _ _ _ _ _ (T254.setTop (mkF m 245 #[.val (.int k0), .val (.long t0), .second, .val (.long t1), .second, .val (.long t2), .second, .val (.long s0), .second, .val (.long s1), .second, .val (.int (3 : Int32)), .val (.int (0 : Int32)), .val (.long (t0 - s1)), .second, .val (.ref b232), .val (.ref b234), .val (.long (t0 ^^^ s0)), .second, .val (.long (t1 ^^^ s1)), .second, .val (.long (t2 ^^^ (t0 - s1))), .second, .val (.long s0), .second, .val (.long s1), .second, .val (.long (t0 - s1)), .second] [(.int (3 : Int32))]))
      refine Go.by (fun _ kont => XS.iload X254.here hx rfl (hb hby at_245) rfl kont) ?_
      show Go _ _ _ _ _ _ _ (T254.setTop (mkF m 247 #[.val (.int k0), .val (.long t0), .second, .val (.long t1), .second, .val (.long t2), .second, .val (.long s0), .second, .val (.long s1), .second, .val (.int (3 : Int32)), .val (.int (0 : Int32)), .val (.long (t0 - s1)), .second, .val (.ref b232), .val (.ref b234), .val (.long (t0 ^^^ s0)), .second, .val (.long (t1 ^^^ s1)), .second, .val (.long (t2 ^^^ (t0 - s1))), .second, .val (.long s0), .second, .val (.long s1), .second, .val (.long (t0 - s1)), .second] [(.int (3 : Int32)), (.int (3 : Int32))]))
      refine Go.by (fun _ kont => XS.icmpNo X254.here hx rfl (hb hby at_247) rfl (by decide) kont) ?_
      show Go _ _ _ _ _ _ _ (T254.setTop (mkF m 250 #[.val (.int k0), .val (.long t0), .second, .val (.long t1), .second, .val (.long t2), .second, .val (.long s0), .second, .val (.long s1), .second, .val (.int (3 : Int32)), .val (.int (0 : Int32)), .val (.long (t0 - s1)), .second, .val (.ref b232), .val (.ref b234), .val (.long (t0 ^^^ s0)), .second, .val (.long (t1 ^^^ s1)), .second, .val (.long (t2 ^^^ (t0 - s1))), .second, .val (.long s0), .second, .val (.long s1), .second, .val (.long (t0 - s1)), .second] []))
      refine Go.by (fun _ kont => XS.aload X254.here hx rfl (hb hby at_250) rfl rfl kont) ?_
      show Go _ _ _ _ _ _ _ (T254.setTop (mkF m 252 #[.val (.int k0), .val (.long t0), .second, .val (.long t1), .second, .val (.long t2), .second, .val (.long s0), .second, .val (.long s1), .second, .val (.int (3 : Int32)), .val (.int (0 : Int32)), .val (.long (t0 - s1)), .second, .val (.ref b232), .val (.ref b234), .val (.long (t0 ^^^ s0)), .second, .val (.long (t1 ^^^ s1)), .second, .val (.long (t2 ^^^ (t0 - s1))), .second, .val (.long s0), .second, .val (.long s1), .second, .val (.long (t0 - s1)), .second] [(.ref b234)]))
      obtain ⟨cl_q257, Ar_q257, q1_q257, S_q257, N_q257, H_q257, G_q257⟩ := id V255_b234
      refine Go.by (X254.arraylength hx (by first | exact Ar_q257.1 | (rw [rfl]; exact Ar_q257.1)) (State.isArrayOf_alike hZ.alike Ar_q257.2.1) (g := (mkF m 252 #[.val (.int k0), .val (.long t0), .second, .val (.long t1), .second, .val (.long t2), .second, .val (.long s0), .second, .val (.long s1), .second, .val (.int (3 : Int32)), .val (.int (0 : Int32)), .val (.long (t0 - s1)), .second, .val (.ref b232), .val (.ref b234), .val (.long (t0 ^^^ s0)), .second, .val (.long (t1 ^^^ s1)), .second, .val (.long (t2 ^^^ (t0 - s1))), .second, .val (.long s0), .second, .val (.long s1), .second, .val (.long (t0 - s1)), .second] [(.ref b234)])) rfl rfl (hb hby at_252)) ?_
      rw [len_of S_q257 N_q257]
      show Go _ _ _ _ _ _ _ (T254.setTop (mkF m 253 #[.val (.int k0), .val (.long t0), .second, .val (.long t1), .second, .val (.long t2), .second, .val (.long s0), .second, .val (.long s1), .second, .val (.int (3 : Int32)), .val (.int (0 : Int32)), .val (.long (t0 - s1)), .second, .val (.ref b232), .val (.ref b234), .val (.long (t0 ^^^ s0)), .second, .val (.long (t1 ^^^ s1)), .second, .val (.long (t2 ^^^ (t0 - s1))), .second, .val (.long s0), .second, .val (.long s1), .second, .val (.long (t0 - s1)), .second] [(.int (3 : Int32))]))
      refine Go.by (fun _ kont => XS.iload X254.here hx rfl (hb hby at_253) rfl kont) ?_
      show Go _ _ _ _ _ _ _ (T254.setTop (mkF m 255 #[.val (.int k0), .val (.long t0), .second, .val (.long t1), .second, .val (.long t2), .second, .val (.long s0), .second, .val (.long s1), .second, .val (.int (3 : Int32)), .val (.int (0 : Int32)), .val (.long (t0 - s1)), .second, .val (.ref b232), .val (.ref b234), .val (.long (t0 ^^^ s0)), .second, .val (.long (t1 ^^^ s1)), .second, .val (.long (t2 ^^^ (t0 - s1))), .second, .val (.long s0), .second, .val (.long s1), .second, .val (.long (t0 - s1)), .second] [(.int (3 : Int32)), (.int (3 : Int32))]))
      refine Go.by (fun _ kont => XS.icmpNo X254.here hx rfl (hb hby at_255) rfl (by decide) kont) ?_
      show Go _ _ _ _ _ _ _ (T254.setTop (mkF m 258 #[.val (.int k0), .val (.long t0), .second, .val (.long t1), .second, .val (.long t2), .second, .val (.long s0), .second, .val (.long s1), .second, .val (.int (3 : Int32)), .val (.int (0 : Int32)), .val (.long (t0 - s1)), .second, .val (.ref b232), .val (.ref b234), .val (.long (t0 ^^^ s0)), .second, .val (.long (t1 ^^^ s1)), .second, .val (.long (t2 ^^^ (t0 - s1))), .second, .val (.long s0), .second, .val (.long s1), .second, .val (.long (t0 - s1)), .second] []))
      refine Go.by (fun _ kont => XS.aload X254.here hx rfl (hb hby at_258) rfl rfl (XS.iconst X254.here hx rfl (hb hby at_260) kont)) ?_
      show Go _ _ _ _ _ _ _ (T254.setTop (mkF m 261 #[.val (.int k0), .val (.long t0), .second, .val (.long t1), .second, .val (.long t2), .second, .val (.long s0), .second, .val (.long s1), .second, .val (.int (3 : Int32)), .val (.int (0 : Int32)), .val (.long (t0 - s1)), .second, .val (.ref b232), .val (.ref b234), .val (.long (t0 ^^^ s0)), .second, .val (.long (t1 ^^^ s1)), .second, .val (.long (t2 ^^^ (t0 - s1))), .second, .val (.long s0), .second, .val (.long s1), .second, .val (.long (t0 - s1)), .second] [(.int (0 : Int32)), (.ref b232)]))
      obtain ⟨_, _, ⟨T258, L258, k258, n258⟩, -, X258, ⟨Lc258, hQ258, l258, y258, z258⟩, st258⟩ := Jvm.LawKit.callS X254 hx (y := (⟨"com/example/runs_to_nets/runstonets/core/Gf2BasisXorPinLaw", "word", "([JI)J"⟩ : MethodName)) hown (mvT hZ (hw _ (List.mem_of_getElem? (i := 5) rfl))) (mvT hZ (hw _ (List.mem_of_getElem? (i := 6) rfl))) (mvT hZ (hw _ (List.mem_of_getElem? (i := 7) rfl))) (mvT hZ (hw _ (List.mem_of_getElem? (i := 8) rfl))) (by decide) (backOf (W := 0) (rmW30 l Z a0 hw [] b232 k232 (t0 ^^^ s0) (t1 ^^^ s1) (t2 ^^^ (t0 - s1)) T254.heap n0 Z255 g254_0) hZ (hw _ (List.mem_of_getElem? (i := 8) rfl)) (hw _ (List.mem_of_getElem? (i := 7) rfl)) (by decide) (by decide)) (g := (mkF m 261 #[.val (.int k0), .val (.long t0), .second, .val (.long t1), .second, .val (.long t2), .second, .val (.long s0), .second, .val (.long s1), .second, .val (.int (3 : Int32)), .val (.int (0 : Int32)), .val (.long (t0 - s1)), .second, .val (.ref b232), .val (.ref b234), .val (.long (t0 ^^^ s0)), .second, .val (.long (t1 ^^^ s1)), .second, .val (.long (t2 ^^^ (t0 - s1))), .second, .val (.long s0), .second, .val (.long s1), .second, .val (.long (t0 - s1)), .second] [(.int (0 : Int32)), (.ref b232)])) rfl (by rw [hml]; rfl) (argsL := [(.ref b232), (.int (0 : Int32))]) (rest := []) (lenOf pd0_1 rfl) rfl (by show 2 * 0 + _ ≤ _; exact Nat.le_of_eq rfl) (hb hby at_261) (fun _ _ => ⟨rfl, rfl, (by decide : 2 + 0 ≤ _), (by decide : 6 + 0 ≤ _)⟩)
      dsimp only [Pt.U, Pt.locs, Pt.cells, Pt.slots] at X258 l258 y258 z258 st258 hQ258
      subst l258 y258 z258
      obtain ⟨rfl, N258q, eh258⟩ := hQ258
      have N258 := Fr.app N254 N258q
      refine Go.by st258 ?_
      show Go _ _ _ _ _ _ _ (T258.setTop (mkF m 264 #[.val (.int k0), .val (.long t0), .second, .val (.long t1), .second, .val (.long t2), .second, .val (.long s0), .second, .val (.long s1), .second, .val (.int (3 : Int32)), .val (.int (0 : Int32)), .val (.long (t0 - s1)), .second, .val (.ref b232), .val (.ref b234), .val (.long (t0 ^^^ s0)), .second, .val (.long (t1 ^^^ s1)), .second, .val (.long (t2 ^^^ (t0 - s1))), .second, .val (.long s0), .second, .val (.long s1), .second, .val (.long (t0 - s1)), .second] [(.long (t0 ^^^ s0))]))
      refine Go.by (fun _ kont => XS.lload X258.here hx rfl (hb hby at_264) rfl (XS.lcmp X258.here hx rfl (hb hby at_266) rfl kont)) ?_
      show Go _ _ _ _ _ _ _ (T258.setTop (mkF m 267 #[.val (.int k0), .val (.long t0), .second, .val (.long t1), .second, .val (.long t2), .second, .val (.long s0), .second, .val (.long s1), .second, .val (.int (3 : Int32)), .val (.int (0 : Int32)), .val (.long (t0 - s1)), .second, .val (.ref b232), .val (.ref b234), .val (.long (t0 ^^^ s0)), .second, .val (.long (t1 ^^^ s1)), .second, .val (.long (t2 ^^^ (t0 - s1))), .second, .val (.long s0), .second, .val (.long s1), .second, .val (.long (t0 - s1)), .second] [(.int (lcmpW (t0 ^^^ s0) (t0 ^^^ s0)))]))
      refine Go.by (fun _ kont => XS.ifNo X258.here hx rfl (hb hby at_267) rfl ((if0 _ _).trans (teq ((lw_eq _ _).mpr rfl)).2) kont) ?_
      show Go _ _ _ _ _ _ _ (T258.setTop (mkF m 270 #[.val (.int k0), .val (.long t0), .second, .val (.long t1), .second, .val (.long t2), .second, .val (.long s0), .second, .val (.long s1), .second, .val (.int (3 : Int32)), .val (.int (0 : Int32)), .val (.long (t0 - s1)), .second, .val (.ref b232), .val (.ref b234), .val (.long (t0 ^^^ s0)), .second, .val (.long (t1 ^^^ s1)), .second, .val (.long (t2 ^^^ (t0 - s1))), .second, .val (.long s0), .second, .val (.long s1), .second, .val (.long (t0 - s1)), .second] []))
      refine Go.by (fun _ kont => XS.aload X258.here hx rfl (hb hby at_270) rfl rfl (XS.iconst X258.here hx rfl (hb hby at_272) kont)) ?_
      show Go _ _ _ _ _ _ _ (T258.setTop (mkF m 273 #[.val (.int k0), .val (.long t0), .second, .val (.long t1), .second, .val (.long t2), .second, .val (.long s0), .second, .val (.long s1), .second, .val (.int (3 : Int32)), .val (.int (0 : Int32)), .val (.long (t0 - s1)), .second, .val (.ref b232), .val (.ref b234), .val (.long (t0 ^^^ s0)), .second, .val (.long (t1 ^^^ s1)), .second, .val (.long (t2 ^^^ (t0 - s1))), .second, .val (.long s0), .second, .val (.long s1), .second, .val (.long (t0 - s1)), .second] [(.int (1 : Int32)), (.ref b232)]))
      obtain ⟨_, _, ⟨T259, L259, k259, n259⟩, -, X259, ⟨Lc259, hQ259, l259, y259, z259⟩, st259⟩ := Jvm.LawKit.callS X258 hx (y := (⟨"com/example/runs_to_nets/runstonets/core/Gf2BasisXorPinLaw", "word", "([JI)J"⟩ : MethodName)) hown (mvT hZ (hw _ (List.mem_of_getElem? (i := 5) rfl))) (mvT hZ (hw _ (List.mem_of_getElem? (i := 6) rfl))) (mvT hZ (hw _ (List.mem_of_getElem? (i := 7) rfl))) (mvT hZ (hw _ (List.mem_of_getElem? (i := 8) rfl))) (by decide) (backOf (W := 0) (rmW31 l Z a0 hw [] b232 k232 (t0 ^^^ s0) (t1 ^^^ s1) (t2 ^^^ (t0 - s1)) T254.heap n0 Z255 g254_0) hZ (hw _ (List.mem_of_getElem? (i := 8) rfl)) (hw _ (List.mem_of_getElem? (i := 7) rfl)) (by decide) (by decide)) (g := (mkF m 273 #[.val (.int k0), .val (.long t0), .second, .val (.long t1), .second, .val (.long t2), .second, .val (.long s0), .second, .val (.long s1), .second, .val (.int (3 : Int32)), .val (.int (0 : Int32)), .val (.long (t0 - s1)), .second, .val (.ref b232), .val (.ref b234), .val (.long (t0 ^^^ s0)), .second, .val (.long (t1 ^^^ s1)), .second, .val (.long (t2 ^^^ (t0 - s1))), .second, .val (.long s0), .second, .val (.long s1), .second, .val (.long (t0 - s1)), .second] [(.int (1 : Int32)), (.ref b232)])) rfl (by rw [hml]; rfl) (argsL := [(.ref b232), (.int (1 : Int32))]) (rest := []) (lenOf pd0_1 rfl) rfl (by show 2 * 0 + _ ≤ _; exact Nat.le_of_eq rfl) (hb hby at_273) (fun _ _ => ⟨rfl, eh258, (by decide : 2 + 0 ≤ _), (by decide : 6 + 0 ≤ _)⟩)
      dsimp only [Pt.U, Pt.locs, Pt.cells, Pt.slots] at X259 l259 y259 z259 st259 hQ259
      subst l259 y259 z259
      obtain ⟨rfl, N259q, eh259⟩ := hQ259
      have N259 := Fr.app N258 N259q
      refine Go.by st259 ?_
      show Go _ _ _ _ _ _ _ (T259.setTop (mkF m 276 #[.val (.int k0), .val (.long t0), .second, .val (.long t1), .second, .val (.long t2), .second, .val (.long s0), .second, .val (.long s1), .second, .val (.int (3 : Int32)), .val (.int (0 : Int32)), .val (.long (t0 - s1)), .second, .val (.ref b232), .val (.ref b234), .val (.long (t0 ^^^ s0)), .second, .val (.long (t1 ^^^ s1)), .second, .val (.long (t2 ^^^ (t0 - s1))), .second, .val (.long s0), .second, .val (.long s1), .second, .val (.long (t0 - s1)), .second] [(.long (t1 ^^^ s1))]))
      refine Go.by (fun _ kont => XS.lload X259.here hx rfl (hb hby at_276) rfl (XS.lcmp X259.here hx rfl (hb hby at_278) rfl kont)) ?_
      show Go _ _ _ _ _ _ _ (T259.setTop (mkF m 279 #[.val (.int k0), .val (.long t0), .second, .val (.long t1), .second, .val (.long t2), .second, .val (.long s0), .second, .val (.long s1), .second, .val (.int (3 : Int32)), .val (.int (0 : Int32)), .val (.long (t0 - s1)), .second, .val (.ref b232), .val (.ref b234), .val (.long (t0 ^^^ s0)), .second, .val (.long (t1 ^^^ s1)), .second, .val (.long (t2 ^^^ (t0 - s1))), .second, .val (.long s0), .second, .val (.long s1), .second, .val (.long (t0 - s1)), .second] [(.int (lcmpW (t1 ^^^ s1) (t1 ^^^ s1)))]))
      refine Go.by (fun _ kont => XS.ifNo X259.here hx rfl (hb hby at_279) rfl ((if0 _ _).trans (teq ((lw_eq _ _).mpr rfl)).2) kont) ?_
      show Go _ _ _ _ _ _ _ (T259.setTop (mkF m 282 #[.val (.int k0), .val (.long t0), .second, .val (.long t1), .second, .val (.long t2), .second, .val (.long s0), .second, .val (.long s1), .second, .val (.int (3 : Int32)), .val (.int (0 : Int32)), .val (.long (t0 - s1)), .second, .val (.ref b232), .val (.ref b234), .val (.long (t0 ^^^ s0)), .second, .val (.long (t1 ^^^ s1)), .second, .val (.long (t2 ^^^ (t0 - s1))), .second, .val (.long s0), .second, .val (.long s1), .second, .val (.long (t0 - s1)), .second] []))
      refine Go.by (fun _ kont => XS.aload X259.here hx rfl (hb hby at_282) rfl rfl (XS.iconst X259.here hx rfl (hb hby at_284) kont)) ?_
      show Go _ _ _ _ _ _ _ (T259.setTop (mkF m 285 #[.val (.int k0), .val (.long t0), .second, .val (.long t1), .second, .val (.long t2), .second, .val (.long s0), .second, .val (.long s1), .second, .val (.int (3 : Int32)), .val (.int (0 : Int32)), .val (.long (t0 - s1)), .second, .val (.ref b232), .val (.ref b234), .val (.long (t0 ^^^ s0)), .second, .val (.long (t1 ^^^ s1)), .second, .val (.long (t2 ^^^ (t0 - s1))), .second, .val (.long s0), .second, .val (.long s1), .second, .val (.long (t0 - s1)), .second] [(.int (2 : Int32)), (.ref b232)]))
      obtain ⟨_, _, ⟨T260, L260, k260, n260⟩, -, X260, ⟨Lc260, hQ260, l260, y260, z260⟩, st260⟩ := Jvm.LawKit.callS X259 hx (y := (⟨"com/example/runs_to_nets/runstonets/core/Gf2BasisXorPinLaw", "word", "([JI)J"⟩ : MethodName)) hown (mvT hZ (hw _ (List.mem_of_getElem? (i := 5) rfl))) (mvT hZ (hw _ (List.mem_of_getElem? (i := 6) rfl))) (mvT hZ (hw _ (List.mem_of_getElem? (i := 7) rfl))) (mvT hZ (hw _ (List.mem_of_getElem? (i := 8) rfl))) (by decide) (backOf (W := 0) (rmW32 l Z a0 hw [] b232 k232 (t0 ^^^ s0) (t1 ^^^ s1) (t2 ^^^ (t0 - s1)) T254.heap n0 Z255 g254_0) hZ (hw _ (List.mem_of_getElem? (i := 8) rfl)) (hw _ (List.mem_of_getElem? (i := 7) rfl)) (by decide) (by decide)) (g := (mkF m 285 #[.val (.int k0), .val (.long t0), .second, .val (.long t1), .second, .val (.long t2), .second, .val (.long s0), .second, .val (.long s1), .second, .val (.int (3 : Int32)), .val (.int (0 : Int32)), .val (.long (t0 - s1)), .second, .val (.ref b232), .val (.ref b234), .val (.long (t0 ^^^ s0)), .second, .val (.long (t1 ^^^ s1)), .second, .val (.long (t2 ^^^ (t0 - s1))), .second, .val (.long s0), .second, .val (.long s1), .second, .val (.long (t0 - s1)), .second] [(.int (2 : Int32)), (.ref b232)])) rfl (by rw [hml]; rfl) (argsL := [(.ref b232), (.int (2 : Int32))]) (rest := []) (lenOf pd0_1 rfl) rfl (by show 2 * 0 + _ ≤ _; exact Nat.le_of_eq rfl) (hb hby at_285) (fun _ _ => ⟨rfl, eh259, (by decide : 2 + 0 ≤ _), (by decide : 6 + 0 ≤ _)⟩)
      dsimp only [Pt.U, Pt.locs, Pt.cells, Pt.slots] at X260 l260 y260 z260 st260 hQ260
      subst l260 y260 z260
      obtain ⟨rfl, N260q, eh260⟩ := hQ260
      have N260 := Fr.app N259 N260q
      refine Go.by st260 ?_
      show Go _ _ _ _ _ _ _ (T260.setTop (mkF m 288 #[.val (.int k0), .val (.long t0), .second, .val (.long t1), .second, .val (.long t2), .second, .val (.long s0), .second, .val (.long s1), .second, .val (.int (3 : Int32)), .val (.int (0 : Int32)), .val (.long (t0 - s1)), .second, .val (.ref b232), .val (.ref b234), .val (.long (t0 ^^^ s0)), .second, .val (.long (t1 ^^^ s1)), .second, .val (.long (t2 ^^^ (t0 - s1))), .second, .val (.long s0), .second, .val (.long s1), .second, .val (.long (t0 - s1)), .second] [(.long (t2 ^^^ (t0 - s1)))]))
      refine Go.by (fun _ kont => XS.lload X260.here hx rfl (hb hby at_288) rfl (XS.lcmp X260.here hx rfl (hb hby at_290) rfl kont)) ?_
      show Go _ _ _ _ _ _ _ (T260.setTop (mkF m 291 #[.val (.int k0), .val (.long t0), .second, .val (.long t1), .second, .val (.long t2), .second, .val (.long s0), .second, .val (.long s1), .second, .val (.int (3 : Int32)), .val (.int (0 : Int32)), .val (.long (t0 - s1)), .second, .val (.ref b232), .val (.ref b234), .val (.long (t0 ^^^ s0)), .second, .val (.long (t1 ^^^ s1)), .second, .val (.long (t2 ^^^ (t0 - s1))), .second, .val (.long s0), .second, .val (.long s1), .second, .val (.long (t0 - s1)), .second] [(.int (lcmpW (t2 ^^^ (t0 - s1)) (t2 ^^^ (t0 - s1))))]))
      refine Go.by (fun _ kont => XS.ifNo X260.here hx rfl (hb hby at_291) rfl ((if0 _ _).trans (teq ((lw_eq _ _).mpr rfl)).2) kont) ?_
      show Go _ _ _ _ _ _ _ (T260.setTop (mkF m 294 #[.val (.int k0), .val (.long t0), .second, .val (.long t1), .second, .val (.long t2), .second, .val (.long s0), .second, .val (.long s1), .second, .val (.int (3 : Int32)), .val (.int (0 : Int32)), .val (.long (t0 - s1)), .second, .val (.ref b232), .val (.ref b234), .val (.long (t0 ^^^ s0)), .second, .val (.long (t1 ^^^ s1)), .second, .val (.long (t2 ^^^ (t0 - s1))), .second, .val (.long s0), .second, .val (.long s1), .second, .val (.long (t0 - s1)), .second] []))
      refine Go.by (fun _ kont => XS.aload X260.here hx rfl (hb hby at_294) rfl rfl (XS.iconst X260.here hx rfl (hb hby at_296) kont)) ?_
      show Go _ _ _ _ _ _ _ (T260.setTop (mkF m 297 #[.val (.int k0), .val (.long t0), .second, .val (.long t1), .second, .val (.long t2), .second, .val (.long s0), .second, .val (.long s1), .second, .val (.int (3 : Int32)), .val (.int (0 : Int32)), .val (.long (t0 - s1)), .second, .val (.ref b232), .val (.ref b234), .val (.long (t0 ^^^ s0)), .second, .val (.long (t1 ^^^ s1)), .second, .val (.long (t2 ^^^ (t0 - s1))), .second, .val (.long s0), .second, .val (.long s1), .second, .val (.long (t0 - s1)), .second] [(.int (0 : Int32)), (.ref b234)]))
      obtain ⟨_, _, ⟨T261, L261, k261, n261⟩, -, X261, ⟨Lc261, hQ261, l261, y261, z261⟩, st261⟩ := Jvm.LawKit.callS X260 hx (y := (⟨"com/example/runs_to_nets/runstonets/core/Gf2BasisXorPinLaw", "word", "([JI)J"⟩ : MethodName)) hown (mvT hZ (hw _ (List.mem_of_getElem? (i := 5) rfl))) (mvT hZ (hw _ (List.mem_of_getElem? (i := 6) rfl))) (mvT hZ (hw _ (List.mem_of_getElem? (i := 7) rfl))) (mvT hZ (hw _ (List.mem_of_getElem? (i := 8) rfl))) (by decide) (backOf (W := 0) (rmW30 l Z a0 hw [] b234 k234 s0 s1 (t0 - s1) T254.heap n0 Z255 V255_b234) hZ (hw _ (List.mem_of_getElem? (i := 8) rfl)) (hw _ (List.mem_of_getElem? (i := 7) rfl)) (by decide) (by decide)) (g := (mkF m 297 #[.val (.int k0), .val (.long t0), .second, .val (.long t1), .second, .val (.long t2), .second, .val (.long s0), .second, .val (.long s1), .second, .val (.int (3 : Int32)), .val (.int (0 : Int32)), .val (.long (t0 - s1)), .second, .val (.ref b232), .val (.ref b234), .val (.long (t0 ^^^ s0)), .second, .val (.long (t1 ^^^ s1)), .second, .val (.long (t2 ^^^ (t0 - s1))), .second, .val (.long s0), .second, .val (.long s1), .second, .val (.long (t0 - s1)), .second] [(.int (0 : Int32)), (.ref b234)])) rfl (by rw [hml]; rfl) (argsL := [(.ref b234), (.int (0 : Int32))]) (rest := []) (lenOf pd0_1 rfl) rfl (by show 2 * 0 + _ ≤ _; exact Nat.le_of_eq rfl) (hb hby at_297) (fun _ _ => ⟨rfl, eh260, (by decide : 2 + 0 ≤ _), (by decide : 6 + 0 ≤ _)⟩)
      dsimp only [Pt.U, Pt.locs, Pt.cells, Pt.slots] at X261 l261 y261 z261 st261 hQ261
      subst l261 y261 z261
      obtain ⟨rfl, N261q, eh261⟩ := hQ261
      have N261 := Fr.app N260 N261q
      refine Go.by st261 ?_
      show Go _ _ _ _ _ _ _ (T261.setTop (mkF m 300 #[.val (.int k0), .val (.long t0), .second, .val (.long t1), .second, .val (.long t2), .second, .val (.long s0), .second, .val (.long s1), .second, .val (.int (3 : Int32)), .val (.int (0 : Int32)), .val (.long (t0 - s1)), .second, .val (.ref b232), .val (.ref b234), .val (.long (t0 ^^^ s0)), .second, .val (.long (t1 ^^^ s1)), .second, .val (.long (t2 ^^^ (t0 - s1))), .second, .val (.long s0), .second, .val (.long s1), .second, .val (.long (t0 - s1)), .second] [(.long s0)]))
      refine Go.by (fun _ kont => XS.lload X261.here hx rfl (hb hby at_300) rfl (XS.lcmp X261.here hx rfl (hb hby at_302) rfl kont)) ?_
      show Go _ _ _ _ _ _ _ (T261.setTop (mkF m 303 #[.val (.int k0), .val (.long t0), .second, .val (.long t1), .second, .val (.long t2), .second, .val (.long s0), .second, .val (.long s1), .second, .val (.int (3 : Int32)), .val (.int (0 : Int32)), .val (.long (t0 - s1)), .second, .val (.ref b232), .val (.ref b234), .val (.long (t0 ^^^ s0)), .second, .val (.long (t1 ^^^ s1)), .second, .val (.long (t2 ^^^ (t0 - s1))), .second, .val (.long s0), .second, .val (.long s1), .second, .val (.long (t0 - s1)), .second] [(.int (lcmpW s0 s0))]))
      refine Go.by (fun _ kont => XS.ifNo X261.here hx rfl (hb hby at_303) rfl ((if0 _ _).trans (teq ((lw_eq _ _).mpr rfl)).2) kont) ?_
      show Go _ _ _ _ _ _ _ (T261.setTop (mkF m 306 #[.val (.int k0), .val (.long t0), .second, .val (.long t1), .second, .val (.long t2), .second, .val (.long s0), .second, .val (.long s1), .second, .val (.int (3 : Int32)), .val (.int (0 : Int32)), .val (.long (t0 - s1)), .second, .val (.ref b232), .val (.ref b234), .val (.long (t0 ^^^ s0)), .second, .val (.long (t1 ^^^ s1)), .second, .val (.long (t2 ^^^ (t0 - s1))), .second, .val (.long s0), .second, .val (.long s1), .second, .val (.long (t0 - s1)), .second] []))
      refine Go.by (fun _ kont => XS.aload X261.here hx rfl (hb hby at_306) rfl rfl (XS.iconst X261.here hx rfl (hb hby at_308) kont)) ?_
      show Go _ _ _ _ _ _ _ (T261.setTop (mkF m 309 #[.val (.int k0), .val (.long t0), .second, .val (.long t1), .second, .val (.long t2), .second, .val (.long s0), .second, .val (.long s1), .second, .val (.int (3 : Int32)), .val (.int (0 : Int32)), .val (.long (t0 - s1)), .second, .val (.ref b232), .val (.ref b234), .val (.long (t0 ^^^ s0)), .second, .val (.long (t1 ^^^ s1)), .second, .val (.long (t2 ^^^ (t0 - s1))), .second, .val (.long s0), .second, .val (.long s1), .second, .val (.long (t0 - s1)), .second] [(.int (1 : Int32)), (.ref b234)]))
      obtain ⟨_, _, ⟨T262, L262, k262, n262⟩, -, X262, ⟨Lc262, hQ262, l262, y262, z262⟩, st262⟩ := Jvm.LawKit.callS X261 hx (y := (⟨"com/example/runs_to_nets/runstonets/core/Gf2BasisXorPinLaw", "word", "([JI)J"⟩ : MethodName)) hown (mvT hZ (hw _ (List.mem_of_getElem? (i := 5) rfl))) (mvT hZ (hw _ (List.mem_of_getElem? (i := 6) rfl))) (mvT hZ (hw _ (List.mem_of_getElem? (i := 7) rfl))) (mvT hZ (hw _ (List.mem_of_getElem? (i := 8) rfl))) (by decide) (backOf (W := 0) (rmW31 l Z a0 hw [] b234 k234 s0 s1 (t0 - s1) T254.heap n0 Z255 V255_b234) hZ (hw _ (List.mem_of_getElem? (i := 8) rfl)) (hw _ (List.mem_of_getElem? (i := 7) rfl)) (by decide) (by decide)) (g := (mkF m 309 #[.val (.int k0), .val (.long t0), .second, .val (.long t1), .second, .val (.long t2), .second, .val (.long s0), .second, .val (.long s1), .second, .val (.int (3 : Int32)), .val (.int (0 : Int32)), .val (.long (t0 - s1)), .second, .val (.ref b232), .val (.ref b234), .val (.long (t0 ^^^ s0)), .second, .val (.long (t1 ^^^ s1)), .second, .val (.long (t2 ^^^ (t0 - s1))), .second, .val (.long s0), .second, .val (.long s1), .second, .val (.long (t0 - s1)), .second] [(.int (1 : Int32)), (.ref b234)])) rfl (by rw [hml]; rfl) (argsL := [(.ref b234), (.int (1 : Int32))]) (rest := []) (lenOf pd0_1 rfl) rfl (by show 2 * 0 + _ ≤ _; exact Nat.le_of_eq rfl) (hb hby at_309) (fun _ _ => ⟨rfl, eh261, (by decide : 2 + 0 ≤ _), (by decide : 6 + 0 ≤ _)⟩)
      dsimp only [Pt.U, Pt.locs, Pt.cells, Pt.slots] at X262 l262 y262 z262 st262 hQ262
      subst l262 y262 z262
      obtain ⟨rfl, N262q, eh262⟩ := hQ262
      have N262 := Fr.app N261 N262q
      refine Go.by st262 ?_
      show Go _ _ _ _ _ _ _ (T262.setTop (mkF m 312 #[.val (.int k0), .val (.long t0), .second, .val (.long t1), .second, .val (.long t2), .second, .val (.long s0), .second, .val (.long s1), .second, .val (.int (3 : Int32)), .val (.int (0 : Int32)), .val (.long (t0 - s1)), .second, .val (.ref b232), .val (.ref b234), .val (.long (t0 ^^^ s0)), .second, .val (.long (t1 ^^^ s1)), .second, .val (.long (t2 ^^^ (t0 - s1))), .second, .val (.long s0), .second, .val (.long s1), .second, .val (.long (t0 - s1)), .second] [(.long s1)]))
      refine Go.by (fun _ kont => XS.lload X262.here hx rfl (hb hby at_312) rfl (XS.lcmp X262.here hx rfl (hb hby at_314) rfl kont)) ?_
      show Go _ _ _ _ _ _ _ (T262.setTop (mkF m 315 #[.val (.int k0), .val (.long t0), .second, .val (.long t1), .second, .val (.long t2), .second, .val (.long s0), .second, .val (.long s1), .second, .val (.int (3 : Int32)), .val (.int (0 : Int32)), .val (.long (t0 - s1)), .second, .val (.ref b232), .val (.ref b234), .val (.long (t0 ^^^ s0)), .second, .val (.long (t1 ^^^ s1)), .second, .val (.long (t2 ^^^ (t0 - s1))), .second, .val (.long s0), .second, .val (.long s1), .second, .val (.long (t0 - s1)), .second] [(.int (lcmpW s1 s1))]))
      refine Go.by (fun _ kont => XS.ifNo X262.here hx rfl (hb hby at_315) rfl ((if0 _ _).trans (teq ((lw_eq _ _).mpr rfl)).2) kont) ?_
      show Go _ _ _ _ _ _ _ (T262.setTop (mkF m 318 #[.val (.int k0), .val (.long t0), .second, .val (.long t1), .second, .val (.long t2), .second, .val (.long s0), .second, .val (.long s1), .second, .val (.int (3 : Int32)), .val (.int (0 : Int32)), .val (.long (t0 - s1)), .second, .val (.ref b232), .val (.ref b234), .val (.long (t0 ^^^ s0)), .second, .val (.long (t1 ^^^ s1)), .second, .val (.long (t2 ^^^ (t0 - s1))), .second, .val (.long s0), .second, .val (.long s1), .second, .val (.long (t0 - s1)), .second] []))
      refine Go.by (fun _ kont => XS.aload X262.here hx rfl (hb hby at_318) rfl rfl (XS.iconst X262.here hx rfl (hb hby at_320) kont)) ?_
      show Go _ _ _ _ _ _ _ (T262.setTop (mkF m 321 #[.val (.int k0), .val (.long t0), .second, .val (.long t1), .second, .val (.long t2), .second, .val (.long s0), .second, .val (.long s1), .second, .val (.int (3 : Int32)), .val (.int (0 : Int32)), .val (.long (t0 - s1)), .second, .val (.ref b232), .val (.ref b234), .val (.long (t0 ^^^ s0)), .second, .val (.long (t1 ^^^ s1)), .second, .val (.long (t2 ^^^ (t0 - s1))), .second, .val (.long s0), .second, .val (.long s1), .second, .val (.long (t0 - s1)), .second] [(.int (2 : Int32)), (.ref b234)]))
      obtain ⟨_, _, ⟨T263, L263, k263, n263⟩, -, X263, ⟨Lc263, hQ263, l263, y263, z263⟩, st263⟩ := Jvm.LawKit.callS X262 hx (y := (⟨"com/example/runs_to_nets/runstonets/core/Gf2BasisXorPinLaw", "word", "([JI)J"⟩ : MethodName)) hown (mvT hZ (hw _ (List.mem_of_getElem? (i := 5) rfl))) (mvT hZ (hw _ (List.mem_of_getElem? (i := 6) rfl))) (mvT hZ (hw _ (List.mem_of_getElem? (i := 7) rfl))) (mvT hZ (hw _ (List.mem_of_getElem? (i := 8) rfl))) (by decide) (backOf (W := 0) (rmW32 l Z a0 hw [] b234 k234 s0 s1 (t0 - s1) T254.heap n0 Z255 V255_b234) hZ (hw _ (List.mem_of_getElem? (i := 8) rfl)) (hw _ (List.mem_of_getElem? (i := 7) rfl)) (by decide) (by decide)) (g := (mkF m 321 #[.val (.int k0), .val (.long t0), .second, .val (.long t1), .second, .val (.long t2), .second, .val (.long s0), .second, .val (.long s1), .second, .val (.int (3 : Int32)), .val (.int (0 : Int32)), .val (.long (t0 - s1)), .second, .val (.ref b232), .val (.ref b234), .val (.long (t0 ^^^ s0)), .second, .val (.long (t1 ^^^ s1)), .second, .val (.long (t2 ^^^ (t0 - s1))), .second, .val (.long s0), .second, .val (.long s1), .second, .val (.long (t0 - s1)), .second] [(.int (2 : Int32)), (.ref b234)])) rfl (by rw [hml]; rfl) (argsL := [(.ref b234), (.int (2 : Int32))]) (rest := []) (lenOf pd0_1 rfl) rfl (by show 2 * 0 + _ ≤ _; exact Nat.le_of_eq rfl) (hb hby at_321) (fun _ _ => ⟨rfl, eh262, (by decide : 2 + 0 ≤ _), (by decide : 6 + 0 ≤ _)⟩)
      dsimp only [Pt.U, Pt.locs, Pt.cells, Pt.slots] at X263 l263 y263 z263 st263 hQ263
      subst l263 y263 z263
      obtain ⟨rfl, N263q, eh263⟩ := hQ263
      have N263 := Fr.app N262 N263q
      refine Go.by st263 ?_
      show Go _ _ _ _ _ _ _ (T263.setTop (mkF m 324 #[.val (.int k0), .val (.long t0), .second, .val (.long t1), .second, .val (.long t2), .second, .val (.long s0), .second, .val (.long s1), .second, .val (.int (3 : Int32)), .val (.int (0 : Int32)), .val (.long (t0 - s1)), .second, .val (.ref b232), .val (.ref b234), .val (.long (t0 ^^^ s0)), .second, .val (.long (t1 ^^^ s1)), .second, .val (.long (t2 ^^^ (t0 - s1))), .second, .val (.long s0), .second, .val (.long s1), .second, .val (.long (t0 - s1)), .second] [(.long (t0 - s1))]))
      refine Go.by (fun _ kont => XS.lload X263.here hx rfl (hb hby at_324) rfl (XS.lcmp X263.here hx rfl (hb hby at_326) rfl kont)) ?_
      show Go _ _ _ _ _ _ _ (T263.setTop (mkF m 327 #[.val (.int k0), .val (.long t0), .second, .val (.long t1), .second, .val (.long t2), .second, .val (.long s0), .second, .val (.long s1), .second, .val (.int (3 : Int32)), .val (.int (0 : Int32)), .val (.long (t0 - s1)), .second, .val (.ref b232), .val (.ref b234), .val (.long (t0 ^^^ s0)), .second, .val (.long (t1 ^^^ s1)), .second, .val (.long (t2 ^^^ (t0 - s1))), .second, .val (.long s0), .second, .val (.long s1), .second, .val (.long (t0 - s1)), .second] [(.int (lcmpW (t0 - s1) (t0 - s1)))]))
      refine Go.by (fun _ kont => XS.ifNo X263.here hx rfl (hb hby at_327) rfl ((if0 _ _).trans (teq ((lw_eq _ _).mpr rfl)).2) kont) ?_
      show Go _ _ _ _ _ _ _ (T263.setTop (mkF m 330 #[.val (.int k0), .val (.long t0), .second, .val (.long t1), .second, .val (.long t2), .second, .val (.long s0), .second, .val (.long s1), .second, .val (.int (3 : Int32)), .val (.int (0 : Int32)), .val (.long (t0 - s1)), .second, .val (.ref b232), .val (.ref b234), .val (.long (t0 ^^^ s0)), .second, .val (.long (t1 ^^^ s1)), .second, .val (.long (t2 ^^^ (t0 - s1))), .second, .val (.long s0), .second, .val (.long s1), .second, .val (.long (t0 - s1)), .second] []))
      refine Go.by (fun _ kont => XS.iconst X263.here hx rfl (hb hby at_330) (XS.goto X263.here hx rfl (pc0 := 331) (pc' := 335) rfl (hb hby at_331) (by decide) (by decide) kont)) ?_
      show Go _ _ _ _ _ _ _ (T263.setTop (mkF m 335 #[.val (.int k0), .val (.long t0), .second, .val (.long t1), .second, .val (.long t2), .second, .val (.long s0), .second, .val (.long s1), .second, .val (.int (3 : Int32)), .val (.int (0 : Int32)), .val (.long (t0 - s1)), .second, .val (.ref b232), .val (.ref b234), .val (.long (t0 ^^^ s0)), .second, .val (.long (t1 ^^^ s1)), .second, .val (.long (t2 ^^^ (t0 - s1))), .second, .val (.long s0), .second, .val (.long s1), .second, .val (.long (t0 - s1)), .second] [(.int (1 : Int32))]))
      refine Go.retN X263 hx (t := .boolean) hret (by simp) hlk (hb hby at_335) ?_ (by decide) (by decide)
      show Q0 Z h0 n0 (some (.int (1 : Int32))) T263.heap _
      rw [eh263]
      exact ⟨rfl, N263⟩
    · refine Go.by (fun _ kont => XS.ifNo X0.here hx rfl (hb hby at_8) rfl ((if0 _ _).trans (feq hc231).1) kont) ?_
      show Go _ _ _ _ _ _ _ (s₁.setTop (mkF m 11 #[.val (.int k0), .val (.long t0), .second, .val (.long t1), .second, .val (.long t2), .second, .val (.long s0), .second, .val (.long s1), .second, .val (.int (3 : Int32)), .unset, .unset, .unset, .unset, .unset, .unset, .unset, .unset, .unset, .unset, .unset, .unset, .unset, .unset, .unset, .unset, .unset] []))
      refine Go.by (fun _ kont => XS.iconst X0.here hx rfl (hb hby at_11) (XS.goto X0.here hx rfl (pc0 := 12) (pc' := 16) rfl (hb hby at_12) (by decide) (by decide) (XS.istore X0.here hx rfl (hb hby at_16) rfl (l' := #[.val (.int k0), .val (.long t0), .second, .val (.long t1), .second, .val (.long t2), .second, .val (.long s0), .second, .val (.long s1), .second, .val (.int (3 : Int32)), .val (.int (1 : Int32)), .unset, .unset, .unset, .unset, .unset, .unset, .unset, .unset, .unset, .unset, .unset, .unset, .unset, .unset, .unset, .unset]) rfl (XS.lloadN X0.here hx rfl (hb hby at_18) rfl (XS.lload X0.here hx rfl (hb hby at_19) rfl (XS.lsub X0.here hx rfl (hb hby at_21) rfl kont)))))) ?_
      show Go _ _ _ _ _ _ _ (s₁.setTop (mkF m 22 #[.val (.int k0), .val (.long t0), .second, .val (.long t1), .second, .val (.long t2), .second, .val (.long s0), .second, .val (.long s1), .second, .val (.int (3 : Int32)), .val (.int (1 : Int32)), .unset, .unset, .unset, .unset, .unset, .unset, .unset, .unset, .unset, .unset, .unset, .unset, .unset, .unset, .unset, .unset] [(.long (t0 - s1))]))
      refine Go.by (fun _ kont => XS.lstore X0.here hx rfl (hb hby at_22) rfl (l' := #[.val (.int k0), .val (.long t0), .second, .val (.long t1), .second, .val (.long t2), .second, .val (.long s0), .second, .val (.long s1), .second, .val (.int (3 : Int32)), .val (.int (1 : Int32)), .val (.long (t0 - s1)), .second, .unset, .unset, .unset, .unset, .unset, .unset, .unset, .unset, .unset, .unset, .unset, .unset, .unset, .unset]) rfl (XS.iload X0.here hx rfl (hb hby at_24) rfl kont)) ?_
      show Go _ _ _ _ _ _ _ (s₁.setTop (mkF m 26 #[.val (.int k0), .val (.long t0), .second, .val (.long t1), .second, .val (.long t2), .second, .val (.long s0), .second, .val (.long s1), .second, .val (.int (3 : Int32)), .val (.int (1 : Int32)), .val (.long (t0 - s1)), .second, .unset, .unset, .unset, .unset, .unset, .unset, .unset, .unset, .unset, .unset, .unset, .unset, .unset, .unset] [(.int (3 : Int32))]))
      obtain ⟨T264, h264, k264, X264, e264, X_264, A264, st264⟩ := newP X0 hx hZ (hw _ (List.mem_of_getElem? (i := 0) rfl)) e0 (g := (mkF m 26 #[.val (.int k0), .val (.long t0), .second, .val (.long t1), .second, .val (.long t2), .second, .val (.long s0), .second, .val (.long s1), .second, .val (.int (3 : Int32)), .val (.int (1 : Int32)), .val (.long (t0 - s1)), .second, .unset, .unset, .unset, .unset, .unset, .unset, .unset, .unset, .unset, .unset, .unset, .unset, .unset, .unset] [(.int (3 : Int32))])) rfl (hb hby at_26) rfl (by decide) (cap := 3) (by decide) (by decide) (by decide) (by decide)
      obtain ⟨b264, g264⟩ : ∃ z, z = h0.size := ⟨_, rfl⟩
      rw [← g264] at A264 st264
      have ge_b264 : n0 ≤ b264 := Nat.le_trans Z0 (Nat.le_of_eq g264.symm)
      have sz_b264 : h0.size ≤ b264 := Nat.le_trans (Keep.refl h0 []).1 (Nat.le_of_eq g264.symm)
      have Z265 := Nat.le_trans Z0 X_264.1
      have K265 : Keep h0 h264 [] := (Keep.refl h0 []).ext X_264
      have V264 : Arv Z h264 b264 k264 .long (3 : Int32) [(.long (0 : Int64)), (.long (0 : Int64)), (.long (0 : Int64))] (.long (0 : Int64)) := (Arv.new A264 (by decide)).pad (pad_rep [] (.long (0 : Int64)) 3)
      refine Go.by st264 ?_
      show Go _ _ _ _ _ _ _ (T264.setTop (mkF m 28 #[.val (.int k0), .val (.long t0), .second, .val (.long t1), .second, .val (.long t2), .second, .val (.long s0), .second, .val (.long s1), .second, .val (.int (3 : Int32)), .val (.int (1 : Int32)), .val (.long (t0 - s1)), .second, .unset, .unset, .unset, .unset, .unset, .unset, .unset, .unset, .unset, .unset, .unset, .unset, .unset, .unset] [(.ref b264)]))
      refine Go.by (fun _ kont => XS.astore X264.here hx rfl (hb hby at_28) rfl rfl (l' := #[.val (.int k0), .val (.long t0), .second, .val (.long t1), .second, .val (.long t2), .second, .val (.long s0), .second, .val (.long s1), .second, .val (.int (3 : Int32)), .val (.int (1 : Int32)), .val (.long (t0 - s1)), .second, .val (.ref b264), .unset, .unset, .unset, .unset, .unset, .unset, .unset, .unset, .unset, .unset, .unset, .unset, .unset]) rfl (XS.iload X264.here hx rfl (hb hby at_30) rfl kont)) ?_
      show Go _ _ _ _ _ _ _ (T264.setTop (mkF m 32 #[.val (.int k0), .val (.long t0), .second, .val (.long t1), .second, .val (.long t2), .second, .val (.long s0), .second, .val (.long s1), .second, .val (.int (3 : Int32)), .val (.int (1 : Int32)), .val (.long (t0 - s1)), .second, .val (.ref b264), .unset, .unset, .unset, .unset, .unset, .unset, .unset, .unset, .unset, .unset, .unset, .unset, .unset] [(.int (3 : Int32))]))
      obtain ⟨T266, h266, k266, X266, e266, X_266, A266, st266⟩ := newP X264 hx hZ (hw _ (List.mem_of_getElem? (i := 0) rfl)) e264 (g := (mkF m 32 #[.val (.int k0), .val (.long t0), .second, .val (.long t1), .second, .val (.long t2), .second, .val (.long s0), .second, .val (.long s1), .second, .val (.int (3 : Int32)), .val (.int (1 : Int32)), .val (.long (t0 - s1)), .second, .val (.ref b264), .unset, .unset, .unset, .unset, .unset, .unset, .unset, .unset, .unset, .unset, .unset, .unset, .unset] [(.int (3 : Int32))])) rfl (hb hby at_32) rfl (by decide) (cap := 3) (by decide) (by decide) (by decide) (by decide)
      obtain ⟨b266, g266⟩ : ∃ z, z = h264.size := ⟨_, rfl⟩
      rw [← g266] at A266 st266
      have ne_b264_b266 : b264 ≠ b266 := Nat.ne_of_lt (Nat.lt_of_lt_of_le V264.lt (Nat.le_of_eq g266.symm))
      have ge_b266 : n0 ≤ b266 := Nat.le_trans Z265 (Nat.le_of_eq g266.symm)
      have sz_b266 : h0.size ≤ b266 := Nat.le_trans K265.1 (Nat.le_of_eq g266.symm)
      have V267_b264 := V264.ext X_266
      have Z267 := Nat.le_trans Z265 X_266.1
      have K267 : Keep h0 h266 [] := K265.ext X_266
      have V266 : Arv Z h266 b266 k266 .long (3 : Int32) [(.long (0 : Int64)), (.long (0 : Int64)), (.long (0 : Int64))] (.long (0 : Int64)) := (Arv.new A266 (by decide)).pad (pad_rep [] (.long (0 : Int64)) 3)
      refine Go.by st266 ?_
      show Go _ _ _ _ _ _ _ (T266.setTop (mkF m 34 #[.val (.int k0), .val (.long t0), .second, .val (.long t1), .second, .val (.long t2), .second, .val (.long s0), .second, .val (.long s1), .second, .val (.int (3 : Int32)), .val (.int (1 : Int32)), .val (.long (t0 - s1)), .second, .val (.ref b264), .unset, .unset, .unset, .unset, .unset, .unset, .unset, .unset, .unset, .unset, .unset, .unset, .unset] [(.ref b266)]))
      refine Go.by (fun _ kont => XS.astore X266.here hx rfl (hb hby at_34) rfl rfl (l' := #[.val (.int k0), .val (.long t0), .second, .val (.long t1), .second, .val (.long t2), .second, .val (.long s0), .second, .val (.long s1), .second, .val (.int (3 : Int32)), .val (.int (1 : Int32)), .val (.long (t0 - s1)), .second, .val (.ref b264), .val (.ref b266), .unset, .unset, .unset, .unset, .unset, .unset, .unset, .unset, .unset, .unset, .unset, .unset]) rfl (XS.iload X266.here hx rfl (hb hby at_36) rfl kont)) ?_
      show Go _ _ _ _ _ _ _ (T266.setTop (mkF m 38 #[.val (.int k0), .val (.long t0), .second, .val (.long t1), .second, .val (.long t2), .second, .val (.long s0), .second, .val (.long s1), .second, .val (.int (3 : Int32)), .val (.int (1 : Int32)), .val (.long (t0 - s1)), .second, .val (.ref b264), .val (.ref b266), .unset, .unset, .unset, .unset, .unset, .unset, .unset, .unset, .unset, .unset, .unset, .unset] [(.int (3 : Int32))]))
      refine Go.by (fun _ kont => XS.ifNo X266.here hx rfl (hb hby at_38) rfl (by decide) kont) ?_
      show Go _ _ _ _ _ _ _ (T266.setTop (mkF m 41 #[.val (.int k0), .val (.long t0), .second, .val (.long t1), .second, .val (.long t2), .second, .val (.long s0), .second, .val (.long s1), .second, .val (.int (3 : Int32)), .val (.int (1 : Int32)), .val (.long (t0 - s1)), .second, .val (.ref b264), .val (.ref b266), .unset, .unset, .unset, .unset, .unset, .unset, .unset, .unset, .unset, .unset, .unset, .unset] []))
      refine Go.by (fun _ kont => XS.aload X266.here hx rfl (hb hby at_41) rfl rfl (XS.iconst X266.here hx rfl (hb hby at_43) (XS.lloadN X266.here hx rfl (hb hby at_44) rfl kont))) ?_
      show Go _ _ _ _ _ _ _ (T266.setTop (mkF m 45 #[.val (.int k0), .val (.long t0), .second, .val (.long t1), .second, .val (.long t2), .second, .val (.long s0), .second, .val (.long s1), .second, .val (.int (3 : Int32)), .val (.int (1 : Int32)), .val (.long (t0 - s1)), .second, .val (.ref b264), .val (.ref b266), .unset, .unset, .unset, .unset, .unset, .unset, .unset, .unset, .unset, .unset, .unset, .unset] [(.long t0), (.int (0 : Int32)), (.ref b264)]))
      obtain ⟨cl_q268, Ar_q268, q1_q268, S_q268, N_q268, H_q268, G_q268⟩ := id V267_b264
      have hin_q268 : ¬ ((0 : Int32) < 0 ∨ cl_q268.slots.size ≤ ((0 : Int32)).toNatClampNeg) := inb_of S_q268 ⟨by decide, by decide⟩
      obtain ⟨T269, h269, X269, e269, W269, st269⟩ := stJ X266 hx hZ e266 Ar_q268 (j := (0 : Int32)) hin_q268 (g := (mkF m 45 #[.val (.int k0), .val (.long t0), .second, .val (.long t1), .second, .val (.long t2), .second, .val (.long s0), .second, .val (.long s1), .second, .val (.int (3 : Int32)), .val (.int (1 : Int32)), .val (.long (t0 - s1)), .second, .val (.ref b264), .val (.ref b266), .unset, .unset, .unset, .unset, .unset, .unset, .unset, .unset, .unset, .unset, .unset, .unset] [(.long t0), (.int (0 : Int32)), (.ref b264)])) rfl rfl (hb hby at_45)
      have V269 : Arv Z h269 b264 k264 .long (3 : Int32) [(.long t0), (.long (0 : Int64)), (.long (0 : Int64))] (.long (0 : Int64)) := Arv.set Ar_q268 q1_q268 S_q268 N_q268 H_q268 G_q268 rfl W269 0 rfl (Nat.le_of_ble_eq_true rfl)
      have V270_b266 := V266.other W269 (Ne.symm ne_b264_b266)
      have Z270 := Nat.le_trans Z267 (Keep.of_wr W269).1
      have K270 : Keep h0 h269 [] := K267.wr W269 (Or.inr sz_b264)
      have N269 := Fr.snoc X269 N0 ge_b264
      refine Go.by st269 ?_
      show Go _ _ _ _ _ _ _ (T269.setTop (mkF m 46 #[.val (.int k0), .val (.long t0), .second, .val (.long t1), .second, .val (.long t2), .second, .val (.long s0), .second, .val (.long s1), .second, .val (.int (3 : Int32)), .val (.int (1 : Int32)), .val (.long (t0 - s1)), .second, .val (.ref b264), .val (.ref b266), .unset, .unset, .unset, .unset, .unset, .unset, .unset, .unset, .unset, .unset, .unset, .unset] []))
      refine Go.by (fun _ kont => XS.aload X269.here hx rfl (hb hby at_46) rfl rfl (XS.iconst X269.here hx rfl (hb hby at_48) (XS.lload X269.here hx rfl (hb hby at_49) rfl kont))) ?_
      show Go _ _ _ _ _ _ _ (T269.setTop (mkF m 51 #[.val (.int k0), .val (.long t0), .second, .val (.long t1), .second, .val (.long t2), .second, .val (.long s0), .second, .val (.long s1), .second, .val (.int (3 : Int32)), .val (.int (1 : Int32)), .val (.long (t0 - s1)), .second, .val (.ref b264), .val (.ref b266), .unset, .unset, .unset, .unset, .unset, .unset, .unset, .unset, .unset, .unset, .unset, .unset] [(.long s0), (.int (0 : Int32)), (.ref b266)]))
      obtain ⟨cl_q271, Ar_q271, q1_q271, S_q271, N_q271, H_q271, G_q271⟩ := id V270_b266
      have hin_q271 : ¬ ((0 : Int32) < 0 ∨ cl_q271.slots.size ≤ ((0 : Int32)).toNatClampNeg) := inb_of S_q271 ⟨by decide, by decide⟩
      obtain ⟨T272, h272, X272, e272, W272, st272⟩ := stJ X269 hx hZ e269 Ar_q271 (j := (0 : Int32)) hin_q271 (g := (mkF m 51 #[.val (.int k0), .val (.long t0), .second, .val (.long t1), .second, .val (.long t2), .second, .val (.long s0), .second, .val (.long s1), .second, .val (.int (3 : Int32)), .val (.int (1 : Int32)), .val (.long (t0 - s1)), .second, .val (.ref b264), .val (.ref b266), .unset, .unset, .unset, .unset, .unset, .unset, .unset, .unset, .unset, .unset, .unset, .unset] [(.long s0), (.int (0 : Int32)), (.ref b266)])) rfl rfl (hb hby at_51)
      have V272 : Arv Z h272 b266 k266 .long (3 : Int32) [(.long s0), (.long (0 : Int64)), (.long (0 : Int64))] (.long (0 : Int64)) := Arv.set Ar_q271 q1_q271 S_q271 N_q271 H_q271 G_q271 rfl W272 0 rfl (Nat.le_of_ble_eq_true rfl)
      have V273_b264 := V269.other W272 ne_b264_b266
      have Z273 := Nat.le_trans Z270 (Keep.of_wr W272).1
      have K273 : Keep h0 h272 [] := K270.wr W272 (Or.inr sz_b266)
      have N272 := Fr.snoc X272 N269 ge_b266
      refine Go.by st272 ?_
      show Go _ _ _ _ _ _ _ (T272.setTop (mkF m 52 #[.val (.int k0), .val (.long t0), .second, .val (.long t1), .second, .val (.long t2), .second, .val (.long s0), .second, .val (.long s1), .second, .val (.int (3 : Int32)), .val (.int (1 : Int32)), .val (.long (t0 - s1)), .second, .val (.ref b264), .val (.ref b266), .unset, .unset, .unset, .unset, .unset, .unset, .unset, .unset, .unset, .unset, .unset, .unset] []))
      refine Go.by (fun _ kont => XS.iload X272.here hx rfl (hb hby at_52) rfl (XS.iconst X272.here hx rfl (hb hby at_54) kont)) ?_
      show Go _ _ _ _ _ _ _ (T272.setTop (mkF m 55 #[.val (.int k0), .val (.long t0), .second, .val (.long t1), .second, .val (.long t2), .second, .val (.long s0), .second, .val (.long s1), .second, .val (.int (3 : Int32)), .val (.int (1 : Int32)), .val (.long (t0 - s1)), .second, .val (.ref b264), .val (.ref b266), .unset, .unset, .unset, .unset, .unset, .unset, .unset, .unset, .unset, .unset, .unset, .unset] [(.int (1 : Int32)), (.int (3 : Int32))]))
      refine Go.by (fun _ kont => XS.icmpNo X272.here hx rfl (hb hby at_55) rfl (by decide) kont) ?_
      show Go _ _ _ _ _ _ _ (T272.setTop (mkF m 58 #[.val (.int k0), .val (.long t0), .second, .val (.long t1), .second, .val (.long t2), .second, .val (.long s0), .second, .val (.long s1), .second, .val (.int (3 : Int32)), .val (.int (1 : Int32)), .val (.long (t0 - s1)), .second, .val (.ref b264), .val (.ref b266), .unset, .unset, .unset, .unset, .unset, .unset, .unset, .unset, .unset, .unset, .unset, .unset] []))
      refine Go.by (fun _ kont => XS.aload X272.here hx rfl (hb hby at_58) rfl rfl (XS.iconst X272.here hx rfl (hb hby at_60) (XS.lloadN X272.here hx rfl (hb hby at_61) rfl kont))) ?_
      show Go _ _ _ _ _ _ _ (T272.setTop (mkF m 62 #[.val (.int k0), .val (.long t0), .second, .val (.long t1), .second, .val (.long t2), .second, .val (.long s0), .second, .val (.long s1), .second, .val (.int (3 : Int32)), .val (.int (1 : Int32)), .val (.long (t0 - s1)), .second, .val (.ref b264), .val (.ref b266), .unset, .unset, .unset, .unset, .unset, .unset, .unset, .unset, .unset, .unset, .unset, .unset] [(.long t1), (.int (1 : Int32)), (.ref b264)]))
      obtain ⟨cl_q274, Ar_q274, q1_q274, S_q274, N_q274, H_q274, G_q274⟩ := id V273_b264
      have hin_q274 : ¬ ((1 : Int32) < 0 ∨ cl_q274.slots.size ≤ ((1 : Int32)).toNatClampNeg) := inb_of S_q274 ⟨by decide, by decide⟩
      obtain ⟨T275, h275, X275, e275, W275, st275⟩ := stJ X272 hx hZ e272 Ar_q274 (j := (1 : Int32)) hin_q274 (g := (mkF m 62 #[.val (.int k0), .val (.long t0), .second, .val (.long t1), .second, .val (.long t2), .second, .val (.long s0), .second, .val (.long s1), .second, .val (.int (3 : Int32)), .val (.int (1 : Int32)), .val (.long (t0 - s1)), .second, .val (.ref b264), .val (.ref b266), .unset, .unset, .unset, .unset, .unset, .unset, .unset, .unset, .unset, .unset, .unset, .unset] [(.long t1), (.int (1 : Int32)), (.ref b264)])) rfl rfl (hb hby at_62)
      have V275 : Arv Z h275 b264 k264 .long (3 : Int32) [(.long t0), (.long t1), (.long (0 : Int64))] (.long (0 : Int64)) := Arv.set Ar_q274 q1_q274 S_q274 N_q274 H_q274 G_q274 rfl W275 1 rfl (Nat.le_of_ble_eq_true rfl)
      have V276_b266 := V272.other W275 (Ne.symm ne_b264_b266)
      have Z276 := Nat.le_trans Z273 (Keep.of_wr W275).1
      have K276 : Keep h0 h275 [] := K273.wr W275 (Or.inr sz_b264)
      have N275 := Fr.snoc X275 N272 ge_b264
      refine Go.by st275 ?_
      show Go _ _ _ _ _ _ _ (T275.setTop (mkF m 63 #[.val (.int k0), .val (.long t0), .second, .val (.long t1), .second, .val (.long t2), .second, .val (.long s0), .second, .val (.long s1), .second, .val (.int (3 : Int32)), .val (.int (1 : Int32)), .val (.long (t0 - s1)), .second, .val (.ref b264), .val (.ref b266), .unset, .unset, .unset, .unset, .unset, .unset, .unset, .unset, .unset, .unset, .unset, .unset] []))
      refine Go.by (fun _ kont => XS.aload X275.here hx rfl (hb hby at_63) rfl rfl (XS.iconst X275.here hx rfl (hb hby at_65) (XS.lload X275.here hx rfl (hb hby at_66) rfl kont))) ?_
      show Go _ _ _ _ _ _ _ (T275.setTop (mkF m 68 #[.val (.int k0), .val (.long t0), .second, .val (.long t1), .second, .val (.long t2), .second, .val (.long s0), .second, .val (.long s1), .second, .val (.int (3 : Int32)), .val (.int (1 : Int32)), .val (.long (t0 - s1)), .second, .val (.ref b264), .val (.ref b266), .unset, .unset, .unset, .unset, .unset, .unset, .unset, .unset, .unset, .unset, .unset, .unset] [(.long s1), (.int (1 : Int32)), (.ref b266)]))
      obtain ⟨cl_q277, Ar_q277, q1_q277, S_q277, N_q277, H_q277, G_q277⟩ := id V276_b266
      have hin_q277 : ¬ ((1 : Int32) < 0 ∨ cl_q277.slots.size ≤ ((1 : Int32)).toNatClampNeg) := inb_of S_q277 ⟨by decide, by decide⟩
      obtain ⟨T278, h278, X278, e278, W278, st278⟩ := stJ X275 hx hZ e275 Ar_q277 (j := (1 : Int32)) hin_q277 (g := (mkF m 68 #[.val (.int k0), .val (.long t0), .second, .val (.long t1), .second, .val (.long t2), .second, .val (.long s0), .second, .val (.long s1), .second, .val (.int (3 : Int32)), .val (.int (1 : Int32)), .val (.long (t0 - s1)), .second, .val (.ref b264), .val (.ref b266), .unset, .unset, .unset, .unset, .unset, .unset, .unset, .unset, .unset, .unset, .unset, .unset] [(.long s1), (.int (1 : Int32)), (.ref b266)])) rfl rfl (hb hby at_68)
      have V278 : Arv Z h278 b266 k266 .long (3 : Int32) [(.long s0), (.long s1), (.long (0 : Int64))] (.long (0 : Int64)) := Arv.set Ar_q277 q1_q277 S_q277 N_q277 H_q277 G_q277 rfl W278 1 rfl (Nat.le_of_ble_eq_true rfl)
      have V279_b264 := V275.other W278 ne_b264_b266
      have Z279 := Nat.le_trans Z276 (Keep.of_wr W278).1
      have K279 : Keep h0 h278 [] := K276.wr W278 (Or.inr sz_b266)
      have N278 := Fr.snoc X278 N275 ge_b266
      refine Go.by st278 ?_
      show Go _ _ _ _ _ _ _ (T278.setTop (mkF m 69 #[.val (.int k0), .val (.long t0), .second, .val (.long t1), .second, .val (.long t2), .second, .val (.long s0), .second, .val (.long s1), .second, .val (.int (3 : Int32)), .val (.int (1 : Int32)), .val (.long (t0 - s1)), .second, .val (.ref b264), .val (.ref b266), .unset, .unset, .unset, .unset, .unset, .unset, .unset, .unset, .unset, .unset, .unset, .unset] []))
      refine Go.by (fun _ kont => XS.iload X278.here hx rfl (hb hby at_69) rfl (XS.iconst X278.here hx rfl (hb hby at_71) kont)) ?_
      show Go _ _ _ _ _ _ _ (T278.setTop (mkF m 72 #[.val (.int k0), .val (.long t0), .second, .val (.long t1), .second, .val (.long t2), .second, .val (.long s0), .second, .val (.long s1), .second, .val (.int (3 : Int32)), .val (.int (1 : Int32)), .val (.long (t0 - s1)), .second, .val (.ref b264), .val (.ref b266), .unset, .unset, .unset, .unset, .unset, .unset, .unset, .unset, .unset, .unset, .unset, .unset] [(.int (2 : Int32)), (.int (3 : Int32))]))
      refine Go.by (fun _ kont => XS.icmpNo X278.here hx rfl (hb hby at_72) rfl (by decide) kont) ?_
      show Go _ _ _ _ _ _ _ (T278.setTop (mkF m 75 #[.val (.int k0), .val (.long t0), .second, .val (.long t1), .second, .val (.long t2), .second, .val (.long s0), .second, .val (.long s1), .second, .val (.int (3 : Int32)), .val (.int (1 : Int32)), .val (.long (t0 - s1)), .second, .val (.ref b264), .val (.ref b266), .unset, .unset, .unset, .unset, .unset, .unset, .unset, .unset, .unset, .unset, .unset, .unset] []))
      refine Go.by (fun _ kont => XS.aload X278.here hx rfl (hb hby at_75) rfl rfl (XS.iconst X278.here hx rfl (hb hby at_77) (XS.lload X278.here hx rfl (hb hby at_78) rfl kont))) ?_
      show Go _ _ _ _ _ _ _ (T278.setTop (mkF m 80 #[.val (.int k0), .val (.long t0), .second, .val (.long t1), .second, .val (.long t2), .second, .val (.long s0), .second, .val (.long s1), .second, .val (.int (3 : Int32)), .val (.int (1 : Int32)), .val (.long (t0 - s1)), .second, .val (.ref b264), .val (.ref b266), .unset, .unset, .unset, .unset, .unset, .unset, .unset, .unset, .unset, .unset, .unset, .unset] [(.long t2), (.int (2 : Int32)), (.ref b264)]))
      obtain ⟨cl_q280, Ar_q280, q1_q280, S_q280, N_q280, H_q280, G_q280⟩ := id V279_b264
      have hin_q280 : ¬ ((2 : Int32) < 0 ∨ cl_q280.slots.size ≤ ((2 : Int32)).toNatClampNeg) := inb_of S_q280 ⟨by decide, by decide⟩
      obtain ⟨T281, h281, X281, e281, W281, st281⟩ := stJ X278 hx hZ e278 Ar_q280 (j := (2 : Int32)) hin_q280 (g := (mkF m 80 #[.val (.int k0), .val (.long t0), .second, .val (.long t1), .second, .val (.long t2), .second, .val (.long s0), .second, .val (.long s1), .second, .val (.int (3 : Int32)), .val (.int (1 : Int32)), .val (.long (t0 - s1)), .second, .val (.ref b264), .val (.ref b266), .unset, .unset, .unset, .unset, .unset, .unset, .unset, .unset, .unset, .unset, .unset, .unset] [(.long t2), (.int (2 : Int32)), (.ref b264)])) rfl rfl (hb hby at_80)
      have V281 : Arv Z h281 b264 k264 .long (3 : Int32) [(.long t0), (.long t1), (.long t2)] (.long (0 : Int64)) := Arv.set Ar_q280 q1_q280 S_q280 N_q280 H_q280 G_q280 rfl W281 2 rfl (Nat.le_of_ble_eq_true rfl)
      have V282_b266 := V278.other W281 (Ne.symm ne_b264_b266)
      have Z282 := Nat.le_trans Z279 (Keep.of_wr W281).1
      have K282 : Keep h0 h281 [] := K279.wr W281 (Or.inr sz_b264)
      have N281 := Fr.snoc X281 N278 ge_b264
      refine Go.by st281 ?_
      show Go _ _ _ _ _ _ _ (T281.setTop (mkF m 81 #[.val (.int k0), .val (.long t0), .second, .val (.long t1), .second, .val (.long t2), .second, .val (.long s0), .second, .val (.long s1), .second, .val (.int (3 : Int32)), .val (.int (1 : Int32)), .val (.long (t0 - s1)), .second, .val (.ref b264), .val (.ref b266), .unset, .unset, .unset, .unset, .unset, .unset, .unset, .unset, .unset, .unset, .unset, .unset] []))
      refine Go.by (fun _ kont => XS.aload X281.here hx rfl (hb hby at_81) rfl rfl (XS.iconst X281.here hx rfl (hb hby at_83) (XS.lload X281.here hx rfl (hb hby at_84) rfl kont))) ?_
      show Go _ _ _ _ _ _ _ (T281.setTop (mkF m 86 #[.val (.int k0), .val (.long t0), .second, .val (.long t1), .second, .val (.long t2), .second, .val (.long s0), .second, .val (.long s1), .second, .val (.int (3 : Int32)), .val (.int (1 : Int32)), .val (.long (t0 - s1)), .second, .val (.ref b264), .val (.ref b266), .unset, .unset, .unset, .unset, .unset, .unset, .unset, .unset, .unset, .unset, .unset, .unset] [(.long (t0 - s1)), (.int (2 : Int32)), (.ref b266)]))
      obtain ⟨cl_q283, Ar_q283, q1_q283, S_q283, N_q283, H_q283, G_q283⟩ := id V282_b266
      have hin_q283 : ¬ ((2 : Int32) < 0 ∨ cl_q283.slots.size ≤ ((2 : Int32)).toNatClampNeg) := inb_of S_q283 ⟨by decide, by decide⟩
      obtain ⟨T284, h284, X284, e284, W284, st284⟩ := stJ X281 hx hZ e281 Ar_q283 (j := (2 : Int32)) hin_q283 (g := (mkF m 86 #[.val (.int k0), .val (.long t0), .second, .val (.long t1), .second, .val (.long t2), .second, .val (.long s0), .second, .val (.long s1), .second, .val (.int (3 : Int32)), .val (.int (1 : Int32)), .val (.long (t0 - s1)), .second, .val (.ref b264), .val (.ref b266), .unset, .unset, .unset, .unset, .unset, .unset, .unset, .unset, .unset, .unset, .unset, .unset] [(.long (t0 - s1)), (.int (2 : Int32)), (.ref b266)])) rfl rfl (hb hby at_86)
      have V284 : Arv Z h284 b266 k266 .long (3 : Int32) [(.long s0), (.long s1), (.long (t0 - s1))] (.long (0 : Int64)) := Arv.set Ar_q283 q1_q283 S_q283 N_q283 H_q283 G_q283 rfl W284 2 rfl (Nat.le_of_ble_eq_true rfl)
      have V285_b264 := V281.other W284 ne_b264_b266
      have Z285 := Nat.le_trans Z282 (Keep.of_wr W284).1
      have K285 : Keep h0 h284 [] := K282.wr W284 (Or.inr sz_b266)
      have N284 := Fr.snoc X284 N281 ge_b266
      refine Go.by st284 ?_
      show Go _ _ _ _ _ _ _ (T284.setTop (mkF m 87 #[.val (.int k0), .val (.long t0), .second, .val (.long t1), .second, .val (.long t2), .second, .val (.long s0), .second, .val (.long s1), .second, .val (.int (3 : Int32)), .val (.int (1 : Int32)), .val (.long (t0 - s1)), .second, .val (.ref b264), .val (.ref b266), .unset, .unset, .unset, .unset, .unset, .unset, .unset, .unset, .unset, .unset, .unset, .unset] []))
      refine Go.by (fun _ kont => XS.iload X284.here hx rfl (hb hby at_87) rfl kont) ?_
      show Go _ _ _ _ _ _ _ (T284.setTop (mkF m 89 #[.val (.int k0), .val (.long t0), .second, .val (.long t1), .second, .val (.long t2), .second, .val (.long s0), .second, .val (.long s1), .second, .val (.int (3 : Int32)), .val (.int (1 : Int32)), .val (.long (t0 - s1)), .second, .val (.ref b264), .val (.ref b266), .unset, .unset, .unset, .unset, .unset, .unset, .unset, .unset, .unset, .unset, .unset, .unset] [(.int (1 : Int32))]))
      refine Go.by (fun _ kont => XS.ifNo X284.here hx rfl (hb hby at_89) rfl (by decide) kont) ?_
      show Go _ _ _ _ _ _ _ (T284.setTop (mkF m 92 #[.val (.int k0), .val (.long t0), .second, .val (.long t1), .second, .val (.long t2), .second, .val (.long s0), .second, .val (.long s1), .second, .val (.int (3 : Int32)), .val (.int (1 : Int32)), .val (.long (t0 - s1)), .second, .val (.ref b264), .val (.ref b266), .unset, .unset, .unset, .unset, .unset, .unset, .unset, .unset, .unset, .unset, .unset, .unset] []))
      refine Go.by (fun _ kont => XS.aload X284.here hx rfl (hb hby at_92) rfl rfl (XS.aload X284.here hx rfl (hb hby at_94) rfl rfl kont)) ?_
      show Go _ _ _ _ _ _ _ (T284.setTop (mkF m 96 #[.val (.int k0), .val (.long t0), .second, .val (.long t1), .second, .val (.long t2), .second, .val (.long s0), .second, .val (.long s1), .second, .val (.int (3 : Int32)), .val (.int (1 : Int32)), .val (.long (t0 - s1)), .second, .val (.ref b264), .val (.ref b266), .unset, .unset, .unset, .unset, .unset, .unset, .unset, .unset, .unset, .unset, .unset, .unset] [(.ref b264), (.ref b264)]))
      obtain ⟨_, _, ⟨T286, L286, k286, n286⟩, -, X286, ⟨Lc286, hQ286, l286, y286, z286⟩, st286⟩ := Jvm.LawKit.callS X284 hx (y := (⟨"com/example/runs_to_nets/runstonets/core/Gf2Basis", "xor", "([J[J)V"⟩ : MethodName)) hown (mvT hZ (hw _ (List.mem_of_getElem? (i := 1) rfl))) (mvT hZ (hw _ (List.mem_of_getElem? (i := 2) rfl))) (mvT hZ (hw _ (List.mem_of_getElem? (i := 3) rfl))) (mvT hZ (hw _ (List.mem_of_getElem? (i := 4) rfl))) (by decide) (backOf (W := 0) (rmXA3 l Z a0 hw [] b264 k264 t0 t1 t2 h284 n0 Z285 V285_b264 ge_b264) hZ (hw _ (List.mem_of_getElem? (i := 4) rfl)) (hw _ (List.mem_of_getElem? (i := 3) rfl)) (by decide) (by decide)) (g := (mkF m 96 #[.val (.int k0), .val (.long t0), .second, .val (.long t1), .second, .val (.long t2), .second, .val (.long s0), .second, .val (.long s1), .second, .val (.int (3 : Int32)), .val (.int (1 : Int32)), .val (.long (t0 - s1)), .second, .val (.ref b264), .val (.ref b266), .unset, .unset, .unset, .unset, .unset, .unset, .unset, .unset, .unset, .unset, .unset, .unset] [(.ref b264), (.ref b264)])) rfl (by rw [hml]; rfl) (argsL := [(.ref b264), (.ref b264)]) (rest := []) (lenOf pd0_0 rfl) rfl (by show 2 * 0 + _ ≤ _; exact Nat.le_of_eq rfl) (hb hby at_96) (fun _ _ => ⟨rfl, e284, (by decide : 2 + 0 ≤ _), (by decide : 6 + 0 ≤ _)⟩)
      dsimp only [Pt.U, Pt.locs, Pt.cells, Pt.slots] at X286 l286 y286 z286 st286 hQ286
      subst l286 y286 z286
      obtain ⟨rfl, N286q, K286, g286_0⟩ := hQ286
      have V287_b266 := V284.keep K286 (ninS (Ne.symm ne_b264_b266) nin0)
      have Z287 := Nat.le_trans Z285 K286.1
      have K287 : Keep h0 T286.heap [] := Keep.trans K285 K286 (allS (Or.inr sz_b264) all0)
      have N286 := Fr.app N284 N286q
      refine Go.by st286 ?_
      show Go _ _ _ _ _ _ _ (T286.setTop (mkF m 99 #[.val (.int k0), .val (.long t0), .second, .val (.long t1), .second, .val (.long t2), .second, .val (.long s0), .second, .val (.long s1), .second, .val (.int (3 : Int32)), .val (.int (1 : Int32)), .val (.long (t0 - s1)), .second, .val (.ref b264), .val (.ref b266), .unset, .unset, .unset, .unset, .unset, .unset, .unset, .unset, .unset, .unset, .unset, .unset] []))
      refine Go.by (fun _ kont => XS.aload X286.here hx rfl (hb hby at_99) rfl rfl kont) ?_
      show Go _ _ _ _ _ _ _ (T286.setTop (mkF m 101 #[.val (.int k0), .val (.long t0), .second, .val (.long t1), .second, .val (.long t2), .second, .val (.long s0), .second, .val (.long s1), .second, .val (.int (3 : Int32)), .val (.int (1 : Int32)), .val (.long (t0 - s1)), .second, .val (.ref b264), .val (.ref b266), .unset, .unset, .unset, .unset, .unset, .unset, .unset, .unset, .unset, .unset, .unset, .unset] [(.ref b264)]))
      obtain ⟨cl_q288, Ar_q288, q1_q288, S_q288, N_q288, H_q288, G_q288⟩ := id g286_0
      refine Go.by (X286.arraylength hx (by first | exact Ar_q288.1 | (rw [rfl]; exact Ar_q288.1)) (State.isArrayOf_alike hZ.alike Ar_q288.2.1) (g := (mkF m 101 #[.val (.int k0), .val (.long t0), .second, .val (.long t1), .second, .val (.long t2), .second, .val (.long s0), .second, .val (.long s1), .second, .val (.int (3 : Int32)), .val (.int (1 : Int32)), .val (.long (t0 - s1)), .second, .val (.ref b264), .val (.ref b266), .unset, .unset, .unset, .unset, .unset, .unset, .unset, .unset, .unset, .unset, .unset, .unset] [(.ref b264)])) rfl rfl (hb hby at_101)) ?_
      rw [len_of S_q288 N_q288]
      show Go _ _ _ _ _ _ _ (T286.setTop (mkF m 102 #[.val (.int k0), .val (.long t0), .second, .val (.long t1), .second, .val (.long t2), .second, .val (.long s0), .second, .val (.long s1), .second, .val (.int (3 : Int32)), .val (.int (1 : Int32)), .val (.long (t0 - s1)), .second, .val (.ref b264), .val (.ref b266), .unset, .unset, .unset, .unset, .unset, .unset, .unset, .unset, .unset, .unset, .unset, .unset] [(.int (3 : Int32))]))
      refine Go.by (fun _ kont => XS.iload X286.here hx rfl (hb hby at_102) rfl kont) ?_
      show Go _ _ _ _ _ _ _ (T286.setTop (mkF m 104 #[.val (.int k0), .val (.long t0), .second, .val (.long t1), .second, .val (.long t2), .second, .val (.long s0), .second, .val (.long s1), .second, .val (.int (3 : Int32)), .val (.int (1 : Int32)), .val (.long (t0 - s1)), .second, .val (.ref b264), .val (.ref b266), .unset, .unset, .unset, .unset, .unset, .unset, .unset, .unset, .unset, .unset, .unset, .unset] [(.int (3 : Int32)), (.int (3 : Int32))]))
      refine Go.by (fun _ kont => XS.icmpNo X286.here hx rfl (hb hby at_104) rfl (by decide) kont) ?_
      show Go _ _ _ _ _ _ _ (T286.setTop (mkF m 107 #[.val (.int k0), .val (.long t0), .second, .val (.long t1), .second, .val (.long t2), .second, .val (.long s0), .second, .val (.long s1), .second, .val (.int (3 : Int32)), .val (.int (1 : Int32)), .val (.long (t0 - s1)), .second, .val (.ref b264), .val (.ref b266), .unset, .unset, .unset, .unset, .unset, .unset, .unset, .unset, .unset, .unset, .unset, .unset] []))
      refine Go.by (fun _ kont => XS.aload X286.here hx rfl (hb hby at_107) rfl rfl (XS.iconst X286.here hx rfl (hb hby at_109) kont)) ?_
      show Go _ _ _ _ _ _ _ (T286.setTop (mkF m 110 #[.val (.int k0), .val (.long t0), .second, .val (.long t1), .second, .val (.long t2), .second, .val (.long s0), .second, .val (.long s1), .second, .val (.int (3 : Int32)), .val (.int (1 : Int32)), .val (.long (t0 - s1)), .second, .val (.ref b264), .val (.ref b266), .unset, .unset, .unset, .unset, .unset, .unset, .unset, .unset, .unset, .unset, .unset, .unset] [(.int (0 : Int32)), (.ref b264)]))
      obtain ⟨_, _, ⟨T289, L289, k289, n289⟩, -, X289, ⟨Lc289, hQ289, l289, y289, z289⟩, st289⟩ := Jvm.LawKit.callS X286 hx (y := (⟨"com/example/runs_to_nets/runstonets/core/Gf2BasisXorPinLaw", "word", "([JI)J"⟩ : MethodName)) hown (mvT hZ (hw _ (List.mem_of_getElem? (i := 5) rfl))) (mvT hZ (hw _ (List.mem_of_getElem? (i := 6) rfl))) (mvT hZ (hw _ (List.mem_of_getElem? (i := 7) rfl))) (mvT hZ (hw _ (List.mem_of_getElem? (i := 8) rfl))) (by decide) (backOf (W := 0) (rmW30 l Z a0 hw [] b264 k264 (t0 ^^^ t0) (t1 ^^^ t1) (t2 ^^^ t2) T286.heap n0 Z287 g286_0) hZ (hw _ (List.mem_of_getElem? (i := 8) rfl)) (hw _ (List.mem_of_getElem? (i := 7) rfl)) (by decide) (by decide)) (g := (mkF m 110 #[.val (.int k0), .val (.long t0), .second, .val (.long t1), .second, .val (.long t2), .second, .val (.long s0), .second, .val (.long s1), .second, .val (.int (3 : Int32)), .val (.int (1 : Int32)), .val (.long (t0 - s1)), .second, .val (.ref b264), .val (.ref b266), .unset, .unset, .unset, .unset, .unset, .unset, .unset, .unset, .unset, .unset, .unset, .unset] [(.int (0 : Int32)), (.ref b264)])) rfl (by rw [hml]; rfl) (argsL := [(.ref b264), (.int (0 : Int32))]) (rest := []) (lenOf pd0_1 rfl) rfl (by show 2 * 0 + _ ≤ _; exact Nat.le_of_eq rfl) (hb hby at_110) (fun _ _ => ⟨rfl, rfl, (by decide : 2 + 0 ≤ _), (by decide : 6 + 0 ≤ _)⟩)
      dsimp only [Pt.U, Pt.locs, Pt.cells, Pt.slots] at X289 l289 y289 z289 st289 hQ289
      subst l289 y289 z289
      obtain ⟨rfl, N289q, eh289⟩ := hQ289
      have N289 := Fr.app N286 N289q
      refine Go.by st289 ?_
      show Go _ _ _ _ _ _ _ (T289.setTop (mkF m 113 #[.val (.int k0), .val (.long t0), .second, .val (.long t1), .second, .val (.long t2), .second, .val (.long s0), .second, .val (.long s1), .second, .val (.int (3 : Int32)), .val (.int (1 : Int32)), .val (.long (t0 - s1)), .second, .val (.ref b264), .val (.ref b266), .unset, .unset, .unset, .unset, .unset, .unset, .unset, .unset, .unset, .unset, .unset, .unset] [(.long (t0 ^^^ t0))]))
      refine Go.by (fun _ kont => XS.lconst X289.here hx rfl (hb hby at_113) (XS.lcmp X289.here hx rfl (hb hby at_114) rfl kont)) ?_
      show Go _ _ _ _ _ _ _ (T289.setTop (mkF m 115 #[.val (.int k0), .val (.long t0), .second, .val (.long t1), .second, .val (.long t2), .second, .val (.long s0), .second, .val (.long s1), .second, .val (.int (3 : Int32)), .val (.int (1 : Int32)), .val (.long (t0 - s1)), .second, .val (.ref b264), .val (.ref b266), .unset, .unset, .unset, .unset, .unset, .unset, .unset, .unset, .unset, .unset, .unset, .unset] [(.int (lcmpW (t0 ^^^ t0) (0 : Int64)))]))
      have hd290 : (t0 ^^^ t0) = (0 : Int64) := Int64.xor_self
      refine Go.by (fun _ kont => XS.ifNo X289.here hx rfl (hb hby at_115) rfl ((if0 _ _).trans (teq ((lw_eq _ _).mpr hd290)).2) kont) ?_
      show Go _ _ _ _ _ _ _ (T289.setTop (mkF m 118 #[.val (.int k0), .val (.long t0), .second, .val (.long t1), .second, .val (.long t2), .second, .val (.long s0), .second, .val (.long s1), .second, .val (.int (3 : Int32)), .val (.int (1 : Int32)), .val (.long (t0 - s1)), .second, .val (.ref b264), .val (.ref b266), .unset, .unset, .unset, .unset, .unset, .unset, .unset, .unset, .unset, .unset, .unset, .unset] []))
      refine Go.by (fun _ kont => XS.aload X289.here hx rfl (hb hby at_118) rfl rfl (XS.iconst X289.here hx rfl (hb hby at_120) kont)) ?_
      show Go _ _ _ _ _ _ _ (T289.setTop (mkF m 121 #[.val (.int k0), .val (.long t0), .second, .val (.long t1), .second, .val (.long t2), .second, .val (.long s0), .second, .val (.long s1), .second, .val (.int (3 : Int32)), .val (.int (1 : Int32)), .val (.long (t0 - s1)), .second, .val (.ref b264), .val (.ref b266), .unset, .unset, .unset, .unset, .unset, .unset, .unset, .unset, .unset, .unset, .unset, .unset] [(.int (1 : Int32)), (.ref b264)]))
      obtain ⟨_, _, ⟨T291, L291, k291, n291⟩, -, X291, ⟨Lc291, hQ291, l291, y291, z291⟩, st291⟩ := Jvm.LawKit.callS X289 hx (y := (⟨"com/example/runs_to_nets/runstonets/core/Gf2BasisXorPinLaw", "word", "([JI)J"⟩ : MethodName)) hown (mvT hZ (hw _ (List.mem_of_getElem? (i := 5) rfl))) (mvT hZ (hw _ (List.mem_of_getElem? (i := 6) rfl))) (mvT hZ (hw _ (List.mem_of_getElem? (i := 7) rfl))) (mvT hZ (hw _ (List.mem_of_getElem? (i := 8) rfl))) (by decide) (backOf (W := 0) (rmW31 l Z a0 hw [] b264 k264 (t0 ^^^ t0) (t1 ^^^ t1) (t2 ^^^ t2) T286.heap n0 Z287 g286_0) hZ (hw _ (List.mem_of_getElem? (i := 8) rfl)) (hw _ (List.mem_of_getElem? (i := 7) rfl)) (by decide) (by decide)) (g := (mkF m 121 #[.val (.int k0), .val (.long t0), .second, .val (.long t1), .second, .val (.long t2), .second, .val (.long s0), .second, .val (.long s1), .second, .val (.int (3 : Int32)), .val (.int (1 : Int32)), .val (.long (t0 - s1)), .second, .val (.ref b264), .val (.ref b266), .unset, .unset, .unset, .unset, .unset, .unset, .unset, .unset, .unset, .unset, .unset, .unset] [(.int (1 : Int32)), (.ref b264)])) rfl (by rw [hml]; rfl) (argsL := [(.ref b264), (.int (1 : Int32))]) (rest := []) (lenOf pd0_1 rfl) rfl (by show 2 * 0 + _ ≤ _; exact Nat.le_of_eq rfl) (hb hby at_121) (fun _ _ => ⟨rfl, eh289, (by decide : 2 + 0 ≤ _), (by decide : 6 + 0 ≤ _)⟩)
      dsimp only [Pt.U, Pt.locs, Pt.cells, Pt.slots] at X291 l291 y291 z291 st291 hQ291
      subst l291 y291 z291
      obtain ⟨rfl, N291q, eh291⟩ := hQ291
      have N291 := Fr.app N289 N291q
      refine Go.by st291 ?_
      show Go _ _ _ _ _ _ _ (T291.setTop (mkF m 124 #[.val (.int k0), .val (.long t0), .second, .val (.long t1), .second, .val (.long t2), .second, .val (.long s0), .second, .val (.long s1), .second, .val (.int (3 : Int32)), .val (.int (1 : Int32)), .val (.long (t0 - s1)), .second, .val (.ref b264), .val (.ref b266), .unset, .unset, .unset, .unset, .unset, .unset, .unset, .unset, .unset, .unset, .unset, .unset] [(.long (t1 ^^^ t1))]))
      refine Go.by (fun _ kont => XS.lconst X291.here hx rfl (hb hby at_124) (XS.lcmp X291.here hx rfl (hb hby at_125) rfl kont)) ?_
      show Go _ _ _ _ _ _ _ (T291.setTop (mkF m 126 #[.val (.int k0), .val (.long t0), .second, .val (.long t1), .second, .val (.long t2), .second, .val (.long s0), .second, .val (.long s1), .second, .val (.int (3 : Int32)), .val (.int (1 : Int32)), .val (.long (t0 - s1)), .second, .val (.ref b264), .val (.ref b266), .unset, .unset, .unset, .unset, .unset, .unset, .unset, .unset, .unset, .unset, .unset, .unset] [(.int (lcmpW (t1 ^^^ t1) (0 : Int64)))]))
      have hd292 : (t1 ^^^ t1) = (0 : Int64) := Int64.xor_self
      refine Go.by (fun _ kont => XS.ifNo X291.here hx rfl (hb hby at_126) rfl ((if0 _ _).trans (teq ((lw_eq _ _).mpr hd292)).2) kont) ?_
      show Go _ _ _ _ _ _ _ (T291.setTop (mkF m 129 #[.val (.int k0), .val (.long t0), .second, .val (.long t1), .second, .val (.long t2), .second, .val (.long s0), .second, .val (.long s1), .second, .val (.int (3 : Int32)), .val (.int (1 : Int32)), .val (.long (t0 - s1)), .second, .val (.ref b264), .val (.ref b266), .unset, .unset, .unset, .unset, .unset, .unset, .unset, .unset, .unset, .unset, .unset, .unset] []))
      refine Go.by (fun _ kont => XS.aload X291.here hx rfl (hb hby at_129) rfl rfl (XS.iconst X291.here hx rfl (hb hby at_131) kont)) ?_
      show Go _ _ _ _ _ _ _ (T291.setTop (mkF m 132 #[.val (.int k0), .val (.long t0), .second, .val (.long t1), .second, .val (.long t2), .second, .val (.long s0), .second, .val (.long s1), .second, .val (.int (3 : Int32)), .val (.int (1 : Int32)), .val (.long (t0 - s1)), .second, .val (.ref b264), .val (.ref b266), .unset, .unset, .unset, .unset, .unset, .unset, .unset, .unset, .unset, .unset, .unset, .unset] [(.int (2 : Int32)), (.ref b264)]))
      obtain ⟨_, _, ⟨T293, L293, k293, n293⟩, -, X293, ⟨Lc293, hQ293, l293, y293, z293⟩, st293⟩ := Jvm.LawKit.callS X291 hx (y := (⟨"com/example/runs_to_nets/runstonets/core/Gf2BasisXorPinLaw", "word", "([JI)J"⟩ : MethodName)) hown (mvT hZ (hw _ (List.mem_of_getElem? (i := 5) rfl))) (mvT hZ (hw _ (List.mem_of_getElem? (i := 6) rfl))) (mvT hZ (hw _ (List.mem_of_getElem? (i := 7) rfl))) (mvT hZ (hw _ (List.mem_of_getElem? (i := 8) rfl))) (by decide) (backOf (W := 0) (rmW32 l Z a0 hw [] b264 k264 (t0 ^^^ t0) (t1 ^^^ t1) (t2 ^^^ t2) T286.heap n0 Z287 g286_0) hZ (hw _ (List.mem_of_getElem? (i := 8) rfl)) (hw _ (List.mem_of_getElem? (i := 7) rfl)) (by decide) (by decide)) (g := (mkF m 132 #[.val (.int k0), .val (.long t0), .second, .val (.long t1), .second, .val (.long t2), .second, .val (.long s0), .second, .val (.long s1), .second, .val (.int (3 : Int32)), .val (.int (1 : Int32)), .val (.long (t0 - s1)), .second, .val (.ref b264), .val (.ref b266), .unset, .unset, .unset, .unset, .unset, .unset, .unset, .unset, .unset, .unset, .unset, .unset] [(.int (2 : Int32)), (.ref b264)])) rfl (by rw [hml]; rfl) (argsL := [(.ref b264), (.int (2 : Int32))]) (rest := []) (lenOf pd0_1 rfl) rfl (by show 2 * 0 + _ ≤ _; exact Nat.le_of_eq rfl) (hb hby at_132) (fun _ _ => ⟨rfl, eh291, (by decide : 2 + 0 ≤ _), (by decide : 6 + 0 ≤ _)⟩)
      dsimp only [Pt.U, Pt.locs, Pt.cells, Pt.slots] at X293 l293 y293 z293 st293 hQ293
      subst l293 y293 z293
      obtain ⟨rfl, N293q, eh293⟩ := hQ293
      have N293 := Fr.app N291 N293q
      refine Go.by st293 ?_
      show Go _ _ _ _ _ _ _ (T293.setTop (mkF m 135 #[.val (.int k0), .val (.long t0), .second, .val (.long t1), .second, .val (.long t2), .second, .val (.long s0), .second, .val (.long s1), .second, .val (.int (3 : Int32)), .val (.int (1 : Int32)), .val (.long (t0 - s1)), .second, .val (.ref b264), .val (.ref b266), .unset, .unset, .unset, .unset, .unset, .unset, .unset, .unset, .unset, .unset, .unset, .unset] [(.long (t2 ^^^ t2))]))
      refine Go.by (fun _ kont => XS.lconst X293.here hx rfl (hb hby at_135) (XS.lcmp X293.here hx rfl (hb hby at_136) rfl kont)) ?_
      show Go _ _ _ _ _ _ _ (T293.setTop (mkF m 137 #[.val (.int k0), .val (.long t0), .second, .val (.long t1), .second, .val (.long t2), .second, .val (.long s0), .second, .val (.long s1), .second, .val (.int (3 : Int32)), .val (.int (1 : Int32)), .val (.long (t0 - s1)), .second, .val (.ref b264), .val (.ref b266), .unset, .unset, .unset, .unset, .unset, .unset, .unset, .unset, .unset, .unset, .unset, .unset] [(.int (lcmpW (t2 ^^^ t2) (0 : Int64)))]))
      have hd294 : (t2 ^^^ t2) = (0 : Int64) := Int64.xor_self
      refine Go.by (fun _ kont => XS.ifNo X293.here hx rfl (hb hby at_137) rfl ((if0 _ _).trans (teq ((lw_eq _ _).mpr hd294)).2) kont) ?_
      show Go _ _ _ _ _ _ _ (T293.setTop (mkF m 140 #[.val (.int k0), .val (.long t0), .second, .val (.long t1), .second, .val (.long t2), .second, .val (.long s0), .second, .val (.long s1), .second, .val (.int (3 : Int32)), .val (.int (1 : Int32)), .val (.long (t0 - s1)), .second, .val (.ref b264), .val (.ref b266), .unset, .unset, .unset, .unset, .unset, .unset, .unset, .unset, .unset, .unset, .unset, .unset] []))
      refine Go.by (fun _ kont => XS.iconst X293.here hx rfl (hb hby at_140) (XS.goto X293.here hx rfl (pc0 := 141) (pc' := 145) rfl (hb hby at_141) (by decide) (by decide) kont)) ?_
      show Go _ _ _ _ _ _ _ (T293.setTop (mkF m 145 #[.val (.int k0), .val (.long t0), .second, .val (.long t1), .second, .val (.long t2), .second, .val (.long s0), .second, .val (.long s1), .second, .val (.int (3 : Int32)), .val (.int (1 : Int32)), .val (.long (t0 - s1)), .second, .val (.ref b264), .val (.ref b266), .unset, .unset, .unset, .unset, .unset, .unset, .unset, .unset, .unset, .unset, .unset, .unset] [(.int (1 : Int32))]))
      refine Go.retN X293 hx (t := .boolean) hret (by simp) hlk (hb hby at_145) ?_ (by decide) (by decide)
      show Q0 Z h0 n0 (some (.int (1 : Int32))) T293.heap _
      rw [eh293]
      exact ⟨rfl, N293⟩

set_option maxRecDepth 65536 in
set_option maxHeartbeats 40000000 in
theorem comes_1 {Post : Tables → Env → Array Value → State → Outcome → State → Prop} (hpost : ∀ tb e args s v u, (limb_1_1.after args s (.returned v) u = true ∧ limb_1_2.after args s (.returned v) u = true ∧ True) → FrameEnd s (.returned v) u (Jvm.fieldLocs frame_1_writes args s ++ Jvm.arrayLocs frame_1_arrays args s ++ Jvm.staticLocs frame_1_statics s) 16 128 → Post tb e args s (.returned v) u) :
    ArmFor flags0 classFile x code maxLocals ret World_1 tables_1 room_1 Calls_1 rest_1 Pre_1 Post := by
  intro l hfl _ _ p e ha hc hk s m args below hf hA hF happ hP
  obtain ⟨hcalls, hrest, hpre⟩ := hP
  obtain ⟨-, -, -, hnamed, -, -, -, hat⟩ := (Spec.applies_iff hf).mp happ
  obtain ⟨hg, hn⟩ := and_e (Cond.before_iff.mp (show (Jvm.Cond.and given_1 narrow_1).before args s = true from hpre))
  obtain ⟨hh1, hh2⟩ := and_e hg
  obtain ⟨hh3, hh4⟩ := and_e hh2
  obtain ⟨hh5, hh6⟩ := and_e hh4
  obtain ⟨hh7, hh8⟩ := and_e hh6
  obtain ⟨hh9, hh10⟩ := and_e hh8
  obtain ⟨hh11, hh12⟩ := and_e hh10
  obtain ⟨w0, w1, w2, w3, w4, w5, rfl⟩ : ∃ w0 w1 w2 w3 w4 w5 : Value, args = #[w0, w1, w2, w3, w4, w5] := by
    have hs : args.size = 6 := by simpa [Cond.value, given_1] using hh1
    obtain ⟨L⟩ := args
    match L, hs with
    | [w0, w1, w2, w3, w4, w5], _ => exact ⟨w0, w1, w2, w3, w4, w5, rfl⟩
  have hw := fun d (hd : d ∈ tables_1) => atoms_spec (ws := Jvm.Cond.code x code maxLocals ret :: tables_1) hat d (List.mem_cons_of_mem _ hd)
  obtain ⟨i0, ei0⟩ := is_v hh3
  obtain rfl : w0 = (.int i0) := Option.some.inj ei0
  obtain ⟨i1, ei1⟩ := isL_v hh5
  obtain rfl : w1 = (.long i1) := Option.some.inj ei1
  obtain ⟨i2, ei2⟩ := isL_v hh7
  obtain rfl : w2 = (.long i2) := Option.some.inj ei2
  obtain ⟨i3, ei3⟩ := isL_v hh9
  obtain rfl : w3 = (.long i3) := Option.some.inj ei3
  obtain ⟨i4, ei4⟩ := isL_v hh11
  obtain rfl : w4 = (.long i4) := Option.some.inj ei4
  obtain ⟨i5, ei5⟩ := isL_v hh12
  obtain rfl : w5 = (.long i5) := Option.some.inj ei5
  obtain ⟨n, o, h1, h2, h3, _, L, rfl, ⟨rfl, N⟩, hq⟩ := rm0 l s _ hw tables_1 i0 i1 i2 i3 i4 i5  s.heap s.heap.size (Nat.le_refl _)  p e ha hc hk s m _ below hf ((Spec.applies_iff_loose hf).mp happ).1 ⟨rfl, State.Warmed39.refl s, rfl⟩ trivial
  refine ⟨n, _, h1, h2, h3, hpost _ _ _ _ _ _ ⟨Cond.after_iff.mpr rfl, Cond.after_iff.mpr (eq_i res_at (Term.int_eval (1)) rfl), trivial⟩ ⟨hq.1, hq.2.1, (hq.2.2.sift fun y hy => Or.inr (N y hy)).mono (by decide) (by decide)⟩⟩
theorem main_1_1 : Claimed_1_1 := comes_1 fun _ _ _ _ _ _ h hF => ⟨h.1, hF⟩
theorem main_1_2 : Claimed_1_2 := comes_1 fun _ _ _ _ _ _ h hF => ⟨h.2.1, hF⟩

end Jvm.Pilot.@@N@@
namespace Jvm.Pilot.@@N@@
open Jvm Jvm.ClassFile Sem Op Lib Jvm.Free Jvm.Stand Jvm.Pilot.@@N@@.Jvm.D
/-! MADE BY PROGRAM (witnessworld.py) out of the Statement's table words and the real class files: 11 classes; the members and pool entries that the words name. The judged class is class 1, her method 1. -/
namespace start1
open Jvm.ClassFile
def u (s : String) : CpInfo := .utf8 (stringToUtf16 s)
/-- a pool by its gaps: so many unusable entries, then the entry; so many at the end -/
def gap : Nat → List CpInfo → List CpInfo
  | 0, r => r
  | n + 1, r => .unusable :: gap n r
def poolList (es : List (Nat × CpInfo)) (last : Nat) : List CpInfo := es.foldr (fun e r => gap e.1 (e.2 :: r)) (gap last [])
def pool (es : List (Nat × CpInfo)) (last : Nat) : Array CpInfo := ⟨poolList es last⟩
def fileOf (pool : Array CpInfo) (this : Nat) (attrs : Array Attribute := #[]) (ms : Array MethodInfo := #[]) (fl : Nat := 33) (sup : Nat := 0) (ifs : Array Nat := #[]) (fds : Array FieldInfo := #[]) : ClassFile where
  minorVersion := 0
  majorVersion := 65
  constantPool := pool
  accessFlags := fl
  thisClass := this
  superClass := sup
  interfaces := ifs
  fields := fds
  methods := ms
  attributes := attrs
def plain (name : String) (sup : Option ClassId) : Class where
  name := name
  kind := .ordinary
  loader := none
  accessFlags := 33
  super := sup
  interfaces := #[]
  cf := none
  fields := #[]
  methods := #[]
  instanceTypes := #[]
  staticTypes := #[]
  resolved := #[]
  callSites := []
  init := .initialized
  statics := none
  mirror := none

def pool0 : Array CpInfo := pool [(5, u "<init>"), (0, u "()V"), (1, .class_ 10), (1, u "java/lang/Object")] 113

def k0m0 : Method := { name := "<init>", desc := "()V", sig := { parameters := [], returnType := none }, accessFlags := 1, code := none }
/-- java/lang/Object -/
def k0 : Class := { plain "java/lang/Object" none with
  accessFlags := 33
  interfaces := #[]
  cf := some (fileOf pool0 8 #[] #[{ accessFlags := 1, nameIndex := 5, descriptorIndex := 6, attributes := #[] }] 33 0 #[] #[])
  fields := #[]
  methods := #[k0m0]
  instanceTypes := #[]
  staticTypes := #[]
  resolved := Array.replicate 124 none
  statics := none }

def pool1 : Array CpInfo := pool [(2, .class_ 4), (1, u "java/lang/Object"), (0, u "<init>"), (0, u "()V"), (0, .methodref 8 9), (0, .class_ 10), (0, .nameAndType 11 12), (0, u "com/example/runs_to_nets/runstonets/core/Gf2Basis"), (0, u "xor"), (0, u "([J[J)V"), (0, .methodref 14 15), (0, .class_ 16), (0, .nameAndType 17 18), (0, u "com/example/runs_to_nets/runstonets/core/Gf2BasisXorPinLaw"), (0, u "word"), (0, u "([JI)J"), (2, u "law"), (0, u "(IJJJJJ)Z")] 5

def k1m0 : Method := { name := "<init>", desc := "()V", sig := { parameters := [], returnType := none }, accessFlags := 1, code := none }
def k1c1 : Code := { maxStack := 4, maxLocals := 29, code := code, exceptionTable := #[], attributes := #[] }
def k1m1 : Method := { name := "law", desc := "(IJJJJJ)Z", sig := { parameters := [.int, .long, .long, .long, .long, .long], returnType := some .boolean }, accessFlags := 9, code := some k1c1 }
def k1c2 : Code := { maxStack := 2, maxLocals := 2, code := method_3_code, exceptionTable := #[], attributes := #[] }
def k1m2 : Method := { name := "word", desc := "([JI)J", sig := { parameters := [(.array .long), .int], returnType := some .long }, accessFlags := 10, code := some k1c2 }
/-- com/example/runs_to_nets/runstonets/core/Gf2BasisXorPinLaw -/
def k1 : Class := { plain "com/example/runs_to_nets/runstonets/core/Gf2BasisXorPinLaw" (some 0) with
  accessFlags := 49
  interfaces := #[]
  cf := some (fileOf pool1 14 #[] #[{ accessFlags := 1, nameIndex := 5, descriptorIndex := 6, attributes := #[] }, { accessFlags := 9, nameIndex := 21, descriptorIndex := 22, attributes := #[] }, { accessFlags := 10, nameIndex := 17, descriptorIndex := 18, attributes := #[] }] 49 2 #[] #[])
  fields := #[]
  methods := #[k1m0, k1m1, k1m2]
  instanceTypes := #[]
  staticTypes := #[]
  resolved := Array.replicate 28 none
  statics := none }

def pool2 : Array CpInfo := pool [(2, .class_ 4), (1, u "java/lang/Object"), (6, .class_ 13), (1, u "com/example/runs_to_nets/runstonets/core/Gf2Basis"), (0, u "kept"), (0, u "Ljava/util/List;"), (6, u "words"), (0, u "I"), (2, u "pivotOwner"), (0, u "[I"), (37, u "xor"), (0, u "([J[J)V")] 68

def k2c0 : Code := { maxStack := 6, maxLocals := 3, code := prog_14_method_11_code, exceptionTable := #[], attributes := #[] }
def k2m0 : Method := { name := "xor", desc := "([J[J)V", sig := { parameters := [(.array .long), (.array .long)], returnType := none }, accessFlags := 8, code := some k2c0 }
/-- com/example/runs_to_nets/runstonets/core/Gf2Basis -/
def k2 : Class := { plain "com/example/runs_to_nets/runstonets/core/Gf2Basis" (some 0) with
  accessFlags := 48
  interfaces := #[]
  cf := some (fileOf pool2 11 #[] #[{ accessFlags := 8, nameIndex := 65, descriptorIndex := 66, attributes := #[] }] 48 2 #[] #[{ accessFlags := 18, nameIndex := 22, descriptorIndex := 23, attributes := #[] }, { accessFlags := 18, nameIndex := 14, descriptorIndex := 15, attributes := #[] }, { accessFlags := 18, nameIndex := 26, descriptorIndex := 27, attributes := #[] }])
  fields := #[{ name := "words", type := .int, accessFlags := 18, slot := 0, constantValue := 0 }, { name := "kept", type := (.object "java/util/List"), accessFlags := 18, slot := 1, constantValue := 0 }, { name := "pivotOwner", type := (.array .int), accessFlags := 18, slot := 2, constantValue := 0 }]
  methods := #[k2m0]
  instanceTypes := #[.int, (.object "java/util/List"), (.array .int)]
  staticTypes := #[]
  resolved := Array.replicate 135 none
  statics := none }

def pool3 : Array CpInfo := pool [(1, u "java/lang/Cloneable"), (0, .class_ 1), (0, u "java/lang/Object"), (0, .class_ 3)] 3

/-- java/lang/Cloneable -/
def k3 : Class := { plain "java/lang/Cloneable" (some 0) with
  accessFlags := 1537
  interfaces := #[]
  cf := some (fileOf pool3 2 #[] #[] 1537 4 #[] #[])
  fields := #[]
  methods := #[]
  instanceTypes := #[]
  staticTypes := #[]
  resolved := Array.replicate 8 none
  statics := none }

def pool4 : Array CpInfo := pool [(1, u "java/io/Serializable"), (0, .class_ 1), (0, u "java/lang/Object"), (0, .class_ 3)] 3

/-- java/io/Serializable -/
def k4 : Class := { plain "java/io/Serializable" (some 0) with
  accessFlags := 1537
  interfaces := #[]
  cf := some (fileOf pool4 2 #[] #[] 1537 4 #[] #[])
  fields := #[]
  methods := #[]
  instanceTypes := #[]
  staticTypes := #[]
  resolved := Array.replicate 8 none
  statics := none }

/-- the primitive byte -/
def k5 : Class := { plain "byte" none with kind := .primitive 'B', accessFlags := 0x411 }
/-- [B -/
def k6 : Class := { plain "[B" (some 0) with kind := .array 5 .byte, interfaces := #[3, 4], accessFlags := 1041 }

/-- the primitive int -/
def k7 : Class := { plain "int" none with kind := .primitive 'I', accessFlags := 0x411 }
/-- [I -/
def k8 : Class := { plain "[I" (some 0) with kind := .array 7 .int, interfaces := #[3, 4], accessFlags := 1041 }

/-- the primitive long -/
def k9 : Class := { plain "long" none with kind := .primitive 'J', accessFlags := 0x411 }
/-- [J -/
def k10 : Class := { plain "[J" (some 0) with kind := .array 9 .long, interfaces := #[3, 4], accessFlags := 1041 }

def heap : Heap := #[]
def classes : Array Class := #[k0, k1, k2, k3, k4, k5, k6, k7, k8, k9, k10]
def interned : List (Array UInt16 × Addr) := []
def slotsUsed : Nat := 0
def theMethod : MethodId := ⟨1, 1⟩
def args0 : Array Value := #[.int 6, .long 3, .long 4, .long 5, .long 6, .long 7]
def aboutOver (below : List Frame) : State where
  vm := { classes := classes, interned := interned.toArray }
  heap := heap
  slotsUsed := slotsUsed
  threads := #[{ frames := .invoking theMethod args0 :: below }]
def below0 : List Frame := [.native { method := ⟨0, 0⟩, args := #[] }]
def about1 : State := aboutOver below0
def p0 : Program := .bare "" "" ""
def e0 : Env := launch0.env 0 0 0
theorem w_frames : about1.frames = Frame.invoking theMethod args0 :: below0 := rfl
set_option maxRecDepth 65536 in
theorem w_args : argsFit about1.vm theMethod args0 = true := by decide +kernel
set_option maxRecDepth 65536 in
theorem w_heap : heapFits about1 = true := by decide +kernel
set_option maxRecDepth 65536 in
theorem w_runnable : about1.curStatus? = some .runnable := by decide +kernel
set_option maxRecDepth 65536 in
theorem w_alone : about1.alone = true := by decide +kernel
set_option maxRecDepth 65536 in
theorem w_named : about1.methodNamed? x = some theMethod := by decide +kernel
set_option maxRecDepth 65536 in
theorem w_hears : about1.hears theMethod below0 = true := by decide +kernel
set_option maxRecDepth 65536 in
theorem w_ripe : about1.ripe theMethod args0 below0 = true := by decide +kernel
theorem w_running : about1.status = .running := rfl
set_option maxRecDepth 65536 in
theorem w_room : about1.hasRoom e0.platform room_1 = true :=
  launch0.hasRoom_least _ room_1 (by decide +kernel) (by decide +kernel) (by decide +kernel) (by decide +kernel) (by decide +kernel) (by decide +kernel)
theorem allAtoms_all (ts : List Jvm.Cond) (a : Array Jvm.Value) (st : Jvm.State) : (allAtoms ts).before a st = ts.all (fun c => c.before a st) := by
  induction ts with
  | nil => rfl
  | cons c t ih =>
    show (Jvm.Cond.and c (allAtoms t)).before a st = _
    rw [Jvm.Cond.before_and, ih, List.all_cons]
def words1 : List Jvm.Cond := Jvm.Cond.code x code maxLocals ret :: tables_1
/-- a 'code' word, met by the world's own term for the bytes: nothing is compared byte by byte -/
theorem code_word {y : MethodName} {bytes : ByteArray} {mx : Nat} {rt : Option FieldType} {a : Array Value} {s : State} {m : MethodId} {meth : Method} {c : Code} (h1 : s.methodNamed? y = some m) (h2 : s.vm.method? m = some meth) (h3 : meth.code = some c) (h4 : c.code = bytes)
    (h5 : (c.maxLocals == mx && c.exceptionTable.isEmpty && decide (c.maxStack ≤ mostOperands) && decide (meth.sig.returnType = rt) && !meth.locks && decide (parseMethodDescriptor y.desc = some meth.sig)) = true) : (Jvm.Cond.code y bytes mx rt).before a s = true := by
  simp only [Bool.and_eq_true, beq_iff_eq, Bool.not_eq_true', decide_eq_true_eq] at h5
  obtain ⟨⟨⟨⟨⟨g1, g2⟩, g3⟩, g4⟩, g5⟩, g6⟩ := h5
  simp [Cond.before, Cond.holds, Cond.value, h1, h2, h3, h4, g1, g2, g3, g4, g5, g6]
def isCode : Jvm.Cond → Bool
  | .code _ _ _ _ => true
  | _ => false
theorem all_split {L : List Jvm.Cond} {P : Jvm.Cond → Bool} (h1 : L.all (fun c => isCode c || P c) = true) (h2 : ∀ c ∈ L.filter isCode, P c = true) : L.all P = true := by
  refine List.all_eq_true.mpr fun c hc => ?_
  have h := List.all_eq_true.mp h1 c hc
  rcases Bool.eq_false_or_eq_true (isCode c) with hi | hi
  · exact h2 c (List.mem_filter.mpr ⟨hc, hi⟩)
  · simpa [hi] using h
set_option maxRecDepth 65536 in
theorem w_c0 : (Jvm.Cond.code x code maxLocals ret).before args0 about1 = true := code_word (m := ⟨1, 1⟩) (meth := k1m1) (c := k1c1) (by decide +kernel) rfl rfl rfl (by decide +kernel)
set_option maxRecDepth 65536 in
theorem w_c1 : (Jvm.Cond.code ({ cls := "com/example/runs_to_nets/runstonets/core/Gf2Basis", name := "xor", desc := "([J[J)V" } : Jvm.MethodName) prog_14_method_11_code (3 : Nat) (Option.none : Option Jvm.ClassFile.FieldType)).before args0 about1 = true := code_word (m := ⟨2, 0⟩) (meth := k2m0) (c := k2c0) (by decide +kernel) rfl rfl rfl (by decide +kernel)
set_option maxRecDepth 65536 in
theorem w_c2 : (Jvm.Cond.code ({ cls := "com/example/runs_to_nets/runstonets/core/Gf2BasisXorPinLaw", name := "word", desc := "([JI)J" } : Jvm.MethodName) method_3_code (2 : Nat) (Option.some Jvm.ClassFile.FieldType.long)).before args0 about1 = true := code_word (m := ⟨1, 2⟩) (meth := k1m2) (c := k1c2) (by decide +kernel) rfl rfl rfl (by decide +kernel)
def codes1 : List Jvm.Cond := [Jvm.Cond.code x code maxLocals ret, Jvm.Cond.code ({ cls := "com/example/runs_to_nets/runstonets/core/Gf2Basis", name := "xor", desc := "([J[J)V" } : Jvm.MethodName) prog_14_method_11_code (3 : Nat) (Option.none : Option Jvm.ClassFile.FieldType), Jvm.Cond.code ({ cls := "com/example/runs_to_nets/runstonets/core/Gf2BasisXorPinLaw", name := "word", desc := "([JI)J" } : Jvm.MethodName) method_3_code (2 : Nat) (Option.some Jvm.ClassFile.FieldType.long)]
set_option maxRecDepth 65536 in
theorem codes_eq : words1.filter isCode = codes1 := rfl
theorem w_codes : ∀ c ∈ words1.filter isCode, c.before args0 about1 = true := by
  rw [codes_eq]
  intro c hc
  simp only [codes1, List.mem_cons, List.not_mem_nil, or_false] at hc
  rcases hc with rfl | rfl | rfl
  · exact w_c0
  · exact w_c1
  · exact w_c2
set_option maxRecDepth 65536 in
theorem w_t1 : words1.all (fun c => isCode c || c.before args0 about1) = true := by decide +kernel
theorem w_tables : (allAtoms (Jvm.Cond.code x code maxLocals ret :: tables_1)).before args0 about1 = true := by
  rw [allAtoms_all]
  show words1.all (fun c => c.before args0 about1) = true
  refine all_split ?_ w_codes
  rw [w_t1]
set_option maxRecDepth 65536 in
theorem w_case : (Jvm.Cond.and given_1 narrow_1).before args0 about1 = true := by decide +kernel
theorem w_applies : (headSpec (Jvm.Cond.code x code maxLocals ret :: tables_1) room_1).applies x e0.platform about1 = true :=
  (Spec.applies_iff w_frames).mpr ⟨w_running, w_runnable, w_alone, w_named, w_hears, w_ripe, w_room, w_tables⟩
theorem atStart : AtStart classFile x code maxLocals ret World_1 tables_1 room_1 Calls_1 rest_1 Pre_1 launch0 p0 e0 about1 theMethod args0 below0 :=
  ⟨lists_1, trivial, launch0.admits_env _ _ _, launch0.least_env, fairChoices_fair.cas, fairChoices_fair.clock, w_frames, w_args, w_heap, w_applies, trivial, trivial, w_case⟩
end start1
theorem witness_1 : WitnessClaimed_1 := ⟨start1.p0, start1.e0, start1.about1, start1.theMethod, start1.args0, start1.below0, start1.atStart⟩
end Jvm.Pilot.@@N@@
