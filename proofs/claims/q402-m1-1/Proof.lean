import JvmDerived
import JvmDerived.Pilot.@@N@@Statement
import JvmDerived.Pilot.@@N@@Code
set_option linter.unusedVariables false
set_option linter.unusedSimpArgs false
namespace Jvm.RoadKit
open Sem ClassFile Op Lib Jvm.Stand Jvm.Free Jvm.LawKit
section OwnGo
variable {p : Program} {l : Launch} {e : Env} {R : Room} {s : State} {m : MethodId} {args : Array Value} {below : List Frame} {meth : Method} {c : Code} {T T' : State} {locs : List Loc} {cells slots ck sk : Nat} {Q : Option Value → Heap → List Loc → Prop}
/-- from the state T the body comes to its end, with Q -/
def Go (p : Program) (e : Env) (below : List Frame) (s : State) (ck sk : Nat) (Q : Option Value → Heap → List Loc → Prop) (T : State) : Prop :=
  ∃ s₂ o, Steps p.tables e below T s₂ ∧ s₂.status = .running ∧ Ended s₂ below o ∧ ∃ v L, o = .returned v ∧ Q v s₂.heap L ∧ FrameEnd s o s₂ L ck sk
theorem Go.by (h : ∀ t, Steps p.tables e below T' t → Steps p.tables e below T t) (g : Go p e below s ck sk Q T') : Go p e below s ck sk Q T := by
  obtain ⟨s₂, o, h1, r⟩ := g
  exact ⟨s₂, o, h _ h1, r⟩
theorem Go.tr (h : Steps p.tables e below T T') (g : Go p e below s ck sk Q T') : Go p e below s ck sk Q T := by
  obtain ⟨s₂, o, h1, r⟩ := g
  exact ⟨s₂, o, h.trans h1, r⟩
theorem Go.fin (X : Stand p l e R s m args below meth c T locs cells slots) {v : Option Value} (hv : meth.sig.returnType = none → v = none) (hlk : meth.locks = false)
    (st : ∀ fs : List Frame, (∀ (f : JFrame) (acts : List Action), f.method = m → f.locked = none → f.entered = [] → (doReturn e (T.setTop f) acts v).1 = T.setFrames fs) → Steps p.tables e below T' (T.setFrames fs))
    (hq : Q v T.heap locs) (hc : cells ≤ ck) (hs : slots ≤ sk) : Go p e below s ck sk Q T' := by
  obtain ⟨fs, hr, hrun, hended, hW, hsame⟩ := X.leave hv hlk
  exact ⟨_, _, st fs hr, hrun, hended, _, _, rfl, hq, ⟨_, rfl⟩, hW, hsame.mono hc hs⟩
theorem Go.retV (X : Stand p l e R s m args below meth c T locs cells slots) (hx : p.tables.exec = Jvm.exec) {pc : Nat} {Ls : Array Slot} (hret : meth.sig.returnType = none) (hlk : meth.locks = false) (hd : decode c.code pc = .ok (.return_, 1))
    (hq : Q none T.heap locs) (hc : cells ≤ ck) (hs : slots ≤ sk) : Go p e below s ck sk Q (T.setTop (mkF m pc Ls [])) :=
  Go.fin X (fun _ => rfl) hlk (fun fs hr => X.returnOut hx hret hd hr) hq hc hs
theorem Go.retN (X : Stand p l e R s m args below meth c T locs cells slots) (hx : p.tables.exec = Jvm.exec) {pc : Nat} {Ls : Array Slot} {z : Int32} {t : FieldType} {rest : List Value} (hret : meth.sig.returnType = some t) (ht : t = .boolean ∨ t = .byte ∨ t = .char ∨ t = .short) (hlk : meth.locks = false) (hd : decode c.code pc = .ok (.ireturn, 1))
    (hq : Q (some (.int (nar t z))) T.heap locs) (hc : cells ≤ ck) (hs : slots ≤ sk) : Go p e below s ck sk Q (T.setTop (mkF m pc Ls (.int z :: rest))) :=
  Go.fin X (fun h => by rw [hret] at h; cases h) hlk (fun fs hr => Jvm.RoadKit.retN X hx hret ht hd hr) hq hc hs
theorem Go.retI (X : Stand p l e R s m args below meth c T locs cells slots) (hx : p.tables.exec = Jvm.exec) {pc : Nat} {Ls : Array Slot} {z : Int32} {rest : List Value} (hret : meth.sig.returnType = some .int) (hlk : meth.locks = false) (hd : decode c.code pc = .ok (.ireturn, 1))
    (hq : Q (some (.int z)) T.heap locs) (hc : cells ≤ ck) (hs : slots ≤ sk) : Go p e below s ck sk Q (T.setTop (mkF m pc Ls (.int z :: rest))) :=
  Go.fin X (fun h => by rw [hret] at h; cases h) hlk (fun fs hr => retOut X hx hret rfl (Or.inl ⟨rfl, Or.inl rfl, z, rfl⟩) hd hr) hq hc hs
theorem Go.retJ (X : Stand p l e R s m args below meth c T locs cells slots) (hx : p.tables.exec = Jvm.exec) {pc : Nat} {Ls : Array Slot} {z : Int64} {rest : List Value} (hret : meth.sig.returnType = some .long) (hlk : meth.locks = false) (hd : decode c.code pc = .ok (.lreturn, 1))
    (hq : Q (some (.long z)) T.heap locs) (hc : cells ≤ ck) (hs : slots ≤ sk) : Go p e below s ck sk Q (T.setTop (mkF m pc Ls (.long z :: rest))) :=
  Go.fin X (fun h => by rw [hret] at h; cases h) hlk (fun fs hr => retOut X hx hret rfl (Or.inr (Or.inl ⟨rfl, rfl, z, rfl⟩)) hd hr) hq hc hs
theorem Go.retR (X : Stand p l e R s m args below meth c T locs cells slots) (hx : p.tables.exec = Jvm.exec) {pc : Nat} {Ls : Array Slot} {w : Value} {t : FieldType} {rest : List Value} (hret : meth.sig.returnType = some t) (ht : t.isReference = true) (hw : w.isRef = true) (hlk : meth.locks = false) (hd : decode c.code pc = .ok (.areturn, 1))
    (hq : Q (some w) T.heap locs) (hc : cells ≤ ck) (hs : slots ≤ sk) : Go p e below s ck sk Q (T.setTop (mkF m pc Ls (w :: rest))) := by
  refine Go.fin X (fun h => by rw [hret] at h; cases h) hlk (fun fs hr => retOut X hx hret ?_ (Or.inr (Or.inr (Or.inr (Or.inr ⟨rfl, ht, hw⟩)))) hd hr) hq hc hs
  rcases ref_cases hw with rfl | ⟨a, rfl⟩ <;> cases t <;> first | rfl | cases ht
/-- the same where Strings may be interned on the way -/
def GoW (p : Program) (e : Env) (below : List Frame) (s : State) (ck sk : Nat) (Q : Option Value → Heap → List Loc → Prop) (T : State) : Prop :=
  ∃ s₂ o, Steps p.tables e below T s₂ ∧ s₂.status = .running ∧ Ended s₂ below o ∧ ∃ v L, o = .returned v ∧ Q v s₂.heap L ∧ ReturnedEndW s o s₂ L ck sk
theorem GoW.by (h : ∀ t, Steps p.tables e below T' t → Steps p.tables e below T t) (g : GoW p e below s ck sk Q T') : GoW p e below s ck sk Q T := by
  obtain ⟨s₂, o, h1, r⟩ := g
  exact ⟨s₂, o, h _ h1, r⟩
theorem GoW.tr (h : Steps p.tables e below T T') (g : GoW p e below s ck sk Q T') : GoW p e below s ck sk Q T := by
  obtain ⟨s₂, o, h1, r⟩ := g
  exact ⟨s₂, o, h.trans h1, r⟩
theorem GoW.fin {vm1 : Vm} {k1 : Nat} (X : Stand p l e R (s.setVm vm1) m args below meth c T locs cells slots) (hS : s.Since vm1 k1) (hk : k1 ≤ T.heap.size) {v : Option Value} (hv : meth.sig.returnType = none → v = none) (hlk : meth.locks = false)
    (st : ∀ fs : List Frame, (∀ (f : JFrame) (acts : List Action), f.method = m → f.locked = none → f.entered = [] → (doReturn e (T.setTop f) acts v).1 = T.setFrames fs) → Steps p.tables e below T' (T.setFrames fs))
    (hq : Q v T.heap locs) (hc : cells ≤ ck) (hs : slots ≤ sk) : GoW p e below s ck sk Q T' := by
  obtain ⟨fs, hr, hrun, hended, hW, hsame⟩ := X.leave hv hlk
  obtain ⟨q1, q2, q3⟩ := hS.ended (U := T.setFrames fs) hW hk hsame
  exact ⟨_, _, st fs hr, hrun, hended, _, _, rfl, hq, ⟨_, rfl⟩, q1, q2, q3.mono hc hs⟩
theorem GoW.retV {vm1 : Vm} {k1 : Nat} (X : Stand p l e R (s.setVm vm1) m args below meth c T locs cells slots) (hS : s.Since vm1 k1) (hk : k1 ≤ T.heap.size) (hx : p.tables.exec = Jvm.exec) {pc : Nat} {Ls : Array Slot} (hret : meth.sig.returnType = none) (hlk : meth.locks = false) (hd : decode c.code pc = .ok (.return_, 1))
    (hq : Q none T.heap locs) (hc : cells ≤ ck) (hs : slots ≤ sk) : GoW p e below s ck sk Q (T.setTop (mkF m pc Ls [])) :=
  GoW.fin X hS hk (fun _ => rfl) hlk (fun fs hr => X.returnOut hx hret hd hr) hq hc hs
theorem GoW.retN {vm1 : Vm} {k1 : Nat} (X : Stand p l e R (s.setVm vm1) m args below meth c T locs cells slots) (hS : s.Since vm1 k1) (hk : k1 ≤ T.heap.size) (hx : p.tables.exec = Jvm.exec) {pc : Nat} {Ls : Array Slot} {z : Int32} {t : FieldType} {rest : List Value} (hret : meth.sig.returnType = some t) (ht : t = .boolean ∨ t = .byte ∨ t = .char ∨ t = .short) (hlk : meth.locks = false) (hd : decode c.code pc = .ok (.ireturn, 1))
    (hq : Q (some (.int (nar t z))) T.heap locs) (hc : cells ≤ ck) (hs : slots ≤ sk) : GoW p e below s ck sk Q (T.setTop (mkF m pc Ls (.int z :: rest))) :=
  GoW.fin X hS hk (fun h => by rw [hret] at h; cases h) hlk (fun fs hr => Jvm.RoadKit.retN X hx hret ht hd hr) hq hc hs
theorem GoW.retR {vm1 : Vm} {k1 : Nat} (X : Stand p l e R (s.setVm vm1) m args below meth c T locs cells slots) (hS : s.Since vm1 k1) (hk : k1 ≤ T.heap.size) (hx : p.tables.exec = Jvm.exec) {pc : Nat} {Ls : Array Slot} {w : Value} {t : FieldType} {rest : List Value} (hret : meth.sig.returnType = some t) (ht : t.isReference = true) (hw : w.isRef = true) (hlk : meth.locks = false) (hd : decode c.code pc = .ok (.areturn, 1))
    (hq : Q (some w) T.heap locs) (hc : cells ≤ ck) (hs : slots ≤ sk) : GoW p e below s ck sk Q (T.setTop (mkF m pc Ls (w :: rest))) := by
  refine GoW.fin X hS hk (fun h => by rw [hret] at h; cases h) hlk (fun fs hr => retOut X hx hret ?_ (Or.inr (Or.inr (Or.inr (Or.inr ⟨rfl, ht, hw⟩)))) hd hr) hq hc hs
  rcases ref_cases hw with rfl | ⟨a, rfl⟩ <;> cases t <;> first | rfl | cases ht
end OwnGo
theorem own_selp {Z s : State} {a0 args : Array Value} {y : MethodName} {n : Nat} (hZ : Z.Warmed39 s.vm) (wi : (Cond.instantiable y.cls n).before a0 Z = true) (wp : (Cond.privateMethod y).before a0 Z = true) (wm : (Cond.instanceMethod y).before a0 Z = true) (hy : y.cls ≠ "java/lang/invoke/MethodHandle" ∧ y.cls ≠ "java/lang/invoke/VarHandle") : (Cond.selects y.cls y y).before args s = true := by
  obtain ⟨c, k, h1, h2, -, h4, -⟩ := Cond.instantiable_spec (mv (args := args) hZ wi)
  exact selects_self_of_private h1 h2 (by simpa using (Bool.or_eq_false_iff.mp h4).1) (Cond.privateMethod_at (mvP (args := args) hZ wp)) (mv hZ wm) hy
theorem own_zn {z : Int32} (h : z = (0 : Int32) ∨ z = (1 : Int32)) : narrow .boolean (.int z) = .int z := by rcases h with rfl | rfl <;> rfl
theorem own_zf {z : Int32} (h : z = (0 : Int32) ∨ z = (1 : Int32)) : fits .boolean (.int z) = true := by rcases h with rfl | rfl <;> rfl
theorem own_ns {Z : State} {h : Heap} {b : Addr} {C : String} (E : Exa Z h b C) : ∀ cell : Cell, h[b]? = some cell → cell.vm.isStatics = false := fun cell hc => by
  obtain ⟨c, _, h1, -, -, h4, -⟩ := E
  cases h1.symm.trans hc
  exact h4
theorem own_stakeep {Z : State} {h h' : Heap} {C n d : String} {v : Value} {ws : List Addr} (F : Sta Z h C n d v) (K : Keep h h' ws) (q : ∀ x ∈ ws, ∀ cell : Cell, h[x]? = some cell → cell.vm.isStatics = false) : Sta Z h' C n d v := by
  obtain ⟨cf, i, k, f, st, cell, h1, h2, h3, h4, h5, h6, h7⟩ := F
  refine ⟨cf, i, k, f, st, cell, h1, h2, h3, h4, K.2.1 st cell h5 fun z => ?_, h6, h7⟩
  rw [q st z cell h5] at h6
  cases h6
section OwnLong
variable {Z : State} {h h' : Heap} {a b : Addr} {k : ClassId} {n j : Int32} {x : Int64} {ws : List Addr} {sl : Nat} {v : Value}
/-- a long[] of the length n, whatever it holds -/
def LA (Z : State) (h : Heap) (a : Addr) (k : ClassId) (n : Int32) : Prop := ∃ c : Cell, Arr Z h a c .long ∧ c.cls = k ∧ c.slots.size = n.toNatClampNeg ∧ ¬ n < 0 ∧ ∀ i, i < c.slots.size → ∃ x : Int64, c.slots[i]? = some (.long x)
theorem LA.lt (F : LA Z h a k n) : a < h.size := by obtain ⟨c, A, -⟩ := F; exact A.lt
theorem LA.ext (F : LA Z h a k n) (E : Ext h h') : LA Z h' a k n := by obtain ⟨c, A, r⟩ := F; exact ⟨c, A.ext E, r⟩
theorem LA.other (F : LA Z h b k n) (W : Wr h h' a sl v) (q : b ≠ a) : LA Z h' b k n := by obtain ⟨c, A, r⟩ := F; exact ⟨c, A.other W q, r⟩
theorem LA.keep (F : LA Z h a k n) (K : Keep h h' ws) (q : a ∉ ws) : LA Z h' a k n := by obtain ⟨c, A, r⟩ := F; exact ⟨c, ⟨K.2.1 a c A.1 q, A.2⟩, r⟩
theorem LA.new (A : Arr Z h a (newA k .long n) .long) (q : ¬ n < 0) : LA Z h a k n := ⟨_, A, rfl, sz_new _ _ _, q, fun i hi => ⟨0, by
  have hi' : i < n.toNatClampNeg := by rw [sz_new] at hi; exact hi
  show (Array.replicate n.toNatClampNeg (defaultValue .long))[i]? = _
  simp [hi', defaultValue]⟩⟩
theorem LA.set {c : Cell} (A : Arr Z h a c .long) (q1 : c.cls = k) (S : c.slots.size = n.toNatClampNeg) (q3 : ¬ n < 0) (G : ∀ i, i < c.slots.size → ∃ x : Int64, c.slots[i]? = some (.long x)) (W : Wr h h' a sl (.long x)) : LA Z h' a k n := by
  refine ⟨_, A.same W, q1, by rw [sz_set]; exact S, q3, fun i hi => ?_⟩
  rw [sz_set] at hi
  by_cases e : sl = i
  · subst e; exact ⟨x, by simp [Cell.setSlot, hi]⟩
  · obtain ⟨y, hy⟩ := G i hi
    exact ⟨y, by rw [← hy]; exact Array.getElem?_setIfInBounds_ne e⟩
end OwnLong
section OwnStart
variable {args : Array Value} {s : State} {a b t : Term}
theorem own_eqI {n : Int32} (h : (Cond.eq a (.int n)).value args s none s [] = some true) : a.eval args s none [] s = some (.int n) := by
  cases ha : a.eval args s none [] s with
  | none => simp [Cond.value, ha] at h
  | some x => cases x <;> simp [Cond.value, ha, Term.eval] at h ⊢ <;> exact h
theorem own_eqL {n : Int64} (h : (Cond.eq a (.long n)).value args s none s [] = some true) : a.eval args s none [] s = some (.long n) := by
  cases ha : a.eval args s none [] s with
  | none => simp [Cond.value, ha] at h
  | some x => cases x <;> simp [Cond.value, ha, Term.eval] at h ⊢ <;> exact h
theorem own_eqR {x : Addr} (h : (Cond.eq a b).value args s none s [] = some true) (hb : b.eval args s none [] s = some (.ref x)) : a.eval args s none [] s = some (.ref x) := by
  cases ha : a.eval args s none [] s with
  | none => simp [Cond.value, ha] at h
  | some y => cases y <;> simp [Cond.value, ha, hb] at h ⊢ <;> exact h
theorem own_neR {x y : Addr} (h : (Cond.not (Cond.eq a b)).value args s none s [] = some true) (ha : a.eval args s none [] s = some (.ref x)) (hb : b.eval args s none [] s = some (.ref y)) : x ≠ y := by
  intro e
  subst e
  simp [Cond.value, ha, hb] at h
theorem own_lenv {n : Int32} {x : Addr} {cl : Cell} (h : (Term.length t).eval args s none [] s = some (.int n)) (ht : t.eval args s none [] s = some (.ref x)) (hc : s.heap[x]? = some cl) : cl.slots.size < 2 ^ 31 ∧ cl.slots.size.toInt32 = n := by
  obtain ⟨a', cell, e1, e2, e3⟩ := Term.length_spec h
  cases ht.symm.trans e1
  have hcl : cell = cl := by
    simp only [State.arrayAt?, hc, Option.bind_eq_bind, Option.bind_some] at e2
    cases hk : s.vm.classes[cl.cls]? with
    | none => simp [hk] at e2
    | some k =>
      simp only [hk, Option.bind_some] at e2
      split at e2
      · cases e2
      · split at e2
        · exact (Option.some.inj e2).symm
        · cases e2
  subst hcl
  refine ⟨?_, (Value.int.inj e3).symm⟩
  simp only [Term.eval, ht, e2, Option.bind_eq_bind, Option.bind_some] at h
  split at h
  · assumption
  · cases h
end OwnStart
end Jvm.RoadKit
namespace Jvm.Pilot.@@N@@
open Jvm Jvm.ClassFile Sem Op Lib Jvm.Free Jvm.Stand Jvm.LawKit Jvm.RoadKit Bundle Jvm.Pilot.@@N@@.Jvm.D
theorem dMi_0 : decode jdk_29_method_70_code 0 = .ok (.lload_n 0, 1) := by decide +kernel
theorem dMi_1 : decode jdk_29_method_70_code 1 = .ok (.lload_n 2, 1) := by decide +kernel
theorem dMi_2 : decode jdk_29_method_70_code 2 = .ok (.lcmp, 1) := by decide +kernel
theorem dMi_3 : decode jdk_29_method_70_code 3 = .ok (.ifCond .gt 7, 3) := by decide +kernel
theorem dMi_6 : decode jdk_29_method_70_code 6 = .ok (.lload_n 0, 1) := by decide +kernel
theorem dMi_7 : decode jdk_29_method_70_code 7 = .ok (.goto 4, 3) := by decide +kernel
theorem dMi_10 : decode jdk_29_method_70_code 10 = .ok (.lload_n 2, 1) := by decide +kernel
theorem dMi_11 : decode jdk_29_method_70_code 11 = .ok (.lreturn, 1) := by decide +kernel
theorem efMi (m : MethodId) (u : Int64) (w : Int64) : entryFrame m #[(.long u), (.long w)] 4 = mkF m 0 #[.val (.long u), .second, .val (.long w), .second] [] := by first | (simp [entryFrame, mkF, argsToLocals, Value.category]; done) | rfl
def fMi (u : Int64) (w : Int64) : Int64 := (if w < u then w else u)
def QMi (Z : State) (u : Int64) (w : Int64) (h0 : Heap) (n0 : Nat) (v : Option Value) (h : Heap) (L : List Loc) : Prop := v = some (.long (fMi u w)) ∧ Fr n0 L ∧ h = h0
set_option maxRecDepth 65536 in
set_option maxHeartbeats 40000000 in
theorem rmMi (l : Launch) (Z : State) (a0 : Array Value) (hw : ∀ d ∈ tables_1, d.before a0 Z = true) (ws : List Jvm.Cond) (u : Int64) (w : Int64) (h0 : Heap) (n0 : Nat) (Z0 : n0 ≤ h0.size) :
    MetFree l (⟨"java/lang/Math", "min", "(JJ)J"⟩ : MethodName) (head1 (Jvm.Cond.code (⟨"java/lang/Math", "min", "(JJ)J"⟩ : MethodName) jdk_29_method_70_code 4 (some .long) :: ws) ({ frames := 0, cells := 0, slots := 0, locals := 0 } : Room)) (fun aa U => aa = #[(.long u), (.long w)] ∧ Z.Warmed39 U.vm ∧ U.heap = h0) (fun _ _ _ _ _ => True) (fun _ U o U' => ∃ v L, o = .returned v ∧ QMi Z u w h0 n0 v U'.heap L ∧ FrameEnd U o U' L ({ frames := 0, cells := 0, slots := 0, locals := 0 } : Room).cells ({ frames := 0, cells := 0, slots := 0, locals := 0 } : Room).slots) := by
  refine MetFree.of_bodySF (Jvm.Free.JP.mathPlain rfl (by decide +kernel)) hisR ?_
  intro p e s m args below meth c s₁ Bd hml0 hP hK
  obtain ⟨rfl, hZ, hh⟩ := hP
  have hx := Bd.exec
  have hby := Bd.bytes
  have hml : c.maxLocals = 4 := hml0
  have hown : s.vm.findClass "java/lang/Math" = some m.cls := findClass_of_methodNamed Bd.named
  have hnm := (name_of_methodNamed Bd.named Bd.method).1
  have hlk : meth.locks = false := BodyLoose.notSynchronized Bd
  have hret : meth.sig.returnType = (some .long) := Bd.returns
  have X0 : Stand p l e ({ frames := 0, cells := 0, slots := 0, locals := 0 } : Room) s m #[(.long u), (.long w)] below meth c s₁ [] 0 0 := Stand.of_body Bd
  have e0 : s₁.heap = h0 := by rw [← hh, Bd.state]; rfl
  have N0 := Fr.nil n0
  show Go p e below s ({ frames := 0, cells := 0, slots := 0, locals := 0 } : Room).cells ({ frames := 0, cells := 0, slots := 0, locals := 0 } : Room).slots (QMi Z u w h0 n0) (s₁.setTop (entryFrame m #[(.long u), (.long w)] 4))
  rw [efMi]
  refine Go.by (fun _ kont => XS.lloadN X0.here hx rfl (hb hby dMi_0) rfl (XS.lloadN X0.here hx rfl (hb hby dMi_1) rfl (XS.lcmp X0.here hx rfl (hb hby dMi_2) rfl kont))) ?_
  show Go _ _ _ _ _ _ _ (s₁.setTop (mkF m 3 #[.val (.long u), .second, .val (.long w), .second] [(.int (lcmpW u w))]))
  by_cases hc1 : w < u
  · refine Go.by (fun _ kont => XS.ifYes X0.here hx rfl (pc0 := 3) (pc' := 10) rfl (hb hby dMi_3) rfl ((if0 _ _).trans (tlt ((lw_gt _ _).mpr hc1)).2.2.1) (by decide) (by decide) kont) ?_
    show Go _ _ _ _ _ _ _ (s₁.setTop (mkF m 10 #[.val (.long u), .second, .val (.long w), .second] []))
    refine Go.by (fun _ kont => XS.lloadN X0.here hx rfl (hb hby dMi_10) rfl kont) ?_
    show Go _ _ _ _ _ _ _ (s₁.setTop (mkF m 11 #[.val (.long u), .second, .val (.long w), .second] [(.long w)]))
    refine Go.retJ X0 hx hret hlk (hb hby dMi_11) ?_ (by decide) (by decide)
    show QMi Z u w h0 n0 (some (.long w)) s₁.heap _
    rw [e0]
    refine ⟨?_, N0, rfl⟩
    unfold fMi
    rw [if_pos hc1]
  · refine Go.by (fun _ kont => XS.ifNo X0.here hx rfl (hb hby dMi_3) rfl ((if0 _ _).trans (flt (fun z => hc1 ((lw_gt _ _).mp z))).2.2.1) kont) ?_
    show Go _ _ _ _ _ _ _ (s₁.setTop (mkF m 6 #[.val (.long u), .second, .val (.long w), .second] []))
    refine Go.by (fun _ kont => XS.lloadN X0.here hx rfl (hb hby dMi_6) rfl (XS.goto X0.here hx rfl (pc0 := 7) (pc' := 11) rfl (hb hby dMi_7) (by decide) (by decide) kont)) ?_
    show Go _ _ _ _ _ _ _ (s₁.setTop (mkF m 11 #[.val (.long u), .second, .val (.long w), .second] [(.long u)]))
    refine Go.retJ X0 hx hret hlk (hb hby dMi_11) ?_ (by decide) (by decide)
    show QMi Z u w h0 n0 (some (.long u)) s₁.heap _
    rw [e0]
    refine ⟨?_, N0, rfl⟩
    unfold fMi
    rw [if_neg hc1]

theorem dMa_0 : decode jdk_29_method_66_code 0 = .ok (.lload_n 0, 1) := by decide +kernel
theorem dMa_1 : decode jdk_29_method_66_code 1 = .ok (.lload_n 2, 1) := by decide +kernel
theorem dMa_2 : decode jdk_29_method_66_code 2 = .ok (.lcmp, 1) := by decide +kernel
theorem dMa_3 : decode jdk_29_method_66_code 3 = .ok (.ifCond .lt 7, 3) := by decide +kernel
theorem dMa_6 : decode jdk_29_method_66_code 6 = .ok (.lload_n 0, 1) := by decide +kernel
theorem dMa_7 : decode jdk_29_method_66_code 7 = .ok (.goto 4, 3) := by decide +kernel
theorem dMa_10 : decode jdk_29_method_66_code 10 = .ok (.lload_n 2, 1) := by decide +kernel
theorem dMa_11 : decode jdk_29_method_66_code 11 = .ok (.lreturn, 1) := by decide +kernel
theorem efMa (m : MethodId) (u : Int64) (w : Int64) : entryFrame m #[(.long u), (.long w)] 4 = mkF m 0 #[.val (.long u), .second, .val (.long w), .second] [] := by first | (simp [entryFrame, mkF, argsToLocals, Value.category]; done) | rfl
def fMa (u : Int64) (w : Int64) : Int64 := (if u < w then w else u)
def QMa (Z : State) (u : Int64) (w : Int64) (h0 : Heap) (n0 : Nat) (v : Option Value) (h : Heap) (L : List Loc) : Prop := v = some (.long (fMa u w)) ∧ Fr n0 L ∧ h = h0
set_option maxRecDepth 65536 in
set_option maxHeartbeats 40000000 in
theorem rmMa (l : Launch) (Z : State) (a0 : Array Value) (hw : ∀ d ∈ tables_1, d.before a0 Z = true) (ws : List Jvm.Cond) (u : Int64) (w : Int64) (h0 : Heap) (n0 : Nat) (Z0 : n0 ≤ h0.size) :
    MetFree l (⟨"java/lang/Math", "max", "(JJ)J"⟩ : MethodName) (head1 (Jvm.Cond.code (⟨"java/lang/Math", "max", "(JJ)J"⟩ : MethodName) jdk_29_method_66_code 4 (some .long) :: ws) ({ frames := 0, cells := 0, slots := 0, locals := 0 } : Room)) (fun aa U => aa = #[(.long u), (.long w)] ∧ Z.Warmed39 U.vm ∧ U.heap = h0) (fun _ _ _ _ _ => True) (fun _ U o U' => ∃ v L, o = .returned v ∧ QMa Z u w h0 n0 v U'.heap L ∧ FrameEnd U o U' L ({ frames := 0, cells := 0, slots := 0, locals := 0 } : Room).cells ({ frames := 0, cells := 0, slots := 0, locals := 0 } : Room).slots) := by
  refine MetFree.of_bodySF (Jvm.Free.JP.mathPlain rfl (by decide +kernel)) hisR ?_
  intro p e s m args below meth c s₁ Bd hml0 hP hK
  obtain ⟨rfl, hZ, hh⟩ := hP
  have hx := Bd.exec
  have hby := Bd.bytes
  have hml : c.maxLocals = 4 := hml0
  have hown : s.vm.findClass "java/lang/Math" = some m.cls := findClass_of_methodNamed Bd.named
  have hnm := (name_of_methodNamed Bd.named Bd.method).1
  have hlk : meth.locks = false := BodyLoose.notSynchronized Bd
  have hret : meth.sig.returnType = (some .long) := Bd.returns
  have X0 : Stand p l e ({ frames := 0, cells := 0, slots := 0, locals := 0 } : Room) s m #[(.long u), (.long w)] below meth c s₁ [] 0 0 := Stand.of_body Bd
  have e0 : s₁.heap = h0 := by rw [← hh, Bd.state]; rfl
  have N0 := Fr.nil n0
  show Go p e below s ({ frames := 0, cells := 0, slots := 0, locals := 0 } : Room).cells ({ frames := 0, cells := 0, slots := 0, locals := 0 } : Room).slots (QMa Z u w h0 n0) (s₁.setTop (entryFrame m #[(.long u), (.long w)] 4))
  rw [efMa]
  refine Go.by (fun _ kont => XS.lloadN X0.here hx rfl (hb hby dMa_0) rfl (XS.lloadN X0.here hx rfl (hb hby dMa_1) rfl (XS.lcmp X0.here hx rfl (hb hby dMa_2) rfl kont))) ?_
  show Go _ _ _ _ _ _ _ (s₁.setTop (mkF m 3 #[.val (.long u), .second, .val (.long w), .second] [(.int (lcmpW u w))]))
  by_cases hc1 : u < w
  · refine Go.by (fun _ kont => XS.ifYes X0.here hx rfl (pc0 := 3) (pc' := 10) rfl (hb hby dMa_3) rfl ((if0 _ _).trans (tlt ((lw_lt _ _).mpr hc1)).1) (by decide) (by decide) kont) ?_
    show Go _ _ _ _ _ _ _ (s₁.setTop (mkF m 10 #[.val (.long u), .second, .val (.long w), .second] []))
    refine Go.by (fun _ kont => XS.lloadN X0.here hx rfl (hb hby dMa_10) rfl kont) ?_
    show Go _ _ _ _ _ _ _ (s₁.setTop (mkF m 11 #[.val (.long u), .second, .val (.long w), .second] [(.long w)]))
    refine Go.retJ X0 hx hret hlk (hb hby dMa_11) ?_ (by decide) (by decide)
    show QMa Z u w h0 n0 (some (.long w)) s₁.heap _
    rw [e0]
    refine ⟨?_, N0, rfl⟩
    unfold fMa
    rw [if_pos hc1]
  · refine Go.by (fun _ kont => XS.ifNo X0.here hx rfl (hb hby dMa_3) rfl ((if0 _ _).trans (flt (fun z => hc1 ((lw_lt _ _).mp z))).1) kont) ?_
    show Go _ _ _ _ _ _ _ (s₁.setTop (mkF m 6 #[.val (.long u), .second, .val (.long w), .second] []))
    refine Go.by (fun _ kont => XS.lloadN X0.here hx rfl (hb hby dMa_6) rfl (XS.goto X0.here hx rfl (pc0 := 7) (pc' := 11) rfl (hb hby dMa_7) (by decide) (by decide) kont)) ?_
    show Go _ _ _ _ _ _ _ (s₁.setTop (mkF m 11 #[.val (.long u), .second, .val (.long w), .second] [(.long u)]))
    refine Go.retJ X0 hx hret hlk (hb hby dMa_11) ?_ (by decide) (by decide)
    show QMa Z u w h0 n0 (some (.long u)) s₁.heap _
    rw [e0]
    refine ⟨?_, N0, rfl⟩
    unfold fMa
    rw [if_neg hc1]

theorem dR_0 : decode jdk_30_method_1_code 0 = .ok (.aload_n 0, 1) := by decide +kernel
theorem dR_1 : decode jdk_30_method_1_code 1 = .ok (.invokespecial 1, 3) := by decide +kernel
theorem dR_4 : decode jdk_30_method_1_code 4 = .ok (.return_, 1) := by decide +kernel
theorem pnR : plainName "java/lang/Record" = true := by first | (simp [plainName, overriddenIn]; done) | decide +kernel
theorem efR (m : MethodId) (a : Addr) : entryFrame m #[(.ref a)] 1 = mkF m 0 #[.val (.ref a)] [] := by first | (simp [entryFrame, mkF, argsToLocals, Value.category]; done) | rfl
def QR (Z : State) (a : Addr) (h0 : Heap) (n0 : Nat) (v : Option Value) (h : Heap) (L : List Loc) : Prop := v = none ∧ Fr n0 L ∧ h = h0
set_option maxRecDepth 65536 in
set_option maxHeartbeats 40000000 in
theorem rmR (l : Launch) (Z : State) (a0 : Array Value) (hw : ∀ d ∈ tables_1, d.before a0 Z = true) (ws : List Jvm.Cond) (a : Addr) (h0 : Heap) (n0 : Nat) (Z0 : n0 ≤ h0.size) :
    MetFree l (⟨"java/lang/Record", "<init>", "()V"⟩ : MethodName) (head1 (Jvm.Cond.code (⟨"java/lang/Record", "<init>", "()V"⟩ : MethodName) jdk_30_method_1_code 1 none :: ws) ({ frames := 1, cells := 0, slots := 0, locals := 12 } : Room)) (fun aa U => aa = #[(.ref a)] ∧ Z.Warmed39 U.vm ∧ U.heap = h0) (fun _ _ _ _ _ => True) (fun _ U o U' => ∃ v L, o = .returned v ∧ QR Z a h0 n0 v U'.heap L ∧ FrameEnd U o U' L ({ frames := 1, cells := 0, slots := 0, locals := 12 } : Room).cells ({ frames := 1, cells := 0, slots := 0, locals := 12 } : Room).slots) := by
  refine MetFree.of_bodySF (plainFor_of_name pnR) hisR ?_
  intro p e s m args below meth c s₁ Bd hml0 hP hK
  obtain ⟨rfl, hZ, hh⟩ := hP
  have hx := Bd.exec
  have hby := Bd.bytes
  have hml : c.maxLocals = 1 := hml0
  have hown : s.vm.findClass "java/lang/Record" = some m.cls := findClass_of_methodNamed Bd.named
  have hnm := (name_of_methodNamed Bd.named Bd.method).1
  have hlk : meth.locks = false := BodyLoose.notSynchronized Bd
  have hret : meth.sig.returnType = none := Bd.returns
  have X0 : Stand p l e ({ frames := 1, cells := 0, slots := 0, locals := 12 } : Room) s m #[(.ref a)] below meth c s₁ [] 0 0 := Stand.of_body Bd
  have e0 : s₁.heap = h0 := by rw [← hh, Bd.state]; rfl
  have N0 := Fr.nil n0
  show Go p e below s ({ frames := 1, cells := 0, slots := 0, locals := 12 } : Room).cells ({ frames := 1, cells := 0, slots := 0, locals := 12 } : Room).slots (QR Z a h0 n0) (s₁.setTop (entryFrame m #[(.ref a)] 1))
  rw [efR]
  refine Go.by (fun _ kont => XS.aloadN X0.here hx rfl (hb hby dR_0) rfl rfl kont) ?_
  show Go _ _ _ _ _ _ _ (s₁.setTop (mkF m 1 #[.val (.ref a)] [(.ref a)]))
  obtain ⟨T1, X1, e1, st1⟩ := initO X0 hx hZ hown (hw _ (List.mem_of_getElem? (i := 18) rfl)) (hw _ (List.mem_of_getElem? (i := 19) rfl)) (hw _ (List.mem_of_getElem? (i := 20) rfl)) e0 (g := (mkF m 1 #[.val (.ref a)] [(.ref a)])) rfl (by rw [hml]; rfl) rfl (hb hby dR_1) (by decide) (W := 0) (by show 2 * 0 + _ ≤ _; exact Nat.le_of_eq rfl) (by decide)
  refine Go.by st1 ?_
  show Go _ _ _ _ _ _ _ (T1.setTop (mkF m 4 #[.val (.ref a)] []))
  refine Go.retV X1 hx hret hlk (hb hby dR_4) ?_ (by decide) (by decide)
  show QR Z a h0 n0 none T1.heap _
  rw [e1]
  exact ⟨rfl, N0, rfl⟩

theorem dI_0 : decode prog_40_method_1_code 0 = .ok (.aload_n 0, 1) := by decide +kernel
theorem dI_1 : decode prog_40_method_1_code 1 = .ok (.invokespecial 1, 3) := by decide +kernel
theorem dI_4 : decode prog_40_method_1_code 4 = .ok (.lload_n 3, 1) := by decide +kernel
theorem dI_5 : decode prog_40_method_1_code 5 = .ok (.lload_n 1, 1) := by decide +kernel
theorem dI_6 : decode prog_40_method_1_code 6 = .ok (.lcmp, 1) := by decide +kernel
theorem dI_7 : decode prog_40_method_1_code 7 = .ok (.ifCond .gt 13, 3) := by decide +kernel
theorem dI_20 : decode prog_40_method_1_code 20 = .ok (.aload_n 0, 1) := by decide +kernel
theorem dI_21 : decode prog_40_method_1_code 21 = .ok (.lload_n 1, 1) := by decide +kernel
theorem dI_22 : decode prog_40_method_1_code 22 = .ok (.putfield 14, 3) := by decide +kernel
theorem dI_25 : decode prog_40_method_1_code 25 = .ok (.aload_n 0, 1) := by decide +kernel
theorem dI_26 : decode prog_40_method_1_code 26 = .ok (.lload_n 3, 1) := by decide +kernel
theorem dI_27 : decode prog_40_method_1_code 27 = .ok (.putfield 20, 3) := by decide +kernel
theorem dI_30 : decode prog_40_method_1_code 30 = .ok (.return_, 1) := by decide +kernel
theorem pdI_0 : parseMethodDescriptor "()V" = some ⟨[], none⟩ := by decide +kernel
theorem pnI : plainName "com/example/runpulse/runpulse/Window" = true := by first | (simp [plainName, overriddenIn]; done) | decide +kernel
theorem efI (m : MethodId) (a : Addr) (lo : Int64) (hi : Int64) : entryFrame m #[(.ref a), (.long lo), (.long hi)] 5 = mkF m 0 #[.val (.ref a), .val (.long lo), .second, .val (.long hi), .second] [] := by first | (simp [entryFrame, mkF, argsToLocals, Value.category]; done) | rfl
def QI (Z : State) (a : Addr) (lo : Int64) (hi : Int64) (h0 : Heap) (n0 : Nat) (v : Option Value) (h : Heap) (L : List Loc) : Prop := v = none ∧ Fr n0 L ∧ Keep h0 h [a] ∧ Exa Z h a "com/example/runpulse/runpulse/Window" ∧ Fld Z h a "com/example/runpulse/runpulse/Window" "start" "J" (.long lo) ∧ Fld Z h a "com/example/runpulse/runpulse/Window" "end" "J" (.long hi)
set_option maxRecDepth 65536 in
set_option maxHeartbeats 40000000 in
theorem rmI (l : Launch) (Z : State) (a0 : Array Value) (hw : ∀ d ∈ tables_1, d.before a0 Z = true) (ws : List Jvm.Cond) (a : Addr) (lo : Int64) (hi : Int64) (h0 : Heap) (n0 : Nat) (Z0 : n0 ≤ h0.size) (E0a : Exa Z h0 a "com/example/runpulse/runpulse/Window") (F0_start : Fld Z h0 a "com/example/runpulse/runpulse/Window" "start" "J" (.long 0)) (F0_end : Fld Z h0 a "com/example/runpulse/runpulse/Window" "end" "J" (.long 0)) (ga : n0 ≤ a) (hlt : lo < hi) :
    MetFree l (⟨"com/example/runpulse/runpulse/Window", "<init>", "(JJ)V"⟩ : MethodName) (head1 (Jvm.Cond.code (⟨"com/example/runpulse/runpulse/Window", "<init>", "(JJ)V"⟩ : MethodName) prog_40_method_1_code 5 none :: ws) ({ frames := 2, cells := 0, slots := 0, locals := 24 } : Room)) (fun aa U => aa = #[(.ref a), (.long lo), (.long hi)] ∧ Z.Warmed39 U.vm ∧ U.heap = h0) (fun _ _ _ _ _ => True) (fun _ U o U' => ∃ v L, o = .returned v ∧ QI Z a lo hi h0 n0 v U'.heap L ∧ FrameEnd U o U' L ({ frames := 2, cells := 0, slots := 0, locals := 24 } : Room).cells ({ frames := 2, cells := 0, slots := 0, locals := 24 } : Room).slots) := by
  refine MetFree.of_bodySF (plainFor_of_name pnI) hisR ?_
  intro p e s m args below meth c s₁ Bd hml0 hP hK
  obtain ⟨rfl, hZ, hh⟩ := hP
  have hx := Bd.exec
  have hby := Bd.bytes
  have hml : c.maxLocals = 5 := hml0
  have hown : s.vm.findClass "com/example/runpulse/runpulse/Window" = some m.cls := findClass_of_methodNamed Bd.named
  have hnm := (name_of_methodNamed Bd.named Bd.method).1
  have hlk : meth.locks = false := BodyLoose.notSynchronized Bd
  have hret : meth.sig.returnType = none := Bd.returns
  have X0 : Stand p l e ({ frames := 2, cells := 0, slots := 0, locals := 24 } : Room) s m #[(.ref a), (.long lo), (.long hi)] below meth c s₁ [] 0 0 := Stand.of_body Bd
  have e0 : s₁.heap = h0 := by rw [← hh, Bd.state]; rfl
  have N0 := Fr.nil n0
  show Go p e below s ({ frames := 2, cells := 0, slots := 0, locals := 24 } : Room).cells ({ frames := 2, cells := 0, slots := 0, locals := 24 } : Room).slots (QI Z a lo hi h0 n0) (s₁.setTop (entryFrame m #[(.ref a), (.long lo), (.long hi)] 5))
  rw [efI]
  refine Go.by (fun _ kont => XS.aloadN X0.here hx rfl (hb hby dI_0) rfl rfl kont) ?_
  show Go _ _ _ _ _ _ _ (s₁.setTop (mkF m 1 #[.val (.ref a), .val (.long lo), .second, .val (.long hi), .second] [(.ref a)]))
  obtain ⟨_, _, ⟨T1, L1, k1, n1⟩, -, X1, ⟨Lc1, hQ1, l1, y1, z1⟩, st1⟩ := X0.specialBack hx (y := (⟨"java/lang/Record", "<init>", "()V"⟩ : MethodName)) rfl hown (mvT hZ (hw _ (List.mem_of_getElem? (i := 13) rfl))) (mvT hZ (hw _ (List.mem_of_getElem? (i := 14) rfl))) (mvT hZ (hw _ (List.mem_of_getElem? (i := 17) rfl))) (by decide) (backOf (W := 0) (rmR l Z a0 hw [] a h0 n0 Z0 ) hZ (hw _ (List.mem_of_getElem? (i := 17) rfl)) (hw _ (List.mem_of_getElem? (i := 16) rfl)) (by decide) (by decide)) (g := (mkF m 1 #[.val (.ref a), .val (.long lo), .second, .val (.long hi), .second] [(.ref a)])) rfl (by rw [hml]; rfl) (Steps.refl _) (a := a) (argsL := []) (rest := []) (lenOf pdI_0 rfl) rfl (by show 2 * 0 + _ ≤ _; exact Nat.le_of_eq rfl) (hb hby dI_1) (fun _ _ => ⟨rfl, e0, (by decide : 0 + 0 ≤ _), (by decide : 0 + 0 ≤ _)⟩)
  dsimp only [Pt.U, Pt.locs, Pt.cells, Pt.slots] at X1 l1 y1 z1 st1 hQ1
  subst l1 y1 z1
  obtain ⟨rfl, N1q, eh1⟩ := hQ1
  have N1 := Fr.app N0 N1q
  refine Go.tr st1 ?_
  show Go _ _ _ _ _ _ _ (T1.setTop (mkF m 4 #[.val (.ref a), .val (.long lo), .second, .val (.long hi), .second] []))
  refine Go.by (fun _ kont => XS.lloadN X1.here hx rfl (hb hby dI_4) rfl (XS.lloadN X1.here hx rfl (hb hby dI_5) rfl (XS.lcmp X1.here hx rfl (hb hby dI_6) rfl kont))) ?_
  show Go _ _ _ _ _ _ _ (T1.setTop (mkF m 7 #[.val (.ref a), .val (.long lo), .second, .val (.long hi), .second] [(.int (lcmpW hi lo))]))
  refine Go.by (fun _ kont => XS.ifYes X1.here hx rfl (pc0 := 7) (pc' := 20) rfl (hb hby dI_7) rfl ((if0 _ _).trans (tlt ((lw_gt _ _).mpr hlt)).2.2.1) (by decide) (by decide) kont) ?_
  show Go _ _ _ _ _ _ _ (T1.setTop (mkF m 20 #[.val (.ref a), .val (.long lo), .second, .val (.long hi), .second] []))
  refine Go.by (fun _ kont => XS.aloadN X1.here hx rfl (hb hby dI_20) rfl rfl (XS.lloadN X1.here hx rfl (hb hby dI_21) rfl kont)) ?_
  show Go _ _ _ _ _ _ _ (T1.setTop (mkF m 22 #[.val (.ref a), .val (.long lo), .second, .val (.long hi), .second] [(.long lo), (.ref a)]))
  obtain ⟨T2, h2, X2, e2, W2, st2⟩ := putF X1 hx hZ hown (host := "") (Or.inl (hw _ (List.mem_of_getElem? (i := 21) rfl))) Via.refl eh1 F0_start E0a (Or.inr ⟨(hw _ (List.mem_of_getElem? (i := 22) rfl)), rfl, hnm⟩) (hw _ (List.mem_of_getElem? (i := 8) rfl)) (ty := .long) (by decide) rfl rfl (g := (mkF m 22 #[.val (.ref a), .val (.long lo), .second, .val (.long hi), .second] [(.long lo), (.ref a)])) rfl rfl (hb hby dI_22)
  have Fw2 := F0_start.same W2
  have F3_end_a := F0_end.other W2 (Or.inr (slot_ne (Or.inr (hw _ (List.mem_of_getElem? (i := 24) rfl))) (Or.inr (hw _ (List.mem_of_getElem? (i := 22) rfl))) (by decide) (t := .long) (t' := .long) (by decide) (by decide)))
  have E3_a := E0a.wr W2
  have Z3 := Nat.le_trans Z0 (Keep.of_wr W2).1
  have K3 : Keep h0 h2 [a] := (Keep.refl h0 [a]).wr W2 (Or.inl (by simp))
  have N2 := Fr.snoc X2 N1 ga
  refine Go.by st2 ?_
  show Go _ _ _ _ _ _ _ (T2.setTop (mkF m 25 #[.val (.ref a), .val (.long lo), .second, .val (.long hi), .second] []))
  refine Go.by (fun _ kont => XS.aloadN X2.here hx rfl (hb hby dI_25) rfl rfl (XS.lloadN X2.here hx rfl (hb hby dI_26) rfl kont)) ?_
  show Go _ _ _ _ _ _ _ (T2.setTop (mkF m 27 #[.val (.ref a), .val (.long lo), .second, .val (.long hi), .second] [(.long hi), (.ref a)]))
  obtain ⟨T4, h4, X4, e4, W4, st4⟩ := putF X2 hx hZ hown (host := "") (Or.inl (hw _ (List.mem_of_getElem? (i := 23) rfl))) Via.refl e2 F3_end_a E3_a (Or.inr ⟨(hw _ (List.mem_of_getElem? (i := 24) rfl)), rfl, hnm⟩) (hw _ (List.mem_of_getElem? (i := 8) rfl)) (ty := .long) (by decide) rfl rfl (g := (mkF m 27 #[.val (.ref a), .val (.long lo), .second, .val (.long hi), .second] [(.long hi), (.ref a)])) rfl rfl (hb hby dI_27)
  have Fw4 := F3_end_a.same W4
  have F5_start_a := Fw2.other W4 (Or.inr (slot_ne (Or.inr (hw _ (List.mem_of_getElem? (i := 22) rfl))) (Or.inr (hw _ (List.mem_of_getElem? (i := 24) rfl))) (by decide) (t := .long) (t' := .long) (by decide) (by decide)))
  have E5_a := E3_a.wr W4
  have Z5 := Nat.le_trans Z3 (Keep.of_wr W4).1
  have K5 : Keep h0 h4 [a] := K3.wr W4 (Or.inl (by simp))
  have N4 := Fr.snoc X4 N2 ga
  refine Go.by st4 ?_
  show Go _ _ _ _ _ _ _ (T4.setTop (mkF m 30 #[.val (.ref a), .val (.long lo), .second, .val (.long hi), .second] []))
  refine Go.retV X4 hx hret hlk (hb hby dI_30) ?_ (by decide) (by decide)
  show QI Z a lo hi h0 n0 none T4.heap _
  rw [e4]
  exact ⟨rfl, N4, K5, E5_a, F5_start_a, Fw4⟩

theorem dC_0 : decode prog_40_method_2_code 0 = .ok (.aload_n 0, 1) := by decide +kernel
theorem dC_1 : decode prog_40_method_2_code 1 = .ok (.getfield 14, 3) := by decide +kernel
theorem dC_4 : decode prog_40_method_2_code 4 = .ok (.lload_n 1, 1) := by decide +kernel
theorem dC_5 : decode prog_40_method_2_code 5 = .ok (.lcmp, 1) := by decide +kernel
theorem dC_6 : decode prog_40_method_2_code 6 = .ok (.ifCond .gt 16, 3) := by decide +kernel
theorem dC_9 : decode prog_40_method_2_code 9 = .ok (.lload_n 1, 1) := by decide +kernel
theorem dC_10 : decode prog_40_method_2_code 10 = .ok (.aload_n 0, 1) := by decide +kernel
theorem dC_11 : decode prog_40_method_2_code 11 = .ok (.getfield 20, 3) := by decide +kernel
theorem dC_14 : decode prog_40_method_2_code 14 = .ok (.lcmp, 1) := by decide +kernel
theorem dC_15 : decode prog_40_method_2_code 15 = .ok (.ifCond .ge 7, 3) := by decide +kernel
theorem dC_18 : decode prog_40_method_2_code 18 = .ok (.iconst 1, 1) := by decide +kernel
theorem dC_19 : decode prog_40_method_2_code 19 = .ok (.goto 4, 3) := by decide +kernel
theorem dC_22 : decode prog_40_method_2_code 22 = .ok (.iconst 0, 1) := by decide +kernel
theorem dC_23 : decode prog_40_method_2_code 23 = .ok (.ireturn, 1) := by decide +kernel
theorem pnC : plainName "com/example/runpulse/runpulse/Window" = true := by first | (simp [plainName, overriddenIn]; done) | decide +kernel
theorem efC (m : MethodId) (a : Addr) (t : Int64) : entryFrame m #[(.ref a), (.long t)] 3 = mkF m 0 #[.val (.ref a), .val (.long t), .second] [] := by first | (simp [entryFrame, mkF, argsToLocals, Value.category]; done) | rfl
def fC (t : Int64) (lo : Int64) (hi : Int64) : Int32 := (if t < lo then (0 : Int32) else (if t < hi then (1 : Int32) else (0 : Int32)))
def QC (Z : State) (a : Addr) (t : Int64) (lo : Int64) (hi : Int64) (h0 : Heap) (n0 : Nat) (v : Option Value) (h : Heap) (L : List Loc) : Prop := v = some (.int (fC t lo hi)) ∧ Fr n0 L ∧ h = h0
set_option maxRecDepth 65536 in
set_option maxHeartbeats 40000000 in
theorem rmC (l : Launch) (Z : State) (a0 : Array Value) (hw : ∀ d ∈ tables_1, d.before a0 Z = true) (ws : List Jvm.Cond) (a : Addr) (t : Int64) (lo : Int64) (hi : Int64) (h0 : Heap) (n0 : Nat) (Z0 : n0 ≤ h0.size) (Fs : Fld Z h0 a "com/example/runpulse/runpulse/Window" "start" "J" (.long lo)) (Fe : Fld Z h0 a "com/example/runpulse/runpulse/Window" "end" "J" (.long hi)) :
    MetFree l (⟨"com/example/runpulse/runpulse/Window", "contains", "(J)Z"⟩ : MethodName) (head1 (Jvm.Cond.code (⟨"com/example/runpulse/runpulse/Window", "contains", "(J)Z"⟩ : MethodName) prog_40_method_2_code 3 (some .boolean) :: ws) ({ frames := 0, cells := 0, slots := 0, locals := 0 } : Room)) (fun aa U => aa = #[(.ref a), (.long t)] ∧ Z.Warmed39 U.vm ∧ U.heap = h0) (fun _ _ _ _ _ => True) (fun _ U o U' => ∃ v L, o = .returned v ∧ QC Z a t lo hi h0 n0 v U'.heap L ∧ FrameEnd U o U' L ({ frames := 0, cells := 0, slots := 0, locals := 0 } : Room).cells ({ frames := 0, cells := 0, slots := 0, locals := 0 } : Room).slots) := by
  refine MetFree.of_bodySF (plainFor_of_name pnC) hisR ?_
  intro p e s m args below meth c s₁ Bd hml0 hP hK
  obtain ⟨rfl, hZ, hh⟩ := hP
  have hx := Bd.exec
  have hby := Bd.bytes
  have hml : c.maxLocals = 3 := hml0
  have hown : s.vm.findClass "com/example/runpulse/runpulse/Window" = some m.cls := findClass_of_methodNamed Bd.named
  have hnm := (name_of_methodNamed Bd.named Bd.method).1
  have hlk : meth.locks = false := BodyLoose.notSynchronized Bd
  have hret : meth.sig.returnType = (some .boolean) := Bd.returns
  have X0 : Stand p l e ({ frames := 0, cells := 0, slots := 0, locals := 0 } : Room) s m #[(.ref a), (.long t)] below meth c s₁ [] 0 0 := Stand.of_body Bd
  have e0 : s₁.heap = h0 := by rw [← hh, Bd.state]; rfl
  have N0 := Fr.nil n0
  show Go p e below s ({ frames := 0, cells := 0, slots := 0, locals := 0 } : Room).cells ({ frames := 0, cells := 0, slots := 0, locals := 0 } : Room).slots (QC Z a t lo hi h0 n0) (s₁.setTop (entryFrame m #[(.ref a), (.long t)] 3))
  rw [efC]
  refine Go.by (fun _ kont => XS.aloadN X0.here hx rfl (hb hby dC_0) rfl rfl kont) ?_
  show Go _ _ _ _ _ _ _ (s₁.setTop (mkF m 1 #[.val (.ref a), .val (.long t), .second] [(.ref a)]))
  obtain ⟨T1, X1, e1, st1⟩ := getF X0 hx hZ hown (host := "") (Or.inl (hw _ (List.mem_of_getElem? (i := 21) rfl))) Via.refl e0 Fs (g := (mkF m 1 #[.val (.ref a), .val (.long t), .second] [(.ref a)])) rfl rfl (hb hby dC_1)
  refine Go.by st1 ?_
  show Go _ _ _ _ _ _ _ (T1.setTop (mkF m 4 #[.val (.ref a), .val (.long t), .second] [(.long lo)]))
  refine Go.by (fun _ kont => XS.lloadN X1.here hx rfl (hb hby dC_4) rfl (XS.lcmp X1.here hx rfl (hb hby dC_5) rfl kont)) ?_
  show Go _ _ _ _ _ _ _ (T1.setTop (mkF m 6 #[.val (.ref a), .val (.long t), .second] [(.int (lcmpW lo t))]))
  by_cases hc2 : t < lo
  · refine Go.by (fun _ kont => XS.ifYes X1.here hx rfl (pc0 := 6) (pc' := 22) rfl (hb hby dC_6) rfl ((if0 _ _).trans (tlt ((lw_gt _ _).mpr hc2)).2.2.1) (by decide) (by decide) kont) ?_
    show Go _ _ _ _ _ _ _ (T1.setTop (mkF m 22 #[.val (.ref a), .val (.long t), .second] []))
    refine Go.by (fun _ kont => XS.iconst X1.here hx rfl (hb hby dC_22) kont) ?_
    show Go _ _ _ _ _ _ _ (T1.setTop (mkF m 23 #[.val (.ref a), .val (.long t), .second] [(.int (0 : Int32))]))
    refine Go.retN X1 hx (t := .boolean) hret (by simp) hlk (hb hby dC_23) ?_ (by decide) (by decide)
    show QC Z a t lo hi h0 n0 (some (.int (0 : Int32))) T1.heap _
    rw [e1]
    refine ⟨?_, N0, rfl⟩
    unfold fC
    rw [if_pos hc2]
  · refine Go.by (fun _ kont => XS.ifNo X1.here hx rfl (hb hby dC_6) rfl ((if0 _ _).trans (flt (fun z => hc2 ((lw_gt _ _).mp z))).2.2.1) kont) ?_
    show Go _ _ _ _ _ _ _ (T1.setTop (mkF m 9 #[.val (.ref a), .val (.long t), .second] []))
    refine Go.by (fun _ kont => XS.lloadN X1.here hx rfl (hb hby dC_9) rfl (XS.aloadN X1.here hx rfl (hb hby dC_10) rfl rfl kont)) ?_
    show Go _ _ _ _ _ _ _ (T1.setTop (mkF m 11 #[.val (.ref a), .val (.long t), .second] [(.ref a), (.long t)]))
    obtain ⟨T3, X3, e3, st3⟩ := getF X1 hx hZ hown (host := "") (Or.inl (hw _ (List.mem_of_getElem? (i := 23) rfl))) Via.refl e1 Fe (g := (mkF m 11 #[.val (.ref a), .val (.long t), .second] [(.ref a), (.long t)])) rfl rfl (hb hby dC_11)
    refine Go.by st3 ?_
    show Go _ _ _ _ _ _ _ (T3.setTop (mkF m 14 #[.val (.ref a), .val (.long t), .second] [(.long hi), (.long t)]))
    refine Go.by (fun _ kont => XS.lcmp X3.here hx rfl (hb hby dC_14) rfl kont) ?_
    show Go _ _ _ _ _ _ _ (T3.setTop (mkF m 15 #[.val (.ref a), .val (.long t), .second] [(.int (lcmpW t hi))]))
    by_cases hc4 : t < hi
    · refine Go.by (fun _ kont => XS.ifNo X3.here hx rfl (hb hby dC_15) rfl ((if0 _ _).trans (tlt ((lw_lt _ _).mpr hc4)).2.1) kont) ?_
      show Go _ _ _ _ _ _ _ (T3.setTop (mkF m 18 #[.val (.ref a), .val (.long t), .second] []))
      refine Go.by (fun _ kont => XS.iconst X3.here hx rfl (hb hby dC_18) (XS.goto X3.here hx rfl (pc0 := 19) (pc' := 23) rfl (hb hby dC_19) (by decide) (by decide) kont)) ?_
      show Go _ _ _ _ _ _ _ (T3.setTop (mkF m 23 #[.val (.ref a), .val (.long t), .second] [(.int (1 : Int32))]))
      refine Go.retN X3 hx (t := .boolean) hret (by simp) hlk (hb hby dC_23) ?_ (by decide) (by decide)
      show QC Z a t lo hi h0 n0 (some (.int (1 : Int32))) T3.heap _
      rw [e3]
      refine ⟨?_, N0, rfl⟩
      unfold fC
      rw [if_neg hc2, if_pos hc4]
    · refine Go.by (fun _ kont => XS.ifYes X3.here hx rfl (pc0 := 15) (pc' := 22) rfl (hb hby dC_15) rfl ((if0 _ _).trans (flt (fun z => hc4 ((lw_lt _ _).mp z))).2.1) (by decide) (by decide) kont) ?_
      show Go _ _ _ _ _ _ _ (T3.setTop (mkF m 22 #[.val (.ref a), .val (.long t), .second] []))
      refine Go.by (fun _ kont => XS.iconst X3.here hx rfl (hb hby dC_22) kont) ?_
      show Go _ _ _ _ _ _ _ (T3.setTop (mkF m 23 #[.val (.ref a), .val (.long t), .second] [(.int (0 : Int32))]))
      refine Go.retN X3 hx (t := .boolean) hret (by simp) hlk (hb hby dC_23) ?_ (by decide) (by decide)
      show QC Z a t lo hi h0 n0 (some (.int (0 : Int32))) T3.heap _
      rw [e3]
      refine ⟨?_, N0, rfl⟩
      unfold fC
      rw [if_neg hc2, if_neg hc4]

theorem dU_0 : decode method_2_code 0 = .ok (.lload_n 0, 1) := by decide +kernel
theorem dU_1 : decode method_2_code 1 = .ok (.ldc2_w 9, 3) := by decide +kernel
theorem dU_4 : decode method_2_code 4 = .ok (.lxor, 1) := by decide +kernel
theorem dU_5 : decode method_2_code 5 = .ok (.lload_n 2, 1) := by decide +kernel
theorem dU_6 : decode method_2_code 6 = .ok (.ldc2_w 9, 3) := by decide +kernel
theorem dU_9 : decode method_2_code 9 = .ok (.lxor, 1) := by decide +kernel
theorem dU_10 : decode method_2_code 10 = .ok (.lcmp, 1) := by decide +kernel
theorem dU_11 : decode method_2_code 11 = .ok (.ifCond .ge 7, 3) := by decide +kernel
theorem dU_14 : decode method_2_code 14 = .ok (.iconst 1, 1) := by decide +kernel
theorem dU_15 : decode method_2_code 15 = .ok (.goto 4, 3) := by decide +kernel
theorem dU_18 : decode method_2_code 18 = .ok (.iconst 0, 1) := by decide +kernel
theorem dU_19 : decode method_2_code 19 = .ok (.ireturn, 1) := by decide +kernel
theorem pnU : plainName "com/example/runpulse/runpulse/WindowContainsPinLaw" = true := by first | (simp [plainName, overriddenIn]; done) | decide +kernel
theorem efU (m : MethodId) (u : Int64) (w : Int64) : entryFrame m #[(.long u), (.long w)] 4 = mkF m 0 #[.val (.long u), .second, .val (.long w), .second] [] := by first | (simp [entryFrame, mkF, argsToLocals, Value.category]; done) | rfl
def fU (u : Int64) (w : Int64) : Int32 := (if (u ^^^ (-9223372036854775808 : Int64)) < (w ^^^ (-9223372036854775808 : Int64)) then (1 : Int32) else (0 : Int32))
def QU (Z : State) (u : Int64) (w : Int64) (h0 : Heap) (n0 : Nat) (v : Option Value) (h : Heap) (L : List Loc) : Prop := v = some (.int (fU u w)) ∧ Fr n0 L ∧ h = h0
set_option maxRecDepth 65536 in
set_option maxHeartbeats 40000000 in
theorem rmU (l : Launch) (Z : State) (a0 : Array Value) (hw : ∀ d ∈ tables_1, d.before a0 Z = true) (ws : List Jvm.Cond) (u : Int64) (w : Int64) (h0 : Heap) (n0 : Nat) (Z0 : n0 ≤ h0.size) :
    MetFree l (⟨"com/example/runpulse/runpulse/WindowContainsPinLaw", "unsignedLess", "(JJ)Z"⟩ : MethodName) (head1 (Jvm.Cond.code (⟨"com/example/runpulse/runpulse/WindowContainsPinLaw", "unsignedLess", "(JJ)Z"⟩ : MethodName) method_2_code 4 (some .boolean) :: ws) ({ frames := 0, cells := 0, slots := 0, locals := 0 } : Room)) (fun aa U => aa = #[(.long u), (.long w)] ∧ Z.Warmed39 U.vm ∧ U.heap = h0) (fun _ _ _ _ _ => True) (fun _ U o U' => ∃ v L, o = .returned v ∧ QU Z u w h0 n0 v U'.heap L ∧ FrameEnd U o U' L ({ frames := 0, cells := 0, slots := 0, locals := 0 } : Room).cells ({ frames := 0, cells := 0, slots := 0, locals := 0 } : Room).slots) := by
  refine MetFree.of_bodySF (plainFor_of_name pnU) hisR ?_
  intro p e s m args below meth c s₁ Bd hml0 hP hK
  obtain ⟨rfl, hZ, hh⟩ := hP
  have hx := Bd.exec
  have hby := Bd.bytes
  have hml : c.maxLocals = 4 := hml0
  have hown : s.vm.findClass "com/example/runpulse/runpulse/WindowContainsPinLaw" = some m.cls := findClass_of_methodNamed Bd.named
  have hnm := (name_of_methodNamed Bd.named Bd.method).1
  have hlk : meth.locks = false := BodyLoose.notSynchronized Bd
  have hret : meth.sig.returnType = (some .boolean) := Bd.returns
  have X0 : Stand p l e ({ frames := 0, cells := 0, slots := 0, locals := 0 } : Room) s m #[(.long u), (.long w)] below meth c s₁ [] 0 0 := Stand.of_body Bd
  have e0 : s₁.heap = h0 := by rw [← hh, Bd.state]; rfl
  have N0 := Fr.nil n0
  show Go p e below s ({ frames := 0, cells := 0, slots := 0, locals := 0 } : Room).cells ({ frames := 0, cells := 0, slots := 0, locals := 0 } : Room).slots (QU Z u w h0 n0) (s₁.setTop (entryFrame m #[(.long u), (.long w)] 4))
  rw [efU]
  refine Go.by (fun _ kont => XS.lloadN X0.here hx rfl (hb hby dU_0) rfl (X0.ldc2Long hx hown (mvT hZ (hw _ (List.mem_of_getElem? (i := 34) rfl))) (g := (mkF m 1 #[.val (.long u), .second, .val (.long w), .second] [(.long u)])) rfl (hb hby dU_1) _ (XS.lxor X0.here hx rfl (hb hby dU_4) rfl (XS.lloadN X0.here hx rfl (hb hby dU_5) rfl (X0.ldc2Long hx hown (mvT hZ (hw _ (List.mem_of_getElem? (i := 34) rfl))) (g := (mkF m 6 #[.val (.long u), .second, .val (.long w), .second] [(.long w), (.long (u ^^^ (-9223372036854775808 : Int64)))])) rfl (hb hby dU_6) _ (XS.lxor X0.here hx rfl (hb hby dU_9) rfl kont)))))) ?_
  show Go _ _ _ _ _ _ _ (s₁.setTop (mkF m 10 #[.val (.long u), .second, .val (.long w), .second] [(.long (w ^^^ (-9223372036854775808 : Int64))), (.long (u ^^^ (-9223372036854775808 : Int64)))]))
  refine Go.by (fun _ kont => XS.lcmp X0.here hx rfl (hb hby dU_10) rfl kont) ?_
  show Go _ _ _ _ _ _ _ (s₁.setTop (mkF m 11 #[.val (.long u), .second, .val (.long w), .second] [(.int (lcmpW (u ^^^ (-9223372036854775808 : Int64)) (w ^^^ (-9223372036854775808 : Int64))))]))
  by_cases hc1 : (u ^^^ (-9223372036854775808 : Int64)) < (w ^^^ (-9223372036854775808 : Int64))
  · refine Go.by (fun _ kont => XS.ifNo X0.here hx rfl (hb hby dU_11) rfl ((if0 _ _).trans (tlt ((lw_lt _ _).mpr hc1)).2.1) kont) ?_
    show Go _ _ _ _ _ _ _ (s₁.setTop (mkF m 14 #[.val (.long u), .second, .val (.long w), .second] []))
    refine Go.by (fun _ kont => XS.iconst X0.here hx rfl (hb hby dU_14) (XS.goto X0.here hx rfl (pc0 := 15) (pc' := 19) rfl (hb hby dU_15) (by decide) (by decide) kont)) ?_
    show Go _ _ _ _ _ _ _ (s₁.setTop (mkF m 19 #[.val (.long u), .second, .val (.long w), .second] [(.int (1 : Int32))]))
    refine Go.retN X0 hx (t := .boolean) hret (by simp) hlk (hb hby dU_19) ?_ (by decide) (by decide)
    show QU Z u w h0 n0 (some (.int (1 : Int32))) s₁.heap _
    rw [e0]
    refine ⟨?_, N0, rfl⟩
    unfold fU
    rw [if_pos hc1]
  · refine Go.by (fun _ kont => XS.ifYes X0.here hx rfl (pc0 := 11) (pc' := 18) rfl (hb hby dU_11) rfl ((if0 _ _).trans (flt (fun z => hc1 ((lw_lt _ _).mp z))).2.1) (by decide) (by decide) kont) ?_
    show Go _ _ _ _ _ _ _ (s₁.setTop (mkF m 18 #[.val (.long u), .second, .val (.long w), .second] []))
    refine Go.by (fun _ kont => XS.iconst X0.here hx rfl (hb hby dU_18) kont) ?_
    show Go _ _ _ _ _ _ _ (s₁.setTop (mkF m 19 #[.val (.long u), .second, .val (.long w), .second] [(.int (0 : Int32))]))
    refine Go.retN X0 hx (t := .boolean) hret (by simp) hlk (hb hby dU_19) ?_ (by decide) (by decide)
    show QU Z u w h0 n0 (some (.int (0 : Int32))) s₁.heap _
    rw [e0]
    refine ⟨?_, N0, rfl⟩
    unfold fU
    rw [if_neg hc1]

theorem own_xmin (u : Int64) : ((u ^^^ (-9223372036854775808 : Int64)).toInt - (u.toInt - 9223372036854775808)) % 18446744073709551616 = 0 := by
  have e : u ^^^ (-9223372036854775808 : Int64) = u + (-9223372036854775808 : Int64) := by
    apply Int64.toBitVec_inj.mp
    simp only [Int64.toBitVec_xor, Int64.toBitVec_add]
    have hm : (-9223372036854775808 : Int64).toBitVec = BitVec.intMin 64 := by decide
    rw [hm]
    apply BitVec.eq_of_getLsbD_eq
    intro i hi
    rw [BitVec.getLsbD_xor, BitVec.getLsbD_add hi]
    have hc : i < 64 → BitVec.carry i u.toBitVec (BitVec.intMin 64) false = false := by
      intro hi
      simp only [BitVec.carry, Bool.toNat_false, Nat.add_zero, decide_eq_false_iff_not, ge_iff_le, Nat.not_le]
      have h1 : (BitVec.intMin 64).toNat % 2 ^ i = 0 := by
        rw [BitVec.toNat_intMin]
        have : i ≤ 63 := by omega
        rw [show (2 ^ (64 - 1) % 2 ^ 64 : Nat) = 2 ^ 63 from by decide]
        exact Nat.mod_eq_zero_of_dvd (Nat.pow_dvd_pow 2 this)
      rw [h1, Nat.add_zero]
      exact Nat.mod_lt _ (Nat.two_pow_pos i)
    rw [hc hi]
    simp
  rw [e]
  have h1 := c_ladd u (-9223372036854775808)
  have h2 : (-9223372036854775808 : Int64).toInt = -9223372036854775808 := by decide
  rw [h2] at h1
  omega
theorem own_minmax (a b : Int64) (h : ¬ fMi a b = fMa a b) : fMi a b < fMa a b := by
  unfold fMi fMa at h ⊢
  simp only [Int64.lt_iff_toInt_lt, ← Int64.toInt_inj] at h ⊢
  split <;> split <;> simp_all <;> omega
theorem own_ref (lo hi t : Int64) (h : lo < hi) : fC t lo hi = fU (t - lo) (hi - lo) := by
  unfold fC fU
  have h1 := own_xmin (t - lo)
  have h2 := own_xmin (hi - lo)
  have h3 := c_lsub t lo
  have h4 := c_lsub hi lo
  have r1 := rng64 t
  have r2 := rng64 lo
  have r3 := rng64 hi
  have r4 := rng64 (t - lo)
  have r5 := rng64 (hi - lo)
  have r6 := rng64 ((t - lo) ^^^ (-9223372036854775808 : Int64))
  have r7 := rng64 ((hi - lo) ^^^ (-9223372036854775808 : Int64))
  simp only [Int64.lt_iff_toInt_lt] at h ⊢
  by_cases c1 : t.toInt < lo.toInt
  · rw [if_pos c1, if_neg (by omega)]
  · rw [if_neg c1]
    by_cases c2 : t.toInt < hi.toInt
    · rw [if_pos c2, if_pos (by omega)]
    · rw [if_neg c2, if_neg (by omega)]
theorem own_lo (lo hi : Int64) (h : lo < hi) : fC lo lo hi = 1 := by
  unfold fC
  rw [if_neg (by simp only [Int64.lt_iff_toInt_lt]; omega), if_pos h]
theorem own_hi (lo hi : Int64) (h : lo < hi) : fC hi lo hi = 0 := by
  unfold fC
  simp only [Int64.lt_iff_toInt_lt] at h ⊢
  rw [if_neg (by omega), if_neg (by omega)]
theorem own_hi1 (lo hi : Int64) (h : lo < hi) : fC (hi - 1) lo hi = 1 := by
  unfold fC
  have h1 := c_lsub hi 1
  have h2 : (1 : Int64).toInt = 1 := by decide
  rw [h2] at h1
  have r1 := rng64 lo
  have r2 := rng64 hi
  have r3 := rng64 (hi - 1)
  simp only [Int64.lt_iff_toInt_lt] at h ⊢
  rw [if_neg (by omega), if_pos (by omega)]

theorem pd0_0 : parseMethodDescriptor "(JJ)J" = some ⟨[.long, .long], some .long⟩ := by decide +kernel
theorem pd0_1 : parseMethodDescriptor "(JJ)V" = some ⟨[.long, .long], none⟩ := by decide +kernel
theorem pd0_2 : parseMethodDescriptor "(J)Z" = some ⟨[.long], some .boolean⟩ := by decide +kernel
theorem pd0_3 : parseMethodDescriptor "(JJ)Z" = some ⟨[.long, .long], some .boolean⟩ := by decide +kernel
theorem pn0 : plainName "com/example/runpulse/runpulse/WindowContainsPinLaw" = true := by first | (simp [plainName, overriddenIn]; done) | decide +kernel
theorem ef0 (m : MethodId) (a1 : Int64) (b1 : Int64) (t1 : Int64) (sel : Int32) : entryFrame m #[(.long a1), (.long b1), (.long t1), (.int sel)] maxLocals = mkF m 0 #[.val (.long a1), .second, .val (.long b1), .second, .val (.long t1), .second, .val (.int sel), .unset, .unset, .unset, .unset, .unset, .unset, .unset, .unset, .unset, .unset] [] := by first | (simp [entryFrame, mkF, argsToLocals, Value.category, maxLocals]; done) | rfl
def Q0 (Z : State) (h0 : Heap) (n0 : Nat) (v : Option Value) (h : Heap) (L : List Loc) : Prop := v = some (.int 1) ∧ Fr n0 L
set_option maxRecDepth 65536 in
set_option maxHeartbeats 40000000 in
theorem rm0 (l : Launch) (Z : State) (a0 : Array Value) (hw : ∀ d ∈ tables_1, d.before a0 Z = true) (ws : List Jvm.Cond) (a1 : Int64) (b1 : Int64) (t1 : Int64) (sel : Int32) (h0 : Heap) (n0 : Nat) (Z0 : n0 ≤ h0.size) :
    MetFree l x (head1 (Jvm.Cond.code x code maxLocals ret :: ws) room_1) (fun aa U => aa = #[(.long a1), (.long b1), (.long t1), (.int sel)] ∧ Z.Warmed39 U.vm ∧ U.heap = h0) (fun _ _ _ _ _ => True) (fun _ U o U' => ∃ v L, o = .returned v ∧ Q0 Z h0 n0 v U'.heap L ∧ FrameEnd U o U' L 16 128) := by
  refine MetFree.of_bodySF (plainFor_of_name pn0) hisR ?_
  intro p e s m args below meth c s₁ Bd hml0 hP hK
  obtain ⟨rfl, hZ, hh⟩ := hP
  have hx := Bd.exec
  have hby := Bd.bytes
  have hml : c.maxLocals = 17 := hml0
  have hown : s.vm.findClass "com/example/runpulse/runpulse/WindowContainsPinLaw" = some m.cls := findClass_of_methodNamed Bd.named
  have hnm := (name_of_methodNamed Bd.named Bd.method).1
  have hlk : meth.locks = false := BodyLoose.notSynchronized Bd
  have hret : meth.sig.returnType = (some .boolean) := Bd.returns
  have X0 : Stand p l e room_1 s m #[(.long a1), (.long b1), (.long t1), (.int sel)] below meth c s₁ [] 0 0 := Stand.of_body Bd
  have e0 : s₁.heap = h0 := by rw [← hh, Bd.state]; rfl
  have N0 := Fr.nil n0
  show Go p e below s 16 128 (Q0 Z h0 n0) (s₁.setTop (entryFrame m #[(.long a1), (.long b1), (.long t1), (.int sel)] maxLocals))
  rw [ef0]
  refine Go.by (fun _ kont => XS.lloadN X0.here hx rfl (hb hby at_0) rfl (XS.lloadN X0.here hx rfl (hb hby at_1) rfl kont)) ?_
  show Go _ _ _ _ _ _ _ (s₁.setTop (mkF m 2 #[.val (.long a1), .second, .val (.long b1), .second, .val (.long t1), .second, .val (.int sel), .unset, .unset, .unset, .unset, .unset, .unset, .unset, .unset, .unset, .unset] [(.long b1), (.long a1)]))
  obtain ⟨_, _, ⟨T1, L1, k1, n1⟩, -, X1, ⟨Lc1, hQ1, l1, y1, z1⟩, st1⟩ := Jvm.LawKit.callS X0 hx (y := (⟨"java/lang/Math", "min", "(JJ)J"⟩ : MethodName)) hown (mvT hZ (hw _ (List.mem_of_getElem? (i := 0) rfl))) (mvT hZ (hw _ (List.mem_of_getElem? (i := 1) rfl))) (mvT hZ (hw _ (List.mem_of_getElem? (i := 2) rfl))) (mvT hZ (hw _ (List.mem_of_getElem? (i := 3) rfl))) (by decide) (backOf (W := 0) (rmMi l Z a0 hw [] a1 b1 h0 n0 Z0 ) hZ (hw _ (List.mem_of_getElem? (i := 3) rfl)) (hw _ (List.mem_of_getElem? (i := 2) rfl)) (by decide) (by decide)) (g := (mkF m 2 #[.val (.long a1), .second, .val (.long b1), .second, .val (.long t1), .second, .val (.int sel), .unset, .unset, .unset, .unset, .unset, .unset, .unset, .unset, .unset, .unset] [(.long b1), (.long a1)])) rfl (by rw [hml]; rfl) (argsL := [(.long a1), (.long b1)]) (rest := []) (lenOf pd0_0 rfl) rfl (by show 2 * 0 + _ ≤ _; exact Nat.le_of_eq rfl) (hb hby at_2) (fun _ _ => ⟨rfl, e0, (by decide : 0 + 0 ≤ _), (by decide : 0 + 0 ≤ _)⟩)
  dsimp only [Pt.U, Pt.locs, Pt.cells, Pt.slots] at X1 l1 y1 z1 st1 hQ1
  subst l1 y1 z1
  obtain ⟨rfl, N1q, eh1⟩ := hQ1
  have N1 := Fr.app N0 N1q
  refine Go.by st1 ?_
  show Go _ _ _ _ _ _ _ (T1.setTop (mkF m 5 #[.val (.long a1), .second, .val (.long b1), .second, .val (.long t1), .second, .val (.int sel), .unset, .unset, .unset, .unset, .unset, .unset, .unset, .unset, .unset, .unset] [(.long (fMi a1 b1))]))
  refine Go.by (fun _ kont => XS.lstore X1.here hx rfl (hb hby at_5) rfl (l' := #[.val (.long a1), .second, .val (.long b1), .second, .val (.long t1), .second, .val (.int sel), .val (.long (fMi a1 b1)), .second, .unset, .unset, .unset, .unset, .unset, .unset, .unset, .unset]) rfl (XS.lloadN X1.here hx rfl (hb hby at_7) rfl (XS.lloadN X1.here hx rfl (hb hby at_8) rfl kont))) ?_
  show Go _ _ _ _ _ _ _ (T1.setTop (mkF m 9 #[.val (.long a1), .second, .val (.long b1), .second, .val (.long t1), .second, .val (.int sel), .val (.long (fMi a1 b1)), .second, .unset, .unset, .unset, .unset, .unset, .unset, .unset, .unset] [(.long b1), (.long a1)]))
  obtain ⟨_, _, ⟨T2, L2, k2, n2⟩, -, X2, ⟨Lc2, hQ2, l2, y2, z2⟩, st2⟩ := Jvm.LawKit.callS X1 hx (y := (⟨"java/lang/Math", "max", "(JJ)J"⟩ : MethodName)) hown (mvT hZ (hw _ (List.mem_of_getElem? (i := 4) rfl))) (mvT hZ (hw _ (List.mem_of_getElem? (i := 5) rfl))) (mvT hZ (hw _ (List.mem_of_getElem? (i := 2) rfl))) (mvT hZ (hw _ (List.mem_of_getElem? (i := 6) rfl))) (by decide) (backOf (W := 0) (rmMa l Z a0 hw [] a1 b1 h0 n0 Z0 ) hZ (hw _ (List.mem_of_getElem? (i := 6) rfl)) (hw _ (List.mem_of_getElem? (i := 2) rfl)) (by decide) (by decide)) (g := (mkF m 9 #[.val (.long a1), .second, .val (.long b1), .second, .val (.long t1), .second, .val (.int sel), .val (.long (fMi a1 b1)), .second, .unset, .unset, .unset, .unset, .unset, .unset, .unset, .unset] [(.long b1), (.long a1)])) rfl (by rw [hml]; rfl) (argsL := [(.long a1), (.long b1)]) (rest := []) (lenOf pd0_0 rfl) rfl (by show 2 * 0 + _ ≤ _; exact Nat.le_of_eq rfl) (hb hby at_9) (fun _ _ => ⟨rfl, eh1, (by decide : 0 + 0 ≤ _), (by decide : 0 + 0 ≤ _)⟩)
  dsimp only [Pt.U, Pt.locs, Pt.cells, Pt.slots] at X2 l2 y2 z2 st2 hQ2
  subst l2 y2 z2
  obtain ⟨rfl, N2q, eh2⟩ := hQ2
  have N2 := Fr.app N1 N2q
  refine Go.by st2 ?_
  show Go _ _ _ _ _ _ _ (T2.setTop (mkF m 12 #[.val (.long a1), .second, .val (.long b1), .second, .val (.long t1), .second, .val (.int sel), .val (.long (fMi a1 b1)), .second, .unset, .unset, .unset, .unset, .unset, .unset, .unset, .unset] [(.long (fMa a1 b1))]))
  refine Go.by (fun _ kont => XS.lstore X2.here hx rfl (hb hby at_12) rfl (l' := #[.val (.long a1), .second, .val (.long b1), .second, .val (.long t1), .second, .val (.int sel), .val (.long (fMi a1 b1)), .second, .val (.long (fMa a1 b1)), .second, .unset, .unset, .unset, .unset, .unset, .unset]) rfl (XS.lload X2.here hx rfl (hb hby at_14) rfl (XS.lload X2.here hx rfl (hb hby at_16) rfl (XS.lcmp X2.here hx rfl (hb hby at_18) rfl kont)))) ?_
  show Go _ _ _ _ _ _ _ (T2.setTop (mkF m 19 #[.val (.long a1), .second, .val (.long b1), .second, .val (.long t1), .second, .val (.int sel), .val (.long (fMi a1 b1)), .second, .val (.long (fMa a1 b1)), .second, .unset, .unset, .unset, .unset, .unset, .unset] [(.int (lcmpW (fMi a1 b1) (fMa a1 b1)))]))
  by_cases hc3 : (fMi a1 b1) = (fMa a1 b1)
  · refine Go.by (fun _ kont => XS.ifNo X2.here hx rfl (hb hby at_19) rfl ((if0 _ _).trans (teq ((lw_eq _ _).mpr hc3)).2) kont) ?_
    show Go _ _ _ _ _ _ _ (T2.setTop (mkF m 22 #[.val (.long a1), .second, .val (.long b1), .second, .val (.long t1), .second, .val (.int sel), .val (.long (fMi a1 b1)), .second, .val (.long (fMa a1 b1)), .second, .unset, .unset, .unset, .unset, .unset, .unset] []))
    refine Go.by (fun _ kont => XS.iconst X2.here hx rfl (hb hby at_22) kont) ?_
    show Go _ _ _ _ _ _ _ (T2.setTop (mkF m 23 #[.val (.long a1), .second, .val (.long b1), .second, .val (.long t1), .second, .val (.int sel), .val (.long (fMi a1 b1)), .second, .val (.long (fMa a1 b1)), .second, .unset, .unset, .unset, .unset, .unset, .unset] [(.int (1 : Int32))]))
    refine Go.retN X2 hx (t := .boolean) hret (by simp) hlk (hb hby at_23) ?_ (by decide) (by decide)
    show Q0 Z h0 n0 (some (.int (1 : Int32))) T2.heap _
    rw [eh2]
    exact ⟨rfl, N2⟩
  · refine Go.by (fun _ kont => XS.ifYes X2.here hx rfl (pc0 := 19) (pc' := 24) rfl (hb hby at_19) rfl ((if0 _ _).trans (feq (fun z => hc3 ((lw_eq _ _).mp z))).2) (by decide) (by decide) kont) ?_
    show Go _ _ _ _ _ _ _ (T2.setTop (mkF m 24 #[.val (.long a1), .second, .val (.long b1), .second, .val (.long t1), .second, .val (.int sel), .val (.long (fMi a1 b1)), .second, .val (.long (fMa a1 b1)), .second, .unset, .unset, .unset, .unset, .unset, .unset] []))
    have hlt := own_minmax a1 b1 hc3
    generalize (fMi a1 b1) = lo at hlt ⊢
    generalize (fMa a1 b1) = hi at hlt ⊢
    show Go _ _ _ _ _ _ _ (T2.setTop (mkF m 24 #[.val (.long a1), .second, .val (.long b1), .second, .val (.long t1), .second, .val (.int sel), .val (.long lo), .second, .val (.long hi), .second, .unset, .unset, .unset, .unset, .unset, .unset] []))
    obtain ⟨T4, h4, X4, e4, X_4, A4, D4, -, st4⟩ := newO X2 hx hZ hown (hw _ (List.mem_of_getElem? (i := 7) rfl)) (hw _ (List.mem_of_getElem? (i := 8) rfl)) (hw _ (List.mem_of_getElem? (i := 9) rfl)) eh2 (g := (mkF m 24 #[.val (.long a1), .second, .val (.long b1), .second, .val (.long t1), .second, .val (.int sel), .val (.long lo), .second, .val (.long hi), .second, .unset, .unset, .unset, .unset, .unset, .unset] [])) rfl (hb hby at_24) (by decide) (by decide)
    obtain ⟨b4, g4⟩ : ∃ z, z = h0.size := ⟨_, rfl⟩
    rw [← g4] at A4 D4 st4
    have ge_b4 : n0 ≤ b4 := Nat.le_trans Z0 (Nat.le_of_eq g4.symm)
    have sz_b4 : h0.size ≤ b4 := Nat.le_trans (Keep.refl h0 []).1 (Nat.le_of_eq g4.symm)
    have Z5 := Nat.le_trans Z0 X_4.1
    have K5 : Keep h0 h4 [] := (Keep.refl h0 []).ext X_4
    have F4_start : Fld Z h4 b4 "com/example/runpulse/runpulse/Window" "start" "J" (.long (0 : Int64)) := D4 (Or.inr (hw _ (List.mem_of_getElem? (i := 22) rfl))) (ty := .long) (by decide)
    have F4_end : Fld Z h4 b4 "com/example/runpulse/runpulse/Window" "end" "J" (.long (0 : Int64)) := D4 (Or.inr (hw _ (List.mem_of_getElem? (i := 24) rfl))) (ty := .long) (by decide)
    refine Go.by st4 ?_
    show Go _ _ _ _ _ _ _ (T4.setTop (mkF m 27 #[.val (.long a1), .second, .val (.long b1), .second, .val (.long t1), .second, .val (.int sel), .val (.long lo), .second, .val (.long hi), .second, .unset, .unset, .unset, .unset, .unset, .unset] [(.ref b4)]))
    refine Go.by (fun _ kont => XS.dup X4.here hx rfl (hb hby at_27) rfl rfl (XS.lload X4.here hx rfl (hb hby at_28) rfl (XS.lload X4.here hx rfl (hb hby at_30) rfl kont))) ?_
    show Go _ _ _ _ _ _ _ (T4.setTop (mkF m 32 #[.val (.long a1), .second, .val (.long b1), .second, .val (.long t1), .second, .val (.int sel), .val (.long lo), .second, .val (.long hi), .second, .unset, .unset, .unset, .unset, .unset, .unset] [(.long hi), (.long lo), (.ref b4), (.ref b4)]))
    obtain ⟨_, _, ⟨T6, L6, k6, n6⟩, -, X6, ⟨Lc6, hQ6, l6, y6, z6⟩, st6⟩ := X4.specialBack hx (y := (⟨"com/example/runpulse/runpulse/Window", "<init>", "(JJ)V"⟩ : MethodName)) rfl hown (mvT hZ (hw _ (List.mem_of_getElem? (i := 10) rfl))) (mvT hZ (hw _ (List.mem_of_getElem? (i := 11) rfl))) (mvT hZ (hw _ (List.mem_of_getElem? (i := 12) rfl))) (by decide) (backOf (W := 1) (rmI l Z a0 hw [] b4 lo hi h4 n0 Z5 A4 F4_start F4_end ge_b4 hlt) hZ (hw _ (List.mem_of_getElem? (i := 12) rfl)) (hw _ (List.mem_of_getElem? (i := 9) rfl)) (by decide) (by decide)) (g := (mkF m 32 #[.val (.long a1), .second, .val (.long b1), .second, .val (.long t1), .second, .val (.int sel), .val (.long lo), .second, .val (.long hi), .second, .unset, .unset, .unset, .unset, .unset, .unset] [(.long hi), (.long lo), (.ref b4), (.ref b4)])) rfl (by rw [hml]; rfl) (Steps.refl _) (a := b4) (argsL := [(.long lo), (.long hi)]) (rest := [(.ref b4)]) (lenOf pd0_1 rfl) rfl (by show 2 * 0 + _ ≤ _; exact Nat.le_of_eq rfl) (hb hby at_32) (fun _ _ => ⟨rfl, e4, (by decide : 1 + 0 ≤ _), (by decide : 2 + 0 ≤ _)⟩)
    dsimp only [Pt.U, Pt.locs, Pt.cells, Pt.slots] at X6 l6 y6 z6 st6 hQ6
    subst l6 y6 z6
    obtain ⟨rfl, N6q, K6, E6z, F6z_s, F6z_e⟩ := hQ6
    have E7_b4 := A4.keep K6
    have Z7 := Nat.le_trans Z5 K6.1
    have K7 : Keep h0 T6.heap [] := Keep.trans K5 K6 (allS (Or.inr sz_b4) all0)
    have N6 := Fr.app N2 N6q
    refine Go.tr st6 ?_
    show Go _ _ _ _ _ _ _ (T6.setTop (mkF m 35 #[.val (.long a1), .second, .val (.long b1), .second, .val (.long t1), .second, .val (.int sel), .val (.long lo), .second, .val (.long hi), .second, .unset, .unset, .unset, .unset, .unset, .unset] [(.ref b4)]))
    refine Go.by (fun _ kont => XS.astore X6.here hx rfl (hb hby at_35) rfl rfl (l' := #[.val (.long a1), .second, .val (.long b1), .second, .val (.long t1), .second, .val (.int sel), .val (.long lo), .second, .val (.long hi), .second, .val (.ref b4), .unset, .unset, .unset, .unset, .unset]) rfl (XS.iload X6.here hx rfl (hb hby at_37) rfl (XS.bipush X6.here hx rfl (hb hby at_39) (XS.iand X6.here hx rfl (hb hby at_41) rfl (XS.istore X6.here hx rfl (hb hby at_42) rfl (l' := #[.val (.long a1), .second, .val (.long b1), .second, .val (.long t1), .second, .val (.int sel), .val (.long lo), .second, .val (.long hi), .second, .val (.ref b4), .val (.int (sel &&& (7 : Int32))), .unset, .unset, .unset, .unset]) rfl (XS.iload X6.here hx rfl (hb hby at_44) rfl kont)))))) ?_
    show Go _ _ _ _ _ _ _ (T6.setTop (mkF m 46 #[.val (.long a1), .second, .val (.long b1), .second, .val (.long t1), .second, .val (.int sel), .val (.long lo), .second, .val (.long hi), .second, .val (.ref b4), .val (.int (sel &&& (7 : Int32))), .unset, .unset, .unset, .unset] [(.int (sel &&& (7 : Int32)))]))
    by_cases hc8 : (sel &&& (7 : Int32)) = (0 : Int32)
    · refine Go.by (fun _ kont => XS.ifNo X6.here hx rfl (hb hby at_46) rfl ((if0 _ _).trans (teq hc8).2) kont) ?_
      show Go _ _ _ _ _ _ _ (T6.setTop (mkF m 49 #[.val (.long a1), .second, .val (.long b1), .second, .val (.long t1), .second, .val (.int sel), .val (.long lo), .second, .val (.long hi), .second, .val (.ref b4), .val (.int (sel &&& (7 : Int32))), .unset, .unset, .unset, .unset] []))
      refine Go.by (fun _ kont => XS.lload X6.here hx rfl (hb hby at_49) rfl (XS.lstore X6.here hx rfl (hb hby at_51) rfl (l' := #[.val (.long a1), .second, .val (.long b1), .second, .val (.long t1), .second, .val (.int sel), .val (.long lo), .second, .val (.long hi), .second, .val (.ref b4), .val (.int (sel &&& (7 : Int32))), .val (.long lo), .second, .unset, .unset]) rfl (XS.goto X6.here hx rfl (pc0 := 53) (pc' := 103) rfl (hb hby at_53) (by decide) (by decide) kont))) ?_
      show Go _ _ _ _ _ _ _ (T6.setTop (mkF m 103 #[.val (.long a1), .second, .val (.long b1), .second, .val (.long t1), .second, .val (.int sel), .val (.long lo), .second, .val (.long hi), .second, .val (.ref b4), .val (.int (sel &&& (7 : Int32))), .val (.long lo), .second, .unset, .unset] []))
      show Go _ _ _ _ _ _ _ (T6.setTop (mkF m 103 #[.val (.long a1), .second, .val (.long b1), .second, .val (.long t1), .second, .val (.int sel), .val (.long lo), .second, .val (.long hi), .second, .val (.ref b4), .val (.int (sel &&& (7 : Int32))), .val (.long lo), .second, .unset, .unset] []))
      refine Go.by (fun _ kont => XS.aload X6.here hx rfl (hb hby at_103) rfl rfl (XS.lload X6.here hx rfl (hb hby at_105) rfl kont)) ?_
      show Go _ _ _ _ _ _ _ (T6.setTop (mkF m 107 #[.val (.long a1), .second, .val (.long b1), .second, .val (.long t1), .second, .val (.int sel), .val (.long lo), .second, .val (.long hi), .second, .val (.ref b4), .val (.int (sel &&& (7 : Int32))), .val (.long lo), .second, .unset, .unset] [(.long lo), (.ref b4)]))
      obtain ⟨cq9, kq9, q9a, q9b, q9c⟩ := isOf hZ rfl E6z
      obtain ⟨_, _, ⟨T9, L9, k9, n9⟩, -, X9, ⟨Lc9, hQ9, l9, y9, z9⟩, st9⟩ := X6.virtualBack hx (y := (⟨"com/example/runpulse/runpulse/Window", "contains", "(J)Z"⟩ : MethodName)) (z := (⟨"com/example/runpulse/runpulse/Window", "contains", "(J)Z"⟩ : MethodName)) hown (mvT hZ (hw _ (List.mem_of_getElem? (i := 25) rfl))) (mvT hZ (hw _ (List.mem_of_getElem? (i := 26) rfl))) (notFace_of_selects (args := #[]) (mvT hZ (hw _ (List.mem_of_getElem? (i := 28) rfl)))) (mvT hZ (hw _ (List.mem_of_getElem? (i := 28) rfl))) (mvT hZ (hw _ (List.mem_of_getElem? (i := 27) rfl))) (by decide) (backOf (W := 0) (rmC l Z a0 hw [] b4 lo lo hi T6.heap n0 Z7 F6z_s F6z_e) hZ (hw _ (List.mem_of_getElem? (i := 29) rfl)) (hw _ (List.mem_of_getElem? (i := 9) rfl)) (by decide) (by decide)) q9a q9c (g := (mkF m 107 #[.val (.long a1), .second, .val (.long b1), .second, .val (.long t1), .second, .val (.int sel), .val (.long lo), .second, .val (.long hi), .second, .val (.ref b4), .val (.int (sel &&& (7 : Int32))), .val (.long lo), .second, .unset, .unset] [(.long lo), (.ref b4)])) rfl (by rw [hml]; rfl) (Steps.refl _) (argsL := [(.long lo)]) (rest := []) (lenOf pd0_2 rfl) rfl (by show 2 * 0 + _ ≤ _; exact Nat.le_of_eq rfl) (hb hby at_107) (fun _ _ => ⟨rfl, rfl, (by decide : 1 + 0 ≤ _), (by decide : 2 + 0 ≤ _)⟩)
      dsimp only [Pt.U, Pt.locs, Pt.cells, Pt.slots] at X9 l9 y9 z9 st9 hQ9
      subst l9 y9 z9
      obtain ⟨rfl, N9q, eh9⟩ := hQ9
      have N9 := Fr.app N6 N9q
      refine Go.tr st9 ?_
      show Go _ _ _ _ _ _ _ (T9.setTop (mkF m 110 #[.val (.long a1), .second, .val (.long b1), .second, .val (.long t1), .second, .val (.int sel), .val (.long lo), .second, .val (.long hi), .second, .val (.ref b4), .val (.int (sel &&& (7 : Int32))), .val (.long lo), .second, .unset, .unset] [(.int (fC lo lo hi))]))
      refine Go.by (fun _ kont => XS.istore X9.here hx rfl (hb hby at_110) rfl (l' := #[.val (.long a1), .second, .val (.long b1), .second, .val (.long t1), .second, .val (.int sel), .val (.long lo), .second, .val (.long hi), .second, .val (.ref b4), .val (.int (sel &&& (7 : Int32))), .val (.long lo), .second, .val (.int (fC lo lo hi)), .unset]) rfl (XS.lload X9.here hx rfl (hb hby at_112) rfl (XS.lload X9.here hx rfl (hb hby at_114) rfl (XS.lsub X9.here hx rfl (hb hby at_116) rfl (XS.lload X9.here hx rfl (hb hby at_117) rfl (XS.lload X9.here hx rfl (hb hby at_119) rfl kont)))))) ?_
      show Go _ _ _ _ _ _ _ (T9.setTop (mkF m 121 #[.val (.long a1), .second, .val (.long b1), .second, .val (.long t1), .second, .val (.int sel), .val (.long lo), .second, .val (.long hi), .second, .val (.ref b4), .val (.int (sel &&& (7 : Int32))), .val (.long lo), .second, .val (.int (fC lo lo hi)), .unset] [(.long lo), (.long hi), (.long (lo - lo))]))
      refine Go.by (fun _ kont => XS.lsub X9.here hx rfl (hb hby at_121) rfl kont) ?_
      show Go _ _ _ _ _ _ _ (T9.setTop (mkF m 122 #[.val (.long a1), .second, .val (.long b1), .second, .val (.long t1), .second, .val (.int sel), .val (.long lo), .second, .val (.long hi), .second, .val (.ref b4), .val (.int (sel &&& (7 : Int32))), .val (.long lo), .second, .val (.int (fC lo lo hi)), .unset] [(.long (hi - lo)), (.long (lo - lo))]))
      obtain ⟨_, _, ⟨T10, L10, k10, n10⟩, -, X10, ⟨Lc10, hQ10, l10, y10, z10⟩, st10⟩ := Jvm.LawKit.callS X9 hx (y := (⟨"com/example/runpulse/runpulse/WindowContainsPinLaw", "unsignedLess", "(JJ)Z"⟩ : MethodName)) hown (mvT hZ (hw _ (List.mem_of_getElem? (i := 30) rfl))) (mvT hZ (hw _ (List.mem_of_getElem? (i := 31) rfl))) (mvT hZ (hw _ (List.mem_of_getElem? (i := 32) rfl))) (mvT hZ (hw _ (List.mem_of_getElem? (i := 33) rfl))) (by decide) (backOf (W := 0) (rmU l Z a0 hw [] (lo - lo) (hi - lo) T6.heap n0 Z7 ) hZ (hw _ (List.mem_of_getElem? (i := 33) rfl)) (hw _ (List.mem_of_getElem? (i := 32) rfl)) (by decide) (by decide)) (g := (mkF m 122 #[.val (.long a1), .second, .val (.long b1), .second, .val (.long t1), .second, .val (.int sel), .val (.long lo), .second, .val (.long hi), .second, .val (.ref b4), .val (.int (sel &&& (7 : Int32))), .val (.long lo), .second, .val (.int (fC lo lo hi)), .unset] [(.long (hi - lo)), (.long (lo - lo))])) rfl (by rw [hml]; rfl) (argsL := [(.long (lo - lo)), (.long (hi - lo))]) (rest := []) (lenOf pd0_3 rfl) rfl (by show 2 * 0 + _ ≤ _; exact Nat.le_of_eq rfl) (hb hby at_122) (fun _ _ => ⟨rfl, eh9, (by decide : 1 + 0 ≤ _), (by decide : 2 + 0 ≤ _)⟩)
      dsimp only [Pt.U, Pt.locs, Pt.cells, Pt.slots] at X10 l10 y10 z10 st10 hQ10
      subst l10 y10 z10
      obtain ⟨rfl, N10q, eh10⟩ := hQ10
      have N10 := Fr.app N9 N10q
      refine Go.by st10 ?_
      show Go _ _ _ _ _ _ _ (T10.setTop (mkF m 125 #[.val (.long a1), .second, .val (.long b1), .second, .val (.long t1), .second, .val (.int sel), .val (.long lo), .second, .val (.long hi), .second, .val (.ref b4), .val (.int (sel &&& (7 : Int32))), .val (.long lo), .second, .val (.int (fC lo lo hi)), .unset] [(.int (fU (lo - lo) (hi - lo)))]))
      refine Go.by (fun _ kont => XS.istore X10.here hx rfl (hb hby at_125) rfl (l' := #[.val (.long a1), .second, .val (.long b1), .second, .val (.long t1), .second, .val (.int sel), .val (.long lo), .second, .val (.long hi), .second, .val (.ref b4), .val (.int (sel &&& (7 : Int32))), .val (.long lo), .second, .val (.int (fC lo lo hi)), .val (.int (fU (lo - lo) (hi - lo)))]) rfl (XS.iload X10.here hx rfl (hb hby at_127) rfl (XS.iload X10.here hx rfl (hb hby at_129) rfl kont))) ?_
      show Go _ _ _ _ _ _ _ (T10.setTop (mkF m 131 #[.val (.long a1), .second, .val (.long b1), .second, .val (.long t1), .second, .val (.int sel), .val (.long lo), .second, .val (.long hi), .second, .val (.ref b4), .val (.int (sel &&& (7 : Int32))), .val (.long lo), .second, .val (.int (fC lo lo hi)), .val (.int (fU (lo - lo) (hi - lo)))] [(.int (fU (lo - lo) (hi - lo))), (.int (fC lo lo hi))]))
      have hd11 : (fC lo lo hi) = (fU (lo - lo) (hi - lo)) := own_ref _ _ _ hlt
      refine Go.by (fun _ kont => XS.icmpNo X10.here hx rfl (hb hby at_131) rfl (teq hd11).2 kont) ?_
      show Go _ _ _ _ _ _ _ (T10.setTop (mkF m 134 #[.val (.long a1), .second, .val (.long b1), .second, .val (.long t1), .second, .val (.int sel), .val (.long lo), .second, .val (.long hi), .second, .val (.ref b4), .val (.int (sel &&& (7 : Int32))), .val (.long lo), .second, .val (.int (fC lo lo hi)), .val (.int (fU (lo - lo) (hi - lo)))] []))
      refine Go.by (fun _ kont => XS.aload X10.here hx rfl (hb hby at_134) rfl rfl (XS.lload X10.here hx rfl (hb hby at_136) rfl kont)) ?_
      show Go _ _ _ _ _ _ _ (T10.setTop (mkF m 138 #[.val (.long a1), .second, .val (.long b1), .second, .val (.long t1), .second, .val (.int sel), .val (.long lo), .second, .val (.long hi), .second, .val (.ref b4), .val (.int (sel &&& (7 : Int32))), .val (.long lo), .second, .val (.int (fC lo lo hi)), .val (.int (fU (lo - lo) (hi - lo)))] [(.long lo), (.ref b4)]))
      obtain ⟨cq12, kq12, q12a, q12b, q12c⟩ := isOf hZ eh10 E6z
      obtain ⟨_, _, ⟨T12, L12, k12, n12⟩, -, X12, ⟨Lc12, hQ12, l12, y12, z12⟩, st12⟩ := X10.virtualBack hx (y := (⟨"com/example/runpulse/runpulse/Window", "contains", "(J)Z"⟩ : MethodName)) (z := (⟨"com/example/runpulse/runpulse/Window", "contains", "(J)Z"⟩ : MethodName)) hown (mvT hZ (hw _ (List.mem_of_getElem? (i := 25) rfl))) (mvT hZ (hw _ (List.mem_of_getElem? (i := 26) rfl))) (notFace_of_selects (args := #[]) (mvT hZ (hw _ (List.mem_of_getElem? (i := 28) rfl)))) (mvT hZ (hw _ (List.mem_of_getElem? (i := 28) rfl))) (mvT hZ (hw _ (List.mem_of_getElem? (i := 27) rfl))) (by decide) (backOf (W := 0) (rmC l Z a0 hw [] b4 lo lo hi T6.heap n0 Z7 F6z_s F6z_e) hZ (hw _ (List.mem_of_getElem? (i := 29) rfl)) (hw _ (List.mem_of_getElem? (i := 9) rfl)) (by decide) (by decide)) q12a q12c (g := (mkF m 138 #[.val (.long a1), .second, .val (.long b1), .second, .val (.long t1), .second, .val (.int sel), .val (.long lo), .second, .val (.long hi), .second, .val (.ref b4), .val (.int (sel &&& (7 : Int32))), .val (.long lo), .second, .val (.int (fC lo lo hi)), .val (.int (fU (lo - lo) (hi - lo)))] [(.long lo), (.ref b4)])) rfl (by rw [hml]; rfl) (Steps.refl _) (argsL := [(.long lo)]) (rest := []) (lenOf pd0_2 rfl) rfl (by show 2 * 0 + _ ≤ _; exact Nat.le_of_eq rfl) (hb hby at_138) (fun _ _ => ⟨rfl, eh10, (by decide : 1 + 0 ≤ _), (by decide : 2 + 0 ≤ _)⟩)
      dsimp only [Pt.U, Pt.locs, Pt.cells, Pt.slots] at X12 l12 y12 z12 st12 hQ12
      subst l12 y12 z12
      obtain ⟨rfl, N12q, eh12⟩ := hQ12
      have N12 := Fr.app N10 N12q
      refine Go.tr st12 ?_
      show Go _ _ _ _ _ _ _ (T12.setTop (mkF m 141 #[.val (.long a1), .second, .val (.long b1), .second, .val (.long t1), .second, .val (.int sel), .val (.long lo), .second, .val (.long hi), .second, .val (.ref b4), .val (.int (sel &&& (7 : Int32))), .val (.long lo), .second, .val (.int (fC lo lo hi)), .val (.int (fU (lo - lo) (hi - lo)))] [(.int (fC lo lo hi))]))
      have hd13 : ¬ ((fC lo lo hi) = (0 : Int32)) := by rw [own_lo _ _ hlt]; decide
      refine Go.by (fun _ kont => XS.ifNo X12.here hx rfl (hb hby at_141) rfl ((if0 _ _).trans (feq hd13).1) kont) ?_
      show Go _ _ _ _ _ _ _ (T12.setTop (mkF m 144 #[.val (.long a1), .second, .val (.long b1), .second, .val (.long t1), .second, .val (.int sel), .val (.long lo), .second, .val (.long hi), .second, .val (.ref b4), .val (.int (sel &&& (7 : Int32))), .val (.long lo), .second, .val (.int (fC lo lo hi)), .val (.int (fU (lo - lo) (hi - lo)))] []))
      refine Go.by (fun _ kont => XS.aload X12.here hx rfl (hb hby at_144) rfl rfl (XS.lload X12.here hx rfl (hb hby at_146) rfl kont)) ?_
      show Go _ _ _ _ _ _ _ (T12.setTop (mkF m 148 #[.val (.long a1), .second, .val (.long b1), .second, .val (.long t1), .second, .val (.int sel), .val (.long lo), .second, .val (.long hi), .second, .val (.ref b4), .val (.int (sel &&& (7 : Int32))), .val (.long lo), .second, .val (.int (fC lo lo hi)), .val (.int (fU (lo - lo) (hi - lo)))] [(.long hi), (.ref b4)]))
      obtain ⟨cq14, kq14, q14a, q14b, q14c⟩ := isOf hZ eh12 E6z
      obtain ⟨_, _, ⟨T14, L14, k14, n14⟩, -, X14, ⟨Lc14, hQ14, l14, y14, z14⟩, st14⟩ := X12.virtualBack hx (y := (⟨"com/example/runpulse/runpulse/Window", "contains", "(J)Z"⟩ : MethodName)) (z := (⟨"com/example/runpulse/runpulse/Window", "contains", "(J)Z"⟩ : MethodName)) hown (mvT hZ (hw _ (List.mem_of_getElem? (i := 25) rfl))) (mvT hZ (hw _ (List.mem_of_getElem? (i := 26) rfl))) (notFace_of_selects (args := #[]) (mvT hZ (hw _ (List.mem_of_getElem? (i := 28) rfl)))) (mvT hZ (hw _ (List.mem_of_getElem? (i := 28) rfl))) (mvT hZ (hw _ (List.mem_of_getElem? (i := 27) rfl))) (by decide) (backOf (W := 0) (rmC l Z a0 hw [] b4 hi lo hi T6.heap n0 Z7 F6z_s F6z_e) hZ (hw _ (List.mem_of_getElem? (i := 29) rfl)) (hw _ (List.mem_of_getElem? (i := 9) rfl)) (by decide) (by decide)) q14a q14c (g := (mkF m 148 #[.val (.long a1), .second, .val (.long b1), .second, .val (.long t1), .second, .val (.int sel), .val (.long lo), .second, .val (.long hi), .second, .val (.ref b4), .val (.int (sel &&& (7 : Int32))), .val (.long lo), .second, .val (.int (fC lo lo hi)), .val (.int (fU (lo - lo) (hi - lo)))] [(.long hi), (.ref b4)])) rfl (by rw [hml]; rfl) (Steps.refl _) (argsL := [(.long hi)]) (rest := []) (lenOf pd0_2 rfl) rfl (by show 2 * 0 + _ ≤ _; exact Nat.le_of_eq rfl) (hb hby at_148) (fun _ _ => ⟨rfl, eh12, (by decide : 1 + 0 ≤ _), (by decide : 2 + 0 ≤ _)⟩)
      dsimp only [Pt.U, Pt.locs, Pt.cells, Pt.slots] at X14 l14 y14 z14 st14 hQ14
      subst l14 y14 z14
      obtain ⟨rfl, N14q, eh14⟩ := hQ14
      have N14 := Fr.app N12 N14q
      refine Go.tr st14 ?_
      show Go _ _ _ _ _ _ _ (T14.setTop (mkF m 151 #[.val (.long a1), .second, .val (.long b1), .second, .val (.long t1), .second, .val (.int sel), .val (.long lo), .second, .val (.long hi), .second, .val (.ref b4), .val (.int (sel &&& (7 : Int32))), .val (.long lo), .second, .val (.int (fC lo lo hi)), .val (.int (fU (lo - lo) (hi - lo)))] [(.int (fC hi lo hi))]))
      have hd15 : (fC hi lo hi) = (0 : Int32) := own_hi _ _ hlt
      refine Go.by (fun _ kont => XS.ifNo X14.here hx rfl (hb hby at_151) rfl ((if0 _ _).trans (teq hd15).2) kont) ?_
      show Go _ _ _ _ _ _ _ (T14.setTop (mkF m 154 #[.val (.long a1), .second, .val (.long b1), .second, .val (.long t1), .second, .val (.int sel), .val (.long lo), .second, .val (.long hi), .second, .val (.ref b4), .val (.int (sel &&& (7 : Int32))), .val (.long lo), .second, .val (.int (fC lo lo hi)), .val (.int (fU (lo - lo) (hi - lo)))] []))
      refine Go.by (fun _ kont => XS.aload X14.here hx rfl (hb hby at_154) rfl rfl (XS.lload X14.here hx rfl (hb hby at_156) rfl (XS.lconst X14.here hx rfl (hb hby at_158) (XS.lsub X14.here hx rfl (hb hby at_159) rfl kont)))) ?_
      show Go _ _ _ _ _ _ _ (T14.setTop (mkF m 160 #[.val (.long a1), .second, .val (.long b1), .second, .val (.long t1), .second, .val (.int sel), .val (.long lo), .second, .val (.long hi), .second, .val (.ref b4), .val (.int (sel &&& (7 : Int32))), .val (.long lo), .second, .val (.int (fC lo lo hi)), .val (.int (fU (lo - lo) (hi - lo)))] [(.long (hi - (1 : Int64))), (.ref b4)]))
      obtain ⟨cq16, kq16, q16a, q16b, q16c⟩ := isOf hZ eh14 E6z
      obtain ⟨_, _, ⟨T16, L16, k16, n16⟩, -, X16, ⟨Lc16, hQ16, l16, y16, z16⟩, st16⟩ := X14.virtualBack hx (y := (⟨"com/example/runpulse/runpulse/Window", "contains", "(J)Z"⟩ : MethodName)) (z := (⟨"com/example/runpulse/runpulse/Window", "contains", "(J)Z"⟩ : MethodName)) hown (mvT hZ (hw _ (List.mem_of_getElem? (i := 25) rfl))) (mvT hZ (hw _ (List.mem_of_getElem? (i := 26) rfl))) (notFace_of_selects (args := #[]) (mvT hZ (hw _ (List.mem_of_getElem? (i := 28) rfl)))) (mvT hZ (hw _ (List.mem_of_getElem? (i := 28) rfl))) (mvT hZ (hw _ (List.mem_of_getElem? (i := 27) rfl))) (by decide) (backOf (W := 0) (rmC l Z a0 hw [] b4 (hi - (1 : Int64)) lo hi T6.heap n0 Z7 F6z_s F6z_e) hZ (hw _ (List.mem_of_getElem? (i := 29) rfl)) (hw _ (List.mem_of_getElem? (i := 9) rfl)) (by decide) (by decide)) q16a q16c (g := (mkF m 160 #[.val (.long a1), .second, .val (.long b1), .second, .val (.long t1), .second, .val (.int sel), .val (.long lo), .second, .val (.long hi), .second, .val (.ref b4), .val (.int (sel &&& (7 : Int32))), .val (.long lo), .second, .val (.int (fC lo lo hi)), .val (.int (fU (lo - lo) (hi - lo)))] [(.long (hi - (1 : Int64))), (.ref b4)])) rfl (by rw [hml]; rfl) (Steps.refl _) (argsL := [(.long (hi - (1 : Int64)))]) (rest := []) (lenOf pd0_2 rfl) rfl (by show 2 * 0 + _ ≤ _; exact Nat.le_of_eq rfl) (hb hby at_160) (fun _ _ => ⟨rfl, eh14, (by decide : 1 + 0 ≤ _), (by decide : 2 + 0 ≤ _)⟩)
      dsimp only [Pt.U, Pt.locs, Pt.cells, Pt.slots] at X16 l16 y16 z16 st16 hQ16
      subst l16 y16 z16
      obtain ⟨rfl, N16q, eh16⟩ := hQ16
      have N16 := Fr.app N14 N16q
      refine Go.tr st16 ?_
      show Go _ _ _ _ _ _ _ (T16.setTop (mkF m 163 #[.val (.long a1), .second, .val (.long b1), .second, .val (.long t1), .second, .val (.int sel), .val (.long lo), .second, .val (.long hi), .second, .val (.ref b4), .val (.int (sel &&& (7 : Int32))), .val (.long lo), .second, .val (.int (fC lo lo hi)), .val (.int (fU (lo - lo) (hi - lo)))] [(.int (fC (hi - (1 : Int64)) lo hi))]))
      have hd17 : ¬ ((fC (hi - (1 : Int64)) lo hi) = (0 : Int32)) := by rw [own_hi1 _ _ hlt]; decide
      refine Go.by (fun _ kont => XS.ifNo X16.here hx rfl (hb hby at_163) rfl ((if0 _ _).trans (feq hd17).1) kont) ?_
      show Go _ _ _ _ _ _ _ (T16.setTop (mkF m 166 #[.val (.long a1), .second, .val (.long b1), .second, .val (.long t1), .second, .val (.int sel), .val (.long lo), .second, .val (.long hi), .second, .val (.ref b4), .val (.int (sel &&& (7 : Int32))), .val (.long lo), .second, .val (.int (fC lo lo hi)), .val (.int (fU (lo - lo) (hi - lo)))] []))
      refine Go.by (fun _ kont => XS.iconst X16.here hx rfl (hb hby at_166) (XS.goto X16.here hx rfl (pc0 := 167) (pc' := 171) rfl (hb hby at_167) (by decide) (by decide) kont)) ?_
      show Go _ _ _ _ _ _ _ (T16.setTop (mkF m 171 #[.val (.long a1), .second, .val (.long b1), .second, .val (.long t1), .second, .val (.int sel), .val (.long lo), .second, .val (.long hi), .second, .val (.ref b4), .val (.int (sel &&& (7 : Int32))), .val (.long lo), .second, .val (.int (fC lo lo hi)), .val (.int (fU (lo - lo) (hi - lo)))] [(.int (1 : Int32))]))
      refine Go.retN X16 hx (t := .boolean) hret (by simp) hlk (hb hby at_171) ?_ (by decide) (by decide)
      show Q0 Z h0 n0 (some (.int (1 : Int32))) T16.heap _
      rw [eh16]
      exact ⟨rfl, N16⟩
    · refine Go.by (fun _ kont => XS.ifYes X6.here hx rfl (pc0 := 46) (pc' := 56) rfl (hb hby at_46) rfl ((if0 _ _).trans (feq hc8).2) (by decide) (by decide) kont) ?_
      show Go _ _ _ _ _ _ _ (T6.setTop (mkF m 56 #[.val (.long a1), .second, .val (.long b1), .second, .val (.long t1), .second, .val (.int sel), .val (.long lo), .second, .val (.long hi), .second, .val (.ref b4), .val (.int (sel &&& (7 : Int32))), .unset, .unset, .unset, .unset] []))
      refine Go.by (fun _ kont => XS.iload X6.here hx rfl (hb hby at_56) rfl (XS.iconst X6.here hx rfl (hb hby at_58) kont)) ?_
      show Go _ _ _ _ _ _ _ (T6.setTop (mkF m 59 #[.val (.long a1), .second, .val (.long b1), .second, .val (.long t1), .second, .val (.int sel), .val (.long lo), .second, .val (.long hi), .second, .val (.ref b4), .val (.int (sel &&& (7 : Int32))), .unset, .unset, .unset, .unset] [(.int (1 : Int32)), (.int (sel &&& (7 : Int32)))]))
      by_cases hc18 : (sel &&& (7 : Int32)) = (1 : Int32)
      · refine Go.by (fun _ kont => XS.icmpNo X6.here hx rfl (hb hby at_59) rfl (teq hc18).2 kont) ?_
        show Go _ _ _ _ _ _ _ (T6.setTop (mkF m 62 #[.val (.long a1), .second, .val (.long b1), .second, .val (.long t1), .second, .val (.int sel), .val (.long lo), .second, .val (.long hi), .second, .val (.ref b4), .val (.int (sel &&& (7 : Int32))), .unset, .unset, .unset, .unset] []))
        refine Go.by (fun _ kont => XS.lload X6.here hx rfl (hb hby at_62) rfl (XS.lstore X6.here hx rfl (hb hby at_64) rfl (l' := #[.val (.long a1), .second, .val (.long b1), .second, .val (.long t1), .second, .val (.int sel), .val (.long lo), .second, .val (.long hi), .second, .val (.ref b4), .val (.int (sel &&& (7 : Int32))), .val (.long hi), .second, .unset, .unset]) rfl (XS.goto X6.here hx rfl (pc0 := 66) (pc' := 103) rfl (hb hby at_66) (by decide) (by decide) kont))) ?_
        show Go _ _ _ _ _ _ _ (T6.setTop (mkF m 103 #[.val (.long a1), .second, .val (.long b1), .second, .val (.long t1), .second, .val (.int sel), .val (.long lo), .second, .val (.long hi), .second, .val (.ref b4), .val (.int (sel &&& (7 : Int32))), .val (.long hi), .second, .unset, .unset] []))
        show Go _ _ _ _ _ _ _ (T6.setTop (mkF m 103 #[.val (.long a1), .second, .val (.long b1), .second, .val (.long t1), .second, .val (.int sel), .val (.long lo), .second, .val (.long hi), .second, .val (.ref b4), .val (.int (sel &&& (7 : Int32))), .val (.long hi), .second, .unset, .unset] []))
        refine Go.by (fun _ kont => XS.aload X6.here hx rfl (hb hby at_103) rfl rfl (XS.lload X6.here hx rfl (hb hby at_105) rfl kont)) ?_
        show Go _ _ _ _ _ _ _ (T6.setTop (mkF m 107 #[.val (.long a1), .second, .val (.long b1), .second, .val (.long t1), .second, .val (.int sel), .val (.long lo), .second, .val (.long hi), .second, .val (.ref b4), .val (.int (sel &&& (7 : Int32))), .val (.long hi), .second, .unset, .unset] [(.long hi), (.ref b4)]))
        obtain ⟨cq19, kq19, q19a, q19b, q19c⟩ := isOf hZ rfl E6z
        obtain ⟨_, _, ⟨T19, L19, k19, n19⟩, -, X19, ⟨Lc19, hQ19, l19, y19, z19⟩, st19⟩ := X6.virtualBack hx (y := (⟨"com/example/runpulse/runpulse/Window", "contains", "(J)Z"⟩ : MethodName)) (z := (⟨"com/example/runpulse/runpulse/Window", "contains", "(J)Z"⟩ : MethodName)) hown (mvT hZ (hw _ (List.mem_of_getElem? (i := 25) rfl))) (mvT hZ (hw _ (List.mem_of_getElem? (i := 26) rfl))) (notFace_of_selects (args := #[]) (mvT hZ (hw _ (List.mem_of_getElem? (i := 28) rfl)))) (mvT hZ (hw _ (List.mem_of_getElem? (i := 28) rfl))) (mvT hZ (hw _ (List.mem_of_getElem? (i := 27) rfl))) (by decide) (backOf (W := 0) (rmC l Z a0 hw [] b4 hi lo hi T6.heap n0 Z7 F6z_s F6z_e) hZ (hw _ (List.mem_of_getElem? (i := 29) rfl)) (hw _ (List.mem_of_getElem? (i := 9) rfl)) (by decide) (by decide)) q19a q19c (g := (mkF m 107 #[.val (.long a1), .second, .val (.long b1), .second, .val (.long t1), .second, .val (.int sel), .val (.long lo), .second, .val (.long hi), .second, .val (.ref b4), .val (.int (sel &&& (7 : Int32))), .val (.long hi), .second, .unset, .unset] [(.long hi), (.ref b4)])) rfl (by rw [hml]; rfl) (Steps.refl _) (argsL := [(.long hi)]) (rest := []) (lenOf pd0_2 rfl) rfl (by show 2 * 0 + _ ≤ _; exact Nat.le_of_eq rfl) (hb hby at_107) (fun _ _ => ⟨rfl, rfl, (by decide : 1 + 0 ≤ _), (by decide : 2 + 0 ≤ _)⟩)
        dsimp only [Pt.U, Pt.locs, Pt.cells, Pt.slots] at X19 l19 y19 z19 st19 hQ19
        subst l19 y19 z19
        obtain ⟨rfl, N19q, eh19⟩ := hQ19
        have N19 := Fr.app N6 N19q
        refine Go.tr st19 ?_
        show Go _ _ _ _ _ _ _ (T19.setTop (mkF m 110 #[.val (.long a1), .second, .val (.long b1), .second, .val (.long t1), .second, .val (.int sel), .val (.long lo), .second, .val (.long hi), .second, .val (.ref b4), .val (.int (sel &&& (7 : Int32))), .val (.long hi), .second, .unset, .unset] [(.int (fC hi lo hi))]))
        refine Go.by (fun _ kont => XS.istore X19.here hx rfl (hb hby at_110) rfl (l' := #[.val (.long a1), .second, .val (.long b1), .second, .val (.long t1), .second, .val (.int sel), .val (.long lo), .second, .val (.long hi), .second, .val (.ref b4), .val (.int (sel &&& (7 : Int32))), .val (.long hi), .second, .val (.int (fC hi lo hi)), .unset]) rfl (XS.lload X19.here hx rfl (hb hby at_112) rfl (XS.lload X19.here hx rfl (hb hby at_114) rfl (XS.lsub X19.here hx rfl (hb hby at_116) rfl (XS.lload X19.here hx rfl (hb hby at_117) rfl (XS.lload X19.here hx rfl (hb hby at_119) rfl kont)))))) ?_
        show Go _ _ _ _ _ _ _ (T19.setTop (mkF m 121 #[.val (.long a1), .second, .val (.long b1), .second, .val (.long t1), .second, .val (.int sel), .val (.long lo), .second, .val (.long hi), .second, .val (.ref b4), .val (.int (sel &&& (7 : Int32))), .val (.long hi), .second, .val (.int (fC hi lo hi)), .unset] [(.long lo), (.long hi), (.long (hi - lo))]))
        refine Go.by (fun _ kont => XS.lsub X19.here hx rfl (hb hby at_121) rfl kont) ?_
        show Go _ _ _ _ _ _ _ (T19.setTop (mkF m 122 #[.val (.long a1), .second, .val (.long b1), .second, .val (.long t1), .second, .val (.int sel), .val (.long lo), .second, .val (.long hi), .second, .val (.ref b4), .val (.int (sel &&& (7 : Int32))), .val (.long hi), .second, .val (.int (fC hi lo hi)), .unset] [(.long (hi - lo)), (.long (hi - lo))]))
        obtain ⟨_, _, ⟨T20, L20, k20, n20⟩, -, X20, ⟨Lc20, hQ20, l20, y20, z20⟩, st20⟩ := Jvm.LawKit.callS X19 hx (y := (⟨"com/example/runpulse/runpulse/WindowContainsPinLaw", "unsignedLess", "(JJ)Z"⟩ : MethodName)) hown (mvT hZ (hw _ (List.mem_of_getElem? (i := 30) rfl))) (mvT hZ (hw _ (List.mem_of_getElem? (i := 31) rfl))) (mvT hZ (hw _ (List.mem_of_getElem? (i := 32) rfl))) (mvT hZ (hw _ (List.mem_of_getElem? (i := 33) rfl))) (by decide) (backOf (W := 0) (rmU l Z a0 hw [] (hi - lo) (hi - lo) T6.heap n0 Z7 ) hZ (hw _ (List.mem_of_getElem? (i := 33) rfl)) (hw _ (List.mem_of_getElem? (i := 32) rfl)) (by decide) (by decide)) (g := (mkF m 122 #[.val (.long a1), .second, .val (.long b1), .second, .val (.long t1), .second, .val (.int sel), .val (.long lo), .second, .val (.long hi), .second, .val (.ref b4), .val (.int (sel &&& (7 : Int32))), .val (.long hi), .second, .val (.int (fC hi lo hi)), .unset] [(.long (hi - lo)), (.long (hi - lo))])) rfl (by rw [hml]; rfl) (argsL := [(.long (hi - lo)), (.long (hi - lo))]) (rest := []) (lenOf pd0_3 rfl) rfl (by show 2 * 0 + _ ≤ _; exact Nat.le_of_eq rfl) (hb hby at_122) (fun _ _ => ⟨rfl, eh19, (by decide : 1 + 0 ≤ _), (by decide : 2 + 0 ≤ _)⟩)
        dsimp only [Pt.U, Pt.locs, Pt.cells, Pt.slots] at X20 l20 y20 z20 st20 hQ20
        subst l20 y20 z20
        obtain ⟨rfl, N20q, eh20⟩ := hQ20
        have N20 := Fr.app N19 N20q
        refine Go.by st20 ?_
        show Go _ _ _ _ _ _ _ (T20.setTop (mkF m 125 #[.val (.long a1), .second, .val (.long b1), .second, .val (.long t1), .second, .val (.int sel), .val (.long lo), .second, .val (.long hi), .second, .val (.ref b4), .val (.int (sel &&& (7 : Int32))), .val (.long hi), .second, .val (.int (fC hi lo hi)), .unset] [(.int (fU (hi - lo) (hi - lo)))]))
        refine Go.by (fun _ kont => XS.istore X20.here hx rfl (hb hby at_125) rfl (l' := #[.val (.long a1), .second, .val (.long b1), .second, .val (.long t1), .second, .val (.int sel), .val (.long lo), .second, .val (.long hi), .second, .val (.ref b4), .val (.int (sel &&& (7 : Int32))), .val (.long hi), .second, .val (.int (fC hi lo hi)), .val (.int (fU (hi - lo) (hi - lo)))]) rfl (XS.iload X20.here hx rfl (hb hby at_127) rfl (XS.iload X20.here hx rfl (hb hby at_129) rfl kont))) ?_
        show Go _ _ _ _ _ _ _ (T20.setTop (mkF m 131 #[.val (.long a1), .second, .val (.long b1), .second, .val (.long t1), .second, .val (.int sel), .val (.long lo), .second, .val (.long hi), .second, .val (.ref b4), .val (.int (sel &&& (7 : Int32))), .val (.long hi), .second, .val (.int (fC hi lo hi)), .val (.int (fU (hi - lo) (hi - lo)))] [(.int (fU (hi - lo) (hi - lo))), (.int (fC hi lo hi))]))
        have hd21 : (fC hi lo hi) = (fU (hi - lo) (hi - lo)) := own_ref _ _ _ hlt
        refine Go.by (fun _ kont => XS.icmpNo X20.here hx rfl (hb hby at_131) rfl (teq hd21).2 kont) ?_
        show Go _ _ _ _ _ _ _ (T20.setTop (mkF m 134 #[.val (.long a1), .second, .val (.long b1), .second, .val (.long t1), .second, .val (.int sel), .val (.long lo), .second, .val (.long hi), .second, .val (.ref b4), .val (.int (sel &&& (7 : Int32))), .val (.long hi), .second, .val (.int (fC hi lo hi)), .val (.int (fU (hi - lo) (hi - lo)))] []))
        refine Go.by (fun _ kont => XS.aload X20.here hx rfl (hb hby at_134) rfl rfl (XS.lload X20.here hx rfl (hb hby at_136) rfl kont)) ?_
        show Go _ _ _ _ _ _ _ (T20.setTop (mkF m 138 #[.val (.long a1), .second, .val (.long b1), .second, .val (.long t1), .second, .val (.int sel), .val (.long lo), .second, .val (.long hi), .second, .val (.ref b4), .val (.int (sel &&& (7 : Int32))), .val (.long hi), .second, .val (.int (fC hi lo hi)), .val (.int (fU (hi - lo) (hi - lo)))] [(.long lo), (.ref b4)]))
        obtain ⟨cq22, kq22, q22a, q22b, q22c⟩ := isOf hZ eh20 E6z
        obtain ⟨_, _, ⟨T22, L22, k22, n22⟩, -, X22, ⟨Lc22, hQ22, l22, y22, z22⟩, st22⟩ := X20.virtualBack hx (y := (⟨"com/example/runpulse/runpulse/Window", "contains", "(J)Z"⟩ : MethodName)) (z := (⟨"com/example/runpulse/runpulse/Window", "contains", "(J)Z"⟩ : MethodName)) hown (mvT hZ (hw _ (List.mem_of_getElem? (i := 25) rfl))) (mvT hZ (hw _ (List.mem_of_getElem? (i := 26) rfl))) (notFace_of_selects (args := #[]) (mvT hZ (hw _ (List.mem_of_getElem? (i := 28) rfl)))) (mvT hZ (hw _ (List.mem_of_getElem? (i := 28) rfl))) (mvT hZ (hw _ (List.mem_of_getElem? (i := 27) rfl))) (by decide) (backOf (W := 0) (rmC l Z a0 hw [] b4 lo lo hi T6.heap n0 Z7 F6z_s F6z_e) hZ (hw _ (List.mem_of_getElem? (i := 29) rfl)) (hw _ (List.mem_of_getElem? (i := 9) rfl)) (by decide) (by decide)) q22a q22c (g := (mkF m 138 #[.val (.long a1), .second, .val (.long b1), .second, .val (.long t1), .second, .val (.int sel), .val (.long lo), .second, .val (.long hi), .second, .val (.ref b4), .val (.int (sel &&& (7 : Int32))), .val (.long hi), .second, .val (.int (fC hi lo hi)), .val (.int (fU (hi - lo) (hi - lo)))] [(.long lo), (.ref b4)])) rfl (by rw [hml]; rfl) (Steps.refl _) (argsL := [(.long lo)]) (rest := []) (lenOf pd0_2 rfl) rfl (by show 2 * 0 + _ ≤ _; exact Nat.le_of_eq rfl) (hb hby at_138) (fun _ _ => ⟨rfl, eh20, (by decide : 1 + 0 ≤ _), (by decide : 2 + 0 ≤ _)⟩)
        dsimp only [Pt.U, Pt.locs, Pt.cells, Pt.slots] at X22 l22 y22 z22 st22 hQ22
        subst l22 y22 z22
        obtain ⟨rfl, N22q, eh22⟩ := hQ22
        have N22 := Fr.app N20 N22q
        refine Go.tr st22 ?_
        show Go _ _ _ _ _ _ _ (T22.setTop (mkF m 141 #[.val (.long a1), .second, .val (.long b1), .second, .val (.long t1), .second, .val (.int sel), .val (.long lo), .second, .val (.long hi), .second, .val (.ref b4), .val (.int (sel &&& (7 : Int32))), .val (.long hi), .second, .val (.int (fC hi lo hi)), .val (.int (fU (hi - lo) (hi - lo)))] [(.int (fC lo lo hi))]))
        have hd23 : ¬ ((fC lo lo hi) = (0 : Int32)) := by rw [own_lo _ _ hlt]; decide
        refine Go.by (fun _ kont => XS.ifNo X22.here hx rfl (hb hby at_141) rfl ((if0 _ _).trans (feq hd23).1) kont) ?_
        show Go _ _ _ _ _ _ _ (T22.setTop (mkF m 144 #[.val (.long a1), .second, .val (.long b1), .second, .val (.long t1), .second, .val (.int sel), .val (.long lo), .second, .val (.long hi), .second, .val (.ref b4), .val (.int (sel &&& (7 : Int32))), .val (.long hi), .second, .val (.int (fC hi lo hi)), .val (.int (fU (hi - lo) (hi - lo)))] []))
        refine Go.by (fun _ kont => XS.aload X22.here hx rfl (hb hby at_144) rfl rfl (XS.lload X22.here hx rfl (hb hby at_146) rfl kont)) ?_
        show Go _ _ _ _ _ _ _ (T22.setTop (mkF m 148 #[.val (.long a1), .second, .val (.long b1), .second, .val (.long t1), .second, .val (.int sel), .val (.long lo), .second, .val (.long hi), .second, .val (.ref b4), .val (.int (sel &&& (7 : Int32))), .val (.long hi), .second, .val (.int (fC hi lo hi)), .val (.int (fU (hi - lo) (hi - lo)))] [(.long hi), (.ref b4)]))
        obtain ⟨cq24, kq24, q24a, q24b, q24c⟩ := isOf hZ eh22 E6z
        obtain ⟨_, _, ⟨T24, L24, k24, n24⟩, -, X24, ⟨Lc24, hQ24, l24, y24, z24⟩, st24⟩ := X22.virtualBack hx (y := (⟨"com/example/runpulse/runpulse/Window", "contains", "(J)Z"⟩ : MethodName)) (z := (⟨"com/example/runpulse/runpulse/Window", "contains", "(J)Z"⟩ : MethodName)) hown (mvT hZ (hw _ (List.mem_of_getElem? (i := 25) rfl))) (mvT hZ (hw _ (List.mem_of_getElem? (i := 26) rfl))) (notFace_of_selects (args := #[]) (mvT hZ (hw _ (List.mem_of_getElem? (i := 28) rfl)))) (mvT hZ (hw _ (List.mem_of_getElem? (i := 28) rfl))) (mvT hZ (hw _ (List.mem_of_getElem? (i := 27) rfl))) (by decide) (backOf (W := 0) (rmC l Z a0 hw [] b4 hi lo hi T6.heap n0 Z7 F6z_s F6z_e) hZ (hw _ (List.mem_of_getElem? (i := 29) rfl)) (hw _ (List.mem_of_getElem? (i := 9) rfl)) (by decide) (by decide)) q24a q24c (g := (mkF m 148 #[.val (.long a1), .second, .val (.long b1), .second, .val (.long t1), .second, .val (.int sel), .val (.long lo), .second, .val (.long hi), .second, .val (.ref b4), .val (.int (sel &&& (7 : Int32))), .val (.long hi), .second, .val (.int (fC hi lo hi)), .val (.int (fU (hi - lo) (hi - lo)))] [(.long hi), (.ref b4)])) rfl (by rw [hml]; rfl) (Steps.refl _) (argsL := [(.long hi)]) (rest := []) (lenOf pd0_2 rfl) rfl (by show 2 * 0 + _ ≤ _; exact Nat.le_of_eq rfl) (hb hby at_148) (fun _ _ => ⟨rfl, eh22, (by decide : 1 + 0 ≤ _), (by decide : 2 + 0 ≤ _)⟩)
        dsimp only [Pt.U, Pt.locs, Pt.cells, Pt.slots] at X24 l24 y24 z24 st24 hQ24
        subst l24 y24 z24
        obtain ⟨rfl, N24q, eh24⟩ := hQ24
        have N24 := Fr.app N22 N24q
        refine Go.tr st24 ?_
        show Go _ _ _ _ _ _ _ (T24.setTop (mkF m 151 #[.val (.long a1), .second, .val (.long b1), .second, .val (.long t1), .second, .val (.int sel), .val (.long lo), .second, .val (.long hi), .second, .val (.ref b4), .val (.int (sel &&& (7 : Int32))), .val (.long hi), .second, .val (.int (fC hi lo hi)), .val (.int (fU (hi - lo) (hi - lo)))] [(.int (fC hi lo hi))]))
        have hd25 : (fC hi lo hi) = (0 : Int32) := own_hi _ _ hlt
        refine Go.by (fun _ kont => XS.ifNo X24.here hx rfl (hb hby at_151) rfl ((if0 _ _).trans (teq hd25).2) kont) ?_
        show Go _ _ _ _ _ _ _ (T24.setTop (mkF m 154 #[.val (.long a1), .second, .val (.long b1), .second, .val (.long t1), .second, .val (.int sel), .val (.long lo), .second, .val (.long hi), .second, .val (.ref b4), .val (.int (sel &&& (7 : Int32))), .val (.long hi), .second, .val (.int (fC hi lo hi)), .val (.int (fU (hi - lo) (hi - lo)))] []))
        refine Go.by (fun _ kont => XS.aload X24.here hx rfl (hb hby at_154) rfl rfl (XS.lload X24.here hx rfl (hb hby at_156) rfl (XS.lconst X24.here hx rfl (hb hby at_158) (XS.lsub X24.here hx rfl (hb hby at_159) rfl kont)))) ?_
        show Go _ _ _ _ _ _ _ (T24.setTop (mkF m 160 #[.val (.long a1), .second, .val (.long b1), .second, .val (.long t1), .second, .val (.int sel), .val (.long lo), .second, .val (.long hi), .second, .val (.ref b4), .val (.int (sel &&& (7 : Int32))), .val (.long hi), .second, .val (.int (fC hi lo hi)), .val (.int (fU (hi - lo) (hi - lo)))] [(.long (hi - (1 : Int64))), (.ref b4)]))
        obtain ⟨cq26, kq26, q26a, q26b, q26c⟩ := isOf hZ eh24 E6z
        obtain ⟨_, _, ⟨T26, L26, k26, n26⟩, -, X26, ⟨Lc26, hQ26, l26, y26, z26⟩, st26⟩ := X24.virtualBack hx (y := (⟨"com/example/runpulse/runpulse/Window", "contains", "(J)Z"⟩ : MethodName)) (z := (⟨"com/example/runpulse/runpulse/Window", "contains", "(J)Z"⟩ : MethodName)) hown (mvT hZ (hw _ (List.mem_of_getElem? (i := 25) rfl))) (mvT hZ (hw _ (List.mem_of_getElem? (i := 26) rfl))) (notFace_of_selects (args := #[]) (mvT hZ (hw _ (List.mem_of_getElem? (i := 28) rfl)))) (mvT hZ (hw _ (List.mem_of_getElem? (i := 28) rfl))) (mvT hZ (hw _ (List.mem_of_getElem? (i := 27) rfl))) (by decide) (backOf (W := 0) (rmC l Z a0 hw [] b4 (hi - (1 : Int64)) lo hi T6.heap n0 Z7 F6z_s F6z_e) hZ (hw _ (List.mem_of_getElem? (i := 29) rfl)) (hw _ (List.mem_of_getElem? (i := 9) rfl)) (by decide) (by decide)) q26a q26c (g := (mkF m 160 #[.val (.long a1), .second, .val (.long b1), .second, .val (.long t1), .second, .val (.int sel), .val (.long lo), .second, .val (.long hi), .second, .val (.ref b4), .val (.int (sel &&& (7 : Int32))), .val (.long hi), .second, .val (.int (fC hi lo hi)), .val (.int (fU (hi - lo) (hi - lo)))] [(.long (hi - (1 : Int64))), (.ref b4)])) rfl (by rw [hml]; rfl) (Steps.refl _) (argsL := [(.long (hi - (1 : Int64)))]) (rest := []) (lenOf pd0_2 rfl) rfl (by show 2 * 0 + _ ≤ _; exact Nat.le_of_eq rfl) (hb hby at_160) (fun _ _ => ⟨rfl, eh24, (by decide : 1 + 0 ≤ _), (by decide : 2 + 0 ≤ _)⟩)
        dsimp only [Pt.U, Pt.locs, Pt.cells, Pt.slots] at X26 l26 y26 z26 st26 hQ26
        subst l26 y26 z26
        obtain ⟨rfl, N26q, eh26⟩ := hQ26
        have N26 := Fr.app N24 N26q
        refine Go.tr st26 ?_
        show Go _ _ _ _ _ _ _ (T26.setTop (mkF m 163 #[.val (.long a1), .second, .val (.long b1), .second, .val (.long t1), .second, .val (.int sel), .val (.long lo), .second, .val (.long hi), .second, .val (.ref b4), .val (.int (sel &&& (7 : Int32))), .val (.long hi), .second, .val (.int (fC hi lo hi)), .val (.int (fU (hi - lo) (hi - lo)))] [(.int (fC (hi - (1 : Int64)) lo hi))]))
        have hd27 : ¬ ((fC (hi - (1 : Int64)) lo hi) = (0 : Int32)) := by rw [own_hi1 _ _ hlt]; decide
        refine Go.by (fun _ kont => XS.ifNo X26.here hx rfl (hb hby at_163) rfl ((if0 _ _).trans (feq hd27).1) kont) ?_
        show Go _ _ _ _ _ _ _ (T26.setTop (mkF m 166 #[.val (.long a1), .second, .val (.long b1), .second, .val (.long t1), .second, .val (.int sel), .val (.long lo), .second, .val (.long hi), .second, .val (.ref b4), .val (.int (sel &&& (7 : Int32))), .val (.long hi), .second, .val (.int (fC hi lo hi)), .val (.int (fU (hi - lo) (hi - lo)))] []))
        refine Go.by (fun _ kont => XS.iconst X26.here hx rfl (hb hby at_166) (XS.goto X26.here hx rfl (pc0 := 167) (pc' := 171) rfl (hb hby at_167) (by decide) (by decide) kont)) ?_
        show Go _ _ _ _ _ _ _ (T26.setTop (mkF m 171 #[.val (.long a1), .second, .val (.long b1), .second, .val (.long t1), .second, .val (.int sel), .val (.long lo), .second, .val (.long hi), .second, .val (.ref b4), .val (.int (sel &&& (7 : Int32))), .val (.long hi), .second, .val (.int (fC hi lo hi)), .val (.int (fU (hi - lo) (hi - lo)))] [(.int (1 : Int32))]))
        refine Go.retN X26 hx (t := .boolean) hret (by simp) hlk (hb hby at_171) ?_ (by decide) (by decide)
        show Q0 Z h0 n0 (some (.int (1 : Int32))) T26.heap _
        rw [eh26]
        exact ⟨rfl, N26⟩
      · refine Go.by (fun _ kont => XS.icmpYes X6.here hx rfl (pc0 := 59) (pc' := 69) rfl (hb hby at_59) rfl (feq hc18).2 (by decide) (by decide) kont) ?_
        show Go _ _ _ _ _ _ _ (T6.setTop (mkF m 69 #[.val (.long a1), .second, .val (.long b1), .second, .val (.long t1), .second, .val (.int sel), .val (.long lo), .second, .val (.long hi), .second, .val (.ref b4), .val (.int (sel &&& (7 : Int32))), .unset, .unset, .unset, .unset] []))
        refine Go.by (fun _ kont => XS.iload X6.here hx rfl (hb hby at_69) rfl (XS.iconst X6.here hx rfl (hb hby at_71) kont)) ?_
        show Go _ _ _ _ _ _ _ (T6.setTop (mkF m 72 #[.val (.long a1), .second, .val (.long b1), .second, .val (.long t1), .second, .val (.int sel), .val (.long lo), .second, .val (.long hi), .second, .val (.ref b4), .val (.int (sel &&& (7 : Int32))), .unset, .unset, .unset, .unset] [(.int (2 : Int32)), (.int (sel &&& (7 : Int32)))]))
        by_cases hc28 : (sel &&& (7 : Int32)) = (2 : Int32)
        · refine Go.by (fun _ kont => XS.icmpNo X6.here hx rfl (hb hby at_72) rfl (teq hc28).2 kont) ?_
          show Go _ _ _ _ _ _ _ (T6.setTop (mkF m 75 #[.val (.long a1), .second, .val (.long b1), .second, .val (.long t1), .second, .val (.int sel), .val (.long lo), .second, .val (.long hi), .second, .val (.ref b4), .val (.int (sel &&& (7 : Int32))), .unset, .unset, .unset, .unset] []))
          refine Go.by (fun _ kont => XS.lload X6.here hx rfl (hb hby at_75) rfl (XS.lconst X6.here hx rfl (hb hby at_77) (XS.lsub X6.here hx rfl (hb hby at_78) rfl (XS.lstore X6.here hx rfl (hb hby at_79) rfl (l' := #[.val (.long a1), .second, .val (.long b1), .second, .val (.long t1), .second, .val (.int sel), .val (.long lo), .second, .val (.long hi), .second, .val (.ref b4), .val (.int (sel &&& (7 : Int32))), .val (.long (lo - (1 : Int64))), .second, .unset, .unset]) rfl (XS.goto X6.here hx rfl (pc0 := 81) (pc' := 103) rfl (hb hby at_81) (by decide) (by decide) kont))))) ?_
          show Go _ _ _ _ _ _ _ (T6.setTop (mkF m 103 #[.val (.long a1), .second, .val (.long b1), .second, .val (.long t1), .second, .val (.int sel), .val (.long lo), .second, .val (.long hi), .second, .val (.ref b4), .val (.int (sel &&& (7 : Int32))), .val (.long (lo - (1 : Int64))), .second, .unset, .unset] []))
          generalize (lo - (1 : Int64)) = tt
          show Go _ _ _ _ _ _ _ (T6.setTop (mkF m 103 #[.val (.long a1), .second, .val (.long b1), .second, .val (.long t1), .second, .val (.int sel), .val (.long lo), .second, .val (.long hi), .second, .val (.ref b4), .val (.int (sel &&& (7 : Int32))), .val (.long tt), .second, .unset, .unset] []))
          refine Go.by (fun _ kont => XS.aload X6.here hx rfl (hb hby at_103) rfl rfl (XS.lload X6.here hx rfl (hb hby at_105) rfl kont)) ?_
          show Go _ _ _ _ _ _ _ (T6.setTop (mkF m 107 #[.val (.long a1), .second, .val (.long b1), .second, .val (.long t1), .second, .val (.int sel), .val (.long lo), .second, .val (.long hi), .second, .val (.ref b4), .val (.int (sel &&& (7 : Int32))), .val (.long tt), .second, .unset, .unset] [(.long tt), (.ref b4)]))
          obtain ⟨cq29, kq29, q29a, q29b, q29c⟩ := isOf hZ rfl E6z
          obtain ⟨_, _, ⟨T29, L29, k29, n29⟩, -, X29, ⟨Lc29, hQ29, l29, y29, z29⟩, st29⟩ := X6.virtualBack hx (y := (⟨"com/example/runpulse/runpulse/Window", "contains", "(J)Z"⟩ : MethodName)) (z := (⟨"com/example/runpulse/runpulse/Window", "contains", "(J)Z"⟩ : MethodName)) hown (mvT hZ (hw _ (List.mem_of_getElem? (i := 25) rfl))) (mvT hZ (hw _ (List.mem_of_getElem? (i := 26) rfl))) (notFace_of_selects (args := #[]) (mvT hZ (hw _ (List.mem_of_getElem? (i := 28) rfl)))) (mvT hZ (hw _ (List.mem_of_getElem? (i := 28) rfl))) (mvT hZ (hw _ (List.mem_of_getElem? (i := 27) rfl))) (by decide) (backOf (W := 0) (rmC l Z a0 hw [] b4 tt lo hi T6.heap n0 Z7 F6z_s F6z_e) hZ (hw _ (List.mem_of_getElem? (i := 29) rfl)) (hw _ (List.mem_of_getElem? (i := 9) rfl)) (by decide) (by decide)) q29a q29c (g := (mkF m 107 #[.val (.long a1), .second, .val (.long b1), .second, .val (.long t1), .second, .val (.int sel), .val (.long lo), .second, .val (.long hi), .second, .val (.ref b4), .val (.int (sel &&& (7 : Int32))), .val (.long tt), .second, .unset, .unset] [(.long tt), (.ref b4)])) rfl (by rw [hml]; rfl) (Steps.refl _) (argsL := [(.long tt)]) (rest := []) (lenOf pd0_2 rfl) rfl (by show 2 * 0 + _ ≤ _; exact Nat.le_of_eq rfl) (hb hby at_107) (fun _ _ => ⟨rfl, rfl, (by decide : 1 + 0 ≤ _), (by decide : 2 + 0 ≤ _)⟩)
          dsimp only [Pt.U, Pt.locs, Pt.cells, Pt.slots] at X29 l29 y29 z29 st29 hQ29
          subst l29 y29 z29
          obtain ⟨rfl, N29q, eh29⟩ := hQ29
          have N29 := Fr.app N6 N29q
          refine Go.tr st29 ?_
          show Go _ _ _ _ _ _ _ (T29.setTop (mkF m 110 #[.val (.long a1), .second, .val (.long b1), .second, .val (.long t1), .second, .val (.int sel), .val (.long lo), .second, .val (.long hi), .second, .val (.ref b4), .val (.int (sel &&& (7 : Int32))), .val (.long tt), .second, .unset, .unset] [(.int (fC tt lo hi))]))
          refine Go.by (fun _ kont => XS.istore X29.here hx rfl (hb hby at_110) rfl (l' := #[.val (.long a1), .second, .val (.long b1), .second, .val (.long t1), .second, .val (.int sel), .val (.long lo), .second, .val (.long hi), .second, .val (.ref b4), .val (.int (sel &&& (7 : Int32))), .val (.long tt), .second, .val (.int (fC tt lo hi)), .unset]) rfl (XS.lload X29.here hx rfl (hb hby at_112) rfl (XS.lload X29.here hx rfl (hb hby at_114) rfl (XS.lsub X29.here hx rfl (hb hby at_116) rfl (XS.lload X29.here hx rfl (hb hby at_117) rfl (XS.lload X29.here hx rfl (hb hby at_119) rfl kont)))))) ?_
          show Go _ _ _ _ _ _ _ (T29.setTop (mkF m 121 #[.val (.long a1), .second, .val (.long b1), .second, .val (.long t1), .second, .val (.int sel), .val (.long lo), .second, .val (.long hi), .second, .val (.ref b4), .val (.int (sel &&& (7 : Int32))), .val (.long tt), .second, .val (.int (fC tt lo hi)), .unset] [(.long lo), (.long hi), (.long (tt - lo))]))
          refine Go.by (fun _ kont => XS.lsub X29.here hx rfl (hb hby at_121) rfl kont) ?_
          show Go _ _ _ _ _ _ _ (T29.setTop (mkF m 122 #[.val (.long a1), .second, .val (.long b1), .second, .val (.long t1), .second, .val (.int sel), .val (.long lo), .second, .val (.long hi), .second, .val (.ref b4), .val (.int (sel &&& (7 : Int32))), .val (.long tt), .second, .val (.int (fC tt lo hi)), .unset] [(.long (hi - lo)), (.long (tt - lo))]))
          obtain ⟨_, _, ⟨T30, L30, k30, n30⟩, -, X30, ⟨Lc30, hQ30, l30, y30, z30⟩, st30⟩ := Jvm.LawKit.callS X29 hx (y := (⟨"com/example/runpulse/runpulse/WindowContainsPinLaw", "unsignedLess", "(JJ)Z"⟩ : MethodName)) hown (mvT hZ (hw _ (List.mem_of_getElem? (i := 30) rfl))) (mvT hZ (hw _ (List.mem_of_getElem? (i := 31) rfl))) (mvT hZ (hw _ (List.mem_of_getElem? (i := 32) rfl))) (mvT hZ (hw _ (List.mem_of_getElem? (i := 33) rfl))) (by decide) (backOf (W := 0) (rmU l Z a0 hw [] (tt - lo) (hi - lo) T6.heap n0 Z7 ) hZ (hw _ (List.mem_of_getElem? (i := 33) rfl)) (hw _ (List.mem_of_getElem? (i := 32) rfl)) (by decide) (by decide)) (g := (mkF m 122 #[.val (.long a1), .second, .val (.long b1), .second, .val (.long t1), .second, .val (.int sel), .val (.long lo), .second, .val (.long hi), .second, .val (.ref b4), .val (.int (sel &&& (7 : Int32))), .val (.long tt), .second, .val (.int (fC tt lo hi)), .unset] [(.long (hi - lo)), (.long (tt - lo))])) rfl (by rw [hml]; rfl) (argsL := [(.long (tt - lo)), (.long (hi - lo))]) (rest := []) (lenOf pd0_3 rfl) rfl (by show 2 * 0 + _ ≤ _; exact Nat.le_of_eq rfl) (hb hby at_122) (fun _ _ => ⟨rfl, eh29, (by decide : 1 + 0 ≤ _), (by decide : 2 + 0 ≤ _)⟩)
          dsimp only [Pt.U, Pt.locs, Pt.cells, Pt.slots] at X30 l30 y30 z30 st30 hQ30
          subst l30 y30 z30
          obtain ⟨rfl, N30q, eh30⟩ := hQ30
          have N30 := Fr.app N29 N30q
          refine Go.by st30 ?_
          show Go _ _ _ _ _ _ _ (T30.setTop (mkF m 125 #[.val (.long a1), .second, .val (.long b1), .second, .val (.long t1), .second, .val (.int sel), .val (.long lo), .second, .val (.long hi), .second, .val (.ref b4), .val (.int (sel &&& (7 : Int32))), .val (.long tt), .second, .val (.int (fC tt lo hi)), .unset] [(.int (fU (tt - lo) (hi - lo)))]))
          refine Go.by (fun _ kont => XS.istore X30.here hx rfl (hb hby at_125) rfl (l' := #[.val (.long a1), .second, .val (.long b1), .second, .val (.long t1), .second, .val (.int sel), .val (.long lo), .second, .val (.long hi), .second, .val (.ref b4), .val (.int (sel &&& (7 : Int32))), .val (.long tt), .second, .val (.int (fC tt lo hi)), .val (.int (fU (tt - lo) (hi - lo)))]) rfl (XS.iload X30.here hx rfl (hb hby at_127) rfl (XS.iload X30.here hx rfl (hb hby at_129) rfl kont))) ?_
          show Go _ _ _ _ _ _ _ (T30.setTop (mkF m 131 #[.val (.long a1), .second, .val (.long b1), .second, .val (.long t1), .second, .val (.int sel), .val (.long lo), .second, .val (.long hi), .second, .val (.ref b4), .val (.int (sel &&& (7 : Int32))), .val (.long tt), .second, .val (.int (fC tt lo hi)), .val (.int (fU (tt - lo) (hi - lo)))] [(.int (fU (tt - lo) (hi - lo))), (.int (fC tt lo hi))]))
          have hd31 : (fC tt lo hi) = (fU (tt - lo) (hi - lo)) := own_ref _ _ _ hlt
          refine Go.by (fun _ kont => XS.icmpNo X30.here hx rfl (hb hby at_131) rfl (teq hd31).2 kont) ?_
          show Go _ _ _ _ _ _ _ (T30.setTop (mkF m 134 #[.val (.long a1), .second, .val (.long b1), .second, .val (.long t1), .second, .val (.int sel), .val (.long lo), .second, .val (.long hi), .second, .val (.ref b4), .val (.int (sel &&& (7 : Int32))), .val (.long tt), .second, .val (.int (fC tt lo hi)), .val (.int (fU (tt - lo) (hi - lo)))] []))
          refine Go.by (fun _ kont => XS.aload X30.here hx rfl (hb hby at_134) rfl rfl (XS.lload X30.here hx rfl (hb hby at_136) rfl kont)) ?_
          show Go _ _ _ _ _ _ _ (T30.setTop (mkF m 138 #[.val (.long a1), .second, .val (.long b1), .second, .val (.long t1), .second, .val (.int sel), .val (.long lo), .second, .val (.long hi), .second, .val (.ref b4), .val (.int (sel &&& (7 : Int32))), .val (.long tt), .second, .val (.int (fC tt lo hi)), .val (.int (fU (tt - lo) (hi - lo)))] [(.long lo), (.ref b4)]))
          obtain ⟨cq32, kq32, q32a, q32b, q32c⟩ := isOf hZ eh30 E6z
          obtain ⟨_, _, ⟨T32, L32, k32, n32⟩, -, X32, ⟨Lc32, hQ32, l32, y32, z32⟩, st32⟩ := X30.virtualBack hx (y := (⟨"com/example/runpulse/runpulse/Window", "contains", "(J)Z"⟩ : MethodName)) (z := (⟨"com/example/runpulse/runpulse/Window", "contains", "(J)Z"⟩ : MethodName)) hown (mvT hZ (hw _ (List.mem_of_getElem? (i := 25) rfl))) (mvT hZ (hw _ (List.mem_of_getElem? (i := 26) rfl))) (notFace_of_selects (args := #[]) (mvT hZ (hw _ (List.mem_of_getElem? (i := 28) rfl)))) (mvT hZ (hw _ (List.mem_of_getElem? (i := 28) rfl))) (mvT hZ (hw _ (List.mem_of_getElem? (i := 27) rfl))) (by decide) (backOf (W := 0) (rmC l Z a0 hw [] b4 lo lo hi T6.heap n0 Z7 F6z_s F6z_e) hZ (hw _ (List.mem_of_getElem? (i := 29) rfl)) (hw _ (List.mem_of_getElem? (i := 9) rfl)) (by decide) (by decide)) q32a q32c (g := (mkF m 138 #[.val (.long a1), .second, .val (.long b1), .second, .val (.long t1), .second, .val (.int sel), .val (.long lo), .second, .val (.long hi), .second, .val (.ref b4), .val (.int (sel &&& (7 : Int32))), .val (.long tt), .second, .val (.int (fC tt lo hi)), .val (.int (fU (tt - lo) (hi - lo)))] [(.long lo), (.ref b4)])) rfl (by rw [hml]; rfl) (Steps.refl _) (argsL := [(.long lo)]) (rest := []) (lenOf pd0_2 rfl) rfl (by show 2 * 0 + _ ≤ _; exact Nat.le_of_eq rfl) (hb hby at_138) (fun _ _ => ⟨rfl, eh30, (by decide : 1 + 0 ≤ _), (by decide : 2 + 0 ≤ _)⟩)
          dsimp only [Pt.U, Pt.locs, Pt.cells, Pt.slots] at X32 l32 y32 z32 st32 hQ32
          subst l32 y32 z32
          obtain ⟨rfl, N32q, eh32⟩ := hQ32
          have N32 := Fr.app N30 N32q
          refine Go.tr st32 ?_
          show Go _ _ _ _ _ _ _ (T32.setTop (mkF m 141 #[.val (.long a1), .second, .val (.long b1), .second, .val (.long t1), .second, .val (.int sel), .val (.long lo), .second, .val (.long hi), .second, .val (.ref b4), .val (.int (sel &&& (7 : Int32))), .val (.long tt), .second, .val (.int (fC tt lo hi)), .val (.int (fU (tt - lo) (hi - lo)))] [(.int (fC lo lo hi))]))
          have hd33 : ¬ ((fC lo lo hi) = (0 : Int32)) := by rw [own_lo _ _ hlt]; decide
          refine Go.by (fun _ kont => XS.ifNo X32.here hx rfl (hb hby at_141) rfl ((if0 _ _).trans (feq hd33).1) kont) ?_
          show Go _ _ _ _ _ _ _ (T32.setTop (mkF m 144 #[.val (.long a1), .second, .val (.long b1), .second, .val (.long t1), .second, .val (.int sel), .val (.long lo), .second, .val (.long hi), .second, .val (.ref b4), .val (.int (sel &&& (7 : Int32))), .val (.long tt), .second, .val (.int (fC tt lo hi)), .val (.int (fU (tt - lo) (hi - lo)))] []))
          refine Go.by (fun _ kont => XS.aload X32.here hx rfl (hb hby at_144) rfl rfl (XS.lload X32.here hx rfl (hb hby at_146) rfl kont)) ?_
          show Go _ _ _ _ _ _ _ (T32.setTop (mkF m 148 #[.val (.long a1), .second, .val (.long b1), .second, .val (.long t1), .second, .val (.int sel), .val (.long lo), .second, .val (.long hi), .second, .val (.ref b4), .val (.int (sel &&& (7 : Int32))), .val (.long tt), .second, .val (.int (fC tt lo hi)), .val (.int (fU (tt - lo) (hi - lo)))] [(.long hi), (.ref b4)]))
          obtain ⟨cq34, kq34, q34a, q34b, q34c⟩ := isOf hZ eh32 E6z
          obtain ⟨_, _, ⟨T34, L34, k34, n34⟩, -, X34, ⟨Lc34, hQ34, l34, y34, z34⟩, st34⟩ := X32.virtualBack hx (y := (⟨"com/example/runpulse/runpulse/Window", "contains", "(J)Z"⟩ : MethodName)) (z := (⟨"com/example/runpulse/runpulse/Window", "contains", "(J)Z"⟩ : MethodName)) hown (mvT hZ (hw _ (List.mem_of_getElem? (i := 25) rfl))) (mvT hZ (hw _ (List.mem_of_getElem? (i := 26) rfl))) (notFace_of_selects (args := #[]) (mvT hZ (hw _ (List.mem_of_getElem? (i := 28) rfl)))) (mvT hZ (hw _ (List.mem_of_getElem? (i := 28) rfl))) (mvT hZ (hw _ (List.mem_of_getElem? (i := 27) rfl))) (by decide) (backOf (W := 0) (rmC l Z a0 hw [] b4 hi lo hi T6.heap n0 Z7 F6z_s F6z_e) hZ (hw _ (List.mem_of_getElem? (i := 29) rfl)) (hw _ (List.mem_of_getElem? (i := 9) rfl)) (by decide) (by decide)) q34a q34c (g := (mkF m 148 #[.val (.long a1), .second, .val (.long b1), .second, .val (.long t1), .second, .val (.int sel), .val (.long lo), .second, .val (.long hi), .second, .val (.ref b4), .val (.int (sel &&& (7 : Int32))), .val (.long tt), .second, .val (.int (fC tt lo hi)), .val (.int (fU (tt - lo) (hi - lo)))] [(.long hi), (.ref b4)])) rfl (by rw [hml]; rfl) (Steps.refl _) (argsL := [(.long hi)]) (rest := []) (lenOf pd0_2 rfl) rfl (by show 2 * 0 + _ ≤ _; exact Nat.le_of_eq rfl) (hb hby at_148) (fun _ _ => ⟨rfl, eh32, (by decide : 1 + 0 ≤ _), (by decide : 2 + 0 ≤ _)⟩)
          dsimp only [Pt.U, Pt.locs, Pt.cells, Pt.slots] at X34 l34 y34 z34 st34 hQ34
          subst l34 y34 z34
          obtain ⟨rfl, N34q, eh34⟩ := hQ34
          have N34 := Fr.app N32 N34q
          refine Go.tr st34 ?_
          show Go _ _ _ _ _ _ _ (T34.setTop (mkF m 151 #[.val (.long a1), .second, .val (.long b1), .second, .val (.long t1), .second, .val (.int sel), .val (.long lo), .second, .val (.long hi), .second, .val (.ref b4), .val (.int (sel &&& (7 : Int32))), .val (.long tt), .second, .val (.int (fC tt lo hi)), .val (.int (fU (tt - lo) (hi - lo)))] [(.int (fC hi lo hi))]))
          have hd35 : (fC hi lo hi) = (0 : Int32) := own_hi _ _ hlt
          refine Go.by (fun _ kont => XS.ifNo X34.here hx rfl (hb hby at_151) rfl ((if0 _ _).trans (teq hd35).2) kont) ?_
          show Go _ _ _ _ _ _ _ (T34.setTop (mkF m 154 #[.val (.long a1), .second, .val (.long b1), .second, .val (.long t1), .second, .val (.int sel), .val (.long lo), .second, .val (.long hi), .second, .val (.ref b4), .val (.int (sel &&& (7 : Int32))), .val (.long tt), .second, .val (.int (fC tt lo hi)), .val (.int (fU (tt - lo) (hi - lo)))] []))
          refine Go.by (fun _ kont => XS.aload X34.here hx rfl (hb hby at_154) rfl rfl (XS.lload X34.here hx rfl (hb hby at_156) rfl (XS.lconst X34.here hx rfl (hb hby at_158) (XS.lsub X34.here hx rfl (hb hby at_159) rfl kont)))) ?_
          show Go _ _ _ _ _ _ _ (T34.setTop (mkF m 160 #[.val (.long a1), .second, .val (.long b1), .second, .val (.long t1), .second, .val (.int sel), .val (.long lo), .second, .val (.long hi), .second, .val (.ref b4), .val (.int (sel &&& (7 : Int32))), .val (.long tt), .second, .val (.int (fC tt lo hi)), .val (.int (fU (tt - lo) (hi - lo)))] [(.long (hi - (1 : Int64))), (.ref b4)]))
          obtain ⟨cq36, kq36, q36a, q36b, q36c⟩ := isOf hZ eh34 E6z
          obtain ⟨_, _, ⟨T36, L36, k36, n36⟩, -, X36, ⟨Lc36, hQ36, l36, y36, z36⟩, st36⟩ := X34.virtualBack hx (y := (⟨"com/example/runpulse/runpulse/Window", "contains", "(J)Z"⟩ : MethodName)) (z := (⟨"com/example/runpulse/runpulse/Window", "contains", "(J)Z"⟩ : MethodName)) hown (mvT hZ (hw _ (List.mem_of_getElem? (i := 25) rfl))) (mvT hZ (hw _ (List.mem_of_getElem? (i := 26) rfl))) (notFace_of_selects (args := #[]) (mvT hZ (hw _ (List.mem_of_getElem? (i := 28) rfl)))) (mvT hZ (hw _ (List.mem_of_getElem? (i := 28) rfl))) (mvT hZ (hw _ (List.mem_of_getElem? (i := 27) rfl))) (by decide) (backOf (W := 0) (rmC l Z a0 hw [] b4 (hi - (1 : Int64)) lo hi T6.heap n0 Z7 F6z_s F6z_e) hZ (hw _ (List.mem_of_getElem? (i := 29) rfl)) (hw _ (List.mem_of_getElem? (i := 9) rfl)) (by decide) (by decide)) q36a q36c (g := (mkF m 160 #[.val (.long a1), .second, .val (.long b1), .second, .val (.long t1), .second, .val (.int sel), .val (.long lo), .second, .val (.long hi), .second, .val (.ref b4), .val (.int (sel &&& (7 : Int32))), .val (.long tt), .second, .val (.int (fC tt lo hi)), .val (.int (fU (tt - lo) (hi - lo)))] [(.long (hi - (1 : Int64))), (.ref b4)])) rfl (by rw [hml]; rfl) (Steps.refl _) (argsL := [(.long (hi - (1 : Int64)))]) (rest := []) (lenOf pd0_2 rfl) rfl (by show 2 * 0 + _ ≤ _; exact Nat.le_of_eq rfl) (hb hby at_160) (fun _ _ => ⟨rfl, eh34, (by decide : 1 + 0 ≤ _), (by decide : 2 + 0 ≤ _)⟩)
          dsimp only [Pt.U, Pt.locs, Pt.cells, Pt.slots] at X36 l36 y36 z36 st36 hQ36
          subst l36 y36 z36
          obtain ⟨rfl, N36q, eh36⟩ := hQ36
          have N36 := Fr.app N34 N36q
          refine Go.tr st36 ?_
          show Go _ _ _ _ _ _ _ (T36.setTop (mkF m 163 #[.val (.long a1), .second, .val (.long b1), .second, .val (.long t1), .second, .val (.int sel), .val (.long lo), .second, .val (.long hi), .second, .val (.ref b4), .val (.int (sel &&& (7 : Int32))), .val (.long tt), .second, .val (.int (fC tt lo hi)), .val (.int (fU (tt - lo) (hi - lo)))] [(.int (fC (hi - (1 : Int64)) lo hi))]))
          have hd37 : ¬ ((fC (hi - (1 : Int64)) lo hi) = (0 : Int32)) := by rw [own_hi1 _ _ hlt]; decide
          refine Go.by (fun _ kont => XS.ifNo X36.here hx rfl (hb hby at_163) rfl ((if0 _ _).trans (feq hd37).1) kont) ?_
          show Go _ _ _ _ _ _ _ (T36.setTop (mkF m 166 #[.val (.long a1), .second, .val (.long b1), .second, .val (.long t1), .second, .val (.int sel), .val (.long lo), .second, .val (.long hi), .second, .val (.ref b4), .val (.int (sel &&& (7 : Int32))), .val (.long tt), .second, .val (.int (fC tt lo hi)), .val (.int (fU (tt - lo) (hi - lo)))] []))
          refine Go.by (fun _ kont => XS.iconst X36.here hx rfl (hb hby at_166) (XS.goto X36.here hx rfl (pc0 := 167) (pc' := 171) rfl (hb hby at_167) (by decide) (by decide) kont)) ?_
          show Go _ _ _ _ _ _ _ (T36.setTop (mkF m 171 #[.val (.long a1), .second, .val (.long b1), .second, .val (.long t1), .second, .val (.int sel), .val (.long lo), .second, .val (.long hi), .second, .val (.ref b4), .val (.int (sel &&& (7 : Int32))), .val (.long tt), .second, .val (.int (fC tt lo hi)), .val (.int (fU (tt - lo) (hi - lo)))] [(.int (1 : Int32))]))
          refine Go.retN X36 hx (t := .boolean) hret (by simp) hlk (hb hby at_171) ?_ (by decide) (by decide)
          show Q0 Z h0 n0 (some (.int (1 : Int32))) T36.heap _
          rw [eh36]
          exact ⟨rfl, N36⟩
        · refine Go.by (fun _ kont => XS.icmpYes X6.here hx rfl (pc0 := 72) (pc' := 84) rfl (hb hby at_72) rfl (feq hc28).2 (by decide) (by decide) kont) ?_
          show Go _ _ _ _ _ _ _ (T6.setTop (mkF m 84 #[.val (.long a1), .second, .val (.long b1), .second, .val (.long t1), .second, .val (.int sel), .val (.long lo), .second, .val (.long hi), .second, .val (.ref b4), .val (.int (sel &&& (7 : Int32))), .unset, .unset, .unset, .unset] []))
          refine Go.by (fun _ kont => XS.iload X6.here hx rfl (hb hby at_84) rfl (XS.iconst X6.here hx rfl (hb hby at_86) kont)) ?_
          show Go _ _ _ _ _ _ _ (T6.setTop (mkF m 87 #[.val (.long a1), .second, .val (.long b1), .second, .val (.long t1), .second, .val (.int sel), .val (.long lo), .second, .val (.long hi), .second, .val (.ref b4), .val (.int (sel &&& (7 : Int32))), .unset, .unset, .unset, .unset] [(.int (3 : Int32)), (.int (sel &&& (7 : Int32)))]))
          by_cases hc38 : (sel &&& (7 : Int32)) = (3 : Int32)
          · refine Go.by (fun _ kont => XS.icmpNo X6.here hx rfl (hb hby at_87) rfl (teq hc38).2 kont) ?_
            show Go _ _ _ _ _ _ _ (T6.setTop (mkF m 90 #[.val (.long a1), .second, .val (.long b1), .second, .val (.long t1), .second, .val (.int sel), .val (.long lo), .second, .val (.long hi), .second, .val (.ref b4), .val (.int (sel &&& (7 : Int32))), .unset, .unset, .unset, .unset] []))
            refine Go.by (fun _ kont => XS.lload X6.here hx rfl (hb hby at_90) rfl (XS.lconst X6.here hx rfl (hb hby at_92) (XS.lsub X6.here hx rfl (hb hby at_93) rfl (XS.lstore X6.here hx rfl (hb hby at_94) rfl (l' := #[.val (.long a1), .second, .val (.long b1), .second, .val (.long t1), .second, .val (.int sel), .val (.long lo), .second, .val (.long hi), .second, .val (.ref b4), .val (.int (sel &&& (7 : Int32))), .val (.long (hi - (1 : Int64))), .second, .unset, .unset]) rfl (XS.goto X6.here hx rfl (pc0 := 96) (pc' := 103) rfl (hb hby at_96) (by decide) (by decide) kont))))) ?_
            show Go _ _ _ _ _ _ _ (T6.setTop (mkF m 103 #[.val (.long a1), .second, .val (.long b1), .second, .val (.long t1), .second, .val (.int sel), .val (.long lo), .second, .val (.long hi), .second, .val (.ref b4), .val (.int (sel &&& (7 : Int32))), .val (.long (hi - (1 : Int64))), .second, .unset, .unset] []))
            generalize (hi - (1 : Int64)) = tt
            show Go _ _ _ _ _ _ _ (T6.setTop (mkF m 103 #[.val (.long a1), .second, .val (.long b1), .second, .val (.long t1), .second, .val (.int sel), .val (.long lo), .second, .val (.long hi), .second, .val (.ref b4), .val (.int (sel &&& (7 : Int32))), .val (.long tt), .second, .unset, .unset] []))
            refine Go.by (fun _ kont => XS.aload X6.here hx rfl (hb hby at_103) rfl rfl (XS.lload X6.here hx rfl (hb hby at_105) rfl kont)) ?_
            show Go _ _ _ _ _ _ _ (T6.setTop (mkF m 107 #[.val (.long a1), .second, .val (.long b1), .second, .val (.long t1), .second, .val (.int sel), .val (.long lo), .second, .val (.long hi), .second, .val (.ref b4), .val (.int (sel &&& (7 : Int32))), .val (.long tt), .second, .unset, .unset] [(.long tt), (.ref b4)]))
            obtain ⟨cq39, kq39, q39a, q39b, q39c⟩ := isOf hZ rfl E6z
            obtain ⟨_, _, ⟨T39, L39, k39, n39⟩, -, X39, ⟨Lc39, hQ39, l39, y39, z39⟩, st39⟩ := X6.virtualBack hx (y := (⟨"com/example/runpulse/runpulse/Window", "contains", "(J)Z"⟩ : MethodName)) (z := (⟨"com/example/runpulse/runpulse/Window", "contains", "(J)Z"⟩ : MethodName)) hown (mvT hZ (hw _ (List.mem_of_getElem? (i := 25) rfl))) (mvT hZ (hw _ (List.mem_of_getElem? (i := 26) rfl))) (notFace_of_selects (args := #[]) (mvT hZ (hw _ (List.mem_of_getElem? (i := 28) rfl)))) (mvT hZ (hw _ (List.mem_of_getElem? (i := 28) rfl))) (mvT hZ (hw _ (List.mem_of_getElem? (i := 27) rfl))) (by decide) (backOf (W := 0) (rmC l Z a0 hw [] b4 tt lo hi T6.heap n0 Z7 F6z_s F6z_e) hZ (hw _ (List.mem_of_getElem? (i := 29) rfl)) (hw _ (List.mem_of_getElem? (i := 9) rfl)) (by decide) (by decide)) q39a q39c (g := (mkF m 107 #[.val (.long a1), .second, .val (.long b1), .second, .val (.long t1), .second, .val (.int sel), .val (.long lo), .second, .val (.long hi), .second, .val (.ref b4), .val (.int (sel &&& (7 : Int32))), .val (.long tt), .second, .unset, .unset] [(.long tt), (.ref b4)])) rfl (by rw [hml]; rfl) (Steps.refl _) (argsL := [(.long tt)]) (rest := []) (lenOf pd0_2 rfl) rfl (by show 2 * 0 + _ ≤ _; exact Nat.le_of_eq rfl) (hb hby at_107) (fun _ _ => ⟨rfl, rfl, (by decide : 1 + 0 ≤ _), (by decide : 2 + 0 ≤ _)⟩)
            dsimp only [Pt.U, Pt.locs, Pt.cells, Pt.slots] at X39 l39 y39 z39 st39 hQ39
            subst l39 y39 z39
            obtain ⟨rfl, N39q, eh39⟩ := hQ39
            have N39 := Fr.app N6 N39q
            refine Go.tr st39 ?_
            show Go _ _ _ _ _ _ _ (T39.setTop (mkF m 110 #[.val (.long a1), .second, .val (.long b1), .second, .val (.long t1), .second, .val (.int sel), .val (.long lo), .second, .val (.long hi), .second, .val (.ref b4), .val (.int (sel &&& (7 : Int32))), .val (.long tt), .second, .unset, .unset] [(.int (fC tt lo hi))]))
            refine Go.by (fun _ kont => XS.istore X39.here hx rfl (hb hby at_110) rfl (l' := #[.val (.long a1), .second, .val (.long b1), .second, .val (.long t1), .second, .val (.int sel), .val (.long lo), .second, .val (.long hi), .second, .val (.ref b4), .val (.int (sel &&& (7 : Int32))), .val (.long tt), .second, .val (.int (fC tt lo hi)), .unset]) rfl (XS.lload X39.here hx rfl (hb hby at_112) rfl (XS.lload X39.here hx rfl (hb hby at_114) rfl (XS.lsub X39.here hx rfl (hb hby at_116) rfl (XS.lload X39.here hx rfl (hb hby at_117) rfl (XS.lload X39.here hx rfl (hb hby at_119) rfl kont)))))) ?_
            show Go _ _ _ _ _ _ _ (T39.setTop (mkF m 121 #[.val (.long a1), .second, .val (.long b1), .second, .val (.long t1), .second, .val (.int sel), .val (.long lo), .second, .val (.long hi), .second, .val (.ref b4), .val (.int (sel &&& (7 : Int32))), .val (.long tt), .second, .val (.int (fC tt lo hi)), .unset] [(.long lo), (.long hi), (.long (tt - lo))]))
            refine Go.by (fun _ kont => XS.lsub X39.here hx rfl (hb hby at_121) rfl kont) ?_
            show Go _ _ _ _ _ _ _ (T39.setTop (mkF m 122 #[.val (.long a1), .second, .val (.long b1), .second, .val (.long t1), .second, .val (.int sel), .val (.long lo), .second, .val (.long hi), .second, .val (.ref b4), .val (.int (sel &&& (7 : Int32))), .val (.long tt), .second, .val (.int (fC tt lo hi)), .unset] [(.long (hi - lo)), (.long (tt - lo))]))
            obtain ⟨_, _, ⟨T40, L40, k40, n40⟩, -, X40, ⟨Lc40, hQ40, l40, y40, z40⟩, st40⟩ := Jvm.LawKit.callS X39 hx (y := (⟨"com/example/runpulse/runpulse/WindowContainsPinLaw", "unsignedLess", "(JJ)Z"⟩ : MethodName)) hown (mvT hZ (hw _ (List.mem_of_getElem? (i := 30) rfl))) (mvT hZ (hw _ (List.mem_of_getElem? (i := 31) rfl))) (mvT hZ (hw _ (List.mem_of_getElem? (i := 32) rfl))) (mvT hZ (hw _ (List.mem_of_getElem? (i := 33) rfl))) (by decide) (backOf (W := 0) (rmU l Z a0 hw [] (tt - lo) (hi - lo) T6.heap n0 Z7 ) hZ (hw _ (List.mem_of_getElem? (i := 33) rfl)) (hw _ (List.mem_of_getElem? (i := 32) rfl)) (by decide) (by decide)) (g := (mkF m 122 #[.val (.long a1), .second, .val (.long b1), .second, .val (.long t1), .second, .val (.int sel), .val (.long lo), .second, .val (.long hi), .second, .val (.ref b4), .val (.int (sel &&& (7 : Int32))), .val (.long tt), .second, .val (.int (fC tt lo hi)), .unset] [(.long (hi - lo)), (.long (tt - lo))])) rfl (by rw [hml]; rfl) (argsL := [(.long (tt - lo)), (.long (hi - lo))]) (rest := []) (lenOf pd0_3 rfl) rfl (by show 2 * 0 + _ ≤ _; exact Nat.le_of_eq rfl) (hb hby at_122) (fun _ _ => ⟨rfl, eh39, (by decide : 1 + 0 ≤ _), (by decide : 2 + 0 ≤ _)⟩)
            dsimp only [Pt.U, Pt.locs, Pt.cells, Pt.slots] at X40 l40 y40 z40 st40 hQ40
            subst l40 y40 z40
            obtain ⟨rfl, N40q, eh40⟩ := hQ40
            have N40 := Fr.app N39 N40q
            refine Go.by st40 ?_
            show Go _ _ _ _ _ _ _ (T40.setTop (mkF m 125 #[.val (.long a1), .second, .val (.long b1), .second, .val (.long t1), .second, .val (.int sel), .val (.long lo), .second, .val (.long hi), .second, .val (.ref b4), .val (.int (sel &&& (7 : Int32))), .val (.long tt), .second, .val (.int (fC tt lo hi)), .unset] [(.int (fU (tt - lo) (hi - lo)))]))
            refine Go.by (fun _ kont => XS.istore X40.here hx rfl (hb hby at_125) rfl (l' := #[.val (.long a1), .second, .val (.long b1), .second, .val (.long t1), .second, .val (.int sel), .val (.long lo), .second, .val (.long hi), .second, .val (.ref b4), .val (.int (sel &&& (7 : Int32))), .val (.long tt), .second, .val (.int (fC tt lo hi)), .val (.int (fU (tt - lo) (hi - lo)))]) rfl (XS.iload X40.here hx rfl (hb hby at_127) rfl (XS.iload X40.here hx rfl (hb hby at_129) rfl kont))) ?_
            show Go _ _ _ _ _ _ _ (T40.setTop (mkF m 131 #[.val (.long a1), .second, .val (.long b1), .second, .val (.long t1), .second, .val (.int sel), .val (.long lo), .second, .val (.long hi), .second, .val (.ref b4), .val (.int (sel &&& (7 : Int32))), .val (.long tt), .second, .val (.int (fC tt lo hi)), .val (.int (fU (tt - lo) (hi - lo)))] [(.int (fU (tt - lo) (hi - lo))), (.int (fC tt lo hi))]))
            have hd41 : (fC tt lo hi) = (fU (tt - lo) (hi - lo)) := own_ref _ _ _ hlt
            refine Go.by (fun _ kont => XS.icmpNo X40.here hx rfl (hb hby at_131) rfl (teq hd41).2 kont) ?_
            show Go _ _ _ _ _ _ _ (T40.setTop (mkF m 134 #[.val (.long a1), .second, .val (.long b1), .second, .val (.long t1), .second, .val (.int sel), .val (.long lo), .second, .val (.long hi), .second, .val (.ref b4), .val (.int (sel &&& (7 : Int32))), .val (.long tt), .second, .val (.int (fC tt lo hi)), .val (.int (fU (tt - lo) (hi - lo)))] []))
            refine Go.by (fun _ kont => XS.aload X40.here hx rfl (hb hby at_134) rfl rfl (XS.lload X40.here hx rfl (hb hby at_136) rfl kont)) ?_
            show Go _ _ _ _ _ _ _ (T40.setTop (mkF m 138 #[.val (.long a1), .second, .val (.long b1), .second, .val (.long t1), .second, .val (.int sel), .val (.long lo), .second, .val (.long hi), .second, .val (.ref b4), .val (.int (sel &&& (7 : Int32))), .val (.long tt), .second, .val (.int (fC tt lo hi)), .val (.int (fU (tt - lo) (hi - lo)))] [(.long lo), (.ref b4)]))
            obtain ⟨cq42, kq42, q42a, q42b, q42c⟩ := isOf hZ eh40 E6z
            obtain ⟨_, _, ⟨T42, L42, k42, n42⟩, -, X42, ⟨Lc42, hQ42, l42, y42, z42⟩, st42⟩ := X40.virtualBack hx (y := (⟨"com/example/runpulse/runpulse/Window", "contains", "(J)Z"⟩ : MethodName)) (z := (⟨"com/example/runpulse/runpulse/Window", "contains", "(J)Z"⟩ : MethodName)) hown (mvT hZ (hw _ (List.mem_of_getElem? (i := 25) rfl))) (mvT hZ (hw _ (List.mem_of_getElem? (i := 26) rfl))) (notFace_of_selects (args := #[]) (mvT hZ (hw _ (List.mem_of_getElem? (i := 28) rfl)))) (mvT hZ (hw _ (List.mem_of_getElem? (i := 28) rfl))) (mvT hZ (hw _ (List.mem_of_getElem? (i := 27) rfl))) (by decide) (backOf (W := 0) (rmC l Z a0 hw [] b4 lo lo hi T6.heap n0 Z7 F6z_s F6z_e) hZ (hw _ (List.mem_of_getElem? (i := 29) rfl)) (hw _ (List.mem_of_getElem? (i := 9) rfl)) (by decide) (by decide)) q42a q42c (g := (mkF m 138 #[.val (.long a1), .second, .val (.long b1), .second, .val (.long t1), .second, .val (.int sel), .val (.long lo), .second, .val (.long hi), .second, .val (.ref b4), .val (.int (sel &&& (7 : Int32))), .val (.long tt), .second, .val (.int (fC tt lo hi)), .val (.int (fU (tt - lo) (hi - lo)))] [(.long lo), (.ref b4)])) rfl (by rw [hml]; rfl) (Steps.refl _) (argsL := [(.long lo)]) (rest := []) (lenOf pd0_2 rfl) rfl (by show 2 * 0 + _ ≤ _; exact Nat.le_of_eq rfl) (hb hby at_138) (fun _ _ => ⟨rfl, eh40, (by decide : 1 + 0 ≤ _), (by decide : 2 + 0 ≤ _)⟩)
            dsimp only [Pt.U, Pt.locs, Pt.cells, Pt.slots] at X42 l42 y42 z42 st42 hQ42
            subst l42 y42 z42
            obtain ⟨rfl, N42q, eh42⟩ := hQ42
            have N42 := Fr.app N40 N42q
            refine Go.tr st42 ?_
            show Go _ _ _ _ _ _ _ (T42.setTop (mkF m 141 #[.val (.long a1), .second, .val (.long b1), .second, .val (.long t1), .second, .val (.int sel), .val (.long lo), .second, .val (.long hi), .second, .val (.ref b4), .val (.int (sel &&& (7 : Int32))), .val (.long tt), .second, .val (.int (fC tt lo hi)), .val (.int (fU (tt - lo) (hi - lo)))] [(.int (fC lo lo hi))]))
            have hd43 : ¬ ((fC lo lo hi) = (0 : Int32)) := by rw [own_lo _ _ hlt]; decide
            refine Go.by (fun _ kont => XS.ifNo X42.here hx rfl (hb hby at_141) rfl ((if0 _ _).trans (feq hd43).1) kont) ?_
            show Go _ _ _ _ _ _ _ (T42.setTop (mkF m 144 #[.val (.long a1), .second, .val (.long b1), .second, .val (.long t1), .second, .val (.int sel), .val (.long lo), .second, .val (.long hi), .second, .val (.ref b4), .val (.int (sel &&& (7 : Int32))), .val (.long tt), .second, .val (.int (fC tt lo hi)), .val (.int (fU (tt - lo) (hi - lo)))] []))
            refine Go.by (fun _ kont => XS.aload X42.here hx rfl (hb hby at_144) rfl rfl (XS.lload X42.here hx rfl (hb hby at_146) rfl kont)) ?_
            show Go _ _ _ _ _ _ _ (T42.setTop (mkF m 148 #[.val (.long a1), .second, .val (.long b1), .second, .val (.long t1), .second, .val (.int sel), .val (.long lo), .second, .val (.long hi), .second, .val (.ref b4), .val (.int (sel &&& (7 : Int32))), .val (.long tt), .second, .val (.int (fC tt lo hi)), .val (.int (fU (tt - lo) (hi - lo)))] [(.long hi), (.ref b4)]))
            obtain ⟨cq44, kq44, q44a, q44b, q44c⟩ := isOf hZ eh42 E6z
            obtain ⟨_, _, ⟨T44, L44, k44, n44⟩, -, X44, ⟨Lc44, hQ44, l44, y44, z44⟩, st44⟩ := X42.virtualBack hx (y := (⟨"com/example/runpulse/runpulse/Window", "contains", "(J)Z"⟩ : MethodName)) (z := (⟨"com/example/runpulse/runpulse/Window", "contains", "(J)Z"⟩ : MethodName)) hown (mvT hZ (hw _ (List.mem_of_getElem? (i := 25) rfl))) (mvT hZ (hw _ (List.mem_of_getElem? (i := 26) rfl))) (notFace_of_selects (args := #[]) (mvT hZ (hw _ (List.mem_of_getElem? (i := 28) rfl)))) (mvT hZ (hw _ (List.mem_of_getElem? (i := 28) rfl))) (mvT hZ (hw _ (List.mem_of_getElem? (i := 27) rfl))) (by decide) (backOf (W := 0) (rmC l Z a0 hw [] b4 hi lo hi T6.heap n0 Z7 F6z_s F6z_e) hZ (hw _ (List.mem_of_getElem? (i := 29) rfl)) (hw _ (List.mem_of_getElem? (i := 9) rfl)) (by decide) (by decide)) q44a q44c (g := (mkF m 148 #[.val (.long a1), .second, .val (.long b1), .second, .val (.long t1), .second, .val (.int sel), .val (.long lo), .second, .val (.long hi), .second, .val (.ref b4), .val (.int (sel &&& (7 : Int32))), .val (.long tt), .second, .val (.int (fC tt lo hi)), .val (.int (fU (tt - lo) (hi - lo)))] [(.long hi), (.ref b4)])) rfl (by rw [hml]; rfl) (Steps.refl _) (argsL := [(.long hi)]) (rest := []) (lenOf pd0_2 rfl) rfl (by show 2 * 0 + _ ≤ _; exact Nat.le_of_eq rfl) (hb hby at_148) (fun _ _ => ⟨rfl, eh42, (by decide : 1 + 0 ≤ _), (by decide : 2 + 0 ≤ _)⟩)
            dsimp only [Pt.U, Pt.locs, Pt.cells, Pt.slots] at X44 l44 y44 z44 st44 hQ44
            subst l44 y44 z44
            obtain ⟨rfl, N44q, eh44⟩ := hQ44
            have N44 := Fr.app N42 N44q
            refine Go.tr st44 ?_
            show Go _ _ _ _ _ _ _ (T44.setTop (mkF m 151 #[.val (.long a1), .second, .val (.long b1), .second, .val (.long t1), .second, .val (.int sel), .val (.long lo), .second, .val (.long hi), .second, .val (.ref b4), .val (.int (sel &&& (7 : Int32))), .val (.long tt), .second, .val (.int (fC tt lo hi)), .val (.int (fU (tt - lo) (hi - lo)))] [(.int (fC hi lo hi))]))
            have hd45 : (fC hi lo hi) = (0 : Int32) := own_hi _ _ hlt
            refine Go.by (fun _ kont => XS.ifNo X44.here hx rfl (hb hby at_151) rfl ((if0 _ _).trans (teq hd45).2) kont) ?_
            show Go _ _ _ _ _ _ _ (T44.setTop (mkF m 154 #[.val (.long a1), .second, .val (.long b1), .second, .val (.long t1), .second, .val (.int sel), .val (.long lo), .second, .val (.long hi), .second, .val (.ref b4), .val (.int (sel &&& (7 : Int32))), .val (.long tt), .second, .val (.int (fC tt lo hi)), .val (.int (fU (tt - lo) (hi - lo)))] []))
            refine Go.by (fun _ kont => XS.aload X44.here hx rfl (hb hby at_154) rfl rfl (XS.lload X44.here hx rfl (hb hby at_156) rfl (XS.lconst X44.here hx rfl (hb hby at_158) (XS.lsub X44.here hx rfl (hb hby at_159) rfl kont)))) ?_
            show Go _ _ _ _ _ _ _ (T44.setTop (mkF m 160 #[.val (.long a1), .second, .val (.long b1), .second, .val (.long t1), .second, .val (.int sel), .val (.long lo), .second, .val (.long hi), .second, .val (.ref b4), .val (.int (sel &&& (7 : Int32))), .val (.long tt), .second, .val (.int (fC tt lo hi)), .val (.int (fU (tt - lo) (hi - lo)))] [(.long (hi - (1 : Int64))), (.ref b4)]))
            obtain ⟨cq46, kq46, q46a, q46b, q46c⟩ := isOf hZ eh44 E6z
            obtain ⟨_, _, ⟨T46, L46, k46, n46⟩, -, X46, ⟨Lc46, hQ46, l46, y46, z46⟩, st46⟩ := X44.virtualBack hx (y := (⟨"com/example/runpulse/runpulse/Window", "contains", "(J)Z"⟩ : MethodName)) (z := (⟨"com/example/runpulse/runpulse/Window", "contains", "(J)Z"⟩ : MethodName)) hown (mvT hZ (hw _ (List.mem_of_getElem? (i := 25) rfl))) (mvT hZ (hw _ (List.mem_of_getElem? (i := 26) rfl))) (notFace_of_selects (args := #[]) (mvT hZ (hw _ (List.mem_of_getElem? (i := 28) rfl)))) (mvT hZ (hw _ (List.mem_of_getElem? (i := 28) rfl))) (mvT hZ (hw _ (List.mem_of_getElem? (i := 27) rfl))) (by decide) (backOf (W := 0) (rmC l Z a0 hw [] b4 (hi - (1 : Int64)) lo hi T6.heap n0 Z7 F6z_s F6z_e) hZ (hw _ (List.mem_of_getElem? (i := 29) rfl)) (hw _ (List.mem_of_getElem? (i := 9) rfl)) (by decide) (by decide)) q46a q46c (g := (mkF m 160 #[.val (.long a1), .second, .val (.long b1), .second, .val (.long t1), .second, .val (.int sel), .val (.long lo), .second, .val (.long hi), .second, .val (.ref b4), .val (.int (sel &&& (7 : Int32))), .val (.long tt), .second, .val (.int (fC tt lo hi)), .val (.int (fU (tt - lo) (hi - lo)))] [(.long (hi - (1 : Int64))), (.ref b4)])) rfl (by rw [hml]; rfl) (Steps.refl _) (argsL := [(.long (hi - (1 : Int64)))]) (rest := []) (lenOf pd0_2 rfl) rfl (by show 2 * 0 + _ ≤ _; exact Nat.le_of_eq rfl) (hb hby at_160) (fun _ _ => ⟨rfl, eh44, (by decide : 1 + 0 ≤ _), (by decide : 2 + 0 ≤ _)⟩)
            dsimp only [Pt.U, Pt.locs, Pt.cells, Pt.slots] at X46 l46 y46 z46 st46 hQ46
            subst l46 y46 z46
            obtain ⟨rfl, N46q, eh46⟩ := hQ46
            have N46 := Fr.app N44 N46q
            refine Go.tr st46 ?_
            show Go _ _ _ _ _ _ _ (T46.setTop (mkF m 163 #[.val (.long a1), .second, .val (.long b1), .second, .val (.long t1), .second, .val (.int sel), .val (.long lo), .second, .val (.long hi), .second, .val (.ref b4), .val (.int (sel &&& (7 : Int32))), .val (.long tt), .second, .val (.int (fC tt lo hi)), .val (.int (fU (tt - lo) (hi - lo)))] [(.int (fC (hi - (1 : Int64)) lo hi))]))
            have hd47 : ¬ ((fC (hi - (1 : Int64)) lo hi) = (0 : Int32)) := by rw [own_hi1 _ _ hlt]; decide
            refine Go.by (fun _ kont => XS.ifNo X46.here hx rfl (hb hby at_163) rfl ((if0 _ _).trans (feq hd47).1) kont) ?_
            show Go _ _ _ _ _ _ _ (T46.setTop (mkF m 166 #[.val (.long a1), .second, .val (.long b1), .second, .val (.long t1), .second, .val (.int sel), .val (.long lo), .second, .val (.long hi), .second, .val (.ref b4), .val (.int (sel &&& (7 : Int32))), .val (.long tt), .second, .val (.int (fC tt lo hi)), .val (.int (fU (tt - lo) (hi - lo)))] []))
            refine Go.by (fun _ kont => XS.iconst X46.here hx rfl (hb hby at_166) (XS.goto X46.here hx rfl (pc0 := 167) (pc' := 171) rfl (hb hby at_167) (by decide) (by decide) kont)) ?_
            show Go _ _ _ _ _ _ _ (T46.setTop (mkF m 171 #[.val (.long a1), .second, .val (.long b1), .second, .val (.long t1), .second, .val (.int sel), .val (.long lo), .second, .val (.long hi), .second, .val (.ref b4), .val (.int (sel &&& (7 : Int32))), .val (.long tt), .second, .val (.int (fC tt lo hi)), .val (.int (fU (tt - lo) (hi - lo)))] [(.int (1 : Int32))]))
            refine Go.retN X46 hx (t := .boolean) hret (by simp) hlk (hb hby at_171) ?_ (by decide) (by decide)
            show Q0 Z h0 n0 (some (.int (1 : Int32))) T46.heap _
            rw [eh46]
            exact ⟨rfl, N46⟩
          · refine Go.by (fun _ kont => XS.icmpYes X6.here hx rfl (pc0 := 87) (pc' := 99) rfl (hb hby at_87) rfl (feq hc38).2 (by decide) (by decide) kont) ?_
            show Go _ _ _ _ _ _ _ (T6.setTop (mkF m 99 #[.val (.long a1), .second, .val (.long b1), .second, .val (.long t1), .second, .val (.int sel), .val (.long lo), .second, .val (.long hi), .second, .val (.ref b4), .val (.int (sel &&& (7 : Int32))), .unset, .unset, .unset, .unset] []))
            refine Go.by (fun _ kont => XS.lload X6.here hx rfl (hb hby at_99) rfl (XS.lstore X6.here hx rfl (hb hby at_101) rfl (l' := #[.val (.long a1), .second, .val (.long b1), .second, .val (.long t1), .second, .val (.int sel), .val (.long lo), .second, .val (.long hi), .second, .val (.ref b4), .val (.int (sel &&& (7 : Int32))), .val (.long t1), .second, .unset, .unset]) rfl kont)) ?_
            show Go _ _ _ _ _ _ _ (T6.setTop (mkF m 103 #[.val (.long a1), .second, .val (.long b1), .second, .val (.long t1), .second, .val (.int sel), .val (.long lo), .second, .val (.long hi), .second, .val (.ref b4), .val (.int (sel &&& (7 : Int32))), .val (.long t1), .second, .unset, .unset] []))
            show Go _ _ _ _ _ _ _ (T6.setTop (mkF m 103 #[.val (.long a1), .second, .val (.long b1), .second, .val (.long t1), .second, .val (.int sel), .val (.long lo), .second, .val (.long hi), .second, .val (.ref b4), .val (.int (sel &&& (7 : Int32))), .val (.long t1), .second, .unset, .unset] []))
            refine Go.by (fun _ kont => XS.aload X6.here hx rfl (hb hby at_103) rfl rfl (XS.lload X6.here hx rfl (hb hby at_105) rfl kont)) ?_
            show Go _ _ _ _ _ _ _ (T6.setTop (mkF m 107 #[.val (.long a1), .second, .val (.long b1), .second, .val (.long t1), .second, .val (.int sel), .val (.long lo), .second, .val (.long hi), .second, .val (.ref b4), .val (.int (sel &&& (7 : Int32))), .val (.long t1), .second, .unset, .unset] [(.long t1), (.ref b4)]))
            obtain ⟨cq48, kq48, q48a, q48b, q48c⟩ := isOf hZ rfl E6z
            obtain ⟨_, _, ⟨T48, L48, k48, n48⟩, -, X48, ⟨Lc48, hQ48, l48, y48, z48⟩, st48⟩ := X6.virtualBack hx (y := (⟨"com/example/runpulse/runpulse/Window", "contains", "(J)Z"⟩ : MethodName)) (z := (⟨"com/example/runpulse/runpulse/Window", "contains", "(J)Z"⟩ : MethodName)) hown (mvT hZ (hw _ (List.mem_of_getElem? (i := 25) rfl))) (mvT hZ (hw _ (List.mem_of_getElem? (i := 26) rfl))) (notFace_of_selects (args := #[]) (mvT hZ (hw _ (List.mem_of_getElem? (i := 28) rfl)))) (mvT hZ (hw _ (List.mem_of_getElem? (i := 28) rfl))) (mvT hZ (hw _ (List.mem_of_getElem? (i := 27) rfl))) (by decide) (backOf (W := 0) (rmC l Z a0 hw [] b4 t1 lo hi T6.heap n0 Z7 F6z_s F6z_e) hZ (hw _ (List.mem_of_getElem? (i := 29) rfl)) (hw _ (List.mem_of_getElem? (i := 9) rfl)) (by decide) (by decide)) q48a q48c (g := (mkF m 107 #[.val (.long a1), .second, .val (.long b1), .second, .val (.long t1), .second, .val (.int sel), .val (.long lo), .second, .val (.long hi), .second, .val (.ref b4), .val (.int (sel &&& (7 : Int32))), .val (.long t1), .second, .unset, .unset] [(.long t1), (.ref b4)])) rfl (by rw [hml]; rfl) (Steps.refl _) (argsL := [(.long t1)]) (rest := []) (lenOf pd0_2 rfl) rfl (by show 2 * 0 + _ ≤ _; exact Nat.le_of_eq rfl) (hb hby at_107) (fun _ _ => ⟨rfl, rfl, (by decide : 1 + 0 ≤ _), (by decide : 2 + 0 ≤ _)⟩)
            dsimp only [Pt.U, Pt.locs, Pt.cells, Pt.slots] at X48 l48 y48 z48 st48 hQ48
            subst l48 y48 z48
            obtain ⟨rfl, N48q, eh48⟩ := hQ48
            have N48 := Fr.app N6 N48q
            refine Go.tr st48 ?_
            show Go _ _ _ _ _ _ _ (T48.setTop (mkF m 110 #[.val (.long a1), .second, .val (.long b1), .second, .val (.long t1), .second, .val (.int sel), .val (.long lo), .second, .val (.long hi), .second, .val (.ref b4), .val (.int (sel &&& (7 : Int32))), .val (.long t1), .second, .unset, .unset] [(.int (fC t1 lo hi))]))
            refine Go.by (fun _ kont => XS.istore X48.here hx rfl (hb hby at_110) rfl (l' := #[.val (.long a1), .second, .val (.long b1), .second, .val (.long t1), .second, .val (.int sel), .val (.long lo), .second, .val (.long hi), .second, .val (.ref b4), .val (.int (sel &&& (7 : Int32))), .val (.long t1), .second, .val (.int (fC t1 lo hi)), .unset]) rfl (XS.lload X48.here hx rfl (hb hby at_112) rfl (XS.lload X48.here hx rfl (hb hby at_114) rfl (XS.lsub X48.here hx rfl (hb hby at_116) rfl (XS.lload X48.here hx rfl (hb hby at_117) rfl (XS.lload X48.here hx rfl (hb hby at_119) rfl kont)))))) ?_
            show Go _ _ _ _ _ _ _ (T48.setTop (mkF m 121 #[.val (.long a1), .second, .val (.long b1), .second, .val (.long t1), .second, .val (.int sel), .val (.long lo), .second, .val (.long hi), .second, .val (.ref b4), .val (.int (sel &&& (7 : Int32))), .val (.long t1), .second, .val (.int (fC t1 lo hi)), .unset] [(.long lo), (.long hi), (.long (t1 - lo))]))
            refine Go.by (fun _ kont => XS.lsub X48.here hx rfl (hb hby at_121) rfl kont) ?_
            show Go _ _ _ _ _ _ _ (T48.setTop (mkF m 122 #[.val (.long a1), .second, .val (.long b1), .second, .val (.long t1), .second, .val (.int sel), .val (.long lo), .second, .val (.long hi), .second, .val (.ref b4), .val (.int (sel &&& (7 : Int32))), .val (.long t1), .second, .val (.int (fC t1 lo hi)), .unset] [(.long (hi - lo)), (.long (t1 - lo))]))
            obtain ⟨_, _, ⟨T49, L49, k49, n49⟩, -, X49, ⟨Lc49, hQ49, l49, y49, z49⟩, st49⟩ := Jvm.LawKit.callS X48 hx (y := (⟨"com/example/runpulse/runpulse/WindowContainsPinLaw", "unsignedLess", "(JJ)Z"⟩ : MethodName)) hown (mvT hZ (hw _ (List.mem_of_getElem? (i := 30) rfl))) (mvT hZ (hw _ (List.mem_of_getElem? (i := 31) rfl))) (mvT hZ (hw _ (List.mem_of_getElem? (i := 32) rfl))) (mvT hZ (hw _ (List.mem_of_getElem? (i := 33) rfl))) (by decide) (backOf (W := 0) (rmU l Z a0 hw [] (t1 - lo) (hi - lo) T6.heap n0 Z7 ) hZ (hw _ (List.mem_of_getElem? (i := 33) rfl)) (hw _ (List.mem_of_getElem? (i := 32) rfl)) (by decide) (by decide)) (g := (mkF m 122 #[.val (.long a1), .second, .val (.long b1), .second, .val (.long t1), .second, .val (.int sel), .val (.long lo), .second, .val (.long hi), .second, .val (.ref b4), .val (.int (sel &&& (7 : Int32))), .val (.long t1), .second, .val (.int (fC t1 lo hi)), .unset] [(.long (hi - lo)), (.long (t1 - lo))])) rfl (by rw [hml]; rfl) (argsL := [(.long (t1 - lo)), (.long (hi - lo))]) (rest := []) (lenOf pd0_3 rfl) rfl (by show 2 * 0 + _ ≤ _; exact Nat.le_of_eq rfl) (hb hby at_122) (fun _ _ => ⟨rfl, eh48, (by decide : 1 + 0 ≤ _), (by decide : 2 + 0 ≤ _)⟩)
            dsimp only [Pt.U, Pt.locs, Pt.cells, Pt.slots] at X49 l49 y49 z49 st49 hQ49
            subst l49 y49 z49
            obtain ⟨rfl, N49q, eh49⟩ := hQ49
            have N49 := Fr.app N48 N49q
            refine Go.by st49 ?_
            show Go _ _ _ _ _ _ _ (T49.setTop (mkF m 125 #[.val (.long a1), .second, .val (.long b1), .second, .val (.long t1), .second, .val (.int sel), .val (.long lo), .second, .val (.long hi), .second, .val (.ref b4), .val (.int (sel &&& (7 : Int32))), .val (.long t1), .second, .val (.int (fC t1 lo hi)), .unset] [(.int (fU (t1 - lo) (hi - lo)))]))
            refine Go.by (fun _ kont => XS.istore X49.here hx rfl (hb hby at_125) rfl (l' := #[.val (.long a1), .second, .val (.long b1), .second, .val (.long t1), .second, .val (.int sel), .val (.long lo), .second, .val (.long hi), .second, .val (.ref b4), .val (.int (sel &&& (7 : Int32))), .val (.long t1), .second, .val (.int (fC t1 lo hi)), .val (.int (fU (t1 - lo) (hi - lo)))]) rfl (XS.iload X49.here hx rfl (hb hby at_127) rfl (XS.iload X49.here hx rfl (hb hby at_129) rfl kont))) ?_
            show Go _ _ _ _ _ _ _ (T49.setTop (mkF m 131 #[.val (.long a1), .second, .val (.long b1), .second, .val (.long t1), .second, .val (.int sel), .val (.long lo), .second, .val (.long hi), .second, .val (.ref b4), .val (.int (sel &&& (7 : Int32))), .val (.long t1), .second, .val (.int (fC t1 lo hi)), .val (.int (fU (t1 - lo) (hi - lo)))] [(.int (fU (t1 - lo) (hi - lo))), (.int (fC t1 lo hi))]))
            have hd50 : (fC t1 lo hi) = (fU (t1 - lo) (hi - lo)) := own_ref _ _ _ hlt
            refine Go.by (fun _ kont => XS.icmpNo X49.here hx rfl (hb hby at_131) rfl (teq hd50).2 kont) ?_
            show Go _ _ _ _ _ _ _ (T49.setTop (mkF m 134 #[.val (.long a1), .second, .val (.long b1), .second, .val (.long t1), .second, .val (.int sel), .val (.long lo), .second, .val (.long hi), .second, .val (.ref b4), .val (.int (sel &&& (7 : Int32))), .val (.long t1), .second, .val (.int (fC t1 lo hi)), .val (.int (fU (t1 - lo) (hi - lo)))] []))
            refine Go.by (fun _ kont => XS.aload X49.here hx rfl (hb hby at_134) rfl rfl (XS.lload X49.here hx rfl (hb hby at_136) rfl kont)) ?_
            show Go _ _ _ _ _ _ _ (T49.setTop (mkF m 138 #[.val (.long a1), .second, .val (.long b1), .second, .val (.long t1), .second, .val (.int sel), .val (.long lo), .second, .val (.long hi), .second, .val (.ref b4), .val (.int (sel &&& (7 : Int32))), .val (.long t1), .second, .val (.int (fC t1 lo hi)), .val (.int (fU (t1 - lo) (hi - lo)))] [(.long lo), (.ref b4)]))
            obtain ⟨cq51, kq51, q51a, q51b, q51c⟩ := isOf hZ eh49 E6z
            obtain ⟨_, _, ⟨T51, L51, k51, n51⟩, -, X51, ⟨Lc51, hQ51, l51, y51, z51⟩, st51⟩ := X49.virtualBack hx (y := (⟨"com/example/runpulse/runpulse/Window", "contains", "(J)Z"⟩ : MethodName)) (z := (⟨"com/example/runpulse/runpulse/Window", "contains", "(J)Z"⟩ : MethodName)) hown (mvT hZ (hw _ (List.mem_of_getElem? (i := 25) rfl))) (mvT hZ (hw _ (List.mem_of_getElem? (i := 26) rfl))) (notFace_of_selects (args := #[]) (mvT hZ (hw _ (List.mem_of_getElem? (i := 28) rfl)))) (mvT hZ (hw _ (List.mem_of_getElem? (i := 28) rfl))) (mvT hZ (hw _ (List.mem_of_getElem? (i := 27) rfl))) (by decide) (backOf (W := 0) (rmC l Z a0 hw [] b4 lo lo hi T6.heap n0 Z7 F6z_s F6z_e) hZ (hw _ (List.mem_of_getElem? (i := 29) rfl)) (hw _ (List.mem_of_getElem? (i := 9) rfl)) (by decide) (by decide)) q51a q51c (g := (mkF m 138 #[.val (.long a1), .second, .val (.long b1), .second, .val (.long t1), .second, .val (.int sel), .val (.long lo), .second, .val (.long hi), .second, .val (.ref b4), .val (.int (sel &&& (7 : Int32))), .val (.long t1), .second, .val (.int (fC t1 lo hi)), .val (.int (fU (t1 - lo) (hi - lo)))] [(.long lo), (.ref b4)])) rfl (by rw [hml]; rfl) (Steps.refl _) (argsL := [(.long lo)]) (rest := []) (lenOf pd0_2 rfl) rfl (by show 2 * 0 + _ ≤ _; exact Nat.le_of_eq rfl) (hb hby at_138) (fun _ _ => ⟨rfl, eh49, (by decide : 1 + 0 ≤ _), (by decide : 2 + 0 ≤ _)⟩)
            dsimp only [Pt.U, Pt.locs, Pt.cells, Pt.slots] at X51 l51 y51 z51 st51 hQ51
            subst l51 y51 z51
            obtain ⟨rfl, N51q, eh51⟩ := hQ51
            have N51 := Fr.app N49 N51q
            refine Go.tr st51 ?_
            show Go _ _ _ _ _ _ _ (T51.setTop (mkF m 141 #[.val (.long a1), .second, .val (.long b1), .second, .val (.long t1), .second, .val (.int sel), .val (.long lo), .second, .val (.long hi), .second, .val (.ref b4), .val (.int (sel &&& (7 : Int32))), .val (.long t1), .second, .val (.int (fC t1 lo hi)), .val (.int (fU (t1 - lo) (hi - lo)))] [(.int (fC lo lo hi))]))
            have hd52 : ¬ ((fC lo lo hi) = (0 : Int32)) := by rw [own_lo _ _ hlt]; decide
            refine Go.by (fun _ kont => XS.ifNo X51.here hx rfl (hb hby at_141) rfl ((if0 _ _).trans (feq hd52).1) kont) ?_
            show Go _ _ _ _ _ _ _ (T51.setTop (mkF m 144 #[.val (.long a1), .second, .val (.long b1), .second, .val (.long t1), .second, .val (.int sel), .val (.long lo), .second, .val (.long hi), .second, .val (.ref b4), .val (.int (sel &&& (7 : Int32))), .val (.long t1), .second, .val (.int (fC t1 lo hi)), .val (.int (fU (t1 - lo) (hi - lo)))] []))
            refine Go.by (fun _ kont => XS.aload X51.here hx rfl (hb hby at_144) rfl rfl (XS.lload X51.here hx rfl (hb hby at_146) rfl kont)) ?_
            show Go _ _ _ _ _ _ _ (T51.setTop (mkF m 148 #[.val (.long a1), .second, .val (.long b1), .second, .val (.long t1), .second, .val (.int sel), .val (.long lo), .second, .val (.long hi), .second, .val (.ref b4), .val (.int (sel &&& (7 : Int32))), .val (.long t1), .second, .val (.int (fC t1 lo hi)), .val (.int (fU (t1 - lo) (hi - lo)))] [(.long hi), (.ref b4)]))
            obtain ⟨cq53, kq53, q53a, q53b, q53c⟩ := isOf hZ eh51 E6z
            obtain ⟨_, _, ⟨T53, L53, k53, n53⟩, -, X53, ⟨Lc53, hQ53, l53, y53, z53⟩, st53⟩ := X51.virtualBack hx (y := (⟨"com/example/runpulse/runpulse/Window", "contains", "(J)Z"⟩ : MethodName)) (z := (⟨"com/example/runpulse/runpulse/Window", "contains", "(J)Z"⟩ : MethodName)) hown (mvT hZ (hw _ (List.mem_of_getElem? (i := 25) rfl))) (mvT hZ (hw _ (List.mem_of_getElem? (i := 26) rfl))) (notFace_of_selects (args := #[]) (mvT hZ (hw _ (List.mem_of_getElem? (i := 28) rfl)))) (mvT hZ (hw _ (List.mem_of_getElem? (i := 28) rfl))) (mvT hZ (hw _ (List.mem_of_getElem? (i := 27) rfl))) (by decide) (backOf (W := 0) (rmC l Z a0 hw [] b4 hi lo hi T6.heap n0 Z7 F6z_s F6z_e) hZ (hw _ (List.mem_of_getElem? (i := 29) rfl)) (hw _ (List.mem_of_getElem? (i := 9) rfl)) (by decide) (by decide)) q53a q53c (g := (mkF m 148 #[.val (.long a1), .second, .val (.long b1), .second, .val (.long t1), .second, .val (.int sel), .val (.long lo), .second, .val (.long hi), .second, .val (.ref b4), .val (.int (sel &&& (7 : Int32))), .val (.long t1), .second, .val (.int (fC t1 lo hi)), .val (.int (fU (t1 - lo) (hi - lo)))] [(.long hi), (.ref b4)])) rfl (by rw [hml]; rfl) (Steps.refl _) (argsL := [(.long hi)]) (rest := []) (lenOf pd0_2 rfl) rfl (by show 2 * 0 + _ ≤ _; exact Nat.le_of_eq rfl) (hb hby at_148) (fun _ _ => ⟨rfl, eh51, (by decide : 1 + 0 ≤ _), (by decide : 2 + 0 ≤ _)⟩)
            dsimp only [Pt.U, Pt.locs, Pt.cells, Pt.slots] at X53 l53 y53 z53 st53 hQ53
            subst l53 y53 z53
            obtain ⟨rfl, N53q, eh53⟩ := hQ53
            have N53 := Fr.app N51 N53q
            refine Go.tr st53 ?_
            show Go _ _ _ _ _ _ _ (T53.setTop (mkF m 151 #[.val (.long a1), .second, .val (.long b1), .second, .val (.long t1), .second, .val (.int sel), .val (.long lo), .second, .val (.long hi), .second, .val (.ref b4), .val (.int (sel &&& (7 : Int32))), .val (.long t1), .second, .val (.int (fC t1 lo hi)), .val (.int (fU (t1 - lo) (hi - lo)))] [(.int (fC hi lo hi))]))
            have hd54 : (fC hi lo hi) = (0 : Int32) := own_hi _ _ hlt
            refine Go.by (fun _ kont => XS.ifNo X53.here hx rfl (hb hby at_151) rfl ((if0 _ _).trans (teq hd54).2) kont) ?_
            show Go _ _ _ _ _ _ _ (T53.setTop (mkF m 154 #[.val (.long a1), .second, .val (.long b1), .second, .val (.long t1), .second, .val (.int sel), .val (.long lo), .second, .val (.long hi), .second, .val (.ref b4), .val (.int (sel &&& (7 : Int32))), .val (.long t1), .second, .val (.int (fC t1 lo hi)), .val (.int (fU (t1 - lo) (hi - lo)))] []))
            refine Go.by (fun _ kont => XS.aload X53.here hx rfl (hb hby at_154) rfl rfl (XS.lload X53.here hx rfl (hb hby at_156) rfl (XS.lconst X53.here hx rfl (hb hby at_158) (XS.lsub X53.here hx rfl (hb hby at_159) rfl kont)))) ?_
            show Go _ _ _ _ _ _ _ (T53.setTop (mkF m 160 #[.val (.long a1), .second, .val (.long b1), .second, .val (.long t1), .second, .val (.int sel), .val (.long lo), .second, .val (.long hi), .second, .val (.ref b4), .val (.int (sel &&& (7 : Int32))), .val (.long t1), .second, .val (.int (fC t1 lo hi)), .val (.int (fU (t1 - lo) (hi - lo)))] [(.long (hi - (1 : Int64))), (.ref b4)]))
            obtain ⟨cq55, kq55, q55a, q55b, q55c⟩ := isOf hZ eh53 E6z
            obtain ⟨_, _, ⟨T55, L55, k55, n55⟩, -, X55, ⟨Lc55, hQ55, l55, y55, z55⟩, st55⟩ := X53.virtualBack hx (y := (⟨"com/example/runpulse/runpulse/Window", "contains", "(J)Z"⟩ : MethodName)) (z := (⟨"com/example/runpulse/runpulse/Window", "contains", "(J)Z"⟩ : MethodName)) hown (mvT hZ (hw _ (List.mem_of_getElem? (i := 25) rfl))) (mvT hZ (hw _ (List.mem_of_getElem? (i := 26) rfl))) (notFace_of_selects (args := #[]) (mvT hZ (hw _ (List.mem_of_getElem? (i := 28) rfl)))) (mvT hZ (hw _ (List.mem_of_getElem? (i := 28) rfl))) (mvT hZ (hw _ (List.mem_of_getElem? (i := 27) rfl))) (by decide) (backOf (W := 0) (rmC l Z a0 hw [] b4 (hi - (1 : Int64)) lo hi T6.heap n0 Z7 F6z_s F6z_e) hZ (hw _ (List.mem_of_getElem? (i := 29) rfl)) (hw _ (List.mem_of_getElem? (i := 9) rfl)) (by decide) (by decide)) q55a q55c (g := (mkF m 160 #[.val (.long a1), .second, .val (.long b1), .second, .val (.long t1), .second, .val (.int sel), .val (.long lo), .second, .val (.long hi), .second, .val (.ref b4), .val (.int (sel &&& (7 : Int32))), .val (.long t1), .second, .val (.int (fC t1 lo hi)), .val (.int (fU (t1 - lo) (hi - lo)))] [(.long (hi - (1 : Int64))), (.ref b4)])) rfl (by rw [hml]; rfl) (Steps.refl _) (argsL := [(.long (hi - (1 : Int64)))]) (rest := []) (lenOf pd0_2 rfl) rfl (by show 2 * 0 + _ ≤ _; exact Nat.le_of_eq rfl) (hb hby at_160) (fun _ _ => ⟨rfl, eh53, (by decide : 1 + 0 ≤ _), (by decide : 2 + 0 ≤ _)⟩)
            dsimp only [Pt.U, Pt.locs, Pt.cells, Pt.slots] at X55 l55 y55 z55 st55 hQ55
            subst l55 y55 z55
            obtain ⟨rfl, N55q, eh55⟩ := hQ55
            have N55 := Fr.app N53 N55q
            refine Go.tr st55 ?_
            show Go _ _ _ _ _ _ _ (T55.setTop (mkF m 163 #[.val (.long a1), .second, .val (.long b1), .second, .val (.long t1), .second, .val (.int sel), .val (.long lo), .second, .val (.long hi), .second, .val (.ref b4), .val (.int (sel &&& (7 : Int32))), .val (.long t1), .second, .val (.int (fC t1 lo hi)), .val (.int (fU (t1 - lo) (hi - lo)))] [(.int (fC (hi - (1 : Int64)) lo hi))]))
            have hd56 : ¬ ((fC (hi - (1 : Int64)) lo hi) = (0 : Int32)) := by rw [own_hi1 _ _ hlt]; decide
            refine Go.by (fun _ kont => XS.ifNo X55.here hx rfl (hb hby at_163) rfl ((if0 _ _).trans (feq hd56).1) kont) ?_
            show Go _ _ _ _ _ _ _ (T55.setTop (mkF m 166 #[.val (.long a1), .second, .val (.long b1), .second, .val (.long t1), .second, .val (.int sel), .val (.long lo), .second, .val (.long hi), .second, .val (.ref b4), .val (.int (sel &&& (7 : Int32))), .val (.long t1), .second, .val (.int (fC t1 lo hi)), .val (.int (fU (t1 - lo) (hi - lo)))] []))
            refine Go.by (fun _ kont => XS.iconst X55.here hx rfl (hb hby at_166) (XS.goto X55.here hx rfl (pc0 := 167) (pc' := 171) rfl (hb hby at_167) (by decide) (by decide) kont)) ?_
            show Go _ _ _ _ _ _ _ (T55.setTop (mkF m 171 #[.val (.long a1), .second, .val (.long b1), .second, .val (.long t1), .second, .val (.int sel), .val (.long lo), .second, .val (.long hi), .second, .val (.ref b4), .val (.int (sel &&& (7 : Int32))), .val (.long t1), .second, .val (.int (fC t1 lo hi)), .val (.int (fU (t1 - lo) (hi - lo)))] [(.int (1 : Int32))]))
            refine Go.retN X55 hx (t := .boolean) hret (by simp) hlk (hb hby at_171) ?_ (by decide) (by decide)
            show Q0 Z h0 n0 (some (.int (1 : Int32))) T55.heap _
            rw [eh55]
            exact ⟨rfl, N55⟩

set_option maxRecDepth 65536 in
set_option maxHeartbeats 40000000 in
theorem comes_1 {Post : Tables → Env → Array Value → State → Outcome → State → Prop} (hpost : ∀ tb e args s v u, (limb_1_1.after args s (.returned v) u = true ∧ limb_1_2.after args s (.returned v) u = true ∧ True) → FrameEnd s (.returned v) u (Jvm.fieldLocs frame_1_writes args s ++ Jvm.arrayLocs frame_1_arrays args s ++ Jvm.staticLocs frame_1_statics s) 16 128 → Post tb e args s (.returned v) u) :
    ArmFor flags0 classFile x code maxLocals ret World_1 tables_1 room_1 Calls_1 rest_1 Pre_1 Post := by
  intro l hfl _ _ p e ha hc hk s m args below hf hA hF happ hP
  obtain ⟨hcalls, hrest, hpre⟩ := hP
  obtain ⟨-, -, -, hnamed, -, -, -, hat⟩ := (Spec.applies_iff hf).mp happ
  obtain ⟨hg, hn⟩ := and_e (Cond.before_iff.mp (show (Jvm.Cond.and given_1 narrow_1).before args s = true from hpre))
  obtain ⟨hh1, hh2⟩ := and_e hg
  obtain ⟨hh3, hh4⟩ := and_e hh2
  obtain ⟨hh5, hh6⟩ := and_e hh4
  obtain ⟨hh7, hh8⟩ := and_e hh6
  obtain ⟨w0, w1, w2, w3, rfl⟩ : ∃ w0 w1 w2 w3 : Value, args = #[w0, w1, w2, w3] := by
    have hs : args.size = 4 := by simpa [Cond.value, given_1] using hh1
    obtain ⟨L⟩ := args
    match L, hs with
    | [w0, w1, w2, w3], _ => exact ⟨w0, w1, w2, w3, rfl⟩
  have hw := fun d (hd : d ∈ tables_1) => atoms_spec (ws := Jvm.Cond.code x code maxLocals ret :: tables_1) hat d (List.mem_cons_of_mem _ hd)
  obtain ⟨i0, ei0⟩ := isL_v hh3
  obtain rfl : w0 = (.long i0) := Option.some.inj ei0
  obtain ⟨i1, ei1⟩ := isL_v hh5
  obtain rfl : w1 = (.long i1) := Option.some.inj ei1
  obtain ⟨i2, ei2⟩ := isL_v hh7
  obtain rfl : w2 = (.long i2) := Option.some.inj ei2
  obtain ⟨i3, ei3⟩ := is_v hh8
  obtain rfl : w3 = (.int i3) := Option.some.inj ei3
  obtain ⟨n, o, h1, h2, h3, _, L, rfl, ⟨rfl, N⟩, hq⟩ := rm0 l s _ hw tables_1 i0 i1 i2 i3  s.heap s.heap.size (Nat.le_refl _)  p e ha hc hk s m _ below hf ((Spec.applies_iff_loose hf).mp happ).1 ⟨rfl, State.Warmed39.refl s, rfl⟩ trivial
  refine ⟨n, _, h1, h2, h3, hpost _ _ _ _ _ _ ⟨Cond.after_iff.mpr rfl, Cond.after_iff.mpr (eq_i res_at (Term.int_eval (1)) rfl), trivial⟩ ⟨hq.1, hq.2.1, (hq.2.2.sift fun y hy => Or.inr (N y hy)).mono (by decide) (by decide)⟩⟩
theorem main_1_1 : Claimed_1_1 := comes_1 fun _ _ _ _ _ _ h hF => ⟨h.1, hF⟩
theorem main_1_2 : Claimed_1_2 := comes_1 fun _ _ _ _ _ _ h hF => ⟨h.2.1, hF⟩

end Jvm.Pilot.@@N@@
namespace Jvm.Pilot.@@N@@
open Jvm Jvm.ClassFile Sem Op Lib Jvm.Free Jvm.Stand Jvm.Pilot.@@N@@.Jvm.D
/-! MADE BY PROGRAM (witnessworld.py) out of the Statement's table words and the real class files: 11 classes; the members and pool entries that the words name. The judged class is class 1, her method 2. -/
namespace start1
open Jvm.ClassFile
def u (s : String) : CpInfo := .utf8 (stringToUtf16 s)
/-- a pool by its gaps: so many unusable entries, then the entry; so many at the end -/
def gap : Nat → List CpInfo → List CpInfo
  | 0, r => r
  | n + 1, r => .unusable :: gap n r
def poolList (es : List (Nat × CpInfo)) (last : Nat) : List CpInfo := es.foldr (fun e r => gap e.1 (e.2 :: r)) (gap last [])
def pool (es : List (Nat × CpInfo)) (last : Nat) : Array CpInfo := ⟨poolList es last⟩
def fileOf (pool : Array CpInfo) (this : Nat) (attrs : Array Attribute := #[]) (ms : Array MethodInfo := #[]) (fl : Nat := 33) (sup : Nat := 0) (ifs : Array Nat := #[]) (fds : Array FieldInfo := #[]) : ClassFile where
  minorVersion := 0
  majorVersion := 65
  constantPool := pool
  accessFlags := fl
  thisClass := this
  superClass := sup
  interfaces := ifs
  fields := fds
  methods := ms
  attributes := attrs
def plain (name : String) (sup : Option ClassId) : Class where
  name := name
  kind := .ordinary
  loader := none
  accessFlags := 33
  super := sup
  interfaces := #[]
  cf := none
  fields := #[]
  methods := #[]
  instanceTypes := #[]
  staticTypes := #[]
  resolved := #[]
  callSites := []
  init := .initialized
  statics := none
  mirror := none

def pool0 : Array CpInfo := pool [(5, u "<init>"), (0, u "()V"), (1, .class_ 10), (1, u "java/lang/Object")] 113

def k0c0 : Code := { maxStack := 0, maxLocals := 1, code := object_method_1_code, exceptionTable := #[], attributes := #[] }
def k0m0 : Method := { name := "<init>", desc := "()V", sig := { parameters := [], returnType := none }, accessFlags := 1, code := some k0c0 }
/-- java/lang/Object -/
def k0 : Class := { plain "java/lang/Object" none with
  accessFlags := 33
  interfaces := #[]
  cf := some (fileOf pool0 8 #[] #[{ accessFlags := 1, nameIndex := 5, descriptorIndex := 6, attributes := #[] }] 33 0 #[] #[])
  fields := #[]
  methods := #[k0m0]
  instanceTypes := #[]
  staticTypes := #[]
  resolved := Array.replicate 124 none
  statics := none }

def pool1 : Array CpInfo := pool [(2, .class_ 4), (1, u "java/lang/Object"), (0, u "<init>"), (0, u "()V"), (2, .long 9223372036854775808), (1, .methodref 12 13), (0, .class_ 14), (0, .nameAndType 15 16), (0, u "java/lang/Math"), (0, u "min"), (0, u "(JJ)J"), (0, .methodref 12 18), (0, .nameAndType 19 16), (0, u "max"), (0, .class_ 21), (0, u "com/example/runpulse/runpulse/Window"), (0, .methodref 20 23), (0, .nameAndType 5 24), (0, u "(JJ)V"), (0, .methodref 20 26), (0, .nameAndType 27 28), (0, u "contains"), (0, u "(J)Z"), (0, .methodref 30 31), (0, .class_ 32), (0, .nameAndType 33 34), (0, u "com/example/runpulse/runpulse/WindowContainsPinLaw"), (0, u "unsignedLess"), (0, u "(JJ)Z"), (3, u "law"), (0, u "(JJJI)Z")] 2

def k1m0 : Method := { name := "<init>", desc := "()V", sig := { parameters := [], returnType := none }, accessFlags := 1, code := none }
def k1c1 : Code := { maxStack := 6, maxLocals := 4, code := method_2_code, exceptionTable := #[], attributes := #[] }
def k1m1 : Method := { name := "unsignedLess", desc := "(JJ)Z", sig := { parameters := [.long, .long], returnType := some .boolean }, accessFlags := 10, code := some k1c1 }
def k1c2 : Code := { maxStack := 6, maxLocals := 17, code := code, exceptionTable := #[], attributes := #[] }
def k1m2 : Method := { name := "law", desc := "(JJJI)Z", sig := { parameters := [.long, .long, .long, .int], returnType := some .boolean }, accessFlags := 9, code := some k1c2 }
/-- com/example/runpulse/runpulse/WindowContainsPinLaw -/
def k1 : Class := { plain "com/example/runpulse/runpulse/WindowContainsPinLaw" (some 0) with
  accessFlags := 49
  interfaces := #[]
  cf := some (fileOf pool1 30 #[] #[{ accessFlags := 1, nameIndex := 5, descriptorIndex := 6, attributes := #[] }, { accessFlags := 10, nameIndex := 33, descriptorIndex := 34, attributes := #[] }, { accessFlags := 9, nameIndex := 38, descriptorIndex := 39, attributes := #[] }] 49 2 #[] #[])
  fields := #[]
  methods := #[k1m0, k1m1, k1m2]
  instanceTypes := #[]
  staticTypes := #[]
  resolved := Array.replicate 42 none
  statics := none }

def pool2 : Array CpInfo := pool [(1, .class_ 2), (0, u "java/lang/Math"), (1, .class_ 6), (1, u "java/lang/Object"), (0, u "<init>"), (0, u "()V"), (89, .class_ 100), (1, u "java/lang/Math$RandomNumberGeneratorHolder"), (20, u "(JJ)J"), (50, u "negativeZeroFloatBits"), (0, u "J"), (2, u "negativeZeroDoubleBits"), (21, u "max"), (2, u "min"), (43, u "$assertionsDisabled"), (0, u "Z"), (91, u "twoToTheDoubleScaleDown"), (0, u "D"), (4, u "twoToTheDoubleScaleUp"), (9, u "E"), (3, u "PI"), (2, u "TAU"), (2, u "DEGREES_TO_RADIANS"), (0, u "RADIANS_TO_DEGREES")] 94

def k2m0 : Method := { name := "<init>", desc := "()V", sig := { parameters := [], returnType := none }, accessFlags := 2, code := none }
def k2c1 : Code := { maxStack := 4, maxLocals := 4, code := jdk_29_method_66_code, exceptionTable := #[], attributes := #[] }
def k2m1 : Method := { name := "max", desc := "(JJ)J", sig := { parameters := [.long, .long], returnType := some .long }, accessFlags := 9, code := some k2c1 }
def k2c2 : Code := { maxStack := 4, maxLocals := 4, code := jdk_29_method_70_code, exceptionTable := #[], attributes := #[] }
def k2m2 : Method := { name := "min", desc := "(JJ)J", sig := { parameters := [.long, .long], returnType := some .long }, accessFlags := 9, code := some k2c2 }
/-- java/lang/Math -/
def k2 : Class := { plain "java/lang/Math" (some 0) with
  accessFlags := 49
  interfaces := #[]
  cf := some (fileOf pool2 1 #[.nestMembers #[98]] #[{ accessFlags := 2, nameIndex := 7, descriptorIndex := 8, attributes := #[] }, { accessFlags := 9, nameIndex := 198, descriptorIndex := 121, attributes := #[] }, { accessFlags := 9, nameIndex := 201, descriptorIndex := 121, attributes := #[] }] 49 4 #[] #[{ accessFlags := 25, nameIndex := 354, descriptorIndex := 339, attributes := #[] }, { accessFlags := 25, nameIndex := 358, descriptorIndex := 339, attributes := #[] }, { accessFlags := 25, nameIndex := 361, descriptorIndex := 339, attributes := #[] }, { accessFlags := 26, nameIndex := 364, descriptorIndex := 339, attributes := #[] }, { accessFlags := 26, nameIndex := 365, descriptorIndex := 339, attributes := #[] }, { accessFlags := 26, nameIndex := 172, descriptorIndex := 173, attributes := #[] }, { accessFlags := 26, nameIndex := 176, descriptorIndex := 173, attributes := #[] }, { accessFlags := 8, nameIndex := 344, descriptorIndex := 339, attributes := #[] }, { accessFlags := 8, nameIndex := 338, descriptorIndex := 339, attributes := #[] }, { accessFlags := 4120, nameIndex := 245, descriptorIndex := 246, attributes := #[] }])
  fields := #[{ name := "E", type := .double, accessFlags := 25, slot := 0, constantValue := 0 }, { name := "PI", type := .double, accessFlags := 25, slot := 1, constantValue := 0 }, { name := "TAU", type := .double, accessFlags := 25, slot := 2, constantValue := 0 }, { name := "DEGREES_TO_RADIANS", type := .double, accessFlags := 26, slot := 3, constantValue := 0 }, { name := "RADIANS_TO_DEGREES", type := .double, accessFlags := 26, slot := 4, constantValue := 0 }, { name := "negativeZeroFloatBits", type := .long, accessFlags := 26, slot := 5, constantValue := 0 }, { name := "negativeZeroDoubleBits", type := .long, accessFlags := 26, slot := 6, constantValue := 0 }, { name := "twoToTheDoubleScaleUp", type := .double, accessFlags := 8, slot := 7, constantValue := 0 }, { name := "twoToTheDoubleScaleDown", type := .double, accessFlags := 8, slot := 8, constantValue := 0 }, { name := "$assertionsDisabled", type := .boolean, accessFlags := 4120, slot := 9, constantValue := 0 }]
  methods := #[k2m0, k2m1, k2m2]
  instanceTypes := #[]
  staticTypes := #[.double, .double, .double, .double, .double, .long, .long, .double, .double, .boolean]
  resolved := Array.replicate 460 none
  statics := none }

def pool3 : Array CpInfo := pool [(1, .methodref 2 3), (0, .class_ 4), (0, .nameAndType 5 6), (0, u "java/lang/Object"), (0, u "<init>"), (0, u "()V"), (0, .class_ 8), (0, u "java/lang/Record")] 13

def k3c0 : Code := { maxStack := 1, maxLocals := 1, code := jdk_30_method_1_code, exceptionTable := #[], attributes := #[] }
def k3m0 : Method := { name := "<init>", desc := "()V", sig := { parameters := [], returnType := none }, accessFlags := 4, code := some k3c0 }
/-- java/lang/Record -/
def k3 : Class := { plain "java/lang/Record" (some 0) with
  accessFlags := 1057
  interfaces := #[]
  cf := some (fileOf pool3 7 #[] #[{ accessFlags := 4, nameIndex := 5, descriptorIndex := 6, attributes := #[] }] 1057 2 #[] #[])
  fields := #[]
  methods := #[k3m0]
  instanceTypes := #[]
  staticTypes := #[]
  resolved := Array.replicate 22 none
  statics := none }

def pool4 : Array CpInfo := pool [(1, .methodref 2 3), (0, .class_ 4), (0, .nameAndType 5 6), (0, u "java/lang/Record"), (0, u "<init>"), (0, u "()V"), (7, .fieldref 15 16), (0, .class_ 17), (0, .nameAndType 18 19), (0, u "com/example/runpulse/runpulse/Window"), (0, u "start"), (0, u "J"), (0, .fieldref 15 21), (0, .nameAndType 22 19), (0, u "end"), (12, u "(JJ)V"), (4, u "contains"), (0, u "(J)Z")] 25

def k4c0 : Code := { maxStack := 4, maxLocals := 5, code := prog_40_method_1_code, exceptionTable := #[], attributes := #[] }
def k4m0 : Method := { name := "<init>", desc := "(JJ)V", sig := { parameters := [.long, .long], returnType := none }, accessFlags := 1, code := some k4c0 }
def k4c1 : Code := { maxStack := 4, maxLocals := 3, code := prog_40_method_2_code, exceptionTable := #[], attributes := #[] }
def k4m1 : Method := { name := "contains", desc := "(J)Z", sig := { parameters := [.long], returnType := some .boolean }, accessFlags := 1, code := some k4c1 }
/-- com/example/runpulse/runpulse/Window -/
def k4 : Class := { plain "com/example/runpulse/runpulse/Window" (some 3) with
  accessFlags := 49
  interfaces := #[]
  cf := some (fileOf pool4 15 #[] #[{ accessFlags := 1, nameIndex := 5, descriptorIndex := 35, attributes := #[] }, { accessFlags := 1, nameIndex := 40, descriptorIndex := 41, attributes := #[] }] 49 2 #[] #[{ accessFlags := 18, nameIndex := 18, descriptorIndex := 19, attributes := #[] }, { accessFlags := 18, nameIndex := 22, descriptorIndex := 19, attributes := #[] }])
  fields := #[{ name := "start", type := .long, accessFlags := 18, slot := 0, constantValue := 0 }, { name := "end", type := .long, accessFlags := 18, slot := 1, constantValue := 0 }]
  methods := #[k4m0, k4m1]
  instanceTypes := #[.long, .long]
  staticTypes := #[]
  resolved := Array.replicate 67 none
  statics := none }

def pool5 : Array CpInfo := pool [(1, u "java/lang/Cloneable"), (0, .class_ 1), (0, u "java/lang/Object"), (0, .class_ 3)] 3

/-- java/lang/Cloneable -/
def k5 : Class := { plain "java/lang/Cloneable" (some 0) with
  accessFlags := 1537
  interfaces := #[]
  cf := some (fileOf pool5 2 #[] #[] 1537 4 #[] #[])
  fields := #[]
  methods := #[]
  instanceTypes := #[]
  staticTypes := #[]
  resolved := Array.replicate 8 none
  statics := none }

def pool6 : Array CpInfo := pool [(1, u "java/io/Serializable"), (0, .class_ 1), (0, u "java/lang/Object"), (0, .class_ 3)] 3

/-- java/io/Serializable -/
def k6 : Class := { plain "java/io/Serializable" (some 0) with
  accessFlags := 1537
  interfaces := #[]
  cf := some (fileOf pool6 2 #[] #[] 1537 4 #[] #[])
  fields := #[]
  methods := #[]
  instanceTypes := #[]
  staticTypes := #[]
  resolved := Array.replicate 8 none
  statics := none }

/-- the primitive byte -/
def k7 : Class := { plain "byte" none with kind := .primitive 'B', accessFlags := 0x411 }
/-- [B -/
def k8 : Class := { plain "[B" (some 0) with kind := .array 7 .byte, interfaces := #[5, 6], accessFlags := 1041 }

/-- the primitive int -/
def k9 : Class := { plain "int" none with kind := .primitive 'I', accessFlags := 0x411 }
/-- [I -/
def k10 : Class := { plain "[I" (some 0) with kind := .array 9 .int, interfaces := #[5, 6], accessFlags := 1041 }

def heap : Heap := #[]
def classes : Array Class := #[k0, k1, k2, k3, k4, k5, k6, k7, k8, k9, k10]
def interned : List (Array UInt16 × Addr) := []
def slotsUsed : Nat := 0
def theMethod : MethodId := ⟨1, 2⟩
def args0 : Array Value := #[.long 3, .long 10, .long 5, .int 4]
def aboutOver (below : List Frame) : State where
  vm := { classes := classes, interned := interned.toArray }
  heap := heap
  slotsUsed := slotsUsed
  threads := #[{ frames := .invoking theMethod args0 :: below }]
def below0 : List Frame := [.native { method := ⟨0, 0⟩, args := #[] }]
def about1 : State := aboutOver below0
def p0 : Program := .bare "" "" ""
def e0 : Env := launch0.env 0 0 0
theorem w_frames : about1.frames = Frame.invoking theMethod args0 :: below0 := rfl
set_option maxRecDepth 65536 in
theorem w_args : argsFit about1.vm theMethod args0 = true := by decide +kernel
set_option maxRecDepth 65536 in
theorem w_heap : heapFits about1 = true := by decide +kernel
set_option maxRecDepth 65536 in
theorem w_runnable : about1.curStatus? = some .runnable := by decide +kernel
set_option maxRecDepth 65536 in
theorem w_alone : about1.alone = true := by decide +kernel
set_option maxRecDepth 65536 in
theorem w_named : about1.methodNamed? x = some theMethod := by decide +kernel
set_option maxRecDepth 65536 in
theorem w_hears : about1.hears theMethod below0 = true := by decide +kernel
set_option maxRecDepth 65536 in
theorem w_ripe : about1.ripe theMethod args0 below0 = true := by decide +kernel
theorem w_running : about1.status = .running := rfl
set_option maxRecDepth 65536 in
theorem w_room : about1.hasRoom e0.platform room_1 = true :=
  launch0.hasRoom_least _ room_1 (by decide +kernel) (by decide +kernel) (by decide +kernel) (by decide +kernel) (by decide +kernel) (by decide +kernel)
theorem allAtoms_all (ts : List Jvm.Cond) (a : Array Jvm.Value) (st : Jvm.State) : (allAtoms ts).before a st = ts.all (fun c => c.before a st) := by
  induction ts with
  | nil => rfl
  | cons c t ih =>
    show (Jvm.Cond.and c (allAtoms t)).before a st = _
    rw [Jvm.Cond.before_and, ih, List.all_cons]
def words1 : List Jvm.Cond := Jvm.Cond.code x code maxLocals ret :: tables_1
/-- a 'code' word, met by the world's own term for the bytes: nothing is compared byte by byte -/
theorem code_word {y : MethodName} {bytes : ByteArray} {mx : Nat} {rt : Option FieldType} {a : Array Value} {s : State} {m : MethodId} {meth : Method} {c : Code} (h1 : s.methodNamed? y = some m) (h2 : s.vm.method? m = some meth) (h3 : meth.code = some c) (h4 : c.code = bytes)
    (h5 : (c.maxLocals == mx && c.exceptionTable.isEmpty && decide (c.maxStack ≤ mostOperands) && decide (meth.sig.returnType = rt) && !meth.locks && decide (parseMethodDescriptor y.desc = some meth.sig)) = true) : (Jvm.Cond.code y bytes mx rt).before a s = true := by
  simp only [Bool.and_eq_true, beq_iff_eq, Bool.not_eq_true', decide_eq_true_eq] at h5
  obtain ⟨⟨⟨⟨⟨g1, g2⟩, g3⟩, g4⟩, g5⟩, g6⟩ := h5
  simp [Cond.before, Cond.holds, Cond.value, h1, h2, h3, h4, g1, g2, g3, g4, g5, g6]
def isCode : Jvm.Cond → Bool
  | .code _ _ _ _ => true
  | _ => false
theorem all_split {L : List Jvm.Cond} {P : Jvm.Cond → Bool} (h1 : L.all (fun c => isCode c || P c) = true) (h2 : ∀ c ∈ L.filter isCode, P c = true) : L.all P = true := by
  refine List.all_eq_true.mpr fun c hc => ?_
  have h := List.all_eq_true.mp h1 c hc
  rcases Bool.eq_false_or_eq_true (isCode c) with hi | hi
  · exact h2 c (List.mem_filter.mpr ⟨hc, hi⟩)
  · simpa [hi] using h
set_option maxRecDepth 65536 in
theorem w_c0 : (Jvm.Cond.code x code maxLocals ret).before args0 about1 = true := code_word (m := ⟨1, 2⟩) (meth := k1m2) (c := k1c2) (by decide +kernel) rfl rfl rfl (by decide +kernel)
set_option maxRecDepth 65536 in
theorem w_c1 : (Jvm.Cond.code ({ cls := "java/lang/Math", name := "min", desc := "(JJ)J" } : Jvm.MethodName) jdk_29_method_70_code (4 : Nat) (Option.some Jvm.ClassFile.FieldType.long)).before args0 about1 = true := code_word (m := ⟨2, 2⟩) (meth := k2m2) (c := k2c2) (by decide +kernel) rfl rfl rfl (by decide +kernel)
set_option maxRecDepth 65536 in
theorem w_c2 : (Jvm.Cond.code ({ cls := "java/lang/Math", name := "max", desc := "(JJ)J" } : Jvm.MethodName) jdk_29_method_66_code (4 : Nat) (Option.some Jvm.ClassFile.FieldType.long)).before args0 about1 = true := code_word (m := ⟨2, 1⟩) (meth := k2m1) (c := k2c1) (by decide +kernel) rfl rfl rfl (by decide +kernel)
set_option maxRecDepth 65536 in
theorem w_c3 : (Jvm.Cond.code ({ cls := "com/example/runpulse/runpulse/Window", name := "<init>", desc := "(JJ)V" } : Jvm.MethodName) prog_40_method_1_code (5 : Nat) (Option.none : Option Jvm.ClassFile.FieldType)).before args0 about1 = true := code_word (m := ⟨4, 0⟩) (meth := k4m0) (c := k4c0) (by decide +kernel) rfl rfl rfl (by decide +kernel)
set_option maxRecDepth 65536 in
theorem w_c4 : (Jvm.Cond.code ({ cls := "java/lang/Record", name := "<init>", desc := "()V" } : Jvm.MethodName) jdk_30_method_1_code (1 : Nat) (Option.none : Option Jvm.ClassFile.FieldType)).before args0 about1 = true := code_word (m := ⟨3, 0⟩) (meth := k3m0) (c := k3c0) (by decide +kernel) rfl rfl rfl (by decide +kernel)
set_option maxRecDepth 65536 in
theorem w_c5 : (Jvm.Cond.code ({ cls := "java/lang/Object", name := "<init>", desc := "()V" } : Jvm.MethodName) object_method_1_code (1 : Nat) (Option.none : Option Jvm.ClassFile.FieldType)).before args0 about1 = true := code_word (m := ⟨0, 0⟩) (meth := k0m0) (c := k0c0) (by decide +kernel) rfl rfl rfl (by decide +kernel)
set_option maxRecDepth 65536 in
theorem w_c6 : (Jvm.Cond.code ({ cls := "com/example/runpulse/runpulse/Window", name := "contains", desc := "(J)Z" } : Jvm.MethodName) prog_40_method_2_code (3 : Nat) (Option.some Jvm.ClassFile.FieldType.boolean)).before args0 about1 = true := code_word (m := ⟨4, 1⟩) (meth := k4m1) (c := k4c1) (by decide +kernel) rfl rfl rfl (by decide +kernel)
set_option maxRecDepth 65536 in
theorem w_c7 : (Jvm.Cond.code ({ cls := "com/example/runpulse/runpulse/WindowContainsPinLaw", name := "unsignedLess", desc := "(JJ)Z" } : Jvm.MethodName) method_2_code (4 : Nat) (Option.some Jvm.ClassFile.FieldType.boolean)).before args0 about1 = true := code_word (m := ⟨1, 1⟩) (meth := k1m1) (c := k1c1) (by decide +kernel) rfl rfl rfl (by decide +kernel)
def codes1 : List Jvm.Cond := [Jvm.Cond.code x code maxLocals ret, Jvm.Cond.code ({ cls := "java/lang/Math", name := "min", desc := "(JJ)J" } : Jvm.MethodName) jdk_29_method_70_code (4 : Nat) (Option.some Jvm.ClassFile.FieldType.long), Jvm.Cond.code ({ cls := "java/lang/Math", name := "max", desc := "(JJ)J" } : Jvm.MethodName) jdk_29_method_66_code (4 : Nat) (Option.some Jvm.ClassFile.FieldType.long), Jvm.Cond.code ({ cls := "com/example/runpulse/runpulse/Window", name := "<init>", desc := "(JJ)V" } : Jvm.MethodName) prog_40_method_1_code (5 : Nat) (Option.none : Option Jvm.ClassFile.FieldType), Jvm.Cond.code ({ cls := "java/lang/Record", name := "<init>", desc := "()V" } : Jvm.MethodName) jdk_30_method_1_code (1 : Nat) (Option.none : Option Jvm.ClassFile.FieldType), Jvm.Cond.code ({ cls := "java/lang/Object", name := "<init>", desc := "()V" } : Jvm.MethodName) object_method_1_code (1 : Nat) (Option.none : Option Jvm.ClassFile.FieldType), Jvm.Cond.code ({ cls := "com/example/runpulse/runpulse/Window", name := "contains", desc := "(J)Z" } : Jvm.MethodName) prog_40_method_2_code (3 : Nat) (Option.some Jvm.ClassFile.FieldType.boolean), Jvm.Cond.code ({ cls := "com/example/runpulse/runpulse/WindowContainsPinLaw", name := "unsignedLess", desc := "(JJ)Z" } : Jvm.MethodName) method_2_code (4 : Nat) (Option.some Jvm.ClassFile.FieldType.boolean)]
set_option maxRecDepth 65536 in
theorem codes_eq : words1.filter isCode = codes1 := rfl
theorem w_codes : ∀ c ∈ words1.filter isCode, c.before args0 about1 = true := by
  rw [codes_eq]
  intro c hc
  simp only [codes1, List.mem_cons, List.not_mem_nil, or_false] at hc
  rcases hc with rfl | rfl | rfl | rfl | rfl | rfl | rfl | rfl
  · exact w_c0
  · exact w_c1
  · exact w_c2
  · exact w_c3
  · exact w_c4
  · exact w_c5
  · exact w_c6
  · exact w_c7
set_option maxRecDepth 65536 in
theorem w_t1 : (words1.take 24).all (fun c => isCode c || c.before args0 about1) = true := by decide +kernel
set_option maxRecDepth 65536 in
theorem w_t2 : (words1.drop 24).all (fun c => isCode c || c.before args0 about1) = true := by decide +kernel
theorem w_tables : (allAtoms (Jvm.Cond.code x code maxLocals ret :: tables_1)).before args0 about1 = true := by
  rw [allAtoms_all]
  show words1.all (fun c => c.before args0 about1) = true
  refine all_split ?_ w_codes
  rw [← List.take_append_drop 24 words1, List.all_append, w_t1, w_t2]
  rfl
set_option maxRecDepth 65536 in
theorem w_case : (Jvm.Cond.and given_1 narrow_1).before args0 about1 = true := by decide +kernel
theorem w_applies : (headSpec (Jvm.Cond.code x code maxLocals ret :: tables_1) room_1).applies x e0.platform about1 = true :=
  (Spec.applies_iff w_frames).mpr ⟨w_running, w_runnable, w_alone, w_named, w_hears, w_ripe, w_room, w_tables⟩
theorem atStart : AtStart classFile x code maxLocals ret World_1 tables_1 room_1 Calls_1 rest_1 Pre_1 launch0 p0 e0 about1 theMethod args0 below0 :=
  ⟨lists_1, trivial, launch0.admits_env _ _ _, launch0.least_env, fairChoices_fair.cas, fairChoices_fair.clock, w_frames, w_args, w_heap, w_applies, trivial, trivial, w_case⟩
end start1
theorem witness_1 : WitnessClaimed_1 := ⟨start1.p0, start1.e0, start1.about1, start1.theMethod, start1.args0, start1.below0, start1.atStart⟩
end Jvm.Pilot.@@N@@
