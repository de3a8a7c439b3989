import JvmDerived
import JvmDerived.Pilot.@@N@@Statement
import JvmDerived.Pilot.@@N@@Code
set_option linter.unusedVariables false
set_option linter.unusedSimpArgs false
namespace Jvm.RoadKit
open Sem ClassFile Op Lib Jvm.Stand Jvm.Free Jvm.LawKit
section OwnGo
variable {p : Program} {l : Launch} {e : Env} {R : Room} {s : State} {m : MethodId} {args : Array Value} {below : List Frame} {meth : Method} {c : Code} {T T' : State} {locs : List Loc} {cells slots ck sk : Nat} {Q : Option Value → Heap → List Loc → Prop}
/-- from the state T the body comes to its end, with Q -/
def Go (p : Program) (e : Env) (below : List Frame) (s : State) (ck sk : Nat) (Q : Option Value → Heap → List Loc → Prop) (T : State) : Prop :=
  ∃ s₂ o, Steps p.tables e below T s₂ ∧ s₂.status = .running ∧ Ended s₂ below o ∧ ∃ v L, o = .returned v ∧ Q v s₂.heap L ∧ FrameEnd s o s₂ L ck sk
theorem Go.by (h : ∀ t, Steps p.tables e below T' t → Steps p.tables e below T t) (g : Go p e below s ck sk Q T') : Go p e below s ck sk Q T := by
  obtain ⟨s₂, o, h1, r⟩ := g
  exact ⟨s₂, o, h _ h1, r⟩
theorem Go.tr (h : Steps p.tables e below T T') (g : Go p e below s ck sk Q T') : Go p e below s ck sk Q T := by
  obtain ⟨s₂, o, h1, r⟩ := g
  exact ⟨s₂, o, h.trans h1, r⟩
theorem Go.fin (X : Stand p l e R s m args below meth c T locs cells slots) {v : Option Value} (hv : meth.sig.returnType = none → v = none) (hlk : meth.locks = false)
    (st : ∀ fs : List Frame, (∀ (f : JFrame) (acts : List Action), f.method = m → f.locked = none → f.entered = [] → (doReturn e (T.setTop f) acts v).1 = T.setFrames fs) → Steps p.tables e below T' (T.setFrames fs))
    (hq : Q v T.heap locs) (hc : cells ≤ ck) (hs : slots ≤ sk) : Go p e below s ck sk Q T' := by
  obtain ⟨fs, hr, hrun, hended, hW, hsame⟩ := X.leave hv hlk
  exact ⟨_, _, st fs hr, hrun, hended, _, _, rfl, hq, ⟨_, rfl⟩, hW, hsame.mono hc hs⟩
theorem Go.retV (X : Stand p l e R s m args below meth c T locs cells slots) (hx : p.tables.exec = Jvm.exec) {pc : Nat} {Ls : Array Slot} (hret : meth.sig.returnType = none) (hlk : meth.locks = false) (hd : decode c.code pc = .ok (.return_, 1))
    (hq : Q none T.heap locs) (hc : cells ≤ ck) (hs : slots ≤ sk) : Go p e below s ck sk Q (T.setTop (mkF m pc Ls [])) :=
  Go.fin X (fun _ => rfl) hlk (fun fs hr => X.returnOut hx hret hd hr) hq hc hs
theorem Go.retN (X : Stand p l e R s m args below meth c T locs cells slots) (hx : p.tables.exec = Jvm.exec) {pc : Nat} {Ls : Array Slot} {z : Int32} {t : FieldType} {rest : List Value} (hret : meth.sig.returnType = some t) (ht : t = .boolean ∨ t = .byte ∨ t = .char ∨ t = .short) (hlk : meth.locks = false) (hd : decode c.code pc = .ok (.ireturn, 1))
    (hq : Q (some (.int (nar t z))) T.heap locs) (hc : cells ≤ ck) (hs : slots ≤ sk) : Go p e below s ck sk Q (T.setTop (mkF m pc Ls (.int z :: rest))) :=
  Go.fin X (fun h => by rw [hret] at h; cases h) hlk (fun fs hr => Jvm.RoadKit.retN X hx hret ht hd hr) hq hc hs
theorem Go.retI (X : Stand p l e R s m args below meth c T locs cells slots) (hx : p.tables.exec = Jvm.exec) {pc : Nat} {Ls : Array Slot} {z : Int32} {rest : List Value} (hret : meth.sig.returnType = some .int) (hlk : meth.locks = false) (hd : decode c.code pc = .ok (.ireturn, 1))
    (hq : Q (some (.int z)) T.heap locs) (hc : cells ≤ ck) (hs : slots ≤ sk) : Go p e below s ck sk Q (T.setTop (mkF m pc Ls (.int z :: rest))) :=
  Go.fin X (fun h => by rw [hret] at h; cases h) hlk (fun fs hr => retOut X hx hret rfl (Or.inl ⟨rfl, Or.inl rfl, z, rfl⟩) hd hr) hq hc hs
theorem Go.retJ (X : Stand p l e R s m args below meth c T locs cells slots) (hx : p.tables.exec = Jvm.exec) {pc : Nat} {Ls : Array Slot} {z : Int64} {rest : List Value} (hret : meth.sig.returnType = some .long) (hlk : meth.locks = false) (hd : decode c.code pc = .ok (.lreturn, 1))
    (hq : Q (some (.long z)) T.heap locs) (hc : cells ≤ ck) (hs : slots ≤ sk) : Go p e below s ck sk Q (T.setTop (mkF m pc Ls (.long z :: rest))) :=
  Go.fin X (fun h => by rw [hret] at h; cases h) hlk (fun fs hr => retOut X hx hret rfl (Or.inr (Or.inl ⟨rfl, rfl, z, rfl⟩)) hd hr) hq hc hs
theorem Go.retR (X : Stand p l e R s m args below meth c T locs cells slots) (hx : p.tables.exec = Jvm.exec) {pc : Nat} {Ls : Array Slot} {w : Value} {t : FieldType} {rest : List Value} (hret : meth.sig.returnType = some t) (ht : t.isReference = true) (hw : w.isRef = true) (hlk : meth.locks = false) (hd : decode c.code pc = .ok (.areturn, 1))
    (hq : Q (some w) T.heap locs) (hc : cells ≤ ck) (hs : slots ≤ sk) : Go p e below s ck sk Q (T.setTop (mkF m pc Ls (w :: rest))) := by
  refine Go.fin X (fun h => by rw [hret] at h; cases h) hlk (fun fs hr => retOut X hx hret ?_ (Or.inr (Or.inr (Or.inr (Or.inr ⟨rfl, ht, hw⟩)))) hd hr) hq hc hs
  rcases ref_cases hw with rfl | ⟨a, rfl⟩ <;> cases t <;> first | rfl | cases ht
/-- the same where Strings may be interned on the way -/
def GoW (p : Program) (e : Env) (below : List Frame) (s : State) (ck sk : Nat) (Q : Option Value → Heap → List Loc → Prop) (T : State) : Prop :=
  ∃ s₂ o, Steps p.tables e below T s₂ ∧ s₂.status = .running ∧ Ended s₂ below o ∧ ∃ v L, o = .returned v ∧ Q v s₂.heap L ∧ ReturnedEndW s o s₂ L ck sk
theorem GoW.by (h : ∀ t, Steps p.tables e below T' t → Steps p.tables e below T t) (g : GoW p e below s ck sk Q T') : GoW p e below s ck sk Q T := by
  obtain ⟨s₂, o, h1, r⟩ := g
  exact ⟨s₂, o, h _ h1, r⟩
theorem GoW.tr (h : Steps p.tables e below T T') (g : GoW p e below s ck sk Q T') : GoW p e below s ck sk Q T := by
  obtain ⟨s₂, o, h1, r⟩ := g
  exact ⟨s₂, o, h.trans h1, r⟩
theorem GoW.fin {vm1 : Vm} {k1 : Nat} (X : Stand p l e R (s.setVm vm1) m args below meth c T locs cells slots) (hS : s.Since vm1 k1) (hk : k1 ≤ T.heap.size) {v : Option Value} (hv : meth.sig.returnType = none → v = none) (hlk : meth.locks = false)
    (st : ∀ fs : List Frame, (∀ (f : JFrame) (acts : List Action), f.method = m → f.locked = none → f.entered = [] → (doReturn e (T.setTop f) acts v).1 = T.setFrames fs) → Steps p.tables e below T' (T.setFrames fs))
    (hq : Q v T.heap locs) (hc : cells ≤ ck) (hs : slots ≤ sk) : GoW p e below s ck sk Q T' := by
  obtain ⟨fs, hr, hrun, hended, hW, hsame⟩ := X.leave hv hlk
  obtain ⟨q1, q2, q3⟩ := hS.ended (U := T.setFrames fs) hW hk hsame
  exact ⟨_, _, st fs hr, hrun, hended, _, _, rfl, hq, ⟨_, rfl⟩, q1, q2, q3.mono hc hs⟩
theorem GoW.retV {vm1 : Vm} {k1 : Nat} (X : Stand p l e R (s.setVm vm1) m args below meth c T locs cells slots) (hS : s.Since vm1 k1) (hk : k1 ≤ T.heap.size) (hx : p.tables.exec = Jvm.exec) {pc : Nat} {Ls : Array Slot} (hret : meth.sig.returnType = none) (hlk : meth.locks = false) (hd : decode c.code pc = .ok (.return_, 1))
    (hq : Q none T.heap locs) (hc : cells ≤ ck) (hs : slots ≤ sk) : GoW p e below s ck sk Q (T.setTop (mkF m pc Ls [])) :=
  GoW.fin X hS hk (fun _ => rfl) hlk (fun fs hr => X.returnOut hx hret hd hr) hq hc hs
theorem GoW.retN {vm1 : Vm} {k1 : Nat} (X : Stand p l e R (s.setVm vm1) m args below meth c T locs cells slots) (hS : s.Since vm1 k1) (hk : k1 ≤ T.heap.size) (hx : p.tables.exec = Jvm.exec) {pc : Nat} {Ls : Array Slot} {z : Int32} {t : FieldType} {rest : List Value} (hret : meth.sig.returnType = some t) (ht : t = .boolean ∨ t = .byte ∨ t = .char ∨ t = .short) (hlk : meth.locks = false) (hd : decode c.code pc = .ok (.ireturn, 1))
    (hq : Q (some (.int (nar t z))) T.heap locs) (hc : cells ≤ ck) (hs : slots ≤ sk) : GoW p e below s ck sk Q (T.setTop (mkF m pc Ls (.int z :: rest))) :=
  GoW.fin X hS hk (fun h => by rw [hret] at h; cases h) hlk (fun fs hr => Jvm.RoadKit.retN X hx hret ht hd hr) hq hc hs
theorem GoW.retR {vm1 : Vm} {k1 : Nat} (X : Stand p l e R (s.setVm vm1) m args below meth c T locs cells slots) (hS : s.Since vm1 k1) (hk : k1 ≤ T.heap.size) (hx : p.tables.exec = Jvm.exec) {pc : Nat} {Ls : Array Slot} {w : Value} {t : FieldType} {rest : List Value} (hret : meth.sig.returnType = some t) (ht : t.isReference = true) (hw : w.isRef = true) (hlk : meth.locks = false) (hd : decode c.code pc = .ok (.areturn, 1))
    (hq : Q (some w) T.heap locs) (hc : cells ≤ ck) (hs : slots ≤ sk) : GoW p e below s ck sk Q (T.setTop (mkF m pc Ls (w :: rest))) := by
  refine GoW.fin X hS hk (fun h => by rw [hret] at h; cases h) hlk (fun fs hr => retOut X hx hret ?_ (Or.inr (Or.inr (Or.inr (Or.inr ⟨rfl, ht, hw⟩)))) hd hr) hq hc hs
  rcases ref_cases hw with rfl | ⟨a, rfl⟩ <;> cases t <;> first | rfl | cases ht
end OwnGo
theorem own_selp {Z s : State} {a0 args : Array Value} {y : MethodName} {n : Nat} (hZ : Z.Warmed39 s.vm) (wi : (Cond.instantiable y.cls n).before a0 Z = true) (wp : (Cond.privateMethod y).before a0 Z = true) (wm : (Cond.instanceMethod y).before a0 Z = true) (hy : y.cls ≠ "java/lang/invoke/MethodHandle" ∧ y.cls ≠ "java/lang/invoke/VarHandle") : (Cond.selects y.cls y y).before args s = true := by
  obtain ⟨c, k, h1, h2, -, h4, -⟩ := Cond.instantiable_spec (mv (args := args) hZ wi)
  exact selects_self_of_private h1 h2 (by simpa using (Bool.or_eq_false_iff.mp h4).1) (Cond.privateMethod_at (mvP (args := args) hZ wp)) (mv hZ wm) hy
theorem own_zn {z : Int32} (h : z = (0 : Int32) ∨ z = (1 : Int32)) : narrow .boolean (.int z) = .int z := by rcases h with rfl | rfl <;> rfl
theorem own_zf {z : Int32} (h : z = (0 : Int32) ∨ z = (1 : Int32)) : fits .boolean (.int z) = true := by rcases h with rfl | rfl <;> rfl
theorem own_ns {Z : State} {h : Heap} {b : Addr} {C : String} (E : Exa Z h b C) : ∀ cell : Cell, h[b]? = some cell → cell.vm.isStatics = false := fun cell hc => by
  obtain ⟨c, _, h1, -, -, h4, -⟩ := E
  cases h1.symm.trans hc
  exact h4
theorem own_stakeep {Z : State} {h h' : Heap} {C n d : String} {v : Value} {ws : List Addr} (F : Sta Z h C n d v) (K : Keep h h' ws) (q : ∀ x ∈ ws, ∀ cell : Cell, h[x]? = some cell → cell.vm.isStatics = false) : Sta Z h' C n d v := by
  obtain ⟨cf, i, k, f, st, cell, h1, h2, h3, h4, h5, h6, h7⟩ := F
  refine ⟨cf, i, k, f, st, cell, h1, h2, h3, h4, K.2.1 st cell h5 fun z => ?_, h6, h7⟩
  rw [q st z cell h5] at h6
  cases h6
section OwnLong
variable {Z : State} {h h' : Heap} {a b : Addr} {k : ClassId} {n j : Int32} {x : Int64} {ws : List Addr} {sl : Nat} {v : Value}
/-- a long[] of the length n, whatever it holds -/
def LA (Z : State) (h : Heap) (a : Addr) (k : ClassId) (n : Int32) : Prop := ∃ c : Cell, Arr Z h a c .long ∧ c.cls = k ∧ c.slots.size = n.toNatClampNeg ∧ ¬ n < 0 ∧ ∀ i, i < c.slots.size → ∃ x : Int64, c.slots[i]? = some (.long x)
theorem LA.lt (F : LA Z h a k n) : a < h.size := by obtain ⟨c, A, -⟩ := F; exact A.lt
theorem LA.ext (F : LA Z h a k n) (E : Ext h h') : LA Z h' a k n := by obtain ⟨c, A, r⟩ := F; exact ⟨c, A.ext E, r⟩
theorem LA.other (F : LA Z h b k n) (W : Wr h h' a sl v) (q : b ≠ a) : LA Z h' b k n := by obtain ⟨c, A, r⟩ := F; exact ⟨c, A.other W q, r⟩
theorem LA.keep (F : LA Z h a k n) (K : Keep h h' ws) (q : a ∉ ws) : LA Z h' a k n := by obtain ⟨c, A, r⟩ := F; exact ⟨c, ⟨K.2.1 a c A.1 q, A.2⟩, r⟩
theorem LA.new (A : Arr Z h a (newA k .long n) .long) (q : ¬ n < 0) : LA Z h a k n := ⟨_, A, rfl, sz_new _ _ _, q, fun i hi => ⟨0, by
  have hi' : i < n.toNatClampNeg := by rw [sz_new] at hi; exact hi
  show (Array.replicate n.toNatClampNeg (defaultValue .long))[i]? = _
  simp [hi', defaultValue]⟩⟩
theorem LA.set {c : Cell} (A : Arr Z h a c .long) (q1 : c.cls = k) (S : c.slots.size = n.toNatClampNeg) (q3 : ¬ n < 0) (G : ∀ i, i < c.slots.size → ∃ x : Int64, c.slots[i]? = some (.long x)) (W : Wr h h' a sl (.long x)) : LA Z h' a k n := by
  refine ⟨_, A.same W, q1, by rw [sz_set]; exact S, q3, fun i hi => ?_⟩
  rw [sz_set] at hi
  by_cases e : sl = i
  · subst e; exact ⟨x, by simp [Cell.setSlot, hi]⟩
  · obtain ⟨y, hy⟩ := G i hi
    exact ⟨y, by rw [← hy]; exact Array.getElem?_setIfInBounds_ne e⟩
end OwnLong
section OwnStart
variable {args : Array Value} {s : State} {a b t : Term}
theorem own_eqI {n : Int32} (h : (Cond.eq a (.int n)).value args s none s [] = some true) : a.eval args s none [] s = some (.int n) := by
  cases ha : a.eval args s none [] s with
  | none => simp [Cond.value, ha] at h
  | some x => cases x <;> simp [Cond.value, ha, Term.eval] at h ⊢ <;> exact h
theorem own_eqL {n : Int64} (h : (Cond.eq a (.long n)).value args s none s [] = some true) : a.eval args s none [] s = some (.long n) := by
  cases ha : a.eval args s none [] s with
  | none => simp [Cond.value, ha] at h
  | some x => cases x <;> simp [Cond.value, ha, Term.eval] at h ⊢ <;> exact h
theorem own_eqR {x : Addr} (h : (Cond.eq a b).value args s none s [] = some true) (hb : b.eval args s none [] s = some (.ref x)) : a.eval args s none [] s = some (.ref x) := by
  cases ha : a.eval args s none [] s with
  | none => simp [Cond.value, ha] at h
  | some y => cases y <;> simp [Cond.value, ha, hb] at h ⊢ <;> exact h
theorem own_neR {x y : Addr} (h : (Cond.not (Cond.eq a b)).value args s none s [] = some true) (ha : a.eval args s none [] s = some (.ref x)) (hb : b.eval args s none [] s = some (.ref y)) : x ≠ y := by
  intro e
  subst e
  simp [Cond.value, ha, hb] at h
theorem own_lenv {n : Int32} {x : Addr} {cl : Cell} (h : (Term.length t).eval args s none [] s = some (.int n)) (ht : t.eval args s none [] s = some (.ref x)) (hc : s.heap[x]? = some cl) : cl.slots.size < 2 ^ 31 ∧ cl.slots.size.toInt32 = n := by
  obtain ⟨a', cell, e1, e2, e3⟩ := Term.length_spec h
  cases ht.symm.trans e1
  have hcl : cell = cl := by
    simp only [State.arrayAt?, hc, Option.bind_eq_bind, Option.bind_some] at e2
    cases hk : s.vm.classes[cl.cls]? with
    | none => simp [hk] at e2
    | some k =>
      simp only [hk, Option.bind_some] at e2
      split at e2
      · cases e2
      · split at e2
        · exact (Option.some.inj e2).symm
        · cases e2
  subst hcl
  refine ⟨?_, (Value.int.inj e3).symm⟩
  simp only [Term.eval, ht, e2, Option.bind_eq_bind, Option.bind_some] at h
  split at h
  · assumption
  · cases h
end OwnStart
end Jvm.RoadKit
namespace Jvm.Pilot.@@N@@
open Jvm Jvm.ClassFile Sem Op Lib Jvm.Free Jvm.Stand Jvm.LawKit Jvm.RoadKit Bundle Jvm.Pilot.@@N@@.Jvm.D
theorem dMi_0 : decode jdk_29_method_70_code 0 = .ok (.lload_n 0, 1) := by decide +kernel
theorem dMi_1 : decode jdk_29_method_70_code 1 = .ok (.lload_n 2, 1) := by decide +kernel
theorem dMi_2 : decode jdk_29_method_70_code 2 = .ok (.lcmp, 1) := by decide +kernel
theorem dMi_3 : decode jdk_29_method_70_code 3 = .ok (.ifCond .gt 7, 3) := by decide +kernel
theorem dMi_6 : decode jdk_29_method_70_code 6 = .ok (.lload_n 0, 1) := by decide +kernel
theorem dMi_7 : decode jdk_29_method_70_code 7 = .ok (.goto 4, 3) := by decide +kernel
theorem dMi_10 : decode jdk_29_method_70_code 10 = .ok (.lload_n 2, 1) := by decide +kernel
theorem dMi_11 : decode jdk_29_method_70_code 11 = .ok (.lreturn, 1) := by decide +kernel
theorem efMi (m : MethodId) (u : Int64) (w : Int64) : entryFrame m #[(.long u), (.long w)] 4 = mkF m 0 #[.val (.long u), .second, .val (.long w), .second] [] := by first | (simp [entryFrame, mkF, argsToLocals, Value.category]; done) | rfl
def fMi (u : Int64) (w : Int64) : Int64 := (if w < u then w else u)
def QMi (Z : State) (u : Int64) (w : Int64) (h0 : Heap) (n0 : Nat) (v : Option Value) (h : Heap) (L : List Loc) : Prop := v = some (.long (fMi u w)) ∧ Fr n0 L ∧ h = h0
set_option maxRecDepth 65536 in
set_option maxHeartbeats 40000000 in
theorem rmMi (l : Launch) (Z : State) (a0 : Array Value) (hw : ∀ d ∈ tables_1, d.before a0 Z = true) (ws : List Jvm.Cond) (u : Int64) (w : Int64) (h0 : Heap) (n0 : Nat) (Z0 : n0 ≤ h0.size) :
    MetFree l (⟨"java/lang/Math", "min", "(JJ)J"⟩ : MethodName) (head1 (Jvm.Cond.code (⟨"java/lang/Math", "min", "(JJ)J"⟩ : MethodName) jdk_29_method_70_code 4 (some .long) :: ws) ({ frames := 0, cells := 0, slots := 0, locals := 0 } : Room)) (fun aa_ U_ => aa_ = #[(.long u), (.long w)] ∧ Z.Warmed39 U_.vm ∧ U_.heap = h0) (fun _ _ _ _ _ => True) (fun _ U_ o_ V_ => ∃ v_ L_, o_ = .returned v_ ∧ QMi Z u w h0 n0 v_ V_.heap L_ ∧ FrameEnd U_ o_ V_ L_ ({ frames := 0, cells := 0, slots := 0, locals := 0 } : Room).cells ({ frames := 0, cells := 0, slots := 0, locals := 0 } : Room).slots) := by
  refine MetFree.of_bodySF (Jvm.Free.JP.mathPlain rfl (by decide +kernel)) hisR ?_
  intro p e s m args below meth c s₁ Bd hml0 hP hK
  obtain ⟨rfl, hZ, hh⟩ := hP
  have hx := Bd.exec
  have hby := Bd.bytes
  have hml : c.maxLocals = 4 := hml0
  have hown : s.vm.findClass "java/lang/Math" = some m.cls := findClass_of_methodNamed Bd.named
  have hnm := (name_of_methodNamed Bd.named Bd.method).1
  have hlk : meth.locks = false := BodyLoose.notSynchronized Bd
  have hret : meth.sig.returnType = (some .long) := Bd.returns
  have X0 : Stand p l e ({ frames := 0, cells := 0, slots := 0, locals := 0 } : Room) s m #[(.long u), (.long w)] below meth c s₁ [] 0 0 := Stand.of_body Bd
  have e0 : s₁.heap = h0 := by rw [← hh, Bd.state]; rfl
  have N0 := Fr.nil n0
  show Go p e below s ({ frames := 0, cells := 0, slots := 0, locals := 0 } : Room).cells ({ frames := 0, cells := 0, slots := 0, locals := 0 } : Room).slots (QMi Z u w h0 n0) (s₁.setTop (entryFrame m #[(.long u), (.long w)] 4))
  rw [efMi]
  refine Go.by (fun _ kont => XS.lloadN X0.here hx rfl (hb hby dMi_0) rfl (XS.lloadN X0.here hx rfl (hb hby dMi_1) rfl (XS.lcmp X0.here hx rfl (hb hby dMi_2) rfl kont))) ?_
  show Go _ _ _ _ _ _ _ (s₁.setTop (mkF m 3 #[.val (.long u), .second, .val (.long w), .second] [(.int (lcmpW u w))]))
  by_cases hc101 : w < u
  · refine Go.by (fun _ kont => XS.ifYes X0.here hx rfl (pc0 := 3) (pc' := 10) rfl (hb hby dMi_3) rfl ((if0 _ _).trans (tlt ((lw_gt _ _).mpr hc101)).2.2.1) (by decide) (by decide) kont) ?_
    show Go _ _ _ _ _ _ _ (s₁.setTop (mkF m 10 #[.val (.long u), .second, .val (.long w), .second] []))
    refine Go.by (fun _ kont => XS.lloadN X0.here hx rfl (hb hby dMi_10) rfl kont) ?_
    show Go _ _ _ _ _ _ _ (s₁.setTop (mkF m 11 #[.val (.long u), .second, .val (.long w), .second] [(.long w)]))
    refine Go.retJ X0 hx hret hlk (hb hby dMi_11) ?_ (by decide) (by decide)
    show QMi Z u w h0 n0 (some (.long w)) s₁.heap _
    rw [e0]
    refine ⟨?_, N0, rfl⟩
    unfold fMi
    rw [if_pos hc101]
  · refine Go.by (fun _ kont => XS.ifNo X0.here hx rfl (hb hby dMi_3) rfl ((if0 _ _).trans (flt (fun z => hc101 ((lw_gt _ _).mp z))).2.2.1) kont) ?_
    show Go _ _ _ _ _ _ _ (s₁.setTop (mkF m 6 #[.val (.long u), .second, .val (.long w), .second] []))
    refine Go.by (fun _ kont => XS.lloadN X0.here hx rfl (hb hby dMi_6) rfl (XS.goto X0.here hx rfl (pc0 := 7) (pc' := 11) rfl (hb hby dMi_7) (by decide) (by decide) kont)) ?_
    show Go _ _ _ _ _ _ _ (s₁.setTop (mkF m 11 #[.val (.long u), .second, .val (.long w), .second] [(.long u)]))
    refine Go.retJ X0 hx hret hlk (hb hby dMi_11) ?_ (by decide) (by decide)
    show QMi Z u w h0 n0 (some (.long u)) s₁.heap _
    rw [e0]
    refine ⟨?_, N0, rfl⟩
    unfold fMi
    rw [if_neg hc101]

theorem dMa_0 : decode jdk_29_method_66_code 0 = .ok (.lload_n 0, 1) := by decide +kernel
theorem dMa_1 : decode jdk_29_method_66_code 1 = .ok (.lload_n 2, 1) := by decide +kernel
theorem dMa_2 : decode jdk_29_method_66_code 2 = .ok (.lcmp, 1) := by decide +kernel
theorem dMa_3 : decode jdk_29_method_66_code 3 = .ok (.ifCond .lt 7, 3) := by decide +kernel
theorem dMa_6 : decode jdk_29_method_66_code 6 = .ok (.lload_n 0, 1) := by decide +kernel
theorem dMa_7 : decode jdk_29_method_66_code 7 = .ok (.goto 4, 3) := by decide +kernel
theorem dMa_10 : decode jdk_29_method_66_code 10 = .ok (.lload_n 2, 1) := by decide +kernel
theorem dMa_11 : decode jdk_29_method_66_code 11 = .ok (.lreturn, 1) := by decide +kernel
theorem efMa (m : MethodId) (u : Int64) (w : Int64) : entryFrame m #[(.long u), (.long w)] 4 = mkF m 0 #[.val (.long u), .second, .val (.long w), .second] [] := by first | (simp [entryFrame, mkF, argsToLocals, Value.category]; done) | rfl
def fMa (u : Int64) (w : Int64) : Int64 := (if u < w then w else u)
def QMa (Z : State) (u : Int64) (w : Int64) (h0 : Heap) (n0 : Nat) (v : Option Value) (h : Heap) (L : List Loc) : Prop := v = some (.long (fMa u w)) ∧ Fr n0 L ∧ h = h0
set_option maxRecDepth 65536 in
set_option maxHeartbeats 40000000 in
theorem rmMa (l : Launch) (Z : State) (a0 : Array Value) (hw : ∀ d ∈ tables_1, d.before a0 Z = true) (ws : List Jvm.Cond) (u : Int64) (w : Int64) (h0 : Heap) (n0 : Nat) (Z0 : n0 ≤ h0.size) :
    MetFree l (⟨"java/lang/Math", "max", "(JJ)J"⟩ : MethodName) (head1 (Jvm.Cond.code (⟨"java/lang/Math", "max", "(JJ)J"⟩ : MethodName) jdk_29_method_66_code 4 (some .long) :: ws) ({ frames := 0, cells := 0, slots := 0, locals := 0 } : Room)) (fun aa_ U_ => aa_ = #[(.long u), (.long w)] ∧ Z.Warmed39 U_.vm ∧ U_.heap = h0) (fun _ _ _ _ _ => True) (fun _ U_ o_ V_ => ∃ v_ L_, o_ = .returned v_ ∧ QMa Z u w h0 n0 v_ V_.heap L_ ∧ FrameEnd U_ o_ V_ L_ ({ frames := 0, cells := 0, slots := 0, locals := 0 } : Room).cells ({ frames := 0, cells := 0, slots := 0, locals := 0 } : Room).slots) := by
  refine MetFree.of_bodySF (Jvm.Free.JP.mathPlain rfl (by decide +kernel)) hisR ?_
  intro p e s m args below meth c s₁ Bd hml0 hP hK
  obtain ⟨rfl, hZ, hh⟩ := hP
  have hx := Bd.exec
  have hby := Bd.bytes
  have hml : c.maxLocals = 4 := hml0
  have hown : s.vm.findClass "java/lang/Math" = some m.cls := findClass_of_methodNamed Bd.named
  have hnm := (name_of_methodNamed Bd.named Bd.method).1
  have hlk : meth.locks = false := BodyLoose.notSynchronized Bd
  have hret : meth.sig.returnType = (some .long) := Bd.returns
  have X0 : Stand p l e ({ frames := 0, cells := 0, slots := 0, locals := 0 } : Room) s m #[(.long u), (.long w)] below meth c s₁ [] 0 0 := Stand.of_body Bd
  have e0 : s₁.heap = h0 := by rw [← hh, Bd.state]; rfl
  have N0 := Fr.nil n0
  show Go p e below s ({ frames := 0, cells := 0, slots := 0, locals := 0 } : Room).cells ({ frames := 0, cells := 0, slots := 0, locals := 0 } : Room).slots (QMa Z u w h0 n0) (s₁.setTop (entryFrame m #[(.long u), (.long w)] 4))
  rw [efMa]
  refine Go.by (fun _ kont => XS.lloadN X0.here hx rfl (hb hby dMa_0) rfl (XS.lloadN X0.here hx rfl (hb hby dMa_1) rfl (XS.lcmp X0.here hx rfl (hb hby dMa_2) rfl kont))) ?_
  show Go _ _ _ _ _ _ _ (s₁.setTop (mkF m 3 #[.val (.long u), .second, .val (.long w), .second] [(.int (lcmpW u w))]))
  by_cases hc101 : u < w
  · refine Go.by (fun _ kont => XS.ifYes X0.here hx rfl (pc0 := 3) (pc' := 10) rfl (hb hby dMa_3) rfl ((if0 _ _).trans (tlt ((lw_lt _ _).mpr hc101)).1) (by decide) (by decide) kont) ?_
    show Go _ _ _ _ _ _ _ (s₁.setTop (mkF m 10 #[.val (.long u), .second, .val (.long w), .second] []))
    refine Go.by (fun _ kont => XS.lloadN X0.here hx rfl (hb hby dMa_10) rfl kont) ?_
    show Go _ _ _ _ _ _ _ (s₁.setTop (mkF m 11 #[.val (.long u), .second, .val (.long w), .second] [(.long w)]))
    refine Go.retJ X0 hx hret hlk (hb hby dMa_11) ?_ (by decide) (by decide)
    show QMa Z u w h0 n0 (some (.long w)) s₁.heap _
    rw [e0]
    refine ⟨?_, N0, rfl⟩
    unfold fMa
    rw [if_pos hc101]
  · refine Go.by (fun _ kont => XS.ifNo X0.here hx rfl (hb hby dMa_3) rfl ((if0 _ _).trans (flt (fun z => hc101 ((lw_lt _ _).mp z))).1) kont) ?_
    show Go _ _ _ _ _ _ _ (s₁.setTop (mkF m 6 #[.val (.long u), .second, .val (.long w), .second] []))
    refine Go.by (fun _ kont => XS.lloadN X0.here hx rfl (hb hby dMa_6) rfl (XS.goto X0.here hx rfl (pc0 := 7) (pc' := 11) rfl (hb hby dMa_7) (by decide) (by decide) kont)) ?_
    show Go _ _ _ _ _ _ _ (s₁.setTop (mkF m 11 #[.val (.long u), .second, .val (.long w), .second] [(.long u)]))
    refine Go.retJ X0 hx hret hlk (hb hby dMa_11) ?_ (by decide) (by decide)
    show QMa Z u w h0 n0 (some (.long u)) s₁.heap _
    rw [e0]
    refine ⟨?_, N0, rfl⟩
    unfold fMa
    rw [if_neg hc101]

theorem dR_0 : decode jdk_30_method_1_code 0 = .ok (.aload_n 0, 1) := by decide +kernel
theorem dR_1 : decode jdk_30_method_1_code 1 = .ok (.invokespecial 1, 3) := by decide +kernel
theorem dR_4 : decode jdk_30_method_1_code 4 = .ok (.return_, 1) := by decide +kernel
theorem pnR : plainName "java/lang/Record" = true := by first | (simp [plainName, overriddenIn]; done) | decide +kernel
theorem efR (m : MethodId) (a : Addr) : entryFrame m #[(.ref a)] 1 = mkF m 0 #[.val (.ref a)] [] := by first | (simp [entryFrame, mkF, argsToLocals, Value.category]; done) | rfl
def QR (Z : State) (a : Addr) (h0 : Heap) (n0 : Nat) (v : Option Value) (h : Heap) (L : List Loc) : Prop := v = none ∧ Fr n0 L ∧ h = h0
set_option maxRecDepth 65536 in
set_option maxHeartbeats 40000000 in
theorem rmR (l : Launch) (Z : State) (a0 : Array Value) (hw : ∀ d ∈ tables_1, d.before a0 Z = true) (ws : List Jvm.Cond) (a : Addr) (h0 : Heap) (n0 : Nat) (Z0 : n0 ≤ h0.size) :
    MetFree l (⟨"java/lang/Record", "<init>", "()V"⟩ : MethodName) (head1 (Jvm.Cond.code (⟨"java/lang/Record", "<init>", "()V"⟩ : MethodName) jdk_30_method_1_code 1 none :: ws) ({ frames := 1, cells := 0, slots := 0, locals := 12 } : Room)) (fun aa_ U_ => aa_ = #[(.ref a)] ∧ Z.Warmed39 U_.vm ∧ U_.heap = h0) (fun _ _ _ _ _ => True) (fun _ U_ o_ V_ => ∃ v_ L_, o_ = .returned v_ ∧ QR Z a h0 n0 v_ V_.heap L_ ∧ FrameEnd U_ o_ V_ L_ ({ frames := 1, cells := 0, slots := 0, locals := 12 } : Room).cells ({ frames := 1, cells := 0, slots := 0, locals := 12 } : Room).slots) := by
  refine MetFree.of_bodySF (plainFor_of_name pnR) hisR ?_
  intro p e s m args below meth c s₁ Bd hml0 hP hK
  obtain ⟨rfl, hZ, hh⟩ := hP
  have hx := Bd.exec
  have hby := Bd.bytes
  have hml : c.maxLocals = 1 := hml0
  have hown : s.vm.findClass "java/lang/Record" = some m.cls := findClass_of_methodNamed Bd.named
  have hnm := (name_of_methodNamed Bd.named Bd.method).1
  have hlk : meth.locks = false := BodyLoose.notSynchronized Bd
  have hret : meth.sig.returnType = none := Bd.returns
  have X0 : Stand p l e ({ frames := 1, cells := 0, slots := 0, locals := 12 } : Room) s m #[(.ref a)] below meth c s₁ [] 0 0 := Stand.of_body Bd
  have e0 : s₁.heap = h0 := by rw [← hh, Bd.state]; rfl
  have N0 := Fr.nil n0
  show Go p e below s ({ frames := 1, cells := 0, slots := 0, locals := 12 } : Room).cells ({ frames := 1, cells := 0, slots := 0, locals := 12 } : Room).slots (QR Z a h0 n0) (s₁.setTop (entryFrame m #[(.ref a)] 1))
  rw [efR]
  refine Go.by (fun _ kont => XS.aloadN X0.here hx rfl (hb hby dR_0) rfl rfl kont) ?_
  show Go _ _ _ _ _ _ _ (s₁.setTop (mkF m 1 #[.val (.ref a)] [(.ref a)]))
  obtain ⟨T101, X101, e101, st101⟩ := initO X0 hx hZ hown (hw _ (List.mem_of_getElem? (i := 69) rfl)) (hw _ (List.mem_of_getElem? (i := 8) rfl)) (hw _ (List.mem_of_getElem? (i := 9) rfl)) e0 (g := (mkF m 1 #[.val (.ref a)] [(.ref a)])) rfl (by rw [hml]; rfl) rfl (hb hby dR_1) (by decide) (W := 0) (by show 2 * 0 + _ ≤ _; exact Nat.le_of_eq rfl) (by decide)
  refine Go.by st101 ?_
  show Go _ _ _ _ _ _ _ (T101.setTop (mkF m 4 #[.val (.ref a)] []))
  refine Go.retV X101 hx hret hlk (hb hby dR_4) ?_ (by decide) (by decide)
  show QR Z a h0 n0 none T101.heap _
  rw [e101]
  exact ⟨rfl, N0, rfl⟩

theorem dN_0 : decode jdk_18_method_1_code 0 = .ok (.aload_n 0, 1) := by decide +kernel
theorem dN_1 : decode jdk_18_method_1_code 1 = .ok (.invokespecial 1, 3) := by decide +kernel
theorem dN_4 : decode jdk_18_method_1_code 4 = .ok (.return_, 1) := by decide +kernel
theorem pnN : plainName "java/lang/Number" = true := by first | (simp [plainName, overriddenIn]; done) | decide +kernel
theorem efN (m : MethodId) (a : Addr) : entryFrame m #[(.ref a)] 1 = mkF m 0 #[.val (.ref a)] [] := by first | (simp [entryFrame, mkF, argsToLocals, Value.category]; done) | rfl
def QN (Z : State) (a : Addr) (h0 : Heap) (n0 : Nat) (v : Option Value) (h : Heap) (L : List Loc) : Prop := v = none ∧ Fr n0 L ∧ h = h0
set_option maxRecDepth 65536 in
set_option maxHeartbeats 40000000 in
theorem rmN (l : Launch) (Z : State) (a0 : Array Value) (hw : ∀ d ∈ tables_1, d.before a0 Z = true) (ws : List Jvm.Cond) (a : Addr) (h0 : Heap) (n0 : Nat) (Z0 : n0 ≤ h0.size) :
    MetFree l (⟨"java/lang/Number", "<init>", "()V"⟩ : MethodName) (head1 (Jvm.Cond.code (⟨"java/lang/Number", "<init>", "()V"⟩ : MethodName) jdk_18_method_1_code 1 none :: ws) ({ frames := 1, cells := 0, slots := 0, locals := 12 } : Room)) (fun aa_ U_ => aa_ = #[(.ref a)] ∧ Z.Warmed39 U_.vm ∧ U_.heap = h0) (fun _ _ _ _ _ => True) (fun _ U_ o_ V_ => ∃ v_ L_, o_ = .returned v_ ∧ QN Z a h0 n0 v_ V_.heap L_ ∧ FrameEnd U_ o_ V_ L_ ({ frames := 1, cells := 0, slots := 0, locals := 12 } : Room).cells ({ frames := 1, cells := 0, slots := 0, locals := 12 } : Room).slots) := by
  refine MetFree.of_bodySF (plainFor_of_name pnN) hisR ?_
  intro p e s m args below meth c s₁ Bd hml0 hP hK
  obtain ⟨rfl, hZ, hh⟩ := hP
  have hx := Bd.exec
  have hby := Bd.bytes
  have hml : c.maxLocals = 1 := hml0
  have hown : s.vm.findClass "java/lang/Number" = some m.cls := findClass_of_methodNamed Bd.named
  have hnm := (name_of_methodNamed Bd.named Bd.method).1
  have hlk : meth.locks = false := BodyLoose.notSynchronized Bd
  have hret : meth.sig.returnType = none := Bd.returns
  have X0 : Stand p l e ({ frames := 1, cells := 0, slots := 0, locals := 12 } : Room) s m #[(.ref a)] below meth c s₁ [] 0 0 := Stand.of_body Bd
  have e0 : s₁.heap = h0 := by rw [← hh, Bd.state]; rfl
  have N0 := Fr.nil n0
  show Go p e below s ({ frames := 1, cells := 0, slots := 0, locals := 12 } : Room).cells ({ frames := 1, cells := 0, slots := 0, locals := 12 } : Room).slots (QN Z a h0 n0) (s₁.setTop (entryFrame m #[(.ref a)] 1))
  rw [efN]
  refine Go.by (fun _ kont => XS.aloadN X0.here hx rfl (hb hby dN_0) rfl rfl kont) ?_
  show Go _ _ _ _ _ _ _ (s₁.setTop (mkF m 1 #[.val (.ref a)] [(.ref a)]))
  obtain ⟨T101, X101, e101, st101⟩ := initO X0 hx hZ hown (hw _ (List.mem_of_getElem? (i := 120) rfl)) (hw _ (List.mem_of_getElem? (i := 8) rfl)) (hw _ (List.mem_of_getElem? (i := 9) rfl)) e0 (g := (mkF m 1 #[.val (.ref a)] [(.ref a)])) rfl (by rw [hml]; rfl) rfl (hb hby dN_1) (by decide) (W := 0) (by show 2 * 0 + _ ≤ _; exact Nat.le_of_eq rfl) (by decide)
  refine Go.by st101 ?_
  show Go _ _ _ _ _ _ _ (T101.setTop (mkF m 4 #[.val (.ref a)] []))
  refine Go.retV X101 hx hret hlk (hb hby dN_4) ?_ (by decide) (by decide)
  show QN Z a h0 n0 none T101.heap _
  rw [e101]
  exact ⟨rfl, N0, rfl⟩

theorem dRn_0 : decode jdk_31_method_10_code 0 = .ok (.aload_n 0, 1) := by decide +kernel
theorem dRn_1 : decode jdk_31_method_10_code 1 = .ok (.ifnonnull 11, 3) := by decide +kernel
theorem dRn_12 : decode jdk_31_method_10_code 12 = .ok (.aload_n 0, 1) := by decide +kernel
theorem dRn_13 : decode jdk_31_method_10_code 13 = .ok (.areturn, 1) := by decide +kernel
theorem pnRn : plainName "java/util/Objects" = true := by first | (simp [plainName, overriddenIn]; done) | decide +kernel
theorem efRn (m : MethodId) (oo : Addr) : entryFrame m #[(.ref oo)] 1 = mkF m 0 #[.val (.ref oo)] [] := by first | (simp [entryFrame, mkF, argsToLocals, Value.category]; done) | rfl
def QRn (Z : State) (oo : Addr) (h0 : Heap) (n0 : Nat) (v : Option Value) (h : Heap) (L : List Loc) : Prop := (v = some (.ref oo) ∧ Fr n0 L ∧ h = h0)
set_option maxRecDepth 65536 in
set_option maxHeartbeats 40000000 in
theorem rmRn (l : Launch) (Z : State) (a0 : Array Value) (hw : ∀ d ∈ tables_1, d.before a0 Z = true) (ws : List Jvm.Cond) (oo : Addr) (h0 : Heap) (n0 : Nat) (Z0 : n0 ≤ h0.size) :
    MetFree l (⟨"java/util/Objects", "requireNonNull", "(Ljava/lang/Object;)Ljava/lang/Object;"⟩ : MethodName) (head1 (Jvm.Cond.code (⟨"java/util/Objects", "requireNonNull", "(Ljava/lang/Object;)Ljava/lang/Object;"⟩ : MethodName) jdk_31_method_10_code 1 (some (.object "java/lang/Object")) :: ws) ({ frames := 0, cells := 0, slots := 0, locals := 0 } : Room)) (fun aa_ U_ => aa_ = #[(.ref oo)] ∧ Z.Warmed39 U_.vm ∧ U_.heap = h0) (fun _ _ _ _ _ => True) (fun _ U_ o_ V_ => ∃ v_ L_, o_ = .returned v_ ∧ QRn Z oo h0 n0 v_ V_.heap L_ ∧ FrameEnd U_ o_ V_ L_ ({ frames := 0, cells := 0, slots := 0, locals := 0 } : Room).cells ({ frames := 0, cells := 0, slots := 0, locals := 0 } : Room).slots) := by
  refine MetFree.of_bodySF (plainFor_of_name pnRn) hisR ?_
  intro p e s m args below meth c s₁ Bd hml0 hP hK
  obtain ⟨rfl, hZ, hh⟩ := hP
  have hx := Bd.exec
  have hby := Bd.bytes
  have hml : c.maxLocals = 1 := hml0
  have hown : s.vm.findClass "java/util/Objects" = some m.cls := findClass_of_methodNamed Bd.named
  have hnm := (name_of_methodNamed Bd.named Bd.method).1
  have hlk : meth.locks = false := BodyLoose.notSynchronized Bd
  have hret : meth.sig.returnType = (some (.object "java/lang/Object")) := Bd.returns
  have X0 : Stand p l e ({ frames := 0, cells := 0, slots := 0, locals := 0 } : Room) s m #[(.ref oo)] below meth c s₁ [] 0 0 := Stand.of_body Bd
  have e0 : s₁.heap = h0 := by rw [← hh, Bd.state]; rfl
  have N0 := Fr.nil n0
  show Go p e below s ({ frames := 0, cells := 0, slots := 0, locals := 0 } : Room).cells ({ frames := 0, cells := 0, slots := 0, locals := 0 } : Room).slots (QRn Z oo h0 n0) (s₁.setTop (entryFrame m #[(.ref oo)] 1))
  rw [efRn]
  refine Go.by (fun _ kont => XS.aloadN X0.here hx rfl (hb hby dRn_0) rfl rfl (XS.ifnonnullYes X0.here hx rfl (pc0 := 1) (pc' := 12) rfl (hb hby dRn_1) rfl (by decide) (by decide) (XS.aloadN X0.here hx rfl (hb hby dRn_12) rfl rfl kont))) ?_
  show Go _ _ _ _ _ _ _ (s₁.setTop (mkF m 13 #[.val (.ref oo)] [(.ref oo)]))
  refine Go.retR X0 hx hret rfl rfl hlk (hb hby dRn_13) ?_ (by decide) (by decide)
  show QRn Z oo h0 n0 (some (.ref oo)) s₁.heap _
  rw [e0]
  exact ⟨rfl, N0, rfl⟩

/-- BigInteger's table of small ones, at the case's start -/
def PC (Z : State) (a : Addr) : Prop := ∃ c : Cell, Arr Z Z.heap a c (.object "java/math/BigInteger") ∧ c.slots.size = (17 : Int32).toNatClampNeg ∧ ∀ j : Int32, 1 ≤ j.toInt ∧ j.toInt ≤ 16 → ∃ y : Addr, c.slots[j.toNatClampNeg]? = some (.ref y) ∧ Exa Z Z.heap y "java/math/BigInteger" ∧ Fld Z Z.heap y "java/math/BigInteger" "signum" "I" (.int 1)
theorem own_pi (vv : Int64) (h0 : ¬ vv < (0 : Int64)) (h1 : ¬ vv = (0 : Int64)) (h2 : ¬ (16 : Int64) < vv) : 1 ≤ (vv.toInt32).toInt ∧ (vv.toInt32).toInt ≤ 16 := by
  rw [Int64.lt_iff_toInt_lt] at h0 h2
  rw [← Int64.toInt_inj] at h1
  have e0 : (0 : Int64).toInt = 0 := by decide
  have e16 : (16 : Int64).toInt = 16 := by decide
  have c := c_l2i vv
  have r := rng32 vv.toInt32
  omega
theorem own_i17 {j : Int32} (B : 1 ≤ j.toInt ∧ j.toInt ≤ 16) : ¬ j < 0 ∧ j < 17 := by
  rw [Int32.lt_iff_toInt_lt, Int32.lt_iff_toInt_lt, show (0 : Int32).toInt = 0 from by decide, show (17 : Int32).toInt = 17 from by decide]; omega
theorem own_pos (vv : Int64) (h0 : ¬ vv < (0 : Int64)) (h1 : ¬ vv = (0 : Int64)) : (0 : Int64) < vv := by
  rw [Int64.lt_iff_toInt_lt] at h0 ⊢
  rw [← Int64.toInt_inj] at h1
  omega
def gF (j i : Int32) (y d : Int64) : Int64 := if j = i then y + d else y

theorem dBi_0 : decode jdk_2097_method_30_code 0 = .ok (.aload_n 0, 1) := by decide +kernel
theorem dBi_1 : decode jdk_2097_method_30_code 1 = .ok (.invokespecial 3, 3) := by decide +kernel
theorem dBi_4 : decode jdk_2097_method_30_code 4 = .ok (.lload_n 1, 1) := by decide +kernel
theorem dBi_5 : decode jdk_2097_method_30_code 5 = .ok (.lconst 0, 1) := by decide +kernel
theorem dBi_6 : decode jdk_2097_method_30_code 6 = .ok (.lcmp, 1) := by decide +kernel
theorem dBi_7 : decode jdk_2097_method_30_code 7 = .ok (.ifCond .ge 14, 3) := by decide +kernel
theorem dBi_21 : decode jdk_2097_method_30_code 21 = .ok (.aload_n 0, 1) := by decide +kernel
theorem dBi_22 : decode jdk_2097_method_30_code 22 = .ok (.iconst 1, 1) := by decide +kernel
theorem dBi_23 : decode jdk_2097_method_30_code 23 = .ok (.putfield 32, 3) := by decide +kernel
theorem dBi_26 : decode jdk_2097_method_30_code 26 = .ok (.lload_n 1, 1) := by decide +kernel
theorem dBi_27 : decode jdk_2097_method_30_code 27 = .ok (.bipush 32, 2) := by decide +kernel
theorem dBi_29 : decode jdk_2097_method_30_code 29 = .ok (.lushr, 1) := by decide +kernel
theorem dBi_30 : decode jdk_2097_method_30_code 30 = .ok (.l2i, 1) := by decide +kernel
theorem dBi_31 : decode jdk_2097_method_30_code 31 = .ok (.istore_n 3, 1) := by decide +kernel
theorem dBi_32 : decode jdk_2097_method_30_code 32 = .ok (.iload_n 3, 1) := by decide +kernel
theorem dBi_33 : decode jdk_2097_method_30_code 33 = .ok (.ifCond .ne 21, 3) := by decide +kernel
theorem dBi_36 : decode jdk_2097_method_30_code 36 = .ok (.aload_n 0, 1) := by decide +kernel
theorem dBi_37 : decode jdk_2097_method_30_code 37 = .ok (.iconst 1, 1) := by decide +kernel
theorem dBi_38 : decode jdk_2097_method_30_code 38 = .ok (.newarray .int, 2) := by decide +kernel
theorem dBi_40 : decode jdk_2097_method_30_code 40 = .ok (.putfield 28, 3) := by decide +kernel
theorem dBi_43 : decode jdk_2097_method_30_code 43 = .ok (.aload_n 0, 1) := by decide +kernel
theorem dBi_44 : decode jdk_2097_method_30_code 44 = .ok (.getfield 28, 3) := by decide +kernel
theorem dBi_47 : decode jdk_2097_method_30_code 47 = .ok (.iconst 0, 1) := by decide +kernel
theorem dBi_48 : decode jdk_2097_method_30_code 48 = .ok (.lload_n 1, 1) := by decide +kernel
theorem dBi_49 : decode jdk_2097_method_30_code 49 = .ok (.l2i, 1) := by decide +kernel
theorem dBi_50 : decode jdk_2097_method_30_code 50 = .ok (.iastore, 1) := by decide +kernel
theorem dBi_51 : decode jdk_2097_method_30_code 51 = .ok (.goto 25, 3) := by decide +kernel
theorem dBi_54 : decode jdk_2097_method_30_code 54 = .ok (.aload_n 0, 1) := by decide +kernel
theorem dBi_55 : decode jdk_2097_method_30_code 55 = .ok (.iconst 2, 1) := by decide +kernel
theorem dBi_56 : decode jdk_2097_method_30_code 56 = .ok (.newarray .int, 2) := by decide +kernel
theorem dBi_58 : decode jdk_2097_method_30_code 58 = .ok (.putfield 28, 3) := by decide +kernel
theorem dBi_61 : decode jdk_2097_method_30_code 61 = .ok (.aload_n 0, 1) := by decide +kernel
theorem dBi_62 : decode jdk_2097_method_30_code 62 = .ok (.getfield 28, 3) := by decide +kernel
theorem dBi_65 : decode jdk_2097_method_30_code 65 = .ok (.iconst 0, 1) := by decide +kernel
theorem dBi_66 : decode jdk_2097_method_30_code 66 = .ok (.iload_n 3, 1) := by decide +kernel
theorem dBi_67 : decode jdk_2097_method_30_code 67 = .ok (.iastore, 1) := by decide +kernel
theorem dBi_68 : decode jdk_2097_method_30_code 68 = .ok (.aload_n 0, 1) := by decide +kernel
theorem dBi_69 : decode jdk_2097_method_30_code 69 = .ok (.getfield 28, 3) := by decide +kernel
theorem dBi_72 : decode jdk_2097_method_30_code 72 = .ok (.iconst 1, 1) := by decide +kernel
theorem dBi_73 : decode jdk_2097_method_30_code 73 = .ok (.lload_n 1, 1) := by decide +kernel
theorem dBi_74 : decode jdk_2097_method_30_code 74 = .ok (.l2i, 1) := by decide +kernel
theorem dBi_75 : decode jdk_2097_method_30_code 75 = .ok (.iastore, 1) := by decide +kernel
theorem dBi_76 : decode jdk_2097_method_30_code 76 = .ok (.return_, 1) := by decide +kernel
theorem pdBi_0 : parseMethodDescriptor "()V" = some ⟨[], none⟩ := by decide +kernel
theorem pnBi : plainName "java/math/BigInteger" = true := by first | (simp [plainName, overriddenIn]; done) | decide +kernel
theorem efBi (m : MethodId) (a : Addr) (vv : Int64) : entryFrame m #[(.ref a), (.long vv)] 4 = mkF m 0 #[.val (.ref a), .val (.long vv), .second, .unset] [] := by first | (simp [entryFrame, mkF, argsToLocals, Value.category]; done) | rfl
def QBi (Z : State) (a : Addr) (h0 : Heap) (n0 : Nat) (v : Option Value) (h : Heap) (L : List Loc) : Prop := v = none ∧ Fr n0 L ∧ Keep h0 h [a] ∧ Exa Z h a "java/math/BigInteger" ∧ Fld Z h a "java/math/BigInteger" "signum" "I" (.int 1)
set_option maxRecDepth 65536 in
set_option maxHeartbeats 40000000 in
theorem rmBi (l : Launch) (Z : State) (a0 : Array Value) (hw : ∀ d ∈ tables_1, d.before a0 Z = true) (ws : List Jvm.Cond) (a : Addr) (vv : Int64) (h0 : Heap) (n0 : Nat) (Z0 : n0 ≤ h0.size) (E0a : Exa Z h0 a "java/math/BigInteger") (Fg : Fld Z h0 a "java/math/BigInteger" "signum" "I" (.int 0)) (Fm : Fld Z h0 a "java/math/BigInteger" "mag" "[I" .null) (ga : n0 ≤ a) (hv : ¬ (vv < (0 : Int64))) :
    MetFree l (⟨"java/math/BigInteger", "<init>", "(J)V"⟩ : MethodName) (head1 (Jvm.Cond.code (⟨"java/math/BigInteger", "<init>", "(J)V"⟩ : MethodName) jdk_2097_method_30_code 4 none :: ws) ({ frames := 2, cells := 1, slots := 2, locals := 24 } : Room)) (fun aa_ U_ => aa_ = #[(.ref a), (.long vv)] ∧ Z.Warmed39 U_.vm ∧ U_.heap = h0) (fun _ _ _ _ _ => True) (fun _ U_ o_ V_ => ∃ v_ L_, o_ = .returned v_ ∧ QBi Z a h0 n0 v_ V_.heap L_ ∧ FrameEnd U_ o_ V_ L_ ({ frames := 2, cells := 1, slots := 2, locals := 24 } : Room).cells ({ frames := 2, cells := 1, slots := 2, locals := 24 } : Room).slots) := by
  refine MetFree.of_bodySF (plainFor_of_name pnBi) hisR ?_
  intro p e s m args below meth c s₁ Bd hml0 hP hK
  obtain ⟨rfl, hZ, hh⟩ := hP
  have hx := Bd.exec
  have hby := Bd.bytes
  have hml : c.maxLocals = 4 := hml0
  have hown : s.vm.findClass "java/math/BigInteger" = some m.cls := findClass_of_methodNamed Bd.named
  have hnm := (name_of_methodNamed Bd.named Bd.method).1
  have hlk : meth.locks = false := BodyLoose.notSynchronized Bd
  have hret : meth.sig.returnType = none := Bd.returns
  have X0 : Stand p l e ({ frames := 2, cells := 1, slots := 2, locals := 24 } : Room) s m #[(.ref a), (.long vv)] below meth c s₁ [] 0 0 := Stand.of_body Bd
  have e0 : s₁.heap = h0 := by rw [← hh, Bd.state]; rfl
  have N0 := Fr.nil n0
  show Go p e below s ({ frames := 2, cells := 1, slots := 2, locals := 24 } : Room).cells ({ frames := 2, cells := 1, slots := 2, locals := 24 } : Room).slots (QBi Z a h0 n0) (s₁.setTop (entryFrame m #[(.ref a), (.long vv)] 4))
  rw [efBi]
  refine Go.by (fun _ kont => XS.aloadN X0.here hx rfl (hb hby dBi_0) rfl rfl kont) ?_
  show Go _ _ _ _ _ _ _ (s₁.setTop (mkF m 1 #[.val (.ref a), .val (.long vv), .second, .unset] [(.ref a)]))
  obtain ⟨_, _, ⟨T101, L101, k101, n101⟩, -, X101, ⟨Lc101, hQ101, l101, y101, z101⟩, st101⟩ := X0.specialBack hx (y := (⟨"java/lang/Number", "<init>", "()V"⟩ : MethodName)) rfl hown (mvT hZ (hw _ (List.mem_of_getElem? (i := 114) rfl))) (mvT hZ (hw _ (List.mem_of_getElem? (i := 115) rfl))) (mvT hZ (hw _ (List.mem_of_getElem? (i := 119) rfl))) (by decide) (backOf (W := 0) (rmN l Z a0 hw [] a h0 n0 Z0 ) hZ (hw _ (List.mem_of_getElem? (i := 119) rfl)) (hw _ (List.mem_of_getElem? (i := 118) rfl)) (by decide) (by decide)) (g := (mkF m 1 #[.val (.ref a), .val (.long vv), .second, .unset] [(.ref a)])) rfl (by rw [hml]; rfl) (Steps.refl _) (a := a) (argsL := []) (rest := []) (lenOf pdBi_0 rfl) rfl (by show 2 * 0 + _ ≤ _; exact Nat.le_of_eq rfl) (hb hby dBi_1) (fun _ _ => ⟨rfl, e0, (by decide : 0 + 0 ≤ _), (by decide : 0 + 0 ≤ _)⟩)
  dsimp only [Pt.U, Pt.locs, Pt.cells, Pt.slots] at X101 l101 y101 z101 st101 hQ101
  subst l101 y101 z101
  obtain ⟨rfl, N101q, eh101⟩ := hQ101
  have N101 := Fr.app N0 N101q
  refine Go.tr st101 ?_
  show Go _ _ _ _ _ _ _ (T101.setTop (mkF m 4 #[.val (.ref a), .val (.long vv), .second, .unset] []))
  refine Go.by (fun _ kont => XS.lloadN X101.here hx rfl (hb hby dBi_4) rfl (XS.lconst X101.here hx rfl (hb hby dBi_5) (XS.lcmp X101.here hx rfl (hb hby dBi_6) rfl kont))) ?_
  show Go _ _ _ _ _ _ _ (T101.setTop (mkF m 7 #[.val (.ref a), .val (.long vv), .second, .unset] [(.int (lcmpW vv (0 : Int64)))]))
  refine Go.by (fun _ kont => XS.ifYes X101.here hx rfl (pc0 := 7) (pc' := 21) rfl (hb hby dBi_7) rfl ((if0 _ _).trans (flt (fun z => hv ((lw_lt _ _).mp z))).2.1) (by decide) (by decide) kont) ?_
  show Go _ _ _ _ _ _ _ (T101.setTop (mkF m 21 #[.val (.ref a), .val (.long vv), .second, .unset] []))
  refine Go.by (fun _ kont => XS.aloadN X101.here hx rfl (hb hby dBi_21) rfl rfl (XS.iconst X101.here hx rfl (hb hby dBi_22) kont)) ?_
  show Go _ _ _ _ _ _ _ (T101.setTop (mkF m 23 #[.val (.ref a), .val (.long vv), .second, .unset] [(.int (1 : Int32)), (.ref a)]))
  obtain ⟨T102, h102, X102, e102, W102, st102⟩ := putF X101 hx hZ hown (host := "") (Or.inl (hw _ (List.mem_of_getElem? (i := 50) rfl))) Via.refl eh101 Fg E0a (Or.inr ⟨(hw _ (List.mem_of_getElem? (i := 51) rfl)), rfl, hnm⟩) (hw _ (List.mem_of_getElem? (i := 109) rfl)) (ty := .int) (by decide) rfl rfl (g := (mkF m 23 #[.val (.ref a), .val (.long vv), .second, .unset] [(.int (1 : Int32)), (.ref a)])) rfl rfl (hb hby dBi_23)
  have Fw102 := Fg.same W102
  have F103_mag_a := Fm.other W102 (Or.inr (slot_ne (Or.inr (hw _ (List.mem_of_getElem? (i := 123) rfl))) (Or.inr (hw _ (List.mem_of_getElem? (i := 51) rfl))) (by decide) (t := (.array .int)) (t' := .int) (by decide) (by decide)))
  have E103_a := E0a.wr W102
  have Z103 := Nat.le_trans Z0 (Keep.of_wr W102).1
  have K103 : Keep h0 h102 [a] := (Keep.refl h0 [a]).wr W102 (Or.inl (by simp))
  have N102 := Fr.snoc X102 N101 ga
  refine Go.by st102 ?_
  show Go _ _ _ _ _ _ _ (T102.setTop (mkF m 26 #[.val (.ref a), .val (.long vv), .second, .unset] []))
  refine Go.by (fun _ kont => XS.lloadN X102.here hx rfl (hb hby dBi_26) rfl (XS.bipush X102.here hx rfl (hb hby dBi_27) (XS.lushr X102.here hx rfl (hb hby dBi_29) rfl (XS.l2i X102.here hx rfl (hb hby dBi_30) rfl (XS.istoreN X102.here hx rfl (hb hby dBi_31) rfl (l' := #[.val (.ref a), .val (.long vv), .second, .val (.int (((vv.toUInt64 >>> ((32 : Int32) &&& 0x3f).toInt64.toUInt64).toInt64).toInt32))]) rfl (XS.iloadN X102.here hx rfl (hb hby dBi_32) rfl kont)))))) ?_
  show Go _ _ _ _ _ _ _ (T102.setTop (mkF m 33 #[.val (.ref a), .val (.long vv), .second, .val (.int (((vv.toUInt64 >>> ((32 : Int32) &&& 0x3f).toInt64.toUInt64).toInt64).toInt32))] [(.int (((vv.toUInt64 >>> ((32 : Int32) &&& 0x3f).toInt64.toUInt64).toInt64).toInt32))]))
  by_cases hc104 : (((vv.toUInt64 >>> ((32 : Int32) &&& 0x3f).toInt64.toUInt64).toInt64).toInt32) = (0 : Int32)
  · refine Go.by (fun _ kont => XS.ifNo X102.here hx rfl (hb hby dBi_33) rfl ((if0 _ _).trans (teq hc104).2) kont) ?_
    show Go _ _ _ _ _ _ _ (T102.setTop (mkF m 36 #[.val (.ref a), .val (.long vv), .second, .val (.int (((vv.toUInt64 >>> ((32 : Int32) &&& 0x3f).toInt64.toUInt64).toInt64).toInt32))] []))
    refine Go.by (fun _ kont => XS.aloadN X102.here hx rfl (hb hby dBi_36) rfl rfl (XS.iconst X102.here hx rfl (hb hby dBi_37) kont)) ?_
    show Go _ _ _ _ _ _ _ (T102.setTop (mkF m 38 #[.val (.ref a), .val (.long vv), .second, .val (.int (((vv.toUInt64 >>> ((32 : Int32) &&& 0x3f).toInt64.toUInt64).toInt64).toInt32))] [(.int (1 : Int32)), (.ref a)]))
    obtain ⟨T105, h105, k105, X105, e105, X_105, A105, st105⟩ := newP X102 hx hZ (hw _ (List.mem_of_getElem? (i := 121) rfl)) e102 (g := (mkF m 38 #[.val (.ref a), .val (.long vv), .second, .val (.int (((vv.toUInt64 >>> ((32 : Int32) &&& 0x3f).toInt64.toUInt64).toInt64).toInt32))] [(.int (1 : Int32)), (.ref a)])) rfl (hb hby dBi_38) rfl (by decide) (cap := 1) (by decide) (by decide) (by decide) (by decide)
    obtain ⟨b105, g105⟩ : ∃ z, z = h102.size := ⟨_, rfl⟩
    rw [← g105] at A105 st105
    have ne_a_b105 : a ≠ b105 := Nat.ne_of_lt (Nat.lt_of_lt_of_le Fw102.lt (Nat.le_of_eq g105.symm))
    have ge_b105 : n0 ≤ b105 := Nat.le_trans Z103 (Nat.le_of_eq g105.symm)
    have sz_b105 : h0.size ≤ b105 := Nat.le_trans K103.1 (Nat.le_of_eq g105.symm)
    have F106_signum_a := Fw102.ext X_105
    have F106_mag_a := F103_mag_a.ext X_105
    have E106_a := E103_a.ext X_105
    have Z106 := Nat.le_trans Z103 X_105.1
    have K106 : Keep h0 h105 [a] := K103.ext X_105
    have V105 : Arv Z h105 b105 k105 .int (1 : Int32) [(.int (0 : Int32))] (.int (0 : Int32)) := (Arv.new A105 (by decide)).pad (pad_rep [] (.int (0 : Int32)) 1)
    refine Go.by st105 ?_
    show Go _ _ _ _ _ _ _ (T105.setTop (mkF m 40 #[.val (.ref a), .val (.long vv), .second, .val (.int (((vv.toUInt64 >>> ((32 : Int32) &&& 0x3f).toInt64.toUInt64).toInt64).toInt32))] [(.ref b105), (.ref a)]))
    obtain ⟨T107, h107, X107, e107, W107, st107⟩ := putF X105 hx hZ hown (host := "") (Or.inl (hw _ (List.mem_of_getElem? (i := 122) rfl))) Via.refl e105 F106_mag_a E106_a (Or.inr ⟨(hw _ (List.mem_of_getElem? (i := 123) rfl)), rfl, hnm⟩) (hw _ (List.mem_of_getElem? (i := 109) rfl)) (ty := (.array .int)) (by decide) rfl rfl (g := (mkF m 40 #[.val (.ref a), .val (.long vv), .second, .val (.int (((vv.toUInt64 >>> ((32 : Int32) &&& 0x3f).toInt64.toUInt64).toInt64).toInt32))] [(.ref b105), (.ref a)])) rfl rfl (hb hby dBi_40)
    have Fw107 := F106_mag_a.same W107
    have F108_signum_a := F106_signum_a.other W107 (Or.inr (slot_ne (Or.inr (hw _ (List.mem_of_getElem? (i := 51) rfl))) (Or.inr (hw _ (List.mem_of_getElem? (i := 123) rfl))) (by decide) (t := .int) (t' := (.array .int)) (by decide) (by decide)))
    have E108_a := E106_a.wr W107
    have V108_b105 := V105.other W107 (Ne.symm ne_a_b105)
    have Z108 := Nat.le_trans Z106 (Keep.of_wr W107).1
    have K108 : Keep h0 h107 [a] := K106.wr W107 (Or.inl (by simp))
    have N107 := Fr.snoc X107 N102 ga
    refine Go.by st107 ?_
    show Go _ _ _ _ _ _ _ (T107.setTop (mkF m 43 #[.val (.ref a), .val (.long vv), .second, .val (.int (((vv.toUInt64 >>> ((32 : Int32) &&& 0x3f).toInt64.toUInt64).toInt64).toInt32))] []))
    refine Go.by (fun _ kont => XS.aloadN X107.here hx rfl (hb hby dBi_43) rfl rfl kont) ?_
    show Go _ _ _ _ _ _ _ (T107.setTop (mkF m 44 #[.val (.ref a), .val (.long vv), .second, .val (.int (((vv.toUInt64 >>> ((32 : Int32) &&& 0x3f).toInt64.toUInt64).toInt64).toInt32))] [(.ref a)]))
    obtain ⟨T109, X109, e109, st109⟩ := getF X107 hx hZ hown (host := "") (Or.inl (hw _ (List.mem_of_getElem? (i := 122) rfl))) Via.refl e107 Fw107 (g := (mkF m 44 #[.val (.ref a), .val (.long vv), .second, .val (.int (((vv.toUInt64 >>> ((32 : Int32) &&& 0x3f).toInt64.toUInt64).toInt64).toInt32))] [(.ref a)])) rfl rfl (hb hby dBi_44)
    refine Go.by st109 ?_
    show Go _ _ _ _ _ _ _ (T109.setTop (mkF m 47 #[.val (.ref a), .val (.long vv), .second, .val (.int (((vv.toUInt64 >>> ((32 : Int32) &&& 0x3f).toInt64.toUInt64).toInt64).toInt32))] [(.ref b105)]))
    refine Go.by (fun _ kont => XS.iconst X109.here hx rfl (hb hby dBi_47) (XS.lloadN X109.here hx rfl (hb hby dBi_48) rfl (XS.l2i X109.here hx rfl (hb hby dBi_49) rfl kont))) ?_
    show Go _ _ _ _ _ _ _ (T109.setTop (mkF m 50 #[.val (.ref a), .val (.long vv), .second, .val (.int (((vv.toUInt64 >>> ((32 : Int32) &&& 0x3f).toInt64.toUInt64).toInt64).toInt32))] [(.int (vv.toInt32)), (.int (0 : Int32)), (.ref b105)]))
    obtain ⟨cl_q110, Ar_q110, q1_q110, S_q110, N_q110, H_q110, G_q110⟩ := id V108_b105
    have hin_q110 : ¬ ((0 : Int32) < 0 ∨ cl_q110.slots.size ≤ ((0 : Int32)).toNatClampNeg) := inb_of S_q110 ⟨by decide, by decide⟩
    obtain ⟨T111, h111, X111, e111, W111, st111⟩ := stI X109 hx hZ e109 Ar_q110 (j := (0 : Int32)) hin_q110 (g := (mkF m 50 #[.val (.ref a), .val (.long vv), .second, .val (.int (((vv.toUInt64 >>> ((32 : Int32) &&& 0x3f).toInt64.toUInt64).toInt64).toInt32))] [(.int (vv.toInt32)), (.int (0 : Int32)), (.ref b105)])) rfl rfl (hb hby dBi_50)
    have V111 : Arv Z h111 b105 k105 .int (1 : Int32) [(.int (vv.toInt32))] (.int (0 : Int32)) := Arv.set Ar_q110 q1_q110 S_q110 N_q110 H_q110 G_q110 rfl W111 0 rfl (Nat.le_of_ble_eq_true rfl)
    have F112_signum_a := F108_signum_a.other W111 (Or.inl ne_a_b105)
    have F112_mag_a := Fw107.other W111 (Or.inl ne_a_b105)
    have E112_a := E108_a.wr W111
    have Z112 := Nat.le_trans Z108 (Keep.of_wr W111).1
    have K112 : Keep h0 h111 [a] := K108.wr W111 (Or.inr sz_b105)
    have N111 := Fr.snoc X111 N107 ge_b105
    refine Go.by st111 ?_
    show Go _ _ _ _ _ _ _ (T111.setTop (mkF m 51 #[.val (.ref a), .val (.long vv), .second, .val (.int (((vv.toUInt64 >>> ((32 : Int32) &&& 0x3f).toInt64.toUInt64).toInt64).toInt32))] []))
    refine Go.by (fun _ kont => XS.goto X111.here hx rfl (pc0 := 51) (pc' := 76) rfl (hb hby dBi_51) (by decide) (by decide) kont) ?_
    show Go _ _ _ _ _ _ _ (T111.setTop (mkF m 76 #[.val (.ref a), .val (.long vv), .second, .val (.int (((vv.toUInt64 >>> ((32 : Int32) &&& 0x3f).toInt64.toUInt64).toInt64).toInt32))] []))
    refine Go.retV X111 hx hret hlk (hb hby dBi_76) ?_ (by decide) (by decide)
    show QBi Z a h0 n0 none T111.heap _
    rw [e111]
    exact ⟨rfl, N111, K112, E112_a, F112_signum_a⟩
  · refine Go.by (fun _ kont => XS.ifYes X102.here hx rfl (pc0 := 33) (pc' := 54) rfl (hb hby dBi_33) rfl ((if0 _ _).trans (feq hc104).2) (by decide) (by decide) kont) ?_
    show Go _ _ _ _ _ _ _ (T102.setTop (mkF m 54 #[.val (.ref a), .val (.long vv), .second, .val (.int (((vv.toUInt64 >>> ((32 : Int32) &&& 0x3f).toInt64.toUInt64).toInt64).toInt32))] []))
    refine Go.by (fun _ kont => XS.aloadN X102.here hx rfl (hb hby dBi_54) rfl rfl (XS.iconst X102.here hx rfl (hb hby dBi_55) kont)) ?_
    show Go _ _ _ _ _ _ _ (T102.setTop (mkF m 56 #[.val (.ref a), .val (.long vv), .second, .val (.int (((vv.toUInt64 >>> ((32 : Int32) &&& 0x3f).toInt64.toUInt64).toInt64).toInt32))] [(.int (2 : Int32)), (.ref a)]))
    obtain ⟨T113, h113, k113, X113, e113, X_113, A113, st113⟩ := newP X102 hx hZ (hw _ (List.mem_of_getElem? (i := 121) rfl)) e102 (g := (mkF m 56 #[.val (.ref a), .val (.long vv), .second, .val (.int (((vv.toUInt64 >>> ((32 : Int32) &&& 0x3f).toInt64.toUInt64).toInt64).toInt32))] [(.int (2 : Int32)), (.ref a)])) rfl (hb hby dBi_56) rfl (by decide) (cap := 2) (by decide) (by decide) (by decide) (by decide)
    obtain ⟨b113, g113⟩ : ∃ z, z = h102.size := ⟨_, rfl⟩
    rw [← g113] at A113 st113
    have ne_a_b113 : a ≠ b113 := Nat.ne_of_lt (Nat.lt_of_lt_of_le Fw102.lt (Nat.le_of_eq g113.symm))
    have ge_b113 : n0 ≤ b113 := Nat.le_trans Z103 (Nat.le_of_eq g113.symm)
    have sz_b113 : h0.size ≤ b113 := Nat.le_trans K103.1 (Nat.le_of_eq g113.symm)
    have F114_signum_a := Fw102.ext X_113
    have F114_mag_a := F103_mag_a.ext X_113
    have E114_a := E103_a.ext X_113
    have Z114 := Nat.le_trans Z103 X_113.1
    have K114 : Keep h0 h113 [a] := K103.ext X_113
    have V113 : Arv Z h113 b113 k113 .int (2 : Int32) [(.int (0 : Int32)), (.int (0 : Int32))] (.int (0 : Int32)) := (Arv.new A113 (by decide)).pad (pad_rep [] (.int (0 : Int32)) 2)
    refine Go.by st113 ?_
    show Go _ _ _ _ _ _ _ (T113.setTop (mkF m 58 #[.val (.ref a), .val (.long vv), .second, .val (.int (((vv.toUInt64 >>> ((32 : Int32) &&& 0x3f).toInt64.toUInt64).toInt64).toInt32))] [(.ref b113), (.ref a)]))
    obtain ⟨T115, h115, X115, e115, W115, st115⟩ := putF X113 hx hZ hown (host := "") (Or.inl (hw _ (List.mem_of_getElem? (i := 122) rfl))) Via.refl e113 F114_mag_a E114_a (Or.inr ⟨(hw _ (List.mem_of_getElem? (i := 123) rfl)), rfl, hnm⟩) (hw _ (List.mem_of_getElem? (i := 109) rfl)) (ty := (.array .int)) (by decide) rfl rfl (g := (mkF m 58 #[.val (.ref a), .val (.long vv), .second, .val (.int (((vv.toUInt64 >>> ((32 : Int32) &&& 0x3f).toInt64.toUInt64).toInt64).toInt32))] [(.ref b113), (.ref a)])) rfl rfl (hb hby dBi_58)
    have Fw115 := F114_mag_a.same W115
    have F116_signum_a := F114_signum_a.other W115 (Or.inr (slot_ne (Or.inr (hw _ (List.mem_of_getElem? (i := 51) rfl))) (Or.inr (hw _ (List.mem_of_getElem? (i := 123) rfl))) (by decide) (t := .int) (t' := (.array .int)) (by decide) (by decide)))
    have E116_a := E114_a.wr W115
    have V116_b113 := V113.other W115 (Ne.symm ne_a_b113)
    have Z116 := Nat.le_trans Z114 (Keep.of_wr W115).1
    have K116 : Keep h0 h115 [a] := K114.wr W115 (Or.inl (by simp))
    have N115 := Fr.snoc X115 N102 ga
    refine Go.by st115 ?_
    show Go _ _ _ _ _ _ _ (T115.setTop (mkF m 61 #[.val (.ref a), .val (.long vv), .second, .val (.int (((vv.toUInt64 >>> ((32 : Int32) &&& 0x3f).toInt64.toUInt64).toInt64).toInt32))] []))
    refine Go.by (fun _ kont => XS.aloadN X115.here hx rfl (hb hby dBi_61) rfl rfl kont) ?_
    show Go _ _ _ _ _ _ _ (T115.setTop (mkF m 62 #[.val (.ref a), .val (.long vv), .second, .val (.int (((vv.toUInt64 >>> ((32 : Int32) &&& 0x3f).toInt64.toUInt64).toInt64).toInt32))] [(.ref a)]))
    obtain ⟨T117, X117, e117, st117⟩ := getF X115 hx hZ hown (host := "") (Or.inl (hw _ (List.mem_of_getElem? (i := 122) rfl))) Via.refl e115 Fw115 (g := (mkF m 62 #[.val (.ref a), .val (.long vv), .second, .val (.int (((vv.toUInt64 >>> ((32 : Int32) &&& 0x3f).toInt64.toUInt64).toInt64).toInt32))] [(.ref a)])) rfl rfl (hb hby dBi_62)
    refine Go.by st117 ?_
    show Go _ _ _ _ _ _ _ (T117.setTop (mkF m 65 #[.val (.ref a), .val (.long vv), .second, .val (.int (((vv.toUInt64 >>> ((32 : Int32) &&& 0x3f).toInt64.toUInt64).toInt64).toInt32))] [(.ref b113)]))
    refine Go.by (fun _ kont => XS.iconst X117.here hx rfl (hb hby dBi_65) (XS.iloadN X117.here hx rfl (hb hby dBi_66) rfl kont)) ?_
    show Go _ _ _ _ _ _ _ (T117.setTop (mkF m 67 #[.val (.ref a), .val (.long vv), .second, .val (.int (((vv.toUInt64 >>> ((32 : Int32) &&& 0x3f).toInt64.toUInt64).toInt64).toInt32))] [(.int (((vv.toUInt64 >>> ((32 : Int32) &&& 0x3f).toInt64.toUInt64).toInt64).toInt32)), (.int (0 : Int32)), (.ref b113)]))
    obtain ⟨cl_q118, Ar_q118, q1_q118, S_q118, N_q118, H_q118, G_q118⟩ := id V116_b113
    have hin_q118 : ¬ ((0 : Int32) < 0 ∨ cl_q118.slots.size ≤ ((0 : Int32)).toNatClampNeg) := inb_of S_q118 ⟨by decide, by decide⟩
    obtain ⟨T119, h119, X119, e119, W119, st119⟩ := stI X117 hx hZ e117 Ar_q118 (j := (0 : Int32)) hin_q118 (g := (mkF m 67 #[.val (.ref a), .val (.long vv), .second, .val (.int (((vv.toUInt64 >>> ((32 : Int32) &&& 0x3f).toInt64.toUInt64).toInt64).toInt32))] [(.int (((vv.toUInt64 >>> ((32 : Int32) &&& 0x3f).toInt64.toUInt64).toInt64).toInt32)), (.int (0 : Int32)), (.ref b113)])) rfl rfl (hb hby dBi_67)
    have V119 : Arv Z h119 b113 k113 .int (2 : Int32) [(.int (((vv.toUInt64 >>> ((32 : Int32) &&& 0x3f).toInt64.toUInt64).toInt64).toInt32)), (.int (0 : Int32))] (.int (0 : Int32)) := Arv.set Ar_q118 q1_q118 S_q118 N_q118 H_q118 G_q118 rfl W119 0 rfl (Nat.le_of_ble_eq_true rfl)
    have F120_signum_a := F116_signum_a.other W119 (Or.inl ne_a_b113)
    have F120_mag_a := Fw115.other W119 (Or.inl ne_a_b113)
    have E120_a := E116_a.wr W119
    have Z120 := Nat.le_trans Z116 (Keep.of_wr W119).1
    have K120 : Keep h0 h119 [a] := K116.wr W119 (Or.inr sz_b113)
    have N119 := Fr.snoc X119 N115 ge_b113
    refine Go.by st119 ?_
    show Go _ _ _ _ _ _ _ (T119.setTop (mkF m 68 #[.val (.ref a), .val (.long vv), .second, .val (.int (((vv.toUInt64 >>> ((32 : Int32) &&& 0x3f).toInt64.toUInt64).toInt64).toInt32))] []))
    refine Go.by (fun _ kont => XS.aloadN X119.here hx rfl (hb hby dBi_68) rfl rfl kont) ?_
    show Go _ _ _ _ _ _ _ (T119.setTop (mkF m 69 #[.val (.ref a), .val (.long vv), .second, .val (.int (((vv.toUInt64 >>> ((32 : Int32) &&& 0x3f).toInt64.toUInt64).toInt64).toInt32))] [(.ref a)]))
    obtain ⟨T121, X121, e121, st121⟩ := getF X119 hx hZ hown (host := "") (Or.inl (hw _ (List.mem_of_getElem? (i := 122) rfl))) Via.refl e119 F120_mag_a (g := (mkF m 69 #[.val (.ref a), .val (.long vv), .second, .val (.int (((vv.toUInt64 >>> ((32 : Int32) &&& 0x3f).toInt64.toUInt64).toInt64).toInt32))] [(.ref a)])) rfl rfl (hb hby dBi_69)
    refine Go.by st121 ?_
    show Go _ _ _ _ _ _ _ (T121.setTop (mkF m 72 #[.val (.ref a), .val (.long vv), .second, .val (.int (((vv.toUInt64 >>> ((32 : Int32) &&& 0x3f).toInt64.toUInt64).toInt64).toInt32))] [(.ref b113)]))
    refine Go.by (fun _ kont => XS.iconst X121.here hx rfl (hb hby dBi_72) (XS.lloadN X121.here hx rfl (hb hby dBi_73) rfl (XS.l2i X121.here hx rfl (hb hby dBi_74) rfl kont))) ?_
    show Go _ _ _ _ _ _ _ (T121.setTop (mkF m 75 #[.val (.ref a), .val (.long vv), .second, .val (.int (((vv.toUInt64 >>> ((32 : Int32) &&& 0x3f).toInt64.toUInt64).toInt64).toInt32))] [(.int (vv.toInt32)), (.int (1 : Int32)), (.ref b113)]))
    obtain ⟨cl_q122, Ar_q122, q1_q122, S_q122, N_q122, H_q122, G_q122⟩ := id V119
    have hin_q122 : ¬ ((1 : Int32) < 0 ∨ cl_q122.slots.size ≤ ((1 : Int32)).toNatClampNeg) := inb_of S_q122 ⟨by decide, by decide⟩
    obtain ⟨T123, h123, X123, e123, W123, st123⟩ := stI X121 hx hZ e121 Ar_q122 (j := (1 : Int32)) hin_q122 (g := (mkF m 75 #[.val (.ref a), .val (.long vv), .second, .val (.int (((vv.toUInt64 >>> ((32 : Int32) &&& 0x3f).toInt64.toUInt64).toInt64).toInt32))] [(.int (vv.toInt32)), (.int (1 : Int32)), (.ref b113)])) rfl rfl (hb hby dBi_75)
    have V123 : Arv Z h123 b113 k113 .int (2 : Int32) [(.int (((vv.toUInt64 >>> ((32 : Int32) &&& 0x3f).toInt64.toUInt64).toInt64).toInt32)), (.int (vv.toInt32))] (.int (0 : Int32)) := Arv.set Ar_q122 q1_q122 S_q122 N_q122 H_q122 G_q122 rfl W123 1 rfl (Nat.le_of_ble_eq_true rfl)
    have F124_signum_a := F120_signum_a.other W123 (Or.inl ne_a_b113)
    have F124_mag_a := F120_mag_a.other W123 (Or.inl ne_a_b113)
    have E124_a := E120_a.wr W123
    have Z124 := Nat.le_trans Z120 (Keep.of_wr W123).1
    have K124 : Keep h0 h123 [a] := K120.wr W123 (Or.inr sz_b113)
    have N123 := Fr.snoc X123 N119 ge_b113
    refine Go.by st123 ?_
    show Go _ _ _ _ _ _ _ (T123.setTop (mkF m 76 #[.val (.ref a), .val (.long vv), .second, .val (.int (((vv.toUInt64 >>> ((32 : Int32) &&& 0x3f).toInt64.toUInt64).toInt64).toInt32))] []))
    refine Go.retV X123 hx hret hlk (hb hby dBi_76) ?_ (by decide) (by decide)
    show QBi Z a h0 n0 none T123.heap _
    rw [e123]
    exact ⟨rfl, N123, K124, E124_a, F124_signum_a⟩

theorem dV0_0 : decode jdk_2097_method_29_code 0 = .ok (.lload_n 0, 1) := by decide +kernel
theorem dV0_1 : decode jdk_2097_method_29_code 1 = .ok (.lconst 0, 1) := by decide +kernel
theorem dV0_2 : decode jdk_2097_method_29_code 2 = .ok (.lcmp, 1) := by decide +kernel
theorem dV0_3 : decode jdk_2097_method_29_code 3 = .ok (.ifCond .ne 7, 3) := by decide +kernel
theorem dV0_6 : decode jdk_2097_method_29_code 6 = .ok (.getstatic 22, 3) := by decide +kernel
theorem dV0_9 : decode jdk_2097_method_29_code 9 = .ok (.areturn, 1) := by decide +kernel
theorem pnV0 : plainName "java/math/BigInteger" = true := by first | (simp [plainName, overriddenIn]; done) | decide +kernel
theorem efV0 (m : MethodId)  : entryFrame m #[(.long (0 : Int64))] 2 = mkF m 0 #[.val (.long (0 : Int64)), .second] [] := by first | (simp [entryFrame, mkF, argsToLocals, Value.category]; done) | rfl
def QV0 (Z : State) (z0 : Addr) (h0 : Heap) (n0 : Nat) (v : Option Value) (h : Heap) (L : List Loc) : Prop := (v = some (.ref z0) ∧ Fr n0 L ∧ h = h0)
set_option maxRecDepth 65536 in
set_option maxHeartbeats 40000000 in
theorem rmV0 (l : Launch) (Z : State) (a0 : Array Value) (hw : ∀ d ∈ tables_1, d.before a0 Z = true) (ws : List Jvm.Cond) (z0 : Addr) (h0 : Heap) (n0 : Nat) (Z0 : n0 ≤ h0.size) (S0_ZERO : Sta Z h0 "java/math/BigInteger" "ZERO" "Ljava/math/BigInteger;" (.ref z0)) :
    MetFree l (⟨"java/math/BigInteger", "valueOf", "(J)Ljava/math/BigInteger;"⟩ : MethodName) (head1 (Jvm.Cond.code (⟨"java/math/BigInteger", "valueOf", "(J)Ljava/math/BigInteger;"⟩ : MethodName) jdk_2097_method_29_code 2 (some (.object "java/math/BigInteger")) :: ws) ({ frames := 0, cells := 0, slots := 0, locals := 0 } : Room)) (fun aa_ U_ => aa_ = #[(.long (0 : Int64))] ∧ Z.Warmed39 U_.vm ∧ U_.heap = h0) (fun _ _ _ _ _ => True) (fun _ U_ o_ V_ => ∃ v_ L_, o_ = .returned v_ ∧ QV0 Z z0 h0 n0 v_ V_.heap L_ ∧ FrameEnd U_ o_ V_ L_ ({ frames := 0, cells := 0, slots := 0, locals := 0 } : Room).cells ({ frames := 0, cells := 0, slots := 0, locals := 0 } : Room).slots) := by
  refine MetFree.of_bodySF (plainFor_of_name pnV0) hisR ?_
  intro p e s m args below meth c s₁ Bd hml0 hP hK
  obtain ⟨rfl, hZ, hh⟩ := hP
  have hx := Bd.exec
  have hby := Bd.bytes
  have hml : c.maxLocals = 2 := hml0
  have hown : s.vm.findClass "java/math/BigInteger" = some m.cls := findClass_of_methodNamed Bd.named
  have hnm := (name_of_methodNamed Bd.named Bd.method).1
  have hlk : meth.locks = false := BodyLoose.notSynchronized Bd
  have hret : meth.sig.returnType = (some (.object "java/math/BigInteger")) := Bd.returns
  have X0 : Stand p l e ({ frames := 0, cells := 0, slots := 0, locals := 0 } : Room) s m #[(.long (0 : Int64))] below meth c s₁ [] 0 0 := Stand.of_body Bd
  have e0 : s₁.heap = h0 := by rw [← hh, Bd.state]; rfl
  have N0 := Fr.nil n0
  show Go p e below s ({ frames := 0, cells := 0, slots := 0, locals := 0 } : Room).cells ({ frames := 0, cells := 0, slots := 0, locals := 0 } : Room).slots (QV0 Z z0 h0 n0) (s₁.setTop (entryFrame m #[(.long (0 : Int64))] 2))
  rw [efV0]
  refine Go.by (fun _ kont => XS.lloadN X0.here hx rfl (hb hby dV0_0) rfl (XS.lconst X0.here hx rfl (hb hby dV0_1) (XS.lcmp X0.here hx rfl (hb hby dV0_2) rfl kont))) ?_
  show Go _ _ _ _ _ _ _ (s₁.setTop (mkF m 3 #[.val (.long (0 : Int64)), .second] [(.int (lcmpW (0 : Int64) (0 : Int64)))]))
  have hd101 : (0 : Int64) = (0 : Int64) := by decide
  refine Go.by (fun _ kont => XS.ifNo X0.here hx rfl (hb hby dV0_3) rfl ((if0 _ _).trans (teq ((lw_eq _ _).mpr hd101)).2) kont) ?_
  show Go _ _ _ _ _ _ _ (s₁.setTop (mkF m 6 #[.val (.long (0 : Int64)), .second] []))
  obtain ⟨T102, X102, e102, st102⟩ := getS2 X0 hx hZ hown (host := "") (Or.inl (hw _ (List.mem_of_getElem? (i := 44) rfl))) Via.refl e0 S0_ZERO (g := (mkF m 6 #[.val (.long (0 : Int64)), .second] [])) rfl (hb hby dV0_6)
  refine Go.by st102 ?_
  show Go _ _ _ _ _ _ _ (T102.setTop (mkF m 9 #[.val (.long (0 : Int64)), .second] [(.ref z0)]))
  refine Go.retR X102 hx hret rfl rfl hlk (hb hby dV0_9) ?_ (by decide) (by decide)
  show QV0 Z z0 h0 n0 (some (.ref z0)) T102.heap _
  rw [e102]
  exact ⟨rfl, N0, rfl⟩

theorem dV_0 : decode jdk_2097_method_29_code 0 = .ok (.lload_n 0, 1) := by decide +kernel
theorem dV_1 : decode jdk_2097_method_29_code 1 = .ok (.lconst 0, 1) := by decide +kernel
theorem dV_2 : decode jdk_2097_method_29_code 2 = .ok (.lcmp, 1) := by decide +kernel
theorem dV_3 : decode jdk_2097_method_29_code 3 = .ok (.ifCond .ne 7, 3) := by decide +kernel
theorem dV_6 : decode jdk_2097_method_29_code 6 = .ok (.getstatic 22, 3) := by decide +kernel
theorem dV_9 : decode jdk_2097_method_29_code 9 = .ok (.areturn, 1) := by decide +kernel
theorem dV_10 : decode jdk_2097_method_29_code 10 = .ok (.lload_n 0, 1) := by decide +kernel
theorem dV_11 : decode jdk_2097_method_29_code 11 = .ok (.lconst 0, 1) := by decide +kernel
theorem dV_12 : decode jdk_2097_method_29_code 12 = .ok (.lcmp, 1) := by decide +kernel
theorem dV_13 : decode jdk_2097_method_29_code 13 = .ok (.ifCond .le 18, 3) := by decide +kernel
theorem dV_16 : decode jdk_2097_method_29_code 16 = .ok (.lload_n 0, 1) := by decide +kernel
theorem dV_17 : decode jdk_2097_method_29_code 17 = .ok (.ldc2_w 345, 3) := by decide +kernel
theorem dV_20 : decode jdk_2097_method_29_code 20 = .ok (.lcmp, 1) := by decide +kernel
theorem dV_21 : decode jdk_2097_method_29_code 21 = .ok (.ifCond .gt 10, 3) := by decide +kernel
theorem dV_24 : decode jdk_2097_method_29_code 24 = .ok (.getstatic 347, 3) := by decide +kernel
theorem dV_27 : decode jdk_2097_method_29_code 27 = .ok (.lload_n 0, 1) := by decide +kernel
theorem dV_28 : decode jdk_2097_method_29_code 28 = .ok (.l2i, 1) := by decide +kernel
theorem dV_29 : decode jdk_2097_method_29_code 29 = .ok (.aaload, 1) := by decide +kernel
theorem dV_30 : decode jdk_2097_method_29_code 30 = .ok (.areturn, 1) := by decide +kernel
theorem dV_31 : decode jdk_2097_method_29_code 31 = .ok (.lload_n 0, 1) := by decide +kernel
theorem dV_32 : decode jdk_2097_method_29_code 32 = .ok (.lconst 0, 1) := by decide +kernel
theorem dV_33 : decode jdk_2097_method_29_code 33 = .ok (.lcmp, 1) := by decide +kernel
theorem dV_34 : decode jdk_2097_method_29_code 34 = .ok (.ifCond .ge 19, 3) := by decide +kernel
theorem dV_53 : decode jdk_2097_method_29_code 53 = .ok (.new 23, 3) := by decide +kernel
theorem dV_56 : decode jdk_2097_method_29_code 56 = .ok (.dup, 1) := by decide +kernel
theorem dV_57 : decode jdk_2097_method_29_code 57 = .ok (.lload_n 0, 1) := by decide +kernel
theorem dV_58 : decode jdk_2097_method_29_code 58 = .ok (.invokespecial 356, 3) := by decide +kernel
theorem dV_61 : decode jdk_2097_method_29_code 61 = .ok (.areturn, 1) := by decide +kernel
theorem pdV_0 : parseMethodDescriptor "(J)V" = some ⟨[.long], none⟩ := by decide +kernel
theorem pnV : plainName "java/math/BigInteger" = true := by first | (simp [plainName, overriddenIn]; done) | decide +kernel
theorem efV (m : MethodId) (vv : Int64) : entryFrame m #[(.long vv)] 2 = mkF m 0 #[.val (.long vv), .second] [] := by first | (simp [entryFrame, mkF, argsToLocals, Value.category]; done) | rfl
def QV (Z : State) (h0 : Heap) (n0 : Nat) (v : Option Value) (h : Heap) (L : List Loc) : Prop := ∃ (y : Addr) (sg : Int32), (v = some (.ref y) ∧ Fr n0 L ∧ Keep h0 h [] ∧ (sg = 0 ∨ sg = 1) ∧ Exa Z h y "java/math/BigInteger" ∧ Fld Z h y "java/math/BigInteger" "signum" "I" (.int sg))
set_option maxRecDepth 65536 in
set_option maxHeartbeats 40000000 in
theorem rmV (l : Launch) (Z : State) (a0 : Array Value) (hw : ∀ d ∈ tables_1, d.before a0 Z = true) (ws : List Jvm.Cond) (vv : Int64) (z0 : Addr) (pa : Addr) (h0 : Heap) (n0 : Nat) (Z0 : n0 ≤ h0.size) (O0 : Old Z n0 h0) (SZ : Sta Z Z.heap "java/math/BigInteger" "ZERO" "Ljava/math/BigInteger;" (.ref z0)) (EZ : Exa Z Z.heap z0 "java/math/BigInteger") (FZ : Fld Z Z.heap z0 "java/math/BigInteger" "signum" "I" (.int (0 : Int32))) (SP : Sta Z Z.heap "java/math/BigInteger" "posConst" "[Ljava/math/BigInteger;" (.ref pa)) (HP : PC Z pa) (hv : ¬ (vv < (0 : Int64))) :
    MetFree l (⟨"java/math/BigInteger", "valueOf", "(J)Ljava/math/BigInteger;"⟩ : MethodName) (head1 (Jvm.Cond.code (⟨"java/math/BigInteger", "valueOf", "(J)Ljava/math/BigInteger;"⟩ : MethodName) jdk_2097_method_29_code 2 (some (.object "java/math/BigInteger")) :: ws) ({ frames := 3, cells := 2, slots := 8, locals := 40 } : Room)) (fun aa_ U_ => aa_ = #[(.long vv)] ∧ Z.Warmed39 U_.vm ∧ U_.heap = h0) (fun _ _ _ _ _ => True) (fun _ U_ o_ V_ => ∃ v_ L_, o_ = .returned v_ ∧ QV Z h0 n0 v_ V_.heap L_ ∧ FrameEnd U_ o_ V_ L_ ({ frames := 3, cells := 2, slots := 8, locals := 40 } : Room).cells ({ frames := 3, cells := 2, slots := 8, locals := 40 } : Room).slots) := by
  refine MetFree.of_bodySF (plainFor_of_name pnV) hisR ?_
  intro p e s m args below meth c s₁ Bd hml0 hP hK
  obtain ⟨rfl, hZ, hh⟩ := hP
  have hx := Bd.exec
  have hby := Bd.bytes
  have hml : c.maxLocals = 2 := hml0
  have hown : s.vm.findClass "java/math/BigInteger" = some m.cls := findClass_of_methodNamed Bd.named
  have hnm := (name_of_methodNamed Bd.named Bd.method).1
  have hlk : meth.locks = false := BodyLoose.notSynchronized Bd
  have hret : meth.sig.returnType = (some (.object "java/math/BigInteger")) := Bd.returns
  have X0 : Stand p l e ({ frames := 3, cells := 2, slots := 8, locals := 40 } : Room) s m #[(.long vv)] below meth c s₁ [] 0 0 := Stand.of_body Bd
  have e0 : s₁.heap = h0 := by rw [← hh, Bd.state]; rfl
  have N0 := Fr.nil n0
  show Go p e below s ({ frames := 3, cells := 2, slots := 8, locals := 40 } : Room).cells ({ frames := 3, cells := 2, slots := 8, locals := 40 } : Room).slots (QV Z h0 n0) (s₁.setTop (entryFrame m #[(.long vv)] 2))
  rw [efV]
  have SZ0 := SZ.ext O0.2
  have EZ0 := EZ.ext O0.2
  have FZ0 := FZ.ext O0.2
  have SP0 := SP.ext O0.2
  refine Go.by (fun _ kont => XS.lloadN X0.here hx rfl (hb hby dV_0) rfl (XS.lconst X0.here hx rfl (hb hby dV_1) (XS.lcmp X0.here hx rfl (hb hby dV_2) rfl kont))) ?_
  show Go _ _ _ _ _ _ _ (s₁.setTop (mkF m 3 #[.val (.long vv), .second] [(.int (lcmpW vv (0 : Int64)))]))
  by_cases hc101 : vv = (0 : Int64)
  · refine Go.by (fun _ kont => XS.ifNo X0.here hx rfl (hb hby dV_3) rfl ((if0 _ _).trans (teq ((lw_eq _ _).mpr hc101)).2) kont) ?_
    show Go _ _ _ _ _ _ _ (s₁.setTop (mkF m 6 #[.val (.long vv), .second] []))
    obtain ⟨T102, X102, e102, st102⟩ := getS2 X0 hx hZ hown (host := "") (Or.inl (hw _ (List.mem_of_getElem? (i := 44) rfl))) Via.refl e0 SZ0 (g := (mkF m 6 #[.val (.long vv), .second] [])) rfl (hb hby dV_6)
    refine Go.by st102 ?_
    show Go _ _ _ _ _ _ _ (T102.setTop (mkF m 9 #[.val (.long vv), .second] [(.ref z0)]))
    refine Go.retR X102 hx hret rfl rfl hlk (hb hby dV_9) ?_ (by decide) (by decide)
    show QV Z h0 n0 (some (.ref z0)) T102.heap _
    rw [e102]
    exact ⟨z0, 0, rfl, N0, (Keep.refl h0 []), Or.inl rfl, EZ0, FZ0⟩
  · refine Go.by (fun _ kont => XS.ifYes X0.here hx rfl (pc0 := 3) (pc' := 10) rfl (hb hby dV_3) rfl ((if0 _ _).trans (feq (fun z => hc101 ((lw_eq _ _).mp z))).2) (by decide) (by decide) kont) ?_
    show Go _ _ _ _ _ _ _ (s₁.setTop (mkF m 10 #[.val (.long vv), .second] []))
    refine Go.by (fun _ kont => XS.lloadN X0.here hx rfl (hb hby dV_10) rfl (XS.lconst X0.here hx rfl (hb hby dV_11) (XS.lcmp X0.here hx rfl (hb hby dV_12) rfl kont))) ?_
    show Go _ _ _ _ _ _ _ (s₁.setTop (mkF m 13 #[.val (.long vv), .second] [(.int (lcmpW vv (0 : Int64)))]))
    have hd103 : (0 : Int64) < vv := own_pos vv hv hc101
    refine Go.by (fun _ kont => XS.ifNo X0.here hx rfl (hb hby dV_13) rfl ((if0 _ _).trans (tlt ((lw_gt _ _).mpr hd103)).2.2.2) kont) ?_
    show Go _ _ _ _ _ _ _ (s₁.setTop (mkF m 16 #[.val (.long vv), .second] []))
    refine Go.by (fun _ kont => XS.lloadN X0.here hx rfl (hb hby dV_16) rfl (X0.ldc2Long hx hown (mvT hZ (hw _ (List.mem_of_getElem? (i := 52) rfl))) (g := (mkF m 17 #[.val (.long vv), .second] [(.long vv)])) rfl (hb hby dV_17) _ (XS.lcmp X0.here hx rfl (hb hby dV_20) rfl kont))) ?_
    show Go _ _ _ _ _ _ _ (s₁.setTop (mkF m 21 #[.val (.long vv), .second] [(.int (lcmpW vv (16 : Int64)))]))
    by_cases hc104 : (16 : Int64) < vv
    · refine Go.by (fun _ kont => XS.ifYes X0.here hx rfl (pc0 := 21) (pc' := 31) rfl (hb hby dV_21) rfl ((if0 _ _).trans (tlt ((lw_gt _ _).mpr hc104)).2.2.1) (by decide) (by decide) kont) ?_
      show Go _ _ _ _ _ _ _ (s₁.setTop (mkF m 31 #[.val (.long vv), .second] []))
      refine Go.by (fun _ kont => XS.lloadN X0.here hx rfl (hb hby dV_31) rfl (XS.lconst X0.here hx rfl (hb hby dV_32) (XS.lcmp X0.here hx rfl (hb hby dV_33) rfl kont))) ?_
      show Go _ _ _ _ _ _ _ (s₁.setTop (mkF m 34 #[.val (.long vv), .second] [(.int (lcmpW vv (0 : Int64)))]))
      refine Go.by (fun _ kont => XS.ifYes X0.here hx rfl (pc0 := 34) (pc' := 53) rfl (hb hby dV_34) rfl ((if0 _ _).trans (flt (fun z => hv ((lw_lt _ _).mp z))).2.1) (by decide) (by decide) kont) ?_
      show Go _ _ _ _ _ _ _ (s₁.setTop (mkF m 53 #[.val (.long vv), .second] []))
      obtain ⟨T105, h105, X105, e105, X_105, A105, D105, -, st105⟩ := newO X0 hx hZ hown (hw _ (List.mem_of_getElem? (i := 108) rfl)) (hw _ (List.mem_of_getElem? (i := 109) rfl)) (hw _ (List.mem_of_getElem? (i := 42) rfl)) e0 (g := (mkF m 53 #[.val (.long vv), .second] [])) rfl (hb hby dV_53) (by decide) (by decide)
      obtain ⟨b105, g105⟩ : ∃ z, z = h0.size := ⟨_, rfl⟩
      rw [← g105] at A105 D105 st105
      have ne_z0_b105 : z0 ≠ b105 := Nat.ne_of_lt (Nat.lt_of_lt_of_le FZ0.lt (Nat.le_of_eq g105.symm))
      have ge_b105 : n0 ≤ b105 := Nat.le_trans Z0 (Nat.le_of_eq g105.symm)
      have sz_b105 : h0.size ≤ b105 := Nat.le_trans (Keep.refl h0 []).1 (Nat.le_of_eq g105.symm)
      have F106_signum_z0 := FZ0.ext X_105
      have E106_z0 := EZ0.ext X_105
      have S106_ZERO := SZ0.ext X_105
      have S106_posConst := SP0.ext X_105
      have P106_old := O0.ext X_105
      have Z106 := Nat.le_trans Z0 X_105.1
      have K106 : Keep h0 h105 [] := (Keep.refl h0 []).ext X_105
      have F105_signum : Fld Z h105 b105 "java/math/BigInteger" "signum" "I" (.int (0 : Int32)) := D105 (Or.inr (hw _ (List.mem_of_getElem? (i := 51) rfl))) (ty := .int) (by decide)
      have F105_mag : Fld Z h105 b105 "java/math/BigInteger" "mag" "[I" .null := D105 (Or.inr (hw _ (List.mem_of_getElem? (i := 123) rfl))) (ty := (.array .int)) (by decide)
      refine Go.by st105 ?_
      show Go _ _ _ _ _ _ _ (T105.setTop (mkF m 56 #[.val (.long vv), .second] [(.ref b105)]))
      refine Go.by (fun _ kont => XS.dup X105.here hx rfl (hb hby dV_56) rfl rfl (XS.lloadN X105.here hx rfl (hb hby dV_57) rfl kont)) ?_
      show Go _ _ _ _ _ _ _ (T105.setTop (mkF m 58 #[.val (.long vv), .second] [(.long vv), (.ref b105), (.ref b105)]))
      obtain ⟨_, _, ⟨T107, L107, k107, n107⟩, -, X107, ⟨Lc107, hQ107, l107, y107, z107⟩, st107⟩ := X105.specialBack hx (y := (⟨"java/math/BigInteger", "<init>", "(J)V"⟩ : MethodName)) rfl hown (mvT hZ (hw _ (List.mem_of_getElem? (i := 110) rfl))) (mvT hZ (hw _ (List.mem_of_getElem? (i := 111) rfl))) (mvT hZ (hw _ (List.mem_of_getElem? (i := 113) rfl))) (by decide) (backOf (W := 1) (rmBi l Z a0 hw [] b105 vv h105 n0 Z106 A105 F105_signum F105_mag ge_b105 hv) hZ (hw _ (List.mem_of_getElem? (i := 113) rfl)) (hw _ (List.mem_of_getElem? (i := 42) rfl)) (by decide) (by decide)) (g := (mkF m 58 #[.val (.long vv), .second] [(.long vv), (.ref b105), (.ref b105)])) rfl (by rw [hml]; rfl) (Steps.refl _) (a := b105) (argsL := [(.long vv)]) (rest := [(.ref b105)]) (lenOf pdV_0 rfl) rfl (by show 2 * 0 + _ ≤ _; exact Nat.le_of_eq rfl) (hb hby dV_58) (fun _ _ => ⟨rfl, e105, (by decide : 1 + 1 ≤ _), (by decide : 6 + 2 ≤ _)⟩)
      dsimp only [Pt.U, Pt.locs, Pt.cells, Pt.slots] at X107 l107 y107 z107 st107 hQ107
      subst l107 y107 z107
      obtain ⟨rfl, N107q, K107, E107z, F107z⟩ := hQ107
      have S108_ZERO := own_stakeep S106_ZERO K107 (allS (own_ns A105) all0)
      have S108_posConst := own_stakeep S106_posConst K107 (allS (own_ns A105) all0)
      have F108_signum_z0 := F106_signum_z0.keep K107 (ninS ne_z0_b105 nin0)
      have E108_z0 := E106_z0.keep K107
      have E108_b105 := A105.keep K107
      have P108_old := P106_old.keep K107 (allS ge_b105 all0)
      have Z108 := Nat.le_trans Z106 K107.1
      have K108 : Keep h0 T107.heap [] := Keep.trans K106 K107 (allS (Or.inr sz_b105) all0)
      have N107 := Fr.app N0 N107q
      refine Go.tr st107 ?_
      show Go _ _ _ _ _ _ _ (T107.setTop (mkF m 61 #[.val (.long vv), .second] [(.ref b105)]))
      refine Go.retR X107 hx hret rfl rfl hlk (hb hby dV_61) ?_ (by decide) (by decide)
      show QV Z h0 n0 (some (.ref b105)) T107.heap _
      exact ⟨b105, 1, rfl, N107, K108, Or.inr rfl, E107z, F107z⟩
    · refine Go.by (fun _ kont => XS.ifNo X0.here hx rfl (hb hby dV_21) rfl ((if0 _ _).trans (flt (fun z => hc104 ((lw_gt _ _).mp z))).2.2.1) kont) ?_
      show Go _ _ _ _ _ _ _ (s₁.setTop (mkF m 24 #[.val (.long vv), .second] []))
      obtain ⟨T109, X109, e109, st109⟩ := getS2 X0 hx hZ hown (host := "") (Or.inl (hw _ (List.mem_of_getElem? (i := 53) rfl))) Via.refl e0 SP0 (g := (mkF m 24 #[.val (.long vv), .second] [])) rfl (hb hby dV_24)
      refine Go.by st109 ?_
      show Go _ _ _ _ _ _ _ (T109.setTop (mkF m 27 #[.val (.long vv), .second] [(.ref pa)]))
      refine Go.by (fun _ kont => XS.lloadN X109.here hx rfl (hb hby dV_27) rfl (XS.l2i X109.here hx rfl (hb hby dV_28) rfl kont)) ?_
      show Go _ _ _ _ _ _ _ (T109.setTop (mkF m 29 #[.val (.long vv), .second] [(.int (vv.toInt32)), (.ref pa)]))
      obtain ⟨clq, Arq, Sq, Gq⟩ := HP
      have Bq := own_pi vv hv hc101 hc104
      have hinq : ¬ ((vv.toInt32) < 0 ∨ clq.slots.size ≤ ((vv.toInt32)).toNatClampNeg) := inb_of Sq (own_i17 Bq)
      obtain ⟨yq, hatq, Eyq, Fyq⟩ := Gq (vv.toInt32) Bq
      have Aq := Arq.ext O0.2
      have Eyh := Eyq.ext O0.2
      have Fyh := Fyq.ext O0.2
      refine Go.by (X109.aaload hx (j := (vv.toInt32)) (v := (.ref yq)) (by rw [e109]; exact Aq.1) (State.isArrayOf_alike hZ.alike Aq.2.1) rfl Aq.2.2 hinq hatq (g := (mkF m 29 #[.val (.long vv), .second] [(.int (vv.toInt32)), (.ref pa)])) rfl rfl (hb hby dV_29)) ?_
      show Go _ _ _ _ _ _ _ (T109.setTop (mkF m 30 #[.val (.long vv), .second] [(.ref yq)]))
      refine Go.retR X109 hx hret rfl rfl hlk (hb hby dV_30) ?_ (by decide) (by decide)
      show QV Z h0 n0 (some (.ref yq)) T109.heap _
      rw [e109]
      exact ⟨yq, 1, rfl, N0, (Keep.refl h0 []), Or.inr rfl, Eyh, Fyh⟩

theorem dSl_0 : decode jdk_2097_method_101_code 0 = .ok (.aload_n 0, 1) := by decide +kernel
theorem dSl_1 : decode jdk_2097_method_101_code 1 = .ok (.getfield 32, 3) := by decide +kernel
theorem dSl_4 : decode jdk_2097_method_101_code 4 = .ok (.ifCond .ne 7, 3) := by decide +kernel
theorem dSl_7 : decode jdk_2097_method_101_code 7 = .ok (.getstatic 22, 3) := by decide +kernel
theorem dSl_10 : decode jdk_2097_method_101_code 10 = .ok (.areturn, 1) := by decide +kernel
theorem pnSl : plainName "java/math/BigInteger" = true := by first | (simp [plainName, overriddenIn]; done) | decide +kernel
theorem efSl (m : MethodId) (z0 : Addr) : entryFrame m #[(.ref z0), (.int (63 : Int32))] 2 = mkF m 0 #[.val (.ref z0), .val (.int (63 : Int32))] [] := by first | (simp [entryFrame, mkF, argsToLocals, Value.category]; done) | rfl
def QSl (Z : State) (z0 : Addr) (h0 : Heap) (n0 : Nat) (v : Option Value) (h : Heap) (L : List Loc) : Prop := (v = some (.ref z0) ∧ Fr n0 L ∧ h = h0)
set_option maxRecDepth 65536 in
set_option maxHeartbeats 40000000 in
theorem rmSl (l : Launch) (Z : State) (a0 : Array Value) (hw : ∀ d ∈ tables_1, d.before a0 Z = true) (ws : List Jvm.Cond) (z0 : Addr) (h0 : Heap) (n0 : Nat) (Z0 : n0 ≤ h0.size) (E0_z0 : Exa Z h0 z0 "java/math/BigInteger") (F0_z0_signum : Fld Z h0 z0 "java/math/BigInteger" "signum" "I" (.int (0 : Int32))) (S0_ZERO : Sta Z h0 "java/math/BigInteger" "ZERO" "Ljava/math/BigInteger;" (.ref z0)) :
    MetFree l (⟨"java/math/BigInteger", "shiftLeft", "(I)Ljava/math/BigInteger;"⟩ : MethodName) (head1 (Jvm.Cond.code (⟨"java/math/BigInteger", "shiftLeft", "(I)Ljava/math/BigInteger;"⟩ : MethodName) jdk_2097_method_101_code 2 (some (.object "java/math/BigInteger")) :: ws) ({ frames := 0, cells := 0, slots := 0, locals := 0 } : Room)) (fun aa_ U_ => aa_ = #[(.ref z0), (.int (63 : Int32))] ∧ Z.Warmed39 U_.vm ∧ U_.heap = h0) (fun _ _ _ _ _ => True) (fun _ U_ o_ V_ => ∃ v_ L_, o_ = .returned v_ ∧ QSl Z z0 h0 n0 v_ V_.heap L_ ∧ FrameEnd U_ o_ V_ L_ ({ frames := 0, cells := 0, slots := 0, locals := 0 } : Room).cells ({ frames := 0, cells := 0, slots := 0, locals := 0 } : Room).slots) := by
  refine MetFree.of_bodySF (plainFor_of_name pnSl) hisR ?_
  intro p e s m args below meth c s₁ Bd hml0 hP hK
  obtain ⟨rfl, hZ, hh⟩ := hP
  have hx := Bd.exec
  have hby := Bd.bytes
  have hml : c.maxLocals = 2 := hml0
  have hown : s.vm.findClass "java/math/BigInteger" = some m.cls := findClass_of_methodNamed Bd.named
  have hnm := (name_of_methodNamed Bd.named Bd.method).1
  have hlk : meth.locks = false := BodyLoose.notSynchronized Bd
  have hret : meth.sig.returnType = (some (.object "java/math/BigInteger")) := Bd.returns
  have X0 : Stand p l e ({ frames := 0, cells := 0, slots := 0, locals := 0 } : Room) s m #[(.ref z0), (.int (63 : Int32))] below meth c s₁ [] 0 0 := Stand.of_body Bd
  have e0 : s₁.heap = h0 := by rw [← hh, Bd.state]; rfl
  have N0 := Fr.nil n0
  show Go p e below s ({ frames := 0, cells := 0, slots := 0, locals := 0 } : Room).cells ({ frames := 0, cells := 0, slots := 0, locals := 0 } : Room).slots (QSl Z z0 h0 n0) (s₁.setTop (entryFrame m #[(.ref z0), (.int (63 : Int32))] 2))
  rw [efSl]
  refine Go.by (fun _ kont => XS.aloadN X0.here hx rfl (hb hby dSl_0) rfl rfl kont) ?_
  show Go _ _ _ _ _ _ _ (s₁.setTop (mkF m 1 #[.val (.ref z0), .val (.int (63 : Int32))] [(.ref z0)]))
  obtain ⟨T101, X101, e101, st101⟩ := getF X0 hx hZ hown (host := "") (Or.inl (hw _ (List.mem_of_getElem? (i := 50) rfl))) Via.refl e0 F0_z0_signum (g := (mkF m 1 #[.val (.ref z0), .val (.int (63 : Int32))] [(.ref z0)])) rfl rfl (hb hby dSl_1)
  refine Go.by st101 ?_
  show Go _ _ _ _ _ _ _ (T101.setTop (mkF m 4 #[.val (.ref z0), .val (.int (63 : Int32))] [(.int (0 : Int32))]))
  refine Go.by (fun _ kont => XS.ifNo X101.here hx rfl (hb hby dSl_4) rfl (by decide) kont) ?_
  show Go _ _ _ _ _ _ _ (T101.setTop (mkF m 7 #[.val (.ref z0), .val (.int (63 : Int32))] []))
  obtain ⟨T102, X102, e102, st102⟩ := getS2 X101 hx hZ hown (host := "") (Or.inl (hw _ (List.mem_of_getElem? (i := 44) rfl))) Via.refl e101 S0_ZERO (g := (mkF m 7 #[.val (.ref z0), .val (.int (63 : Int32))] [])) rfl (hb hby dSl_7)
  refine Go.by st102 ?_
  show Go _ _ _ _ _ _ _ (T102.setTop (mkF m 10 #[.val (.ref z0), .val (.int (63 : Int32))] [(.ref z0)]))
  refine Go.retR X102 hx hret rfl rfl hlk (hb hby dSl_10) ?_ (by decide) (by decide)
  show QSl Z z0 h0 n0 (some (.ref z0)) T102.heap _
  rw [e102]
  exact ⟨rfl, N0, rfl⟩

theorem dAd_0 : decode jdk_2097_method_32_code 0 = .ok (.aload_n 1, 1) := by decide +kernel
theorem dAd_1 : decode jdk_2097_method_32_code 1 = .ok (.getfield 32, 3) := by decide +kernel
theorem dAd_4 : decode jdk_2097_method_32_code 4 = .ok (.ifCond .ne 5, 3) := by decide +kernel
theorem dAd_7 : decode jdk_2097_method_32_code 7 = .ok (.aload_n 0, 1) := by decide +kernel
theorem dAd_8 : decode jdk_2097_method_32_code 8 = .ok (.areturn, 1) := by decide +kernel
theorem dAd_9 : decode jdk_2097_method_32_code 9 = .ok (.aload_n 0, 1) := by decide +kernel
theorem dAd_10 : decode jdk_2097_method_32_code 10 = .ok (.getfield 32, 3) := by decide +kernel
theorem dAd_13 : decode jdk_2097_method_32_code 13 = .ok (.ifCond .ne 5, 3) := by decide +kernel
theorem dAd_16 : decode jdk_2097_method_32_code 16 = .ok (.aload_n 1, 1) := by decide +kernel
theorem dAd_17 : decode jdk_2097_method_32_code 17 = .ok (.areturn, 1) := by decide +kernel
theorem pnAd : plainName "java/math/BigInteger" = true := by first | (simp [plainName, overriddenIn]; done) | decide +kernel
theorem efAd (m : MethodId) (a : Addr) (b : Addr) : entryFrame m #[(.ref a), (.ref b)] 4 = mkF m 0 #[.val (.ref a), .val (.ref b), .unset, .unset] [] := by first | (simp [entryFrame, mkF, argsToLocals, Value.category]; done) | rfl
def QAd (Z : State) (h0 : Heap) (n0 : Nat) (v : Option Value) (h : Heap) (L : List Loc) : Prop := ∃ y : Addr, (v = some (.ref y) ∧ Fr n0 L ∧ h = h0)
set_option maxRecDepth 65536 in
set_option maxHeartbeats 40000000 in
theorem rmAd (l : Launch) (Z : State) (a0 : Array Value) (hw : ∀ d ∈ tables_1, d.before a0 Z = true) (ws : List Jvm.Cond) (a : Addr) (b : Addr) (sg : Int32) (h0 : Heap) (n0 : Nat) (Z0 : n0 ≤ h0.size) (Fa : Fld Z h0 a "java/math/BigInteger" "signum" "I" (.int (0 : Int32))) (Fb : Fld Z h0 b "java/math/BigInteger" "signum" "I" (.int sg)) :
    MetFree l (⟨"java/math/BigInteger", "add", "(Ljava/math/BigInteger;)Ljava/math/BigInteger;"⟩ : MethodName) (head1 (Jvm.Cond.code (⟨"java/math/BigInteger", "add", "(Ljava/math/BigInteger;)Ljava/math/BigInteger;"⟩ : MethodName) jdk_2097_method_32_code 4 (some (.object "java/math/BigInteger")) :: ws) ({ frames := 0, cells := 0, slots := 0, locals := 0 } : Room)) (fun aa_ U_ => aa_ = #[(.ref a), (.ref b)] ∧ Z.Warmed39 U_.vm ∧ U_.heap = h0) (fun _ _ _ _ _ => True) (fun _ U_ o_ V_ => ∃ v_ L_, o_ = .returned v_ ∧ QAd Z h0 n0 v_ V_.heap L_ ∧ FrameEnd U_ o_ V_ L_ ({ frames := 0, cells := 0, slots := 0, locals := 0 } : Room).cells ({ frames := 0, cells := 0, slots := 0, locals := 0 } : Room).slots) := by
  refine MetFree.of_bodySF (plainFor_of_name pnAd) hisR ?_
  intro p e s m args below meth c s₁ Bd hml0 hP hK
  obtain ⟨rfl, hZ, hh⟩ := hP
  have hx := Bd.exec
  have hby := Bd.bytes
  have hml : c.maxLocals = 4 := hml0
  have hown : s.vm.findClass "java/math/BigInteger" = some m.cls := findClass_of_methodNamed Bd.named
  have hnm := (name_of_methodNamed Bd.named Bd.method).1
  have hlk : meth.locks = false := BodyLoose.notSynchronized Bd
  have hret : meth.sig.returnType = (some (.object "java/math/BigInteger")) := Bd.returns
  have X0 : Stand p l e ({ frames := 0, cells := 0, slots := 0, locals := 0 } : Room) s m #[(.ref a), (.ref b)] below meth c s₁ [] 0 0 := Stand.of_body Bd
  have e0 : s₁.heap = h0 := by rw [← hh, Bd.state]; rfl
  have N0 := Fr.nil n0
  show Go p e below s ({ frames := 0, cells := 0, slots := 0, locals := 0 } : Room).cells ({ frames := 0, cells := 0, slots := 0, locals := 0 } : Room).slots (QAd Z h0 n0) (s₁.setTop (entryFrame m #[(.ref a), (.ref b)] 4))
  rw [efAd]
  refine Go.by (fun _ kont => XS.aloadN X0.here hx rfl (hb hby dAd_0) rfl rfl kont) ?_
  show Go _ _ _ _ _ _ _ (s₁.setTop (mkF m 1 #[.val (.ref a), .val (.ref b), .unset, .unset] [(.ref b)]))
  obtain ⟨T101, X101, e101, st101⟩ := getF X0 hx hZ hown (host := "") (Or.inl (hw _ (List.mem_of_getElem? (i := 50) rfl))) Via.refl e0 Fb (g := (mkF m 1 #[.val (.ref a), .val (.ref b), .unset, .unset] [(.ref b)])) rfl rfl (hb hby dAd_1)
  refine Go.by st101 ?_
  show Go _ _ _ _ _ _ _ (T101.setTop (mkF m 4 #[.val (.ref a), .val (.ref b), .unset, .unset] [(.int sg)]))
  by_cases hc102 : sg = (0 : Int32)
  · refine Go.by (fun _ kont => XS.ifNo X101.here hx rfl (hb hby dAd_4) rfl ((if0 _ _).trans (teq hc102).2) kont) ?_
    show Go _ _ _ _ _ _ _ (T101.setTop (mkF m 7 #[.val (.ref a), .val (.ref b), .unset, .unset] []))
    refine Go.by (fun _ kont => XS.aloadN X101.here hx rfl (hb hby dAd_7) rfl rfl kont) ?_
    show Go _ _ _ _ _ _ _ (T101.setTop (mkF m 8 #[.val (.ref a), .val (.ref b), .unset, .unset] [(.ref a)]))
    refine Go.retR X101 hx hret rfl rfl hlk (hb hby dAd_8) ?_ (by decide) (by decide)
    show QAd Z h0 n0 (some (.ref a)) T101.heap _
    rw [e101]
    exact ⟨a, rfl, N0, rfl⟩
  · refine Go.by (fun _ kont => XS.ifYes X101.here hx rfl (pc0 := 4) (pc' := 9) rfl (hb hby dAd_4) rfl ((if0 _ _).trans (feq hc102).2) (by decide) (by decide) kont) ?_
    show Go _ _ _ _ _ _ _ (T101.setTop (mkF m 9 #[.val (.ref a), .val (.ref b), .unset, .unset] []))
    refine Go.by (fun _ kont => XS.aloadN X101.here hx rfl (hb hby dAd_9) rfl rfl kont) ?_
    show Go _ _ _ _ _ _ _ (T101.setTop (mkF m 10 #[.val (.ref a), .val (.ref b), .unset, .unset] [(.ref a)]))
    obtain ⟨T103, X103, e103, st103⟩ := getF X101 hx hZ hown (host := "") (Or.inl (hw _ (List.mem_of_getElem? (i := 50) rfl))) Via.refl e101 Fa (g := (mkF m 10 #[.val (.ref a), .val (.ref b), .unset, .unset] [(.ref a)])) rfl rfl (hb hby dAd_10)
    refine Go.by st103 ?_
    show Go _ _ _ _ _ _ _ (T103.setTop (mkF m 13 #[.val (.ref a), .val (.ref b), .unset, .unset] [(.int (0 : Int32))]))
    refine Go.by (fun _ kont => XS.ifNo X103.here hx rfl (hb hby dAd_13) rfl (by decide) (XS.aloadN X103.here hx rfl (hb hby dAd_16) rfl rfl kont)) ?_
    show Go _ _ _ _ _ _ _ (T103.setTop (mkF m 17 #[.val (.ref a), .val (.ref b), .unset, .unset] [(.ref b)]))
    refine Go.retR X103 hx hret rfl rfl hlk (hb hby dAd_17) ?_ (by decide) (by decide)
    show QAd Z h0 n0 (some (.ref b)) T103.heap _
    rw [e103]
    exact ⟨b, rfl, N0, rfl⟩

theorem dC1_0 : decode prog_20_method_1_code 0 = .ok (.aload_n 0, 1) := by decide +kernel
theorem dC1_1 : decode prog_20_method_1_code 1 = .ok (.invokespecial 1, 3) := by decide +kernel
theorem dC1_4 : decode prog_20_method_1_code 4 = .ok (.aload_n 1, 1) := by decide +kernel
theorem dC1_5 : decode prog_20_method_1_code 5 = .ok (.invokestatic 7, 3) := by decide +kernel
theorem dC1_8 : decode prog_20_method_1_code 8 = .ok (.pop, 1) := by decide +kernel
theorem dC1_9 : decode prog_20_method_1_code 9 = .ok (.lload_n 2, 1) := by decide +kernel
theorem dC1_10 : decode prog_20_method_1_code 10 = .ok (.lconst 1, 1) := by decide +kernel
theorem dC1_11 : decode prog_20_method_1_code 11 = .ok (.lcmp, 1) := by decide +kernel
theorem dC1_12 : decode prog_20_method_1_code 12 = .ok (.ifCond .ge 17, 3) := by decide +kernel
theorem dC1_29 : decode prog_20_method_1_code 29 = .ok (.aload_n 0, 1) := by decide +kernel
theorem dC1_30 : decode prog_20_method_1_code 30 = .ok (.aload_n 1, 1) := by decide +kernel
theorem dC1_31 : decode prog_20_method_1_code 31 = .ok (.putfield 22, 3) := by decide +kernel
theorem dC1_34 : decode prog_20_method_1_code 34 = .ok (.aload_n 0, 1) := by decide +kernel
theorem dC1_35 : decode prog_20_method_1_code 35 = .ok (.lload_n 2, 1) := by decide +kernel
theorem dC1_36 : decode prog_20_method_1_code 36 = .ok (.putfield 28, 3) := by decide +kernel
theorem dC1_39 : decode prog_20_method_1_code 39 = .ok (.aload_n 0, 1) := by decide +kernel
theorem dC1_40 : decode prog_20_method_1_code 40 = .ok (.lload 4, 2) := by decide +kernel
theorem dC1_42 : decode prog_20_method_1_code 42 = .ok (.putfield 32, 3) := by decide +kernel
theorem dC1_45 : decode prog_20_method_1_code 45 = .ok (.aload_n 0, 1) := by decide +kernel
theorem dC1_46 : decode prog_20_method_1_code 46 = .ok (.lload 6, 2) := by decide +kernel
theorem dC1_48 : decode prog_20_method_1_code 48 = .ok (.putfield 35, 3) := by decide +kernel
theorem dC1_51 : decode prog_20_method_1_code 51 = .ok (.return_, 1) := by decide +kernel
theorem pdC1_0 : parseMethodDescriptor "()V" = some ⟨[], none⟩ := by decide +kernel
theorem pdC1_1 : parseMethodDescriptor "(Ljava/lang/Object;)Ljava/lang/Object;" = some ⟨[(.object "java/lang/Object")], some (.object "java/lang/Object")⟩ := by decide +kernel
theorem pnC1 : plainName "com/example/quorumsmith/quorumsmith/engine/CountSummary" = true := by first | (simp [plainName, overriddenIn]; done) | decide +kernel
theorem efC1 (m : MethodId) (a : Addr) (tt : Addr) (mn : Int64) (mx : Int64) : entryFrame m #[(.ref a), (.ref tt), (.long (1 : Int64)), (.long mn), (.long mx)] 8 = mkF m 0 #[.val (.ref a), .val (.ref tt), .val (.long (1 : Int64)), .second, .val (.long mn), .second, .val (.long mx), .second] [] := by first | (simp [entryFrame, mkF, argsToLocals, Value.category]; done) | rfl
def QC1 (Z : State) (a : Addr) (tt : Addr) (mn : Int64) (mx : Int64) (h0 : Heap) (n0 : Nat) (v : Option Value) (h : Heap) (L : List Loc) : Prop := (v = none ∧ Fr n0 L ∧ Keep h0 h [a] ∧ Exa Z h a "com/example/quorumsmith/quorumsmith/engine/CountSummary" ∧ Fld Z h a "com/example/quorumsmith/quorumsmith/engine/CountSummary" "total" "Ljava/math/BigInteger;" (.ref tt) ∧ Fld Z h a "com/example/quorumsmith/quorumsmith/engine/CountSummary" "members" "J" (.long (1 : Int64)) ∧ Fld Z h a "com/example/quorumsmith/quorumsmith/engine/CountSummary" "min" "J" (.long mn) ∧ Fld Z h a "com/example/quorumsmith/quorumsmith/engine/CountSummary" "max" "J" (.long mx))
set_option maxRecDepth 65536 in
set_option maxHeartbeats 40000000 in
theorem rmC1 (l : Launch) (Z : State) (a0 : Array Value) (hw : ∀ d ∈ tables_1, d.before a0 Z = true) (ws : List Jvm.Cond) (a : Addr) (tt : Addr) (mn : Int64) (mx : Int64) (h0 : Heap) (n0 : Nat) (Z0 : n0 ≤ h0.size) (E0_a : Exa Z h0 a "com/example/quorumsmith/quorumsmith/engine/CountSummary") (F0_a_total : Fld Z h0 a "com/example/quorumsmith/quorumsmith/engine/CountSummary" "total" "Ljava/math/BigInteger;" .null) (F0_a_members : Fld Z h0 a "com/example/quorumsmith/quorumsmith/engine/CountSummary" "members" "J" (.long (0 : Int64))) (F0_a_min : Fld Z h0 a "com/example/quorumsmith/quorumsmith/engine/CountSummary" "min" "J" (.long (0 : Int64))) (F0_a_max : Fld Z h0 a "com/example/quorumsmith/quorumsmith/engine/CountSummary" "max" "J" (.long (0 : Int64))) (ge0_a : n0 ≤ a) :
    MetFree l (⟨"com/example/quorumsmith/quorumsmith/engine/CountSummary", "<init>", "(Ljava/math/BigInteger;JJJ)V"⟩ : MethodName) (head1 (Jvm.Cond.code (⟨"com/example/quorumsmith/quorumsmith/engine/CountSummary", "<init>", "(Ljava/math/BigInteger;JJJ)V"⟩ : MethodName) prog_20_method_1_code 8 none :: ws) ({ frames := 2, cells := 0, slots := 0, locals := 24 } : Room)) (fun aa_ U_ => aa_ = #[(.ref a), (.ref tt), (.long (1 : Int64)), (.long mn), (.long mx)] ∧ Z.Warmed39 U_.vm ∧ U_.heap = h0) (fun _ _ _ _ _ => True) (fun _ U_ o_ V_ => ∃ v_ L_, o_ = .returned v_ ∧ QC1 Z a tt mn mx h0 n0 v_ V_.heap L_ ∧ FrameEnd U_ o_ V_ L_ ({ frames := 2, cells := 0, slots := 0, locals := 24 } : Room).cells ({ frames := 2, cells := 0, slots := 0, locals := 24 } : Room).slots) := by
  refine MetFree.of_bodySF (plainFor_of_name pnC1) hisR ?_
  intro p e s m args below meth c s₁ Bd hml0 hP hK
  obtain ⟨rfl, hZ, hh⟩ := hP
  have hx := Bd.exec
  have hby := Bd.bytes
  have hml : c.maxLocals = 8 := hml0
  have hown : s.vm.findClass "com/example/quorumsmith/quorumsmith/engine/CountSummary" = some m.cls := findClass_of_methodNamed Bd.named
  have hnm := (name_of_methodNamed Bd.named Bd.method).1
  have hlk : meth.locks = false := BodyLoose.notSynchronized Bd
  have hret : meth.sig.returnType = none := Bd.returns
  have X0 : Stand p l e ({ frames := 2, cells := 0, slots := 0, locals := 24 } : Room) s m #[(.ref a), (.ref tt), (.long (1 : Int64)), (.long mn), (.long mx)] below meth c s₁ [] 0 0 := Stand.of_body Bd
  have e0 : s₁.heap = h0 := by rw [← hh, Bd.state]; rfl
  have N0 := Fr.nil n0
  show Go p e below s ({ frames := 2, cells := 0, slots := 0, locals := 24 } : Room).cells ({ frames := 2, cells := 0, slots := 0, locals := 24 } : Room).slots (QC1 Z a tt mn mx h0 n0) (s₁.setTop (entryFrame m #[(.ref a), (.ref tt), (.long (1 : Int64)), (.long mn), (.long mx)] 8))
  rw [efC1]
  refine Go.by (fun _ kont => XS.aloadN X0.here hx rfl (hb hby dC1_0) rfl rfl kont) ?_
  show Go _ _ _ _ _ _ _ (s₁.setTop (mkF m 1 #[.val (.ref a), .val (.ref tt), .val (.long (1 : Int64)), .second, .val (.long mn), .second, .val (.long mx), .second] [(.ref a)]))
  obtain ⟨_, _, ⟨T101, L101, k101, n101⟩, -, X101, ⟨Lc101, hQ101, l101, y101, z101⟩, st101⟩ := X0.specialBack hx (y := (⟨"java/lang/Record", "<init>", "()V"⟩ : MethodName)) rfl hown (mvT hZ (hw _ (List.mem_of_getElem? (i := 64) rfl))) (mvT hZ (hw _ (List.mem_of_getElem? (i := 65) rfl))) (mvT hZ (hw _ (List.mem_of_getElem? (i := 68) rfl))) (by decide) (backOf (W := 0) (rmR l Z a0 hw [] a h0 n0 Z0 ) hZ (hw _ (List.mem_of_getElem? (i := 68) rfl)) (hw _ (List.mem_of_getElem? (i := 67) rfl)) (by decide) (by decide)) (g := (mkF m 1 #[.val (.ref a), .val (.ref tt), .val (.long (1 : Int64)), .second, .val (.long mn), .second, .val (.long mx), .second] [(.ref a)])) rfl (by rw [hml]; rfl) (Steps.refl _) (a := a) (argsL := []) (rest := []) (lenOf pdC1_0 rfl) rfl (by show 2 * 0 + _ ≤ _; exact Nat.le_of_eq rfl) (hb hby dC1_1) (fun _ _ => ⟨rfl, e0, (by decide : 0 + 0 ≤ _), (by decide : 0 + 0 ≤ _)⟩)
  dsimp only [Pt.U, Pt.locs, Pt.cells, Pt.slots] at X101 l101 y101 z101 st101 hQ101
  subst l101 y101 z101
  obtain ⟨rfl, N101q, eh101⟩ := hQ101
  have N101 := Fr.app N0 N101q
  refine Go.tr st101 ?_
  show Go _ _ _ _ _ _ _ (T101.setTop (mkF m 4 #[.val (.ref a), .val (.ref tt), .val (.long (1 : Int64)), .second, .val (.long mn), .second, .val (.long mx), .second] []))
  refine Go.by (fun _ kont => XS.aloadN X101.here hx rfl (hb hby dC1_4) rfl rfl kont) ?_
  show Go _ _ _ _ _ _ _ (T101.setTop (mkF m 5 #[.val (.ref a), .val (.ref tt), .val (.long (1 : Int64)), .second, .val (.long mn), .second, .val (.long mx), .second] [(.ref tt)]))
  obtain ⟨_, _, ⟨T102, L102, k102, n102⟩, -, X102, ⟨Lc102, hQ102, l102, y102, z102⟩, st102⟩ := Jvm.LawKit.callS X101 hx (y := (⟨"java/util/Objects", "requireNonNull", "(Ljava/lang/Object;)Ljava/lang/Object;"⟩ : MethodName)) hown (mvT hZ (hw _ (List.mem_of_getElem? (i := 70) rfl))) (mvT hZ (hw _ (List.mem_of_getElem? (i := 71) rfl))) (mvT hZ (hw _ (List.mem_of_getElem? (i := 72) rfl))) (mvT hZ (hw _ (List.mem_of_getElem? (i := 73) rfl))) (by decide) (backOf (W := 0) (rmRn l Z a0 hw [] tt h0 n0 Z0 ) hZ (hw _ (List.mem_of_getElem? (i := 73) rfl)) (hw _ (List.mem_of_getElem? (i := 72) rfl)) (by decide) (by decide)) (g := (mkF m 5 #[.val (.ref a), .val (.ref tt), .val (.long (1 : Int64)), .second, .val (.long mn), .second, .val (.long mx), .second] [(.ref tt)])) rfl (by rw [hml]; rfl) (argsL := [(.ref tt)]) (rest := []) (lenOf pdC1_1 rfl) rfl (by show 2 * 0 + _ ≤ _; exact Nat.le_of_eq rfl) (hb hby dC1_5) (fun _ _ => ⟨rfl, eh101, (by decide : 0 + 0 ≤ _), (by decide : 0 + 0 ≤ _)⟩)
  dsimp only [Pt.U, Pt.locs, Pt.cells, Pt.slots] at X102 l102 y102 z102 st102 hQ102
  subst l102 y102 z102
  obtain ⟨rfl, N102q, eh102⟩ := hQ102
  have N102 := Fr.app N101 N102q
  refine Go.by st102 ?_
  show Go _ _ _ _ _ _ _ (T102.setTop (mkF m 8 #[.val (.ref a), .val (.ref tt), .val (.long (1 : Int64)), .second, .val (.long mn), .second, .val (.long mx), .second] [(.ref tt)]))
  refine Go.by (fun _ kont => XS.pop X102.here hx rfl (hb hby dC1_8) rfl rfl (XS.lloadN X102.here hx rfl (hb hby dC1_9) rfl (XS.lconst X102.here hx rfl (hb hby dC1_10) (XS.lcmp X102.here hx rfl (hb hby dC1_11) rfl kont)))) ?_
  show Go _ _ _ _ _ _ _ (T102.setTop (mkF m 12 #[.val (.ref a), .val (.ref tt), .val (.long (1 : Int64)), .second, .val (.long mn), .second, .val (.long mx), .second] [(.int (lcmpW (1 : Int64) (1 : Int64)))]))
  have hd103 : ¬ ((1 : Int64) < (1 : Int64)) := by decide
  refine Go.by (fun _ kont => XS.ifYes X102.here hx rfl (pc0 := 12) (pc' := 29) rfl (hb hby dC1_12) rfl ((if0 _ _).trans (flt (fun z => hd103 ((lw_lt _ _).mp z))).2.1) (by decide) (by decide) kont) ?_
  show Go _ _ _ _ _ _ _ (T102.setTop (mkF m 29 #[.val (.ref a), .val (.ref tt), .val (.long (1 : Int64)), .second, .val (.long mn), .second, .val (.long mx), .second] []))
  refine Go.by (fun _ kont => XS.aloadN X102.here hx rfl (hb hby dC1_29) rfl rfl (XS.aloadN X102.here hx rfl (hb hby dC1_30) rfl rfl kont)) ?_
  show Go _ _ _ _ _ _ _ (T102.setTop (mkF m 31 #[.val (.ref a), .val (.ref tt), .val (.long (1 : Int64)), .second, .val (.long mn), .second, .val (.long mx), .second] [(.ref tt), (.ref a)]))
  obtain ⟨T104, h104, X104, e104, W104, st104⟩ := putF X102 hx hZ hown (host := "") (Or.inl (hw _ (List.mem_of_getElem? (i := 74) rfl))) Via.refl eh102 F0_a_total E0_a (Or.inr ⟨(hw _ (List.mem_of_getElem? (i := 75) rfl)), rfl, hnm⟩) (hw _ (List.mem_of_getElem? (i := 60) rfl)) (ty := (.object "java/math/BigInteger")) (by decide) rfl rfl (g := (mkF m 31 #[.val (.ref a), .val (.ref tt), .val (.long (1 : Int64)), .second, .val (.long mn), .second, .val (.long mx), .second] [(.ref tt), (.ref a)])) rfl rfl (hb hby dC1_31)
  have Fw104 := F0_a_total.same W104
  have F105_members_a := F0_a_members.other W104 (Or.inr (slot_ne (Or.inr (hw _ (List.mem_of_getElem? (i := 77) rfl))) (Or.inr (hw _ (List.mem_of_getElem? (i := 75) rfl))) (by decide) (t := .long) (t' := (.object "java/math/BigInteger")) (by decide) (by decide)))
  have F105_min_a := F0_a_min.other W104 (Or.inr (slot_ne (Or.inr (hw _ (List.mem_of_getElem? (i := 79) rfl))) (Or.inr (hw _ (List.mem_of_getElem? (i := 75) rfl))) (by decide) (t := .long) (t' := (.object "java/math/BigInteger")) (by decide) (by decide)))
  have F105_max_a := F0_a_max.other W104 (Or.inr (slot_ne (Or.inr (hw _ (List.mem_of_getElem? (i := 81) rfl))) (Or.inr (hw _ (List.mem_of_getElem? (i := 75) rfl))) (by decide) (t := .long) (t' := (.object "java/math/BigInteger")) (by decide) (by decide)))
  have E105_a := E0_a.wr W104
  have Z105 := Nat.le_trans Z0 (Keep.of_wr W104).1
  have K105 : Keep h0 h104 [a] := (Keep.refl h0 [a]).wr W104 (Or.inl (by simp))
  have N104 := Fr.snoc X104 N102 ge0_a
  refine Go.by st104 ?_
  show Go _ _ _ _ _ _ _ (T104.setTop (mkF m 34 #[.val (.ref a), .val (.ref tt), .val (.long (1 : Int64)), .second, .val (.long mn), .second, .val (.long mx), .second] []))
  refine Go.by (fun _ kont => XS.aloadN X104.here hx rfl (hb hby dC1_34) rfl rfl (XS.lloadN X104.here hx rfl (hb hby dC1_35) rfl kont)) ?_
  show Go _ _ _ _ _ _ _ (T104.setTop (mkF m 36 #[.val (.ref a), .val (.ref tt), .val (.long (1 : Int64)), .second, .val (.long mn), .second, .val (.long mx), .second] [(.long (1 : Int64)), (.ref a)]))
  obtain ⟨T106, h106, X106, e106, W106, st106⟩ := putF X104 hx hZ hown (host := "") (Or.inl (hw _ (List.mem_of_getElem? (i := 76) rfl))) Via.refl e104 F105_members_a E105_a (Or.inr ⟨(hw _ (List.mem_of_getElem? (i := 77) rfl)), rfl, hnm⟩) (hw _ (List.mem_of_getElem? (i := 60) rfl)) (ty := .long) (by decide) rfl rfl (g := (mkF m 36 #[.val (.ref a), .val (.ref tt), .val (.long (1 : Int64)), .second, .val (.long mn), .second, .val (.long mx), .second] [(.long (1 : Int64)), (.ref a)])) rfl rfl (hb hby dC1_36)
  have Fw106 := F105_members_a.same W106
  have F107_total_a := Fw104.other W106 (Or.inr (slot_ne (Or.inr (hw _ (List.mem_of_getElem? (i := 75) rfl))) (Or.inr (hw _ (List.mem_of_getElem? (i := 77) rfl))) (by decide) (t := (.object "java/math/BigInteger")) (t' := .long) (by decide) (by decide)))
  have F107_min_a := F105_min_a.other W106 (Or.inr (slot_ne (Or.inr (hw _ (List.mem_of_getElem? (i := 79) rfl))) (Or.inr (hw _ (List.mem_of_getElem? (i := 77) rfl))) (by decide) (t := .long) (t' := .long) (by decide) (by decide)))
  have F107_max_a := F105_max_a.other W106 (Or.inr (slot_ne (Or.inr (hw _ (List.mem_of_getElem? (i := 81) rfl))) (Or.inr (hw _ (List.mem_of_getElem? (i := 77) rfl))) (by decide) (t := .long) (t' := .long) (by decide) (by decide)))
  have E107_a := E105_a.wr W106
  have Z107 := Nat.le_trans Z105 (Keep.of_wr W106).1
  have K107 : Keep h0 h106 [a] := K105.wr W106 (Or.inl (by simp))
  have N106 := Fr.snoc X106 N104 ge0_a
  refine Go.by st106 ?_
  show Go _ _ _ _ _ _ _ (T106.setTop (mkF m 39 #[.val (.ref a), .val (.ref tt), .val (.long (1 : Int64)), .second, .val (.long mn), .second, .val (.long mx), .second] []))
  refine Go.by (fun _ kont => XS.aloadN X106.here hx rfl (hb hby dC1_39) rfl rfl (XS.lload X106.here hx rfl (hb hby dC1_40) rfl kont)) ?_
  show Go _ _ _ _ _ _ _ (T106.setTop (mkF m 42 #[.val (.ref a), .val (.ref tt), .val (.long (1 : Int64)), .second, .val (.long mn), .second, .val (.long mx), .second] [(.long mn), (.ref a)]))
  obtain ⟨T108, h108, X108, e108, W108, st108⟩ := putF X106 hx hZ hown (host := "") (Or.inl (hw _ (List.mem_of_getElem? (i := 78) rfl))) Via.refl e106 F107_min_a E107_a (Or.inr ⟨(hw _ (List.mem_of_getElem? (i := 79) rfl)), rfl, hnm⟩) (hw _ (List.mem_of_getElem? (i := 60) rfl)) (ty := .long) (by decide) rfl rfl (g := (mkF m 42 #[.val (.ref a), .val (.ref tt), .val (.long (1 : Int64)), .second, .val (.long mn), .second, .val (.long mx), .second] [(.long mn), (.ref a)])) rfl rfl (hb hby dC1_42)
  have Fw108 := F107_min_a.same W108
  have F109_total_a := F107_total_a.other W108 (Or.inr (slot_ne (Or.inr (hw _ (List.mem_of_getElem? (i := 75) rfl))) (Or.inr (hw _ (List.mem_of_getElem? (i := 79) rfl))) (by decide) (t := (.object "java/math/BigInteger")) (t' := .long) (by decide) (by decide)))
  have F109_members_a := Fw106.other W108 (Or.inr (slot_ne (Or.inr (hw _ (List.mem_of_getElem? (i := 77) rfl))) (Or.inr (hw _ (List.mem_of_getElem? (i := 79) rfl))) (by decide) (t := .long) (t' := .long) (by decide) (by decide)))
  have F109_max_a := F107_max_a.other W108 (Or.inr (slot_ne (Or.inr (hw _ (List.mem_of_getElem? (i := 81) rfl))) (Or.inr (hw _ (List.mem_of_getElem? (i := 79) rfl))) (by decide) (t := .long) (t' := .long) (by decide) (by decide)))
  have E109_a := E107_a.wr W108
  have Z109 := Nat.le_trans Z107 (Keep.of_wr W108).1
  have K109 : Keep h0 h108 [a] := K107.wr W108 (Or.inl (by simp))
  have N108 := Fr.snoc X108 N106 ge0_a
  refine Go.by st108 ?_
  show Go _ _ _ _ _ _ _ (T108.setTop (mkF m 45 #[.val (.ref a), .val (.ref tt), .val (.long (1 : Int64)), .second, .val (.long mn), .second, .val (.long mx), .second] []))
  refine Go.by (fun _ kont => XS.aloadN X108.here hx rfl (hb hby dC1_45) rfl rfl (XS.lload X108.here hx rfl (hb hby dC1_46) rfl kont)) ?_
  show Go _ _ _ _ _ _ _ (T108.setTop (mkF m 48 #[.val (.ref a), .val (.ref tt), .val (.long (1 : Int64)), .second, .val (.long mn), .second, .val (.long mx), .second] [(.long mx), (.ref a)]))
  obtain ⟨T110, h110, X110, e110, W110, st110⟩ := putF X108 hx hZ hown (host := "") (Or.inl (hw _ (List.mem_of_getElem? (i := 80) rfl))) Via.refl e108 F109_max_a E109_a (Or.inr ⟨(hw _ (List.mem_of_getElem? (i := 81) rfl)), rfl, hnm⟩) (hw _ (List.mem_of_getElem? (i := 60) rfl)) (ty := .long) (by decide) rfl rfl (g := (mkF m 48 #[.val (.ref a), .val (.ref tt), .val (.long (1 : Int64)), .second, .val (.long mn), .second, .val (.long mx), .second] [(.long mx), (.ref a)])) rfl rfl (hb hby dC1_48)
  have Fw110 := F109_max_a.same W110
  have F111_total_a := F109_total_a.other W110 (Or.inr (slot_ne (Or.inr (hw _ (List.mem_of_getElem? (i := 75) rfl))) (Or.inr (hw _ (List.mem_of_getElem? (i := 81) rfl))) (by decide) (t := (.object "java/math/BigInteger")) (t' := .long) (by decide) (by decide)))
  have F111_members_a := F109_members_a.other W110 (Or.inr (slot_ne (Or.inr (hw _ (List.mem_of_getElem? (i := 77) rfl))) (Or.inr (hw _ (List.mem_of_getElem? (i := 81) rfl))) (by decide) (t := .long) (t' := .long) (by decide) (by decide)))
  have F111_min_a := Fw108.other W110 (Or.inr (slot_ne (Or.inr (hw _ (List.mem_of_getElem? (i := 79) rfl))) (Or.inr (hw _ (List.mem_of_getElem? (i := 81) rfl))) (by decide) (t := .long) (t' := .long) (by decide) (by decide)))
  have E111_a := E109_a.wr W110
  have Z111 := Nat.le_trans Z109 (Keep.of_wr W110).1
  have K111 : Keep h0 h110 [a] := K109.wr W110 (Or.inl (by simp))
  have N110 := Fr.snoc X110 N108 ge0_a
  refine Go.by st110 ?_
  show Go _ _ _ _ _ _ _ (T110.setTop (mkF m 51 #[.val (.ref a), .val (.ref tt), .val (.long (1 : Int64)), .second, .val (.long mn), .second, .val (.long mx), .second] []))
  refine Go.retV X110 hx hret hlk (hb hby dC1_51) ?_ (by decide) (by decide)
  show QC1 Z a tt mn mx h0 n0 none T110.heap _
  rw [e110]
  exact ⟨rfl, N110, K111, E111_a, F111_total_a, F111_members_a, F111_min_a, Fw110⟩

theorem dC2_0 : decode prog_20_method_1_code 0 = .ok (.aload_n 0, 1) := by decide +kernel
theorem dC2_1 : decode prog_20_method_1_code 1 = .ok (.invokespecial 1, 3) := by decide +kernel
theorem dC2_4 : decode prog_20_method_1_code 4 = .ok (.aload_n 1, 1) := by decide +kernel
theorem dC2_5 : decode prog_20_method_1_code 5 = .ok (.invokestatic 7, 3) := by decide +kernel
theorem dC2_8 : decode prog_20_method_1_code 8 = .ok (.pop, 1) := by decide +kernel
theorem dC2_9 : decode prog_20_method_1_code 9 = .ok (.lload_n 2, 1) := by decide +kernel
theorem dC2_10 : decode prog_20_method_1_code 10 = .ok (.lconst 1, 1) := by decide +kernel
theorem dC2_11 : decode prog_20_method_1_code 11 = .ok (.lcmp, 1) := by decide +kernel
theorem dC2_12 : decode prog_20_method_1_code 12 = .ok (.ifCond .ge 17, 3) := by decide +kernel
theorem dC2_29 : decode prog_20_method_1_code 29 = .ok (.aload_n 0, 1) := by decide +kernel
theorem dC2_30 : decode prog_20_method_1_code 30 = .ok (.aload_n 1, 1) := by decide +kernel
theorem dC2_31 : decode prog_20_method_1_code 31 = .ok (.putfield 22, 3) := by decide +kernel
theorem dC2_34 : decode prog_20_method_1_code 34 = .ok (.aload_n 0, 1) := by decide +kernel
theorem dC2_35 : decode prog_20_method_1_code 35 = .ok (.lload_n 2, 1) := by decide +kernel
theorem dC2_36 : decode prog_20_method_1_code 36 = .ok (.putfield 28, 3) := by decide +kernel
theorem dC2_39 : decode prog_20_method_1_code 39 = .ok (.aload_n 0, 1) := by decide +kernel
theorem dC2_40 : decode prog_20_method_1_code 40 = .ok (.lload 4, 2) := by decide +kernel
theorem dC2_42 : decode prog_20_method_1_code 42 = .ok (.putfield 32, 3) := by decide +kernel
theorem dC2_45 : decode prog_20_method_1_code 45 = .ok (.aload_n 0, 1) := by decide +kernel
theorem dC2_46 : decode prog_20_method_1_code 46 = .ok (.lload 6, 2) := by decide +kernel
theorem dC2_48 : decode prog_20_method_1_code 48 = .ok (.putfield 35, 3) := by decide +kernel
theorem dC2_51 : decode prog_20_method_1_code 51 = .ok (.return_, 1) := by decide +kernel
theorem pdC2_0 : parseMethodDescriptor "()V" = some ⟨[], none⟩ := by decide +kernel
theorem pdC2_1 : parseMethodDescriptor "(Ljava/lang/Object;)Ljava/lang/Object;" = some ⟨[(.object "java/lang/Object")], some (.object "java/lang/Object")⟩ := by decide +kernel
theorem pnC2 : plainName "com/example/quorumsmith/quorumsmith/engine/CountSummary" = true := by first | (simp [plainName, overriddenIn]; done) | decide +kernel
theorem efC2 (m : MethodId) (a : Addr) (tt : Addr) (mn : Int64) (mx : Int64) : entryFrame m #[(.ref a), (.ref tt), (.long (2 : Int64)), (.long mn), (.long mx)] 8 = mkF m 0 #[.val (.ref a), .val (.ref tt), .val (.long (2 : Int64)), .second, .val (.long mn), .second, .val (.long mx), .second] [] := by first | (simp [entryFrame, mkF, argsToLocals, Value.category]; done) | rfl
def QC2 (Z : State) (a : Addr) (tt : Addr) (mn : Int64) (mx : Int64) (h0 : Heap) (n0 : Nat) (v : Option Value) (h : Heap) (L : List Loc) : Prop := (v = none ∧ Fr n0 L ∧ Keep h0 h [a] ∧ Exa Z h a "com/example/quorumsmith/quorumsmith/engine/CountSummary" ∧ Fld Z h a "com/example/quorumsmith/quorumsmith/engine/CountSummary" "total" "Ljava/math/BigInteger;" (.ref tt) ∧ Fld Z h a "com/example/quorumsmith/quorumsmith/engine/CountSummary" "members" "J" (.long (2 : Int64)) ∧ Fld Z h a "com/example/quorumsmith/quorumsmith/engine/CountSummary" "min" "J" (.long mn) ∧ Fld Z h a "com/example/quorumsmith/quorumsmith/engine/CountSummary" "max" "J" (.long mx))
set_option maxRecDepth 65536 in
set_option maxHeartbeats 40000000 in
theorem rmC2 (l : Launch) (Z : State) (a0 : Array Value) (hw : ∀ d ∈ tables_1, d.before a0 Z = true) (ws : List Jvm.Cond) (a : Addr) (tt : Addr) (mn : Int64) (mx : Int64) (h0 : Heap) (n0 : Nat) (Z0 : n0 ≤ h0.size) (E0_a : Exa Z h0 a "com/example/quorumsmith/quorumsmith/engine/CountSummary") (F0_a_total : Fld Z h0 a "com/example/quorumsmith/quorumsmith/engine/CountSummary" "total" "Ljava/math/BigInteger;" .null) (F0_a_members : Fld Z h0 a "com/example/quorumsmith/quorumsmith/engine/CountSummary" "members" "J" (.long (0 : Int64))) (F0_a_min : Fld Z h0 a "com/example/quorumsmith/quorumsmith/engine/CountSummary" "min" "J" (.long (0 : Int64))) (F0_a_max : Fld Z h0 a "com/example/quorumsmith/quorumsmith/engine/CountSummary" "max" "J" (.long (0 : Int64))) (ge0_a : n0 ≤ a) :
    MetFree l (⟨"com/example/quorumsmith/quorumsmith/engine/CountSummary", "<init>", "(Ljava/math/BigInteger;JJJ)V"⟩ : MethodName) (head1 (Jvm.Cond.code (⟨"com/example/quorumsmith/quorumsmith/engine/CountSummary", "<init>", "(Ljava/math/BigInteger;JJJ)V"⟩ : MethodName) prog_20_method_1_code 8 none :: ws) ({ frames := 2, cells := 0, slots := 0, locals := 24 } : Room)) (fun aa_ U_ => aa_ = #[(.ref a), (.ref tt), (.long (2 : Int64)), (.long mn), (.long mx)] ∧ Z.Warmed39 U_.vm ∧ U_.heap = h0) (fun _ _ _ _ _ => True) (fun _ U_ o_ V_ => ∃ v_ L_, o_ = .returned v_ ∧ QC2 Z a tt mn mx h0 n0 v_ V_.heap L_ ∧ FrameEnd U_ o_ V_ L_ ({ frames := 2, cells := 0, slots := 0, locals := 24 } : Room).cells ({ frames := 2, cells := 0, slots := 0, locals := 24 } : Room).slots) := by
  refine MetFree.of_bodySF (plainFor_of_name pnC2) hisR ?_
  intro p e s m args below meth c s₁ Bd hml0 hP hK
  obtain ⟨rfl, hZ, hh⟩ := hP
  have hx := Bd.exec
  have hby := Bd.bytes
  have hml : c.maxLocals = 8 := hml0
  have hown : s.vm.findClass "com/example/quorumsmith/quorumsmith/engine/CountSummary" = some m.cls := findClass_of_methodNamed Bd.named
  have hnm := (name_of_methodNamed Bd.named Bd.method).1
  have hlk : meth.locks = false := BodyLoose.notSynchronized Bd
  have hret : meth.sig.returnType = none := Bd.returns
  have X0 : Stand p l e ({ frames := 2, cells := 0, slots := 0, locals := 24 } : Room) s m #[(.ref a), (.ref tt), (.long (2 : Int64)), (.long mn), (.long mx)] below meth c s₁ [] 0 0 := Stand.of_body Bd
  have e0 : s₁.heap = h0 := by rw [← hh, Bd.state]; rfl
  have N0 := Fr.nil n0
  show Go p e below s ({ frames := 2, cells := 0, slots := 0, locals := 24 } : Room).cells ({ frames := 2, cells := 0, slots := 0, locals := 24 } : Room).slots (QC2 Z a tt mn mx h0 n0) (s₁.setTop (entryFrame m #[(.ref a), (.ref tt), (.long (2 : Int64)), (.long mn), (.long mx)] 8))
  rw [efC2]
  refine Go.by (fun _ kont => XS.aloadN X0.here hx rfl (hb hby dC2_0) rfl rfl kont) ?_
  show Go _ _ _ _ _ _ _ (s₁.setTop (mkF m 1 #[.val (.ref a), .val (.ref tt), .val (.long (2 : Int64)), .second, .val (.long mn), .second, .val (.long mx), .second] [(.ref a)]))
  obtain ⟨_, _, ⟨T101, L101, k101, n101⟩, -, X101, ⟨Lc101, hQ101, l101, y101, z101⟩, st101⟩ := X0.specialBack hx (y := (⟨"java/lang/Record", "<init>", "()V"⟩ : MethodName)) rfl hown (mvT hZ (hw _ (List.mem_of_getElem? (i := 64) rfl))) (mvT hZ (hw _ (List.mem_of_getElem? (i := 65) rfl))) (mvT hZ (hw _ (List.mem_of_getElem? (i := 68) rfl))) (by decide) (backOf (W := 0) (rmR l Z a0 hw [] a h0 n0 Z0 ) hZ (hw _ (List.mem_of_getElem? (i := 68) rfl)) (hw _ (List.mem_of_getElem? (i := 67) rfl)) (by decide) (by decide)) (g := (mkF m 1 #[.val (.ref a), .val (.ref tt), .val (.long (2 : Int64)), .second, .val (.long mn), .second, .val (.long mx), .second] [(.ref a)])) rfl (by rw [hml]; rfl) (Steps.refl _) (a := a) (argsL := []) (rest := []) (lenOf pdC2_0 rfl) rfl (by show 2 * 0 + _ ≤ _; exact Nat.le_of_eq rfl) (hb hby dC2_1) (fun _ _ => ⟨rfl, e0, (by decide : 0 + 0 ≤ _), (by decide : 0 + 0 ≤ _)⟩)
  dsimp only [Pt.U, Pt.locs, Pt.cells, Pt.slots] at X101 l101 y101 z101 st101 hQ101
  subst l101 y101 z101
  obtain ⟨rfl, N101q, eh101⟩ := hQ101
  have N101 := Fr.app N0 N101q
  refine Go.tr st101 ?_
  show Go _ _ _ _ _ _ _ (T101.setTop (mkF m 4 #[.val (.ref a), .val (.ref tt), .val (.long (2 : Int64)), .second, .val (.long mn), .second, .val (.long mx), .second] []))
  refine Go.by (fun _ kont => XS.aloadN X101.here hx rfl (hb hby dC2_4) rfl rfl kont) ?_
  show Go _ _ _ _ _ _ _ (T101.setTop (mkF m 5 #[.val (.ref a), .val (.ref tt), .val (.long (2 : Int64)), .second, .val (.long mn), .second, .val (.long mx), .second] [(.ref tt)]))
  obtain ⟨_, _, ⟨T102, L102, k102, n102⟩, -, X102, ⟨Lc102, hQ102, l102, y102, z102⟩, st102⟩ := Jvm.LawKit.callS X101 hx (y := (⟨"java/util/Objects", "requireNonNull", "(Ljava/lang/Object;)Ljava/lang/Object;"⟩ : MethodName)) hown (mvT hZ (hw _ (List.mem_of_getElem? (i := 70) rfl))) (mvT hZ (hw _ (List.mem_of_getElem? (i := 71) rfl))) (mvT hZ (hw _ (List.mem_of_getElem? (i := 72) rfl))) (mvT hZ (hw _ (List.mem_of_getElem? (i := 73) rfl))) (by decide) (backOf (W := 0) (rmRn l Z a0 hw [] tt h0 n0 Z0 ) hZ (hw _ (List.mem_of_getElem? (i := 73) rfl)) (hw _ (List.mem_of_getElem? (i := 72) rfl)) (by decide) (by decide)) (g := (mkF m 5 #[.val (.ref a), .val (.ref tt), .val (.long (2 : Int64)), .second, .val (.long mn), .second, .val (.long mx), .second] [(.ref tt)])) rfl (by rw [hml]; rfl) (argsL := [(.ref tt)]) (rest := []) (lenOf pdC2_1 rfl) rfl (by show 2 * 0 + _ ≤ _; exact Nat.le_of_eq rfl) (hb hby dC2_5) (fun _ _ => ⟨rfl, eh101, (by decide : 0 + 0 ≤ _), (by decide : 0 + 0 ≤ _)⟩)
  dsimp only [Pt.U, Pt.locs, Pt.cells, Pt.slots] at X102 l102 y102 z102 st102 hQ102
  subst l102 y102 z102
  obtain ⟨rfl, N102q, eh102⟩ := hQ102
  have N102 := Fr.app N101 N102q
  refine Go.by st102 ?_
  show Go _ _ _ _ _ _ _ (T102.setTop (mkF m 8 #[.val (.ref a), .val (.ref tt), .val (.long (2 : Int64)), .second, .val (.long mn), .second, .val (.long mx), .second] [(.ref tt)]))
  refine Go.by (fun _ kont => XS.pop X102.here hx rfl (hb hby dC2_8) rfl rfl (XS.lloadN X102.here hx rfl (hb hby dC2_9) rfl (XS.lconst X102.here hx rfl (hb hby dC2_10) (XS.lcmp X102.here hx rfl (hb hby dC2_11) rfl kont)))) ?_
  show Go _ _ _ _ _ _ _ (T102.setTop (mkF m 12 #[.val (.ref a), .val (.ref tt), .val (.long (2 : Int64)), .second, .val (.long mn), .second, .val (.long mx), .second] [(.int (lcmpW (2 : Int64) (1 : Int64)))]))
  have hd103 : ¬ ((2 : Int64) < (1 : Int64)) := by decide
  refine Go.by (fun _ kont => XS.ifYes X102.here hx rfl (pc0 := 12) (pc' := 29) rfl (hb hby dC2_12) rfl ((if0 _ _).trans (flt (fun z => hd103 ((lw_lt _ _).mp z))).2.1) (by decide) (by decide) kont) ?_
  show Go _ _ _ _ _ _ _ (T102.setTop (mkF m 29 #[.val (.ref a), .val (.ref tt), .val (.long (2 : Int64)), .second, .val (.long mn), .second, .val (.long mx), .second] []))
  refine Go.by (fun _ kont => XS.aloadN X102.here hx rfl (hb hby dC2_29) rfl rfl (XS.aloadN X102.here hx rfl (hb hby dC2_30) rfl rfl kont)) ?_
  show Go _ _ _ _ _ _ _ (T102.setTop (mkF m 31 #[.val (.ref a), .val (.ref tt), .val (.long (2 : Int64)), .second, .val (.long mn), .second, .val (.long mx), .second] [(.ref tt), (.ref a)]))
  obtain ⟨T104, h104, X104, e104, W104, st104⟩ := putF X102 hx hZ hown (host := "") (Or.inl (hw _ (List.mem_of_getElem? (i := 74) rfl))) Via.refl eh102 F0_a_total E0_a (Or.inr ⟨(hw _ (List.mem_of_getElem? (i := 75) rfl)), rfl, hnm⟩) (hw _ (List.mem_of_getElem? (i := 60) rfl)) (ty := (.object "java/math/BigInteger")) (by decide) rfl rfl (g := (mkF m 31 #[.val (.ref a), .val (.ref tt), .val (.long (2 : Int64)), .second, .val (.long mn), .second, .val (.long mx), .second] [(.ref tt), (.ref a)])) rfl rfl (hb hby dC2_31)
  have Fw104 := F0_a_total.same W104
  have F105_members_a := F0_a_members.other W104 (Or.inr (slot_ne (Or.inr (hw _ (List.mem_of_getElem? (i := 77) rfl))) (Or.inr (hw _ (List.mem_of_getElem? (i := 75) rfl))) (by decide) (t := .long) (t' := (.object "java/math/BigInteger")) (by decide) (by decide)))
  have F105_min_a := F0_a_min.other W104 (Or.inr (slot_ne (Or.inr (hw _ (List.mem_of_getElem? (i := 79) rfl))) (Or.inr (hw _ (List.mem_of_getElem? (i := 75) rfl))) (by decide) (t := .long) (t' := (.object "java/math/BigInteger")) (by decide) (by decide)))
  have F105_max_a := F0_a_max.other W104 (Or.inr (slot_ne (Or.inr (hw _ (List.mem_of_getElem? (i := 81) rfl))) (Or.inr (hw _ (List.mem_of_getElem? (i := 75) rfl))) (by decide) (t := .long) (t' := (.object "java/math/BigInteger")) (by decide) (by decide)))
  have E105_a := E0_a.wr W104
  have Z105 := Nat.le_trans Z0 (Keep.of_wr W104).1
  have K105 : Keep h0 h104 [a] := (Keep.refl h0 [a]).wr W104 (Or.inl (by simp))
  have N104 := Fr.snoc X104 N102 ge0_a
  refine Go.by st104 ?_
  show Go _ _ _ _ _ _ _ (T104.setTop (mkF m 34 #[.val (.ref a), .val (.ref tt), .val (.long (2 : Int64)), .second, .val (.long mn), .second, .val (.long mx), .second] []))
  refine Go.by (fun _ kont => XS.aloadN X104.here hx rfl (hb hby dC2_34) rfl rfl (XS.lloadN X104.here hx rfl (hb hby dC2_35) rfl kont)) ?_
  show Go _ _ _ _ _ _ _ (T104.setTop (mkF m 36 #[.val (.ref a), .val (.ref tt), .val (.long (2 : Int64)), .second, .val (.long mn), .second, .val (.long mx), .second] [(.long (2 : Int64)), (.ref a)]))
  obtain ⟨T106, h106, X106, e106, W106, st106⟩ := putF X104 hx hZ hown (host := "") (Or.inl (hw _ (List.mem_of_getElem? (i := 76) rfl))) Via.refl e104 F105_members_a E105_a (Or.inr ⟨(hw _ (List.mem_of_getElem? (i := 77) rfl)), rfl, hnm⟩) (hw _ (List.mem_of_getElem? (i := 60) rfl)) (ty := .long) (by decide) rfl rfl (g := (mkF m 36 #[.val (.ref a), .val (.ref tt), .val (.long (2 : Int64)), .second, .val (.long mn), .second, .val (.long mx), .second] [(.long (2 : Int64)), (.ref a)])) rfl rfl (hb hby dC2_36)
  have Fw106 := F105_members_a.same W106
  have F107_total_a := Fw104.other W106 (Or.inr (slot_ne (Or.inr (hw _ (List.mem_of_getElem? (i := 75) rfl))) (Or.inr (hw _ (List.mem_of_getElem? (i := 77) rfl))) (by decide) (t := (.object "java/math/BigInteger")) (t' := .long) (by decide) (by decide)))
  have F107_min_a := F105_min_a.other W106 (Or.inr (slot_ne (Or.inr (hw _ (List.mem_of_getElem? (i := 79) rfl))) (Or.inr (hw _ (List.mem_of_getElem? (i := 77) rfl))) (by decide) (t := .long) (t' := .long) (by decide) (by decide)))
  have F107_max_a := F105_max_a.other W106 (Or.inr (slot_ne (Or.inr (hw _ (List.mem_of_getElem? (i := 81) rfl))) (Or.inr (hw _ (List.mem_of_getElem? (i := 77) rfl))) (by decide) (t := .long) (t' := .long) (by decide) (by decide)))
  have E107_a := E105_a.wr W106
  have Z107 := Nat.le_trans Z105 (Keep.of_wr W106).1
  have K107 : Keep h0 h106 [a] := K105.wr W106 (Or.inl (by simp))
  have N106 := Fr.snoc X106 N104 ge0_a
  refine Go.by st106 ?_
  show Go _ _ _ _ _ _ _ (T106.setTop (mkF m 39 #[.val (.ref a), .val (.ref tt), .val (.long (2 : Int64)), .second, .val (.long mn), .second, .val (.long mx), .second] []))
  refine Go.by (fun _ kont => XS.aloadN X106.here hx rfl (hb hby dC2_39) rfl rfl (XS.lload X106.here hx rfl (hb hby dC2_40) rfl kont)) ?_
  show Go _ _ _ _ _ _ _ (T106.setTop (mkF m 42 #[.val (.ref a), .val (.ref tt), .val (.long (2 : Int64)), .second, .val (.long mn), .second, .val (.long mx), .second] [(.long mn), (.ref a)]))
  obtain ⟨T108, h108, X108, e108, W108, st108⟩ := putF X106 hx hZ hown (host := "") (Or.inl (hw _ (List.mem_of_getElem? (i := 78) rfl))) Via.refl e106 F107_min_a E107_a (Or.inr ⟨(hw _ (List.mem_of_getElem? (i := 79) rfl)), rfl, hnm⟩) (hw _ (List.mem_of_getElem? (i := 60) rfl)) (ty := .long) (by decide) rfl rfl (g := (mkF m 42 #[.val (.ref a), .val (.ref tt), .val (.long (2 : Int64)), .second, .val (.long mn), .second, .val (.long mx), .second] [(.long mn), (.ref a)])) rfl rfl (hb hby dC2_42)
  have Fw108 := F107_min_a.same W108
  have F109_total_a := F107_total_a.other W108 (Or.inr (slot_ne (Or.inr (hw _ (List.mem_of_getElem? (i := 75) rfl))) (Or.inr (hw _ (List.mem_of_getElem? (i := 79) rfl))) (by decide) (t := (.object "java/math/BigInteger")) (t' := .long) (by decide) (by decide)))
  have F109_members_a := Fw106.other W108 (Or.inr (slot_ne (Or.inr (hw _ (List.mem_of_getElem? (i := 77) rfl))) (Or.inr (hw _ (List.mem_of_getElem? (i := 79) rfl))) (by decide) (t := .long) (t' := .long) (by decide) (by decide)))
  have F109_max_a := F107_max_a.other W108 (Or.inr (slot_ne (Or.inr (hw _ (List.mem_of_getElem? (i := 81) rfl))) (Or.inr (hw _ (List.mem_of_getElem? (i := 79) rfl))) (by decide) (t := .long) (t' := .long) (by decide) (by decide)))
  have E109_a := E107_a.wr W108
  have Z109 := Nat.le_trans Z107 (Keep.of_wr W108).1
  have K109 : Keep h0 h108 [a] := K107.wr W108 (Or.inl (by simp))
  have N108 := Fr.snoc X108 N106 ge0_a
  refine Go.by st108 ?_
  show Go _ _ _ _ _ _ _ (T108.setTop (mkF m 45 #[.val (.ref a), .val (.ref tt), .val (.long (2 : Int64)), .second, .val (.long mn), .second, .val (.long mx), .second] []))
  refine Go.by (fun _ kont => XS.aloadN X108.here hx rfl (hb hby dC2_45) rfl rfl (XS.lload X108.here hx rfl (hb hby dC2_46) rfl kont)) ?_
  show Go _ _ _ _ _ _ _ (T108.setTop (mkF m 48 #[.val (.ref a), .val (.ref tt), .val (.long (2 : Int64)), .second, .val (.long mn), .second, .val (.long mx), .second] [(.long mx), (.ref a)]))
  obtain ⟨T110, h110, X110, e110, W110, st110⟩ := putF X108 hx hZ hown (host := "") (Or.inl (hw _ (List.mem_of_getElem? (i := 80) rfl))) Via.refl e108 F109_max_a E109_a (Or.inr ⟨(hw _ (List.mem_of_getElem? (i := 81) rfl)), rfl, hnm⟩) (hw _ (List.mem_of_getElem? (i := 60) rfl)) (ty := .long) (by decide) rfl rfl (g := (mkF m 48 #[.val (.ref a), .val (.ref tt), .val (.long (2 : Int64)), .second, .val (.long mn), .second, .val (.long mx), .second] [(.long mx), (.ref a)])) rfl rfl (hb hby dC2_48)
  have Fw110 := F109_max_a.same W110
  have F111_total_a := F109_total_a.other W110 (Or.inr (slot_ne (Or.inr (hw _ (List.mem_of_getElem? (i := 75) rfl))) (Or.inr (hw _ (List.mem_of_getElem? (i := 81) rfl))) (by decide) (t := (.object "java/math/BigInteger")) (t' := .long) (by decide) (by decide)))
  have F111_members_a := F109_members_a.other W110 (Or.inr (slot_ne (Or.inr (hw _ (List.mem_of_getElem? (i := 77) rfl))) (Or.inr (hw _ (List.mem_of_getElem? (i := 81) rfl))) (by decide) (t := .long) (t' := .long) (by decide) (by decide)))
  have F111_min_a := Fw108.other W110 (Or.inr (slot_ne (Or.inr (hw _ (List.mem_of_getElem? (i := 79) rfl))) (Or.inr (hw _ (List.mem_of_getElem? (i := 81) rfl))) (by decide) (t := .long) (t' := .long) (by decide) (by decide)))
  have E111_a := E109_a.wr W110
  have Z111 := Nat.le_trans Z109 (Keep.of_wr W110).1
  have K111 : Keep h0 h110 [a] := K109.wr W110 (Or.inl (by simp))
  have N110 := Fr.snoc X110 N108 ge0_a
  refine Go.by st110 ?_
  show Go _ _ _ _ _ _ _ (T110.setTop (mkF m 51 #[.val (.ref a), .val (.ref tt), .val (.long (2 : Int64)), .second, .val (.long mn), .second, .val (.long mx), .second] []))
  refine Go.retV X110 hx hret hlk (hb hby dC2_51) ?_ (by decide) (by decide)
  show QC2 Z a tt mn mx h0 n0 none T110.heap _
  rw [e110]
  exact ⟨rfl, N110, K111, E111_a, F111_total_a, F111_members_a, F111_min_a, Fw110⟩

theorem own_nlt {y : Int64} (B : 0 ≤ y.toInt ∧ y.toInt ≤ 4294967296) : ¬ (y < (0 : Int64)) := by
  rw [Int64.lt_iff_toInt_lt, show (0 : Int64).toInt = 0 from by decide]; omega
theorem own_s1 {y : Int64} (B : 0 ≤ y.toInt ∧ y.toInt ≤ 4294967296) : ¬ (((0 : Int64) + y) < (0 : Int64)) := by
  have h := c_ladd 0 y
  have r := rng64 (0 + y)
  rw [Int64.lt_iff_toInt_lt, show (0 : Int64).toInt = 0 from by decide]
  rw [show (0 : Int64).toInt = 0 from by decide] at h; omega
theorem own_s2 {y z : Int64} (B : 0 ≤ y.toInt ∧ y.toInt ≤ 4294967296) (C : 0 ≤ z.toInt ∧ z.toInt ≤ 4294967296) : ¬ ((((0 : Int64) + y) + z) < (0 : Int64)) := by
  have h := c_ladd 0 y
  have r := rng64 (0 + y)
  have h2 := c_ladd (0 + y) z
  have r2 := rng64 (0 + y + z)
  rw [show (0 : Int64).toInt = 0 from by decide] at h
  rw [Int64.lt_iff_toInt_lt, show (0 : Int64).toInt = 0 from by decide]; omega

theorem dO1_0 : decode prog_20_method_3_code 0 = .ok (.iload_n 1, 1) := by decide +kernel
theorem dO1_1 : decode prog_20_method_3_code 1 = .ok (.iconst 1, 1) := by decide +kernel
theorem dO1_2 : decode prog_20_method_3_code 2 = .ok (.if_icmp .lt 9, 3) := by decide +kernel
theorem dO1_5 : decode prog_20_method_3_code 5 = .ok (.iload_n 1, 1) := by decide +kernel
theorem dO1_6 : decode prog_20_method_3_code 6 = .ok (.aload_n 0, 1) := by decide +kernel
theorem dO1_7 : decode prog_20_method_3_code 7 = .ok (.arraylength, 1) := by decide +kernel
theorem dO1_8 : decode prog_20_method_3_code 8 = .ok (.if_icmp .le 19, 3) := by decide +kernel
theorem dO1_27 : decode prog_20_method_3_code 27 = .ok (.lconst 0, 1) := by decide +kernel
theorem dO1_28 : decode prog_20_method_3_code 28 = .ok (.lstore_n 2, 1) := by decide +kernel
theorem dO1_29 : decode prog_20_method_3_code 29 = .ok (.lconst 0, 1) := by decide +kernel
theorem dO1_30 : decode prog_20_method_3_code 30 = .ok (.lstore 4, 2) := by decide +kernel
theorem dO1_32 : decode prog_20_method_3_code 32 = .ok (.ldc2_w 52, 3) := by decide +kernel
theorem dO1_35 : decode prog_20_method_3_code 35 = .ok (.lstore 6, 2) := by decide +kernel
theorem dO1_37 : decode prog_20_method_3_code 37 = .ok (.lconst 0, 1) := by decide +kernel
theorem dO1_38 : decode prog_20_method_3_code 38 = .ok (.lstore 8, 2) := by decide +kernel
theorem dO1_40 : decode prog_20_method_3_code 40 = .ok (.iconst 0, 1) := by decide +kernel
theorem dO1_41 : decode prog_20_method_3_code 41 = .ok (.istore 10, 2) := by decide +kernel
theorem dO1_43 : decode prog_20_method_3_code 43 = .ok (.iload 10, 2) := by decide +kernel
theorem dO1_45 : decode prog_20_method_3_code 45 = .ok (.iload_n 1, 1) := by decide +kernel
theorem dO1_46 : decode prog_20_method_3_code 46 = .ok (.if_icmp .ge 83, 3) := by decide +kernel
theorem dO1_49 : decode prog_20_method_3_code 49 = .ok (.aload_n 0, 1) := by decide +kernel
theorem dO1_50 : decode prog_20_method_3_code 50 = .ok (.iload 10, 2) := by decide +kernel
theorem dO1_52 : decode prog_20_method_3_code 52 = .ok (.laload, 1) := by decide +kernel
theorem dO1_53 : decode prog_20_method_3_code 53 = .ok (.lstore 11, 2) := by decide +kernel
theorem dO1_55 : decode prog_20_method_3_code 55 = .ok (.lload 11, 2) := by decide +kernel
theorem dO1_57 : decode prog_20_method_3_code 57 = .ok (.lconst 0, 1) := by decide +kernel
theorem dO1_58 : decode prog_20_method_3_code 58 = .ok (.lcmp, 1) := by decide +kernel
theorem dO1_59 : decode prog_20_method_3_code 59 = .ok (.ifCond .ge 20, 3) := by decide +kernel
theorem dO1_79 : decode prog_20_method_3_code 79 = .ok (.lload 4, 2) := by decide +kernel
theorem dO1_81 : decode prog_20_method_3_code 81 = .ok (.lload 11, 2) := by decide +kernel
theorem dO1_83 : decode prog_20_method_3_code 83 = .ok (.ladd, 1) := by decide +kernel
theorem dO1_84 : decode prog_20_method_3_code 84 = .ok (.lstore 4, 2) := by decide +kernel
theorem dO1_86 : decode prog_20_method_3_code 86 = .ok (.lload 4, 2) := by decide +kernel
theorem dO1_88 : decode prog_20_method_3_code 88 = .ok (.lconst 0, 1) := by decide +kernel
theorem dO1_89 : decode prog_20_method_3_code 89 = .ok (.lcmp, 1) := by decide +kernel
theorem dO1_90 : decode prog_20_method_3_code 90 = .ok (.ifCond .ge 15, 3) := by decide +kernel
theorem dO1_105 : decode prog_20_method_3_code 105 = .ok (.lload 6, 2) := by decide +kernel
theorem dO1_107 : decode prog_20_method_3_code 107 = .ok (.lload 11, 2) := by decide +kernel
theorem dO1_109 : decode prog_20_method_3_code 109 = .ok (.invokestatic 57, 3) := by decide +kernel
theorem dO1_112 : decode prog_20_method_3_code 112 = .ok (.lstore 6, 2) := by decide +kernel
theorem dO1_114 : decode prog_20_method_3_code 114 = .ok (.lload 8, 2) := by decide +kernel
theorem dO1_116 : decode prog_20_method_3_code 116 = .ok (.lload 11, 2) := by decide +kernel
theorem dO1_118 : decode prog_20_method_3_code 118 = .ok (.invokestatic 62, 3) := by decide +kernel
theorem dO1_121 : decode prog_20_method_3_code 121 = .ok (.lstore 8, 2) := by decide +kernel
theorem dO1_123 : decode prog_20_method_3_code 123 = .ok (.iinc 10 1, 3) := by decide +kernel
theorem dO1_126 : decode prog_20_method_3_code 126 = .ok (.goto (-83), 3) := by decide +kernel
theorem dO1_129 : decode prog_20_method_3_code 129 = .ok (.lload_n 2, 1) := by decide +kernel
theorem dO1_130 : decode prog_20_method_3_code 130 = .ok (.invokestatic 38, 3) := by decide +kernel
theorem dO1_133 : decode prog_20_method_3_code 133 = .ok (.bipush 63, 2) := by decide +kernel
theorem dO1_135 : decode prog_20_method_3_code 135 = .ok (.invokevirtual 64, 3) := by decide +kernel
theorem dO1_138 : decode prog_20_method_3_code 138 = .ok (.lload 4, 2) := by decide +kernel
theorem dO1_140 : decode prog_20_method_3_code 140 = .ok (.invokestatic 38, 3) := by decide +kernel
theorem dO1_143 : decode prog_20_method_3_code 143 = .ok (.invokevirtual 68, 3) := by decide +kernel
theorem dO1_146 : decode prog_20_method_3_code 146 = .ok (.astore 10, 2) := by decide +kernel
theorem dO1_148 : decode prog_20_method_3_code 148 = .ok (.new 23, 3) := by decide +kernel
theorem dO1_151 : decode prog_20_method_3_code 151 = .ok (.dup, 1) := by decide +kernel
theorem dO1_152 : decode prog_20_method_3_code 152 = .ok (.aload 10, 2) := by decide +kernel
theorem dO1_154 : decode prog_20_method_3_code 154 = .ok (.iload_n 1, 1) := by decide +kernel
theorem dO1_155 : decode prog_20_method_3_code 155 = .ok (.i2l, 1) := by decide +kernel
theorem dO1_156 : decode prog_20_method_3_code 156 = .ok (.lload 6, 2) := by decide +kernel
theorem dO1_158 : decode prog_20_method_3_code 158 = .ok (.lload 8, 2) := by decide +kernel
theorem dO1_160 : decode prog_20_method_3_code 160 = .ok (.invokespecial 44, 3) := by decide +kernel
theorem dO1_163 : decode prog_20_method_3_code 163 = .ok (.areturn, 1) := by decide +kernel
theorem pdO1_0 : parseMethodDescriptor "(JJ)J" = some ⟨[.long, .long], some .long⟩ := by decide +kernel
theorem pdO1_1 : parseMethodDescriptor "(J)Ljava/math/BigInteger;" = some ⟨[.long], some (.object "java/math/BigInteger")⟩ := by decide +kernel
theorem pdO1_2 : parseMethodDescriptor "(I)Ljava/math/BigInteger;" = some ⟨[.int], some (.object "java/math/BigInteger")⟩ := by decide +kernel
theorem pdO1_3 : parseMethodDescriptor "(Ljava/math/BigInteger;)Ljava/math/BigInteger;" = some ⟨[(.object "java/math/BigInteger")], some (.object "java/math/BigInteger")⟩ := by decide +kernel
theorem pdO1_4 : parseMethodDescriptor "(Ljava/math/BigInteger;JJJ)V" = some ⟨[(.object "java/math/BigInteger"), .long, .long, .long], none⟩ := by decide +kernel
theorem pnO1 : plainName "com/example/quorumsmith/quorumsmith/engine/CountSummary" = true := by first | (simp [plainName, overriddenIn]; done) | decide +kernel
theorem efO1 (m : MethodId) (ar : Addr) : entryFrame m #[(.ref ar), (.int (1 : Int32))] 13 = mkF m 0 #[.val (.ref ar), .val (.int (1 : Int32)), .unset, .unset, .unset, .unset, .unset, .unset, .unset, .unset, .unset, .unset, .unset] [] := by first | (simp [entryFrame, mkF, argsToLocals, Value.category]; done) | rfl
def QO1 (Z : State) (x0 : Int64) (x1 : Int64) (h0 : Heap) (n0 : Nat) (v : Option Value) (h : Heap) (L : List Loc) : Prop := ∃ y : Addr, (v = some (.ref y) ∧ Fr n0 L ∧ Keep h0 h [] ∧ n0 ≤ y ∧ h0.size ≤ y ∧ Exa Z h y "com/example/quorumsmith/quorumsmith/engine/CountSummary" ∧ Fld Z h y "com/example/quorumsmith/quorumsmith/engine/CountSummary" "min" "J" (.long (fMi (9223372036854775807 : Int64) x0)) ∧ Fld Z h y "com/example/quorumsmith/quorumsmith/engine/CountSummary" "max" "J" (.long (fMa (0 : Int64) x0)))
set_option maxRecDepth 65536 in
set_option maxHeartbeats 40000000 in
theorem rmO1 (l : Launch) (Z : State) (a0 : Array Value) (hw : ∀ d ∈ tables_1, d.before a0 Z = true) (ws : List Jvm.Cond) (ar : Addr) (kc : ClassId) (x0 : Int64) (x1 : Int64) (z0 : Addr) (pa : Addr) (h0 : Heap) (n0 : Nat) (Z0 : n0 ≤ h0.size) (Va : Arv Z h0 ar kc .long (2 : Int32) [(.long x0), (.long x1)] (.long (0 : Int64))) (Bx0 : 0 ≤ x0.toInt ∧ x0.toInt ≤ 4294967296) (Bx1 : 0 ≤ x1.toInt ∧ x1.toInt ≤ 4294967296) (O0 : Old Z n0 h0) (SZ : Sta Z Z.heap "java/math/BigInteger" "ZERO" "Ljava/math/BigInteger;" (.ref z0)) (EZ : Exa Z Z.heap z0 "java/math/BigInteger") (FZ : Fld Z Z.heap z0 "java/math/BigInteger" "signum" "I" (.int (0 : Int32))) (SP : Sta Z Z.heap "java/math/BigInteger" "posConst" "[Ljava/math/BigInteger;" (.ref pa)) (HP : PC Z pa) :
    MetFree l (⟨"com/example/quorumsmith/quorumsmith/engine/CountSummary", "of", "([JI)Lcom/example/quorumsmith/quorumsmith/engine/CountSummary;"⟩ : MethodName) (head1 (Jvm.Cond.code (⟨"com/example/quorumsmith/quorumsmith/engine/CountSummary", "of", "([JI)Lcom/example/quorumsmith/quorumsmith/engine/CountSummary;"⟩ : MethodName) prog_20_method_3_code 13 (some (.object "com/example/quorumsmith/quorumsmith/engine/CountSummary")) :: ws) ({ frames := 4, cells := 3, slots := 12, locals := 54 } : Room)) (fun aa_ U_ => aa_ = #[(.ref ar), (.int (1 : Int32))] ∧ Z.Warmed39 U_.vm ∧ U_.heap = h0) (fun _ _ _ _ _ => True) (fun _ U_ o_ V_ => ∃ v_ L_, o_ = .returned v_ ∧ QO1 Z x0 x1 h0 n0 v_ V_.heap L_ ∧ FrameEnd U_ o_ V_ L_ ({ frames := 4, cells := 3, slots := 12, locals := 54 } : Room).cells ({ frames := 4, cells := 3, slots := 12, locals := 54 } : Room).slots) := by
  refine MetFree.of_bodySF (plainFor_of_name pnO1) hisR ?_
  intro p e s m args below meth c s₁ Bd hml0 hP hK
  obtain ⟨rfl, hZ, hh⟩ := hP
  have hx := Bd.exec
  have hby := Bd.bytes
  have hml : c.maxLocals = 13 := hml0
  have hown : s.vm.findClass "com/example/quorumsmith/quorumsmith/engine/CountSummary" = some m.cls := findClass_of_methodNamed Bd.named
  have hnm := (name_of_methodNamed Bd.named Bd.method).1
  have hlk : meth.locks = false := BodyLoose.notSynchronized Bd
  have hret : meth.sig.returnType = (some (.object "com/example/quorumsmith/quorumsmith/engine/CountSummary")) := Bd.returns
  have X0 : Stand p l e ({ frames := 4, cells := 3, slots := 12, locals := 54 } : Room) s m #[(.ref ar), (.int (1 : Int32))] below meth c s₁ [] 0 0 := Stand.of_body Bd
  have e0 : s₁.heap = h0 := by rw [← hh, Bd.state]; rfl
  have N0 := Fr.nil n0
  show Go p e below s ({ frames := 4, cells := 3, slots := 12, locals := 54 } : Room).cells ({ frames := 4, cells := 3, slots := 12, locals := 54 } : Room).slots (QO1 Z x0 x1 h0 n0) (s₁.setTop (entryFrame m #[(.ref ar), (.int (1 : Int32))] 13))
  rw [efO1]
  have SZ0 := SZ.ext O0.2
  have EZ0 := EZ.ext O0.2
  have FZ0 := FZ.ext O0.2
  have SP0 := SP.ext O0.2
  have hv1 := own_s1 Bx0
  have hv2 := own_s2 Bx0 Bx1
  refine Go.by (fun _ kont => XS.iloadN X0.here hx rfl (hb hby dO1_0) rfl (XS.iconst X0.here hx rfl (hb hby dO1_1) (XS.icmpNo X0.here hx rfl (hb hby dO1_2) rfl (by decide) (XS.iloadN X0.here hx rfl (hb hby dO1_5) rfl (XS.aloadN X0.here hx rfl (hb hby dO1_6) rfl rfl kont))))) ?_
  show Go _ _ _ _ _ _ _ (s₁.setTop (mkF m 7 #[.val (.ref ar), .val (.int (1 : Int32)), .unset, .unset, .unset, .unset, .unset, .unset, .unset, .unset, .unset, .unset, .unset] [(.ref ar), (.int (1 : Int32))]))
  obtain ⟨cl_q101, Ar_q101, q1_q101, S_q101, N_q101, H_q101, G_q101⟩ := id Va
  refine Go.by (X0.arraylength hx (by first | exact Ar_q101.1 | (rw [e0]; exact Ar_q101.1)) (State.isArrayOf_alike hZ.alike Ar_q101.2.1) (g := (mkF m 7 #[.val (.ref ar), .val (.int (1 : Int32)), .unset, .unset, .unset, .unset, .unset, .unset, .unset, .unset, .unset, .unset, .unset] [(.ref ar), (.int (1 : Int32))])) rfl rfl (hb hby dO1_7)) ?_
  rw [len_of S_q101 N_q101]
  show Go _ _ _ _ _ _ _ (s₁.setTop (mkF m 8 #[.val (.ref ar), .val (.int (1 : Int32)), .unset, .unset, .unset, .unset, .unset, .unset, .unset, .unset, .unset, .unset, .unset] [(.int (2 : Int32)), (.int (1 : Int32))]))
  refine Go.by (fun _ kont => XS.icmpYes X0.here hx rfl (pc0 := 8) (pc' := 27) rfl (hb hby dO1_8) rfl (by decide) (by decide) (by decide) (XS.lconst X0.here hx rfl (hb hby dO1_27) (XS.lstoreN X0.here hx rfl (hb hby dO1_28) rfl (l' := #[.val (.ref ar), .val (.int (1 : Int32)), .val (.long (0 : Int64)), .second, .unset, .unset, .unset, .unset, .unset, .unset, .unset, .unset, .unset]) rfl (XS.lconst X0.here hx rfl (hb hby dO1_29) (XS.lstore X0.here hx rfl (hb hby dO1_30) rfl (l' := #[.val (.ref ar), .val (.int (1 : Int32)), .val (.long (0 : Int64)), .second, .val (.long (0 : Int64)), .second, .unset, .unset, .unset, .unset, .unset, .unset, .unset]) rfl (X0.ldc2Long hx hown (mvT hZ (hw _ (List.mem_of_getElem? (i := 32) rfl))) (g := (mkF m 32 #[.val (.ref ar), .val (.int (1 : Int32)), .val (.long (0 : Int64)), .second, .val (.long (0 : Int64)), .second, .unset, .unset, .unset, .unset, .unset, .unset, .unset] [])) rfl (hb hby dO1_32) _ kont)))))) ?_
  show Go _ _ _ _ _ _ _ (s₁.setTop (mkF m 35 #[.val (.ref ar), .val (.int (1 : Int32)), .val (.long (0 : Int64)), .second, .val (.long (0 : Int64)), .second, .unset, .unset, .unset, .unset, .unset, .unset, .unset] [(.long (9223372036854775807 : Int64))]))
  refine Go.by (fun _ kont => XS.lstore X0.here hx rfl (hb hby dO1_35) rfl (l' := #[.val (.ref ar), .val (.int (1 : Int32)), .val (.long (0 : Int64)), .second, .val (.long (0 : Int64)), .second, .val (.long (9223372036854775807 : Int64)), .second, .unset, .unset, .unset, .unset, .unset]) rfl (XS.lconst X0.here hx rfl (hb hby dO1_37) (XS.lstore X0.here hx rfl (hb hby dO1_38) rfl (l' := #[.val (.ref ar), .val (.int (1 : Int32)), .val (.long (0 : Int64)), .second, .val (.long (0 : Int64)), .second, .val (.long (9223372036854775807 : Int64)), .second, .val (.long (0 : Int64)), .second, .unset, .unset, .unset]) rfl (XS.iconst X0.here hx rfl (hb hby dO1_40) (XS.istore X0.here hx rfl (hb hby dO1_41) rfl (l' := #[.val (.ref ar), .val (.int (1 : Int32)), .val (.long (0 : Int64)), .second, .val (.long (0 : Int64)), .second, .val (.long (9223372036854775807 : Int64)), .second, .val (.long (0 : Int64)), .second, .val (.int (0 : Int32)), .unset, .unset]) rfl (XS.iload X0.here hx rfl (hb hby dO1_43) rfl kont)))))) ?_
  show Go _ _ _ _ _ _ _ (s₁.setTop (mkF m 45 #[.val (.ref ar), .val (.int (1 : Int32)), .val (.long (0 : Int64)), .second, .val (.long (0 : Int64)), .second, .val (.long (9223372036854775807 : Int64)), .second, .val (.long (0 : Int64)), .second, .val (.int (0 : Int32)), .unset, .unset] [(.int (0 : Int32))]))
  refine Go.by (fun _ kont => XS.iloadN X0.here hx rfl (hb hby dO1_45) rfl (XS.icmpNo X0.here hx rfl (hb hby dO1_46) rfl (by decide) (XS.aloadN X0.here hx rfl (hb hby dO1_49) rfl rfl (XS.iload X0.here hx rfl (hb hby dO1_50) rfl kont)))) ?_
  show Go _ _ _ _ _ _ _ (s₁.setTop (mkF m 52 #[.val (.ref ar), .val (.int (1 : Int32)), .val (.long (0 : Int64)), .second, .val (.long (0 : Int64)), .second, .val (.long (9223372036854775807 : Int64)), .second, .val (.long (0 : Int64)), .second, .val (.int (0 : Int32)), .unset, .unset] [(.int (0 : Int32)), (.ref ar)]))
  obtain ⟨cl_q102, Ar_q102, q1_q102, S_q102, N_q102, H_q102, G_q102⟩ := id Va
  have hin_q102 : ¬ ((0 : Int32) < 0 ∨ cl_q102.slots.size ≤ ((0 : Int32)).toNatClampNeg) := inb_of S_q102 ⟨by decide, by decide⟩
  have hat_q102 : cl_q102.slots[((0 : Int32)).toNatClampNeg]? = some (.long x0) := Has.at H_q102 hin_q102 rfl
  refine Go.by (X0.laload hx (j := (0 : Int32)) (v := (.long x0)) (by first | exact Ar_q102.1 | (rw [e0]; exact Ar_q102.1)) (State.isArrayOf_alike hZ.alike Ar_q102.2.1) Ar_q102.2.2 hin_q102 hat_q102 (g := (mkF m 52 #[.val (.ref ar), .val (.int (1 : Int32)), .val (.long (0 : Int64)), .second, .val (.long (0 : Int64)), .second, .val (.long (9223372036854775807 : Int64)), .second, .val (.long (0 : Int64)), .second, .val (.int (0 : Int32)), .unset, .unset] [(.int (0 : Int32)), (.ref ar)])) rfl rfl (hb hby dO1_52)) ?_
  show Go _ _ _ _ _ _ _ (s₁.setTop (mkF m 53 #[.val (.ref ar), .val (.int (1 : Int32)), .val (.long (0 : Int64)), .second, .val (.long (0 : Int64)), .second, .val (.long (9223372036854775807 : Int64)), .second, .val (.long (0 : Int64)), .second, .val (.int (0 : Int32)), .unset, .unset] [(.long x0)]))
  refine Go.by (fun _ kont => XS.lstore X0.here hx rfl (hb hby dO1_53) rfl (l' := #[.val (.ref ar), .val (.int (1 : Int32)), .val (.long (0 : Int64)), .second, .val (.long (0 : Int64)), .second, .val (.long (9223372036854775807 : Int64)), .second, .val (.long (0 : Int64)), .second, .val (.int (0 : Int32)), .val (.long x0), .second]) rfl (XS.lload X0.here hx rfl (hb hby dO1_55) rfl (XS.lconst X0.here hx rfl (hb hby dO1_57) (XS.lcmp X0.here hx rfl (hb hby dO1_58) rfl kont)))) ?_
  show Go _ _ _ _ _ _ _ (s₁.setTop (mkF m 59 #[.val (.ref ar), .val (.int (1 : Int32)), .val (.long (0 : Int64)), .second, .val (.long (0 : Int64)), .second, .val (.long (9223372036854775807 : Int64)), .second, .val (.long (0 : Int64)), .second, .val (.int (0 : Int32)), .val (.long x0), .second] [(.int (lcmpW x0 (0 : Int64)))]))
  have hd103 : ¬ (x0 < (0 : Int64)) := own_nlt Bx0
  refine Go.by (fun _ kont => XS.ifYes X0.here hx rfl (pc0 := 59) (pc' := 79) rfl (hb hby dO1_59) rfl ((if0 _ _).trans (flt (fun z => hd103 ((lw_lt _ _).mp z))).2.1) (by decide) (by decide) kont) ?_
  show Go _ _ _ _ _ _ _ (s₁.setTop (mkF m 79 #[.val (.ref ar), .val (.int (1 : Int32)), .val (.long (0 : Int64)), .second, .val (.long (0 : Int64)), .second, .val (.long (9223372036854775807 : Int64)), .second, .val (.long (0 : Int64)), .second, .val (.int (0 : Int32)), .val (.long x0), .second] []))
  refine Go.by (fun _ kont => XS.lload X0.here hx rfl (hb hby dO1_79) rfl (XS.lload X0.here hx rfl (hb hby dO1_81) rfl (XS.ladd X0.here hx rfl (hb hby dO1_83) rfl (XS.lstore X0.here hx rfl (hb hby dO1_84) rfl (l' := #[.val (.ref ar), .val (.int (1 : Int32)), .val (.long (0 : Int64)), .second, .val (.long ((0 : Int64) + x0)), .second, .val (.long (9223372036854775807 : Int64)), .second, .val (.long (0 : Int64)), .second, .val (.int (0 : Int32)), .val (.long x0), .second]) rfl (XS.lload X0.here hx rfl (hb hby dO1_86) rfl (XS.lconst X0.here hx rfl (hb hby dO1_88) kont)))))) ?_
  show Go _ _ _ _ _ _ _ (s₁.setTop (mkF m 89 #[.val (.ref ar), .val (.int (1 : Int32)), .val (.long (0 : Int64)), .second, .val (.long ((0 : Int64) + x0)), .second, .val (.long (9223372036854775807 : Int64)), .second, .val (.long (0 : Int64)), .second, .val (.int (0 : Int32)), .val (.long x0), .second] [(.long (0 : Int64)), (.long ((0 : Int64) + x0))]))
  refine Go.by (fun _ kont => XS.lcmp X0.here hx rfl (hb hby dO1_89) rfl kont) ?_
  show Go _ _ _ _ _ _ _ (s₁.setTop (mkF m 90 #[.val (.ref ar), .val (.int (1 : Int32)), .val (.long (0 : Int64)), .second, .val (.long ((0 : Int64) + x0)), .second, .val (.long (9223372036854775807 : Int64)), .second, .val (.long (0 : Int64)), .second, .val (.int (0 : Int32)), .val (.long x0), .second] [(.int (lcmpW ((0 : Int64) + x0) (0 : Int64)))]))
  have hd104 : ¬ (((0 : Int64) + x0) < (0 : Int64)) := own_s1 Bx0
  refine Go.by (fun _ kont => XS.ifYes X0.here hx rfl (pc0 := 90) (pc' := 105) rfl (hb hby dO1_90) rfl ((if0 _ _).trans (flt (fun z => hd104 ((lw_lt _ _).mp z))).2.1) (by decide) (by decide) kont) ?_
  show Go _ _ _ _ _ _ _ (s₁.setTop (mkF m 105 #[.val (.ref ar), .val (.int (1 : Int32)), .val (.long (0 : Int64)), .second, .val (.long ((0 : Int64) + x0)), .second, .val (.long (9223372036854775807 : Int64)), .second, .val (.long (0 : Int64)), .second, .val (.int (0 : Int32)), .val (.long x0), .second] []))
  refine Go.by (fun _ kont => XS.lload X0.here hx rfl (hb hby dO1_105) rfl (XS.lload X0.here hx rfl (hb hby dO1_107) rfl kont)) ?_
  show Go _ _ _ _ _ _ _ (s₁.setTop (mkF m 109 #[.val (.ref ar), .val (.int (1 : Int32)), .val (.long (0 : Int64)), .second, .val (.long ((0 : Int64) + x0)), .second, .val (.long (9223372036854775807 : Int64)), .second, .val (.long (0 : Int64)), .second, .val (.int (0 : Int32)), .val (.long x0), .second] [(.long x0), (.long (9223372036854775807 : Int64))]))
  obtain ⟨_, _, ⟨T105, L105, k105, n105⟩, -, X105, ⟨Lc105, hQ105, l105, y105, z105⟩, st105⟩ := Jvm.LawKit.callS X0 hx (y := (⟨"java/lang/Math", "min", "(JJ)J"⟩ : MethodName)) hown (mvT hZ (hw _ (List.mem_of_getElem? (i := 33) rfl))) (mvT hZ (hw _ (List.mem_of_getElem? (i := 34) rfl))) (mvT hZ (hw _ (List.mem_of_getElem? (i := 35) rfl))) (mvT hZ (hw _ (List.mem_of_getElem? (i := 36) rfl))) (by decide) (backOf (W := 0) (rmMi l Z a0 hw [] (9223372036854775807 : Int64) x0 h0 n0 Z0 ) hZ (hw _ (List.mem_of_getElem? (i := 36) rfl)) (hw _ (List.mem_of_getElem? (i := 35) rfl)) (by decide) (by decide)) (g := (mkF m 109 #[.val (.ref ar), .val (.int (1 : Int32)), .val (.long (0 : Int64)), .second, .val (.long ((0 : Int64) + x0)), .second, .val (.long (9223372036854775807 : Int64)), .second, .val (.long (0 : Int64)), .second, .val (.int (0 : Int32)), .val (.long x0), .second] [(.long x0), (.long (9223372036854775807 : Int64))])) rfl (by rw [hml]; rfl) (argsL := [(.long (9223372036854775807 : Int64)), (.long x0)]) (rest := []) (lenOf pdO1_0 rfl) rfl (by show 2 * 0 + _ ≤ _; exact Nat.le_of_eq rfl) (hb hby dO1_109) (fun _ _ => ⟨rfl, e0, (by decide : 0 + 0 ≤ _), (by decide : 0 + 0 ≤ _)⟩)
  dsimp only [Pt.U, Pt.locs, Pt.cells, Pt.slots] at X105 l105 y105 z105 st105 hQ105
  subst l105 y105 z105
  obtain ⟨rfl, N105q, eh105⟩ := hQ105
  have N105 := Fr.app N0 N105q
  refine Go.by st105 ?_
  show Go _ _ _ _ _ _ _ (T105.setTop (mkF m 112 #[.val (.ref ar), .val (.int (1 : Int32)), .val (.long (0 : Int64)), .second, .val (.long ((0 : Int64) + x0)), .second, .val (.long (9223372036854775807 : Int64)), .second, .val (.long (0 : Int64)), .second, .val (.int (0 : Int32)), .val (.long x0), .second] [(.long (fMi (9223372036854775807 : Int64) x0))]))
  refine Go.by (fun _ kont => XS.lstore X105.here hx rfl (hb hby dO1_112) rfl (l' := #[.val (.ref ar), .val (.int (1 : Int32)), .val (.long (0 : Int64)), .second, .val (.long ((0 : Int64) + x0)), .second, .val (.long (fMi (9223372036854775807 : Int64) x0)), .second, .val (.long (0 : Int64)), .second, .val (.int (0 : Int32)), .val (.long x0), .second]) rfl (XS.lload X105.here hx rfl (hb hby dO1_114) rfl (XS.lload X105.here hx rfl (hb hby dO1_116) rfl kont))) ?_
  show Go _ _ _ _ _ _ _ (T105.setTop (mkF m 118 #[.val (.ref ar), .val (.int (1 : Int32)), .val (.long (0 : Int64)), .second, .val (.long ((0 : Int64) + x0)), .second, .val (.long (fMi (9223372036854775807 : Int64) x0)), .second, .val (.long (0 : Int64)), .second, .val (.int (0 : Int32)), .val (.long x0), .second] [(.long x0), (.long (0 : Int64))]))
  obtain ⟨_, _, ⟨T106, L106, k106, n106⟩, -, X106, ⟨Lc106, hQ106, l106, y106, z106⟩, st106⟩ := Jvm.LawKit.callS X105 hx (y := (⟨"java/lang/Math", "max", "(JJ)J"⟩ : MethodName)) hown (mvT hZ (hw _ (List.mem_of_getElem? (i := 37) rfl))) (mvT hZ (hw _ (List.mem_of_getElem? (i := 38) rfl))) (mvT hZ (hw _ (List.mem_of_getElem? (i := 35) rfl))) (mvT hZ (hw _ (List.mem_of_getElem? (i := 39) rfl))) (by decide) (backOf (W := 0) (rmMa l Z a0 hw [] (0 : Int64) x0 h0 n0 Z0 ) hZ (hw _ (List.mem_of_getElem? (i := 39) rfl)) (hw _ (List.mem_of_getElem? (i := 35) rfl)) (by decide) (by decide)) (g := (mkF m 118 #[.val (.ref ar), .val (.int (1 : Int32)), .val (.long (0 : Int64)), .second, .val (.long ((0 : Int64) + x0)), .second, .val (.long (fMi (9223372036854775807 : Int64) x0)), .second, .val (.long (0 : Int64)), .second, .val (.int (0 : Int32)), .val (.long x0), .second] [(.long x0), (.long (0 : Int64))])) rfl (by rw [hml]; rfl) (argsL := [(.long (0 : Int64)), (.long x0)]) (rest := []) (lenOf pdO1_0 rfl) rfl (by show 2 * 0 + _ ≤ _; exact Nat.le_of_eq rfl) (hb hby dO1_118) (fun _ _ => ⟨rfl, eh105, (by decide : 0 + 0 ≤ _), (by decide : 0 + 0 ≤ _)⟩)
  dsimp only [Pt.U, Pt.locs, Pt.cells, Pt.slots] at X106 l106 y106 z106 st106 hQ106
  subst l106 y106 z106
  obtain ⟨rfl, N106q, eh106⟩ := hQ106
  have N106 := Fr.app N105 N106q
  refine Go.by st106 ?_
  show Go _ _ _ _ _ _ _ (T106.setTop (mkF m 121 #[.val (.ref ar), .val (.int (1 : Int32)), .val (.long (0 : Int64)), .second, .val (.long ((0 : Int64) + x0)), .second, .val (.long (fMi (9223372036854775807 : Int64) x0)), .second, .val (.long (0 : Int64)), .second, .val (.int (0 : Int32)), .val (.long x0), .second] [(.long (fMa (0 : Int64) x0))]))
  refine Go.by (fun _ kont => XS.lstore X106.here hx rfl (hb hby dO1_121) rfl (l' := #[.val (.ref ar), .val (.int (1 : Int32)), .val (.long (0 : Int64)), .second, .val (.long ((0 : Int64) + x0)), .second, .val (.long (fMi (9223372036854775807 : Int64) x0)), .second, .val (.long (fMa (0 : Int64) x0)), .second, .val (.int (0 : Int32)), .val (.long x0), .second]) rfl (XS.iinc X106.here hx rfl (hb hby dO1_123) rfl (l' := #[.val (.ref ar), .val (.int (1 : Int32)), .val (.long (0 : Int64)), .second, .val (.long ((0 : Int64) + x0)), .second, .val (.long (fMi (9223372036854775807 : Int64) x0)), .second, .val (.long (fMa (0 : Int64) x0)), .second, .val (.int (1 : Int32)), .val (.long x0), .second]) rfl (XS.goto X106.here hx rfl (pc0 := 126) (pc' := 43) rfl (hb hby dO1_126) (by decide) (by decide) (XS.iload X106.here hx rfl (hb hby dO1_43) rfl (XS.iloadN X106.here hx rfl (hb hby dO1_45) rfl (XS.icmpYes X106.here hx rfl (pc0 := 46) (pc' := 129) rfl (hb hby dO1_46) rfl (by decide) (by decide) (by decide) kont)))))) ?_
  show Go _ _ _ _ _ _ _ (T106.setTop (mkF m 129 #[.val (.ref ar), .val (.int (1 : Int32)), .val (.long (0 : Int64)), .second, .val (.long ((0 : Int64) + x0)), .second, .val (.long (fMi (9223372036854775807 : Int64) x0)), .second, .val (.long (fMa (0 : Int64) x0)), .second, .val (.int (1 : Int32)), .val (.long x0), .second] []))
  refine Go.by (fun _ kont => XS.lloadN X106.here hx rfl (hb hby dO1_129) rfl kont) ?_
  show Go _ _ _ _ _ _ _ (T106.setTop (mkF m 130 #[.val (.ref ar), .val (.int (1 : Int32)), .val (.long (0 : Int64)), .second, .val (.long ((0 : Int64) + x0)), .second, .val (.long (fMi (9223372036854775807 : Int64) x0)), .second, .val (.long (fMa (0 : Int64) x0)), .second, .val (.int (1 : Int32)), .val (.long x0), .second] [(.long (0 : Int64))]))
  obtain ⟨_, _, ⟨T107, L107, k107, n107⟩, -, X107, ⟨Lc107, hQ107, l107, y107, z107⟩, st107⟩ := Jvm.LawKit.callS X106 hx (y := (⟨"java/math/BigInteger", "valueOf", "(J)Ljava/math/BigInteger;"⟩ : MethodName)) hown (mvT hZ (hw _ (List.mem_of_getElem? (i := 40) rfl))) (mvT hZ (hw _ (List.mem_of_getElem? (i := 41) rfl))) (mvT hZ (hw _ (List.mem_of_getElem? (i := 42) rfl))) (mvT hZ (hw _ (List.mem_of_getElem? (i := 43) rfl))) (by decide) (backOf (W := 0) (rmV0 l Z a0 hw [] z0 h0 n0 Z0 SZ0) hZ (hw _ (List.mem_of_getElem? (i := 43) rfl)) (hw _ (List.mem_of_getElem? (i := 42) rfl)) (by decide) (by decide)) (g := (mkF m 130 #[.val (.ref ar), .val (.int (1 : Int32)), .val (.long (0 : Int64)), .second, .val (.long ((0 : Int64) + x0)), .second, .val (.long (fMi (9223372036854775807 : Int64) x0)), .second, .val (.long (fMa (0 : Int64) x0)), .second, .val (.int (1 : Int32)), .val (.long x0), .second] [(.long (0 : Int64))])) rfl (by rw [hml]; rfl) (argsL := [(.long (0 : Int64))]) (rest := []) (lenOf pdO1_1 rfl) rfl (by show 2 * 0 + _ ≤ _; exact Nat.le_of_eq rfl) (hb hby dO1_130) (fun _ _ => ⟨rfl, eh106, (by decide : 0 + 0 ≤ _), (by decide : 0 + 0 ≤ _)⟩)
  dsimp only [Pt.U, Pt.locs, Pt.cells, Pt.slots] at X107 l107 y107 z107 st107 hQ107
  subst l107 y107 z107
  obtain ⟨rfl, N107q, eh107⟩ := hQ107
  have N107 := Fr.app N106 N107q
  refine Go.by st107 ?_
  show Go _ _ _ _ _ _ _ (T107.setTop (mkF m 133 #[.val (.ref ar), .val (.int (1 : Int32)), .val (.long (0 : Int64)), .second, .val (.long ((0 : Int64) + x0)), .second, .val (.long (fMi (9223372036854775807 : Int64) x0)), .second, .val (.long (fMa (0 : Int64) x0)), .second, .val (.int (1 : Int32)), .val (.long x0), .second] [(.ref z0)]))
  refine Go.by (fun _ kont => XS.bipush X107.here hx rfl (hb hby dO1_133) kont) ?_
  show Go _ _ _ _ _ _ _ (T107.setTop (mkF m 135 #[.val (.ref ar), .val (.int (1 : Int32)), .val (.long (0 : Int64)), .second, .val (.long ((0 : Int64) + x0)), .second, .val (.long (fMi (9223372036854775807 : Int64) x0)), .second, .val (.long (fMa (0 : Int64) x0)), .second, .val (.int (1 : Int32)), .val (.long x0), .second] [(.int (63 : Int32)), (.ref z0)]))
  obtain ⟨cq108, kq108, q108a, q108b, q108c⟩ := isOf hZ eh107 EZ0
  obtain ⟨_, _, ⟨T108, L108, k108, n108⟩, -, X108, ⟨Lc108, hQ108, l108, y108, z108⟩, st108⟩ := X107.virtualBack hx (y := (⟨"java/math/BigInteger", "shiftLeft", "(I)Ljava/math/BigInteger;"⟩ : MethodName)) (z := (⟨"java/math/BigInteger", "shiftLeft", "(I)Ljava/math/BigInteger;"⟩ : MethodName)) hown (mvT hZ (hw _ (List.mem_of_getElem? (i := 45) rfl))) (mvT hZ (hw _ (List.mem_of_getElem? (i := 46) rfl))) (notFace_of_selects (args := #[]) (mvT hZ (hw _ (List.mem_of_getElem? (i := 48) rfl)))) (mvT hZ (hw _ (List.mem_of_getElem? (i := 48) rfl))) (mvT hZ (hw _ (List.mem_of_getElem? (i := 47) rfl))) (by decide) (backOf (W := 0) (rmSl l Z a0 hw [] z0 h0 n0 Z0 EZ0 FZ0 SZ0) hZ (hw _ (List.mem_of_getElem? (i := 49) rfl)) (hw _ (List.mem_of_getElem? (i := 42) rfl)) (by decide) (by decide)) q108a q108c (g := (mkF m 135 #[.val (.ref ar), .val (.int (1 : Int32)), .val (.long (0 : Int64)), .second, .val (.long ((0 : Int64) + x0)), .second, .val (.long (fMi (9223372036854775807 : Int64) x0)), .second, .val (.long (fMa (0 : Int64) x0)), .second, .val (.int (1 : Int32)), .val (.long x0), .second] [(.int (63 : Int32)), (.ref z0)])) rfl (by rw [hml]; rfl) (Steps.refl _) (argsL := [(.int (63 : Int32))]) (rest := []) (lenOf pdO1_2 rfl) rfl (by show 2 * 0 + _ ≤ _; exact Nat.le_of_eq rfl) (hb hby dO1_135) (fun _ _ => ⟨rfl, eh107, (by decide : 0 + 0 ≤ _), (by decide : 0 + 0 ≤ _)⟩)
  dsimp only [Pt.U, Pt.locs, Pt.cells, Pt.slots] at X108 l108 y108 z108 st108 hQ108
  subst l108 y108 z108
  obtain ⟨rfl, N108q, eh108⟩ := hQ108
  have N108 := Fr.app N107 N108q
  refine Go.tr st108 ?_
  show Go _ _ _ _ _ _ _ (T108.setTop (mkF m 138 #[.val (.ref ar), .val (.int (1 : Int32)), .val (.long (0 : Int64)), .second, .val (.long ((0 : Int64) + x0)), .second, .val (.long (fMi (9223372036854775807 : Int64) x0)), .second, .val (.long (fMa (0 : Int64) x0)), .second, .val (.int (1 : Int32)), .val (.long x0), .second] [(.ref z0)]))
  refine Go.by (fun _ kont => XS.lload X108.here hx rfl (hb hby dO1_138) rfl kont) ?_
  show Go _ _ _ _ _ _ _ (T108.setTop (mkF m 140 #[.val (.ref ar), .val (.int (1 : Int32)), .val (.long (0 : Int64)), .second, .val (.long ((0 : Int64) + x0)), .second, .val (.long (fMi (9223372036854775807 : Int64) x0)), .second, .val (.long (fMa (0 : Int64) x0)), .second, .val (.int (1 : Int32)), .val (.long x0), .second] [(.long ((0 : Int64) + x0)), (.ref z0)]))
  obtain ⟨_, _, ⟨T109, L109, k109, n109⟩, -, X109, ⟨Lc109, hQ109, l109, y109, z109⟩, st109⟩ := Jvm.LawKit.callS X108 hx (y := (⟨"java/math/BigInteger", "valueOf", "(J)Ljava/math/BigInteger;"⟩ : MethodName)) hown (mvT hZ (hw _ (List.mem_of_getElem? (i := 40) rfl))) (mvT hZ (hw _ (List.mem_of_getElem? (i := 41) rfl))) (mvT hZ (hw _ (List.mem_of_getElem? (i := 42) rfl))) (mvT hZ (hw _ (List.mem_of_getElem? (i := 43) rfl))) (by decide) (backOf (W := 1) (rmV l Z a0 hw [] ((0 : Int64) + x0) z0 pa h0 n0 Z0 O0 SZ EZ FZ SP HP hv1) hZ (hw _ (List.mem_of_getElem? (i := 43) rfl)) (hw _ (List.mem_of_getElem? (i := 42) rfl)) (by decide) (by decide)) (g := (mkF m 140 #[.val (.ref ar), .val (.int (1 : Int32)), .val (.long (0 : Int64)), .second, .val (.long ((0 : Int64) + x0)), .second, .val (.long (fMi (9223372036854775807 : Int64) x0)), .second, .val (.long (fMa (0 : Int64) x0)), .second, .val (.int (1 : Int32)), .val (.long x0), .second] [(.long ((0 : Int64) + x0)), (.ref z0)])) rfl (by rw [hml]; rfl) (argsL := [(.long ((0 : Int64) + x0))]) (rest := [(.ref z0)]) (lenOf pdO1_1 rfl) rfl (by show 2 * 0 + _ ≤ _; exact Nat.le_of_eq rfl) (hb hby dO1_140) (fun _ _ => ⟨rfl, eh108, (by decide : 0 + 2 ≤ _), (by decide : 0 + 8 ≤ _)⟩)
  dsimp only [Pt.U, Pt.locs, Pt.cells, Pt.slots] at X109 l109 y109 z109 st109 hQ109
  subst l109 y109 z109
  obtain ⟨y109, sg109, rfl, N109q, K109, hsg109, E109z, F109z⟩ := hQ109
  have S110_ZERO := own_stakeep SZ0 K109 all0
  have S110_posConst := own_stakeep SP0 K109 all0
  have F110_signum_z0 := FZ0.keep K109 nin0
  have E110_z0 := EZ0.keep K109
  have V110_ar := Va.keep K109 nin0
  have P110_old := O0.keep K109 all0
  have Z110 := Nat.le_trans Z0 K109.1
  have K110 : Keep h0 T109.heap [] := Keep.trans (Keep.refl h0 []) K109 all0
  have N109 := Fr.app N108 N109q
  refine Go.by st109 ?_
  show Go _ _ _ _ _ _ _ (T109.setTop (mkF m 143 #[.val (.ref ar), .val (.int (1 : Int32)), .val (.long (0 : Int64)), .second, .val (.long ((0 : Int64) + x0)), .second, .val (.long (fMi (9223372036854775807 : Int64) x0)), .second, .val (.long (fMa (0 : Int64) x0)), .second, .val (.int (1 : Int32)), .val (.long x0), .second] [(.ref y109), (.ref z0)]))
  obtain ⟨cq111, kq111, q111a, q111b, q111c⟩ := isOf hZ rfl E110_z0
  obtain ⟨_, _, ⟨T111, L111, k111, n111⟩, -, X111, ⟨Lc111, hQ111, l111, y111, z111⟩, st111⟩ := X109.virtualBack hx (y := (⟨"java/math/BigInteger", "add", "(Ljava/math/BigInteger;)Ljava/math/BigInteger;"⟩ : MethodName)) (z := (⟨"java/math/BigInteger", "add", "(Ljava/math/BigInteger;)Ljava/math/BigInteger;"⟩ : MethodName)) hown (mvT hZ (hw _ (List.mem_of_getElem? (i := 54) rfl))) (mvT hZ (hw _ (List.mem_of_getElem? (i := 55) rfl))) (notFace_of_selects (args := #[]) (mvT hZ (hw _ (List.mem_of_getElem? (i := 57) rfl)))) (mvT hZ (hw _ (List.mem_of_getElem? (i := 57) rfl))) (mvT hZ (hw _ (List.mem_of_getElem? (i := 56) rfl))) (by decide) (backOf (W := 0) (rmAd l Z a0 hw [] z0 y109 sg109 T109.heap n0 Z110 F110_signum_z0 F109z) hZ (hw _ (List.mem_of_getElem? (i := 58) rfl)) (hw _ (List.mem_of_getElem? (i := 42) rfl)) (by decide) (by decide)) q111a q111c (g := (mkF m 143 #[.val (.ref ar), .val (.int (1 : Int32)), .val (.long (0 : Int64)), .second, .val (.long ((0 : Int64) + x0)), .second, .val (.long (fMi (9223372036854775807 : Int64) x0)), .second, .val (.long (fMa (0 : Int64) x0)), .second, .val (.int (1 : Int32)), .val (.long x0), .second] [(.ref y109), (.ref z0)])) rfl (by rw [hml]; rfl) (Steps.refl _) (argsL := [(.ref y109)]) (rest := []) (lenOf pdO1_3 rfl) rfl (by show 2 * 0 + _ ≤ _; exact Nat.le_of_eq rfl) (hb hby dO1_143) (fun _ _ => ⟨rfl, rfl, (by decide : 2 + 0 ≤ _), (by decide : 8 + 0 ≤ _)⟩)
  dsimp only [Pt.U, Pt.locs, Pt.cells, Pt.slots] at X111 l111 y111 z111 st111 hQ111
  subst l111 y111 z111
  obtain ⟨y111, rfl, N111q, eh111⟩ := hQ111
  have N111 := Fr.app N109 N111q
  refine Go.tr st111 ?_
  show Go _ _ _ _ _ _ _ (T111.setTop (mkF m 146 #[.val (.ref ar), .val (.int (1 : Int32)), .val (.long (0 : Int64)), .second, .val (.long ((0 : Int64) + x0)), .second, .val (.long (fMi (9223372036854775807 : Int64) x0)), .second, .val (.long (fMa (0 : Int64) x0)), .second, .val (.int (1 : Int32)), .val (.long x0), .second] [(.ref y111)]))
  refine Go.by (fun _ kont => XS.astore X111.here hx rfl (hb hby dO1_146) rfl rfl (l' := #[.val (.ref ar), .val (.int (1 : Int32)), .val (.long (0 : Int64)), .second, .val (.long ((0 : Int64) + x0)), .second, .val (.long (fMi (9223372036854775807 : Int64) x0)), .second, .val (.long (fMa (0 : Int64) x0)), .second, .val (.ref y111), .val (.long x0), .second]) rfl kont) ?_
  show Go _ _ _ _ _ _ _ (T111.setTop (mkF m 148 #[.val (.ref ar), .val (.int (1 : Int32)), .val (.long (0 : Int64)), .second, .val (.long ((0 : Int64) + x0)), .second, .val (.long (fMi (9223372036854775807 : Int64) x0)), .second, .val (.long (fMa (0 : Int64) x0)), .second, .val (.ref y111), .val (.long x0), .second] []))
  obtain ⟨T112, h112, X112, e112, X_112, A112, D112, -, st112⟩ := newO X111 hx hZ hown (hw _ (List.mem_of_getElem? (i := 59) rfl)) (hw _ (List.mem_of_getElem? (i := 60) rfl)) (hw _ (List.mem_of_getElem? (i := 30) rfl)) eh111 (g := (mkF m 148 #[.val (.ref ar), .val (.int (1 : Int32)), .val (.long (0 : Int64)), .second, .val (.long ((0 : Int64) + x0)), .second, .val (.long (fMi (9223372036854775807 : Int64) x0)), .second, .val (.long (fMa (0 : Int64) x0)), .second, .val (.ref y111), .val (.long x0), .second] [])) rfl (hb hby dO1_148) (by decide) (by decide)
  obtain ⟨b112, g112⟩ : ∃ z, z = T109.heap.size := ⟨_, rfl⟩
  rw [← g112] at A112 D112 st112
  have ne_z0_b112 : z0 ≠ b112 := Nat.ne_of_lt (Nat.lt_of_lt_of_le F110_signum_z0.lt (Nat.le_of_eq g112.symm))
  have ne_y109_b112 : y109 ≠ b112 := Nat.ne_of_lt (Nat.lt_of_lt_of_le F109z.lt (Nat.le_of_eq g112.symm))
  have ne_ar_b112 : ar ≠ b112 := Nat.ne_of_lt (Nat.lt_of_lt_of_le V110_ar.lt (Nat.le_of_eq g112.symm))
  have ge_b112 : n0 ≤ b112 := Nat.le_trans Z110 (Nat.le_of_eq g112.symm)
  have sz_b112 : h0.size ≤ b112 := Nat.le_trans K110.1 (Nat.le_of_eq g112.symm)
  have F113_signum_z0 := F110_signum_z0.ext X_112
  have F113_signum_y109 := F109z.ext X_112
  have E113_z0 := E110_z0.ext X_112
  have E113_y109 := E109z.ext X_112
  have V113_ar := V110_ar.ext X_112
  have S113_ZERO := S110_ZERO.ext X_112
  have S113_posConst := S110_posConst.ext X_112
  have P113_old := P110_old.ext X_112
  have Z113 := Nat.le_trans Z110 X_112.1
  have K113 : Keep h0 h112 [] := K110.ext X_112
  have F112_total : Fld Z h112 b112 "com/example/quorumsmith/quorumsmith/engine/CountSummary" "total" "Ljava/math/BigInteger;" .null := D112 (Or.inr (hw _ (List.mem_of_getElem? (i := 75) rfl))) (ty := (.object "java/math/BigInteger")) (by decide)
  have F112_members : Fld Z h112 b112 "com/example/quorumsmith/quorumsmith/engine/CountSummary" "members" "J" (.long (0 : Int64)) := D112 (Or.inr (hw _ (List.mem_of_getElem? (i := 77) rfl))) (ty := .long) (by decide)
  have F112_min : Fld Z h112 b112 "com/example/quorumsmith/quorumsmith/engine/CountSummary" "min" "J" (.long (0 : Int64)) := D112 (Or.inr (hw _ (List.mem_of_getElem? (i := 79) rfl))) (ty := .long) (by decide)
  have F112_max : Fld Z h112 b112 "com/example/quorumsmith/quorumsmith/engine/CountSummary" "max" "J" (.long (0 : Int64)) := D112 (Or.inr (hw _ (List.mem_of_getElem? (i := 81) rfl))) (ty := .long) (by decide)
  refine Go.by st112 ?_
  show Go _ _ _ _ _ _ _ (T112.setTop (mkF m 151 #[.val (.ref ar), .val (.int (1 : Int32)), .val (.long (0 : Int64)), .second, .val (.long ((0 : Int64) + x0)), .second, .val (.long (fMi (9223372036854775807 : Int64) x0)), .second, .val (.long (fMa (0 : Int64) x0)), .second, .val (.ref y111), .val (.long x0), .second] [(.ref b112)]))
  refine Go.by (fun _ kont => XS.dup X112.here hx rfl (hb hby dO1_151) rfl rfl (XS.aload X112.here hx rfl (hb hby dO1_152) rfl rfl (XS.iloadN X112.here hx rfl (hb hby dO1_154) rfl (XS.i2l X112.here hx rfl (hb hby dO1_155) rfl kont)))) ?_
  show Go _ _ _ _ _ _ _ (T112.setTop (mkF m 156 #[.val (.ref ar), .val (.int (1 : Int32)), .val (.long (0 : Int64)), .second, .val (.long ((0 : Int64) + x0)), .second, .val (.long (fMi (9223372036854775807 : Int64) x0)), .second, .val (.long (fMa (0 : Int64) x0)), .second, .val (.ref y111), .val (.long x0), .second] [(.long ((1 : Int32).toInt64)), (.ref y111), (.ref b112), (.ref b112)]))
  rw [show ((1 : Int32).toInt64) = (1 : Int64) from by decide]
  show Go _ _ _ _ _ _ _ (T112.setTop (mkF m 156 #[.val (.ref ar), .val (.int (1 : Int32)), .val (.long (0 : Int64)), .second, .val (.long ((0 : Int64) + x0)), .second, .val (.long (fMi (9223372036854775807 : Int64) x0)), .second, .val (.long (fMa (0 : Int64) x0)), .second, .val (.ref y111), .val (.long x0), .second] [(.long (1 : Int64)), (.ref y111), (.ref b112), (.ref b112)]))
  refine Go.by (fun _ kont => XS.lload X112.here hx rfl (hb hby dO1_156) rfl (XS.lload X112.here hx rfl (hb hby dO1_158) rfl kont)) ?_
  show Go _ _ _ _ _ _ _ (T112.setTop (mkF m 160 #[.val (.ref ar), .val (.int (1 : Int32)), .val (.long (0 : Int64)), .second, .val (.long ((0 : Int64) + x0)), .second, .val (.long (fMi (9223372036854775807 : Int64) x0)), .second, .val (.long (fMa (0 : Int64) x0)), .second, .val (.ref y111), .val (.long x0), .second] [(.long (fMa (0 : Int64) x0)), (.long (fMi (9223372036854775807 : Int64) x0)), (.long (1 : Int64)), (.ref y111), (.ref b112), (.ref b112)]))
  obtain ⟨_, _, ⟨T114, L114, k114, n114⟩, -, X114, ⟨Lc114, hQ114, l114, y114, z114⟩, st114⟩ := X112.specialBack hx (y := (⟨"com/example/quorumsmith/quorumsmith/engine/CountSummary", "<init>", "(Ljava/math/BigInteger;JJJ)V"⟩ : MethodName)) rfl hown (mvT hZ (hw _ (List.mem_of_getElem? (i := 61) rfl))) (mvT hZ (hw _ (List.mem_of_getElem? (i := 62) rfl))) (mvT hZ (hw _ (List.mem_of_getElem? (i := 63) rfl))) (by decide) (backOf (W := 1) (rmC1 l Z a0 hw [] b112 y111 (fMi (9223372036854775807 : Int64) x0) (fMa (0 : Int64) x0) h112 n0 Z113 A112 F112_total F112_members F112_min F112_max ge_b112) hZ (hw _ (List.mem_of_getElem? (i := 63) rfl)) (hw _ (List.mem_of_getElem? (i := 30) rfl)) (by decide) (by decide)) (g := (mkF m 160 #[.val (.ref ar), .val (.int (1 : Int32)), .val (.long (0 : Int64)), .second, .val (.long ((0 : Int64) + x0)), .second, .val (.long (fMi (9223372036854775807 : Int64) x0)), .second, .val (.long (fMa (0 : Int64) x0)), .second, .val (.ref y111), .val (.long x0), .second] [(.long (fMa (0 : Int64) x0)), (.long (fMi (9223372036854775807 : Int64) x0)), (.long (1 : Int64)), (.ref y111), (.ref b112), (.ref b112)])) rfl (by rw [hml]; rfl) (Steps.refl _) (a := b112) (argsL := [(.ref y111), (.long (1 : Int64)), (.long (fMi (9223372036854775807 : Int64) x0)), (.long (fMa (0 : Int64) x0))]) (rest := [(.ref b112)]) (lenOf pdO1_4 rfl) rfl (by show 2 * 0 + _ ≤ _; exact Nat.le_of_eq rfl) (hb hby dO1_160) (fun _ _ => ⟨rfl, e112, (by decide : 3 + 0 ≤ _), (by decide : 12 + 0 ≤ _)⟩)
  dsimp only [Pt.U, Pt.locs, Pt.cells, Pt.slots] at X114 l114 y114 z114 st114 hQ114
  subst l114 y114 z114
  obtain ⟨rfl, N114q, K114, g114_0, g114_1, g114_2, g114_3, g114_4⟩ := hQ114
  have S115_ZERO := own_stakeep S113_ZERO K114 (allS (own_ns A112) all0)
  have S115_posConst := own_stakeep S113_posConst K114 (allS (own_ns A112) all0)
  have F115_signum_z0 := F113_signum_z0.keep K114 (ninS ne_z0_b112 nin0)
  have F115_signum_y109 := F113_signum_y109.keep K114 (ninS ne_y109_b112 nin0)
  have E115_z0 := E113_z0.keep K114
  have E115_y109 := E113_y109.keep K114
  have E115_b112 := A112.keep K114
  have V115_ar := V113_ar.keep K114 (ninS ne_ar_b112 nin0)
  have P115_old := P113_old.keep K114 (allS ge_b112 all0)
  have Z115 := Nat.le_trans Z113 K114.1
  have K115 : Keep h0 T114.heap [] := Keep.trans K113 K114 (allS (Or.inr sz_b112) all0)
  have N114 := Fr.app N111 N114q
  refine Go.tr st114 ?_
  show Go _ _ _ _ _ _ _ (T114.setTop (mkF m 163 #[.val (.ref ar), .val (.int (1 : Int32)), .val (.long (0 : Int64)), .second, .val (.long ((0 : Int64) + x0)), .second, .val (.long (fMi (9223372036854775807 : Int64) x0)), .second, .val (.long (fMa (0 : Int64) x0)), .second, .val (.ref y111), .val (.long x0), .second] [(.ref b112)]))
  refine Go.retR X114 hx hret rfl rfl hlk (hb hby dO1_163) ?_ (by decide) (by decide)
  show QO1 Z x0 x1 h0 n0 (some (.ref b112)) T114.heap _
  exact ⟨b112, rfl, N114, K115, ge_b112, sz_b112, g114_0, g114_3, g114_4⟩

theorem dO2_0 : decode prog_20_method_3_code 0 = .ok (.iload_n 1, 1) := by decide +kernel
theorem dO2_1 : decode prog_20_method_3_code 1 = .ok (.iconst 1, 1) := by decide +kernel
theorem dO2_2 : decode prog_20_method_3_code 2 = .ok (.if_icmp .lt 9, 3) := by decide +kernel
theorem dO2_5 : decode prog_20_method_3_code 5 = .ok (.iload_n 1, 1) := by decide +kernel
theorem dO2_6 : decode prog_20_method_3_code 6 = .ok (.aload_n 0, 1) := by decide +kernel
theorem dO2_7 : decode prog_20_method_3_code 7 = .ok (.arraylength, 1) := by decide +kernel
theorem dO2_8 : decode prog_20_method_3_code 8 = .ok (.if_icmp .le 19, 3) := by decide +kernel
theorem dO2_27 : decode prog_20_method_3_code 27 = .ok (.lconst 0, 1) := by decide +kernel
theorem dO2_28 : decode prog_20_method_3_code 28 = .ok (.lstore_n 2, 1) := by decide +kernel
theorem dO2_29 : decode prog_20_method_3_code 29 = .ok (.lconst 0, 1) := by decide +kernel
theorem dO2_30 : decode prog_20_method_3_code 30 = .ok (.lstore 4, 2) := by decide +kernel
theorem dO2_32 : decode prog_20_method_3_code 32 = .ok (.ldc2_w 52, 3) := by decide +kernel
theorem dO2_35 : decode prog_20_method_3_code 35 = .ok (.lstore 6, 2) := by decide +kernel
theorem dO2_37 : decode prog_20_method_3_code 37 = .ok (.lconst 0, 1) := by decide +kernel
theorem dO2_38 : decode prog_20_method_3_code 38 = .ok (.lstore 8, 2) := by decide +kernel
theorem dO2_40 : decode prog_20_method_3_code 40 = .ok (.iconst 0, 1) := by decide +kernel
theorem dO2_41 : decode prog_20_method_3_code 41 = .ok (.istore 10, 2) := by decide +kernel
theorem dO2_43 : decode prog_20_method_3_code 43 = .ok (.iload 10, 2) := by decide +kernel
theorem dO2_45 : decode prog_20_method_3_code 45 = .ok (.iload_n 1, 1) := by decide +kernel
theorem dO2_46 : decode prog_20_method_3_code 46 = .ok (.if_icmp .ge 83, 3) := by decide +kernel
theorem dO2_49 : decode prog_20_method_3_code 49 = .ok (.aload_n 0, 1) := by decide +kernel
theorem dO2_50 : decode prog_20_method_3_code 50 = .ok (.iload 10, 2) := by decide +kernel
theorem dO2_52 : decode prog_20_method_3_code 52 = .ok (.laload, 1) := by decide +kernel
theorem dO2_53 : decode prog_20_method_3_code 53 = .ok (.lstore 11, 2) := by decide +kernel
theorem dO2_55 : decode prog_20_method_3_code 55 = .ok (.lload 11, 2) := by decide +kernel
theorem dO2_57 : decode prog_20_method_3_code 57 = .ok (.lconst 0, 1) := by decide +kernel
theorem dO2_58 : decode prog_20_method_3_code 58 = .ok (.lcmp, 1) := by decide +kernel
theorem dO2_59 : decode prog_20_method_3_code 59 = .ok (.ifCond .ge 20, 3) := by decide +kernel
theorem dO2_79 : decode prog_20_method_3_code 79 = .ok (.lload 4, 2) := by decide +kernel
theorem dO2_81 : decode prog_20_method_3_code 81 = .ok (.lload 11, 2) := by decide +kernel
theorem dO2_83 : decode prog_20_method_3_code 83 = .ok (.ladd, 1) := by decide +kernel
theorem dO2_84 : decode prog_20_method_3_code 84 = .ok (.lstore 4, 2) := by decide +kernel
theorem dO2_86 : decode prog_20_method_3_code 86 = .ok (.lload 4, 2) := by decide +kernel
theorem dO2_88 : decode prog_20_method_3_code 88 = .ok (.lconst 0, 1) := by decide +kernel
theorem dO2_89 : decode prog_20_method_3_code 89 = .ok (.lcmp, 1) := by decide +kernel
theorem dO2_90 : decode prog_20_method_3_code 90 = .ok (.ifCond .ge 15, 3) := by decide +kernel
theorem dO2_105 : decode prog_20_method_3_code 105 = .ok (.lload 6, 2) := by decide +kernel
theorem dO2_107 : decode prog_20_method_3_code 107 = .ok (.lload 11, 2) := by decide +kernel
theorem dO2_109 : decode prog_20_method_3_code 109 = .ok (.invokestatic 57, 3) := by decide +kernel
theorem dO2_112 : decode prog_20_method_3_code 112 = .ok (.lstore 6, 2) := by decide +kernel
theorem dO2_114 : decode prog_20_method_3_code 114 = .ok (.lload 8, 2) := by decide +kernel
theorem dO2_116 : decode prog_20_method_3_code 116 = .ok (.lload 11, 2) := by decide +kernel
theorem dO2_118 : decode prog_20_method_3_code 118 = .ok (.invokestatic 62, 3) := by decide +kernel
theorem dO2_121 : decode prog_20_method_3_code 121 = .ok (.lstore 8, 2) := by decide +kernel
theorem dO2_123 : decode prog_20_method_3_code 123 = .ok (.iinc 10 1, 3) := by decide +kernel
theorem dO2_126 : decode prog_20_method_3_code 126 = .ok (.goto (-83), 3) := by decide +kernel
theorem dO2_129 : decode prog_20_method_3_code 129 = .ok (.lload_n 2, 1) := by decide +kernel
theorem dO2_130 : decode prog_20_method_3_code 130 = .ok (.invokestatic 38, 3) := by decide +kernel
theorem dO2_133 : decode prog_20_method_3_code 133 = .ok (.bipush 63, 2) := by decide +kernel
theorem dO2_135 : decode prog_20_method_3_code 135 = .ok (.invokevirtual 64, 3) := by decide +kernel
theorem dO2_138 : decode prog_20_method_3_code 138 = .ok (.lload 4, 2) := by decide +kernel
theorem dO2_140 : decode prog_20_method_3_code 140 = .ok (.invokestatic 38, 3) := by decide +kernel
theorem dO2_143 : decode prog_20_method_3_code 143 = .ok (.invokevirtual 68, 3) := by decide +kernel
theorem dO2_146 : decode prog_20_method_3_code 146 = .ok (.astore 10, 2) := by decide +kernel
theorem dO2_148 : decode prog_20_method_3_code 148 = .ok (.new 23, 3) := by decide +kernel
theorem dO2_151 : decode prog_20_method_3_code 151 = .ok (.dup, 1) := by decide +kernel
theorem dO2_152 : decode prog_20_method_3_code 152 = .ok (.aload 10, 2) := by decide +kernel
theorem dO2_154 : decode prog_20_method_3_code 154 = .ok (.iload_n 1, 1) := by decide +kernel
theorem dO2_155 : decode prog_20_method_3_code 155 = .ok (.i2l, 1) := by decide +kernel
theorem dO2_156 : decode prog_20_method_3_code 156 = .ok (.lload 6, 2) := by decide +kernel
theorem dO2_158 : decode prog_20_method_3_code 158 = .ok (.lload 8, 2) := by decide +kernel
theorem dO2_160 : decode prog_20_method_3_code 160 = .ok (.invokespecial 44, 3) := by decide +kernel
theorem dO2_163 : decode prog_20_method_3_code 163 = .ok (.areturn, 1) := by decide +kernel
theorem pdO2_0 : parseMethodDescriptor "(JJ)J" = some ⟨[.long, .long], some .long⟩ := by decide +kernel
theorem pdO2_1 : parseMethodDescriptor "(J)Ljava/math/BigInteger;" = some ⟨[.long], some (.object "java/math/BigInteger")⟩ := by decide +kernel
theorem pdO2_2 : parseMethodDescriptor "(I)Ljava/math/BigInteger;" = some ⟨[.int], some (.object "java/math/BigInteger")⟩ := by decide +kernel
theorem pdO2_3 : parseMethodDescriptor "(Ljava/math/BigInteger;)Ljava/math/BigInteger;" = some ⟨[(.object "java/math/BigInteger")], some (.object "java/math/BigInteger")⟩ := by decide +kernel
theorem pdO2_4 : parseMethodDescriptor "(Ljava/math/BigInteger;JJJ)V" = some ⟨[(.object "java/math/BigInteger"), .long, .long, .long], none⟩ := by decide +kernel
theorem pnO2 : plainName "com/example/quorumsmith/quorumsmith/engine/CountSummary" = true := by first | (simp [plainName, overriddenIn]; done) | decide +kernel
theorem efO2 (m : MethodId) (ar : Addr) : entryFrame m #[(.ref ar), (.int (2 : Int32))] 13 = mkF m 0 #[.val (.ref ar), .val (.int (2 : Int32)), .unset, .unset, .unset, .unset, .unset, .unset, .unset, .unset, .unset, .unset, .unset] [] := by first | (simp [entryFrame, mkF, argsToLocals, Value.category]; done) | rfl
def QO2 (Z : State) (x0 : Int64) (x1 : Int64) (h0 : Heap) (n0 : Nat) (v : Option Value) (h : Heap) (L : List Loc) : Prop := ∃ y : Addr, (v = some (.ref y) ∧ Fr n0 L ∧ Keep h0 h [] ∧ n0 ≤ y ∧ h0.size ≤ y ∧ Exa Z h y "com/example/quorumsmith/quorumsmith/engine/CountSummary" ∧ Fld Z h y "com/example/quorumsmith/quorumsmith/engine/CountSummary" "min" "J" (.long (fMi (fMi (9223372036854775807 : Int64) x0) x1)) ∧ Fld Z h y "com/example/quorumsmith/quorumsmith/engine/CountSummary" "max" "J" (.long (fMa (fMa (0 : Int64) x0) x1)))
set_option maxRecDepth 65536 in
set_option maxHeartbeats 40000000 in
theorem rmO2 (l : Launch) (Z : State) (a0 : Array Value) (hw : ∀ d ∈ tables_1, d.before a0 Z = true) (ws : List Jvm.Cond) (ar : Addr) (kc : ClassId) (x0 : Int64) (x1 : Int64) (z0 : Addr) (pa : Addr) (h0 : Heap) (n0 : Nat) (Z0 : n0 ≤ h0.size) (Va : Arv Z h0 ar kc .long (2 : Int32) [(.long x0), (.long x1)] (.long (0 : Int64))) (Bx0 : 0 ≤ x0.toInt ∧ x0.toInt ≤ 4294967296) (Bx1 : 0 ≤ x1.toInt ∧ x1.toInt ≤ 4294967296) (O0 : Old Z n0 h0) (SZ : Sta Z Z.heap "java/math/BigInteger" "ZERO" "Ljava/math/BigInteger;" (.ref z0)) (EZ : Exa Z Z.heap z0 "java/math/BigInteger") (FZ : Fld Z Z.heap z0 "java/math/BigInteger" "signum" "I" (.int (0 : Int32))) (SP : Sta Z Z.heap "java/math/BigInteger" "posConst" "[Ljava/math/BigInteger;" (.ref pa)) (HP : PC Z pa) :
    MetFree l (⟨"com/example/quorumsmith/quorumsmith/engine/CountSummary", "of", "([JI)Lcom/example/quorumsmith/quorumsmith/engine/CountSummary;"⟩ : MethodName) (head1 (Jvm.Cond.code (⟨"com/example/quorumsmith/quorumsmith/engine/CountSummary", "of", "([JI)Lcom/example/quorumsmith/quorumsmith/engine/CountSummary;"⟩ : MethodName) prog_20_method_3_code 13 (some (.object "com/example/quorumsmith/quorumsmith/engine/CountSummary")) :: ws) ({ frames := 4, cells := 3, slots := 12, locals := 54 } : Room)) (fun aa_ U_ => aa_ = #[(.ref ar), (.int (2 : Int32))] ∧ Z.Warmed39 U_.vm ∧ U_.heap = h0) (fun _ _ _ _ _ => True) (fun _ U_ o_ V_ => ∃ v_ L_, o_ = .returned v_ ∧ QO2 Z x0 x1 h0 n0 v_ V_.heap L_ ∧ FrameEnd U_ o_ V_ L_ ({ frames := 4, cells := 3, slots := 12, locals := 54 } : Room).cells ({ frames := 4, cells := 3, slots := 12, locals := 54 } : Room).slots) := by
  refine MetFree.of_bodySF (plainFor_of_name pnO2) hisR ?_
  intro p e s m args below meth c s₁ Bd hml0 hP hK
  obtain ⟨rfl, hZ, hh⟩ := hP
  have hx := Bd.exec
  have hby := Bd.bytes
  have hml : c.maxLocals = 13 := hml0
  have hown : s.vm.findClass "com/example/quorumsmith/quorumsmith/engine/CountSummary" = some m.cls := findClass_of_methodNamed Bd.named
  have hnm := (name_of_methodNamed Bd.named Bd.method).1
  have hlk : meth.locks = false := BodyLoose.notSynchronized Bd
  have hret : meth.sig.returnType = (some (.object "com/example/quorumsmith/quorumsmith/engine/CountSummary")) := Bd.returns
  have X0 : Stand p l e ({ frames := 4, cells := 3, slots := 12, locals := 54 } : Room) s m #[(.ref ar), (.int (2 : Int32))] below meth c s₁ [] 0 0 := Stand.of_body Bd
  have e0 : s₁.heap = h0 := by rw [← hh, Bd.state]; rfl
  have N0 := Fr.nil n0
  show Go p e below s ({ frames := 4, cells := 3, slots := 12, locals := 54 } : Room).cells ({ frames := 4, cells := 3, slots := 12, locals := 54 } : Room).slots (QO2 Z x0 x1 h0 n0) (s₁.setTop (entryFrame m #[(.ref ar), (.int (2 : Int32))] 13))
  rw [efO2]
  have SZ0 := SZ.ext O0.2
  have EZ0 := EZ.ext O0.2
  have FZ0 := FZ.ext O0.2
  have SP0 := SP.ext O0.2
  have hv1 := own_s1 Bx0
  have hv2 := own_s2 Bx0 Bx1
  refine Go.by (fun _ kont => XS.iloadN X0.here hx rfl (hb hby dO2_0) rfl (XS.iconst X0.here hx rfl (hb hby dO2_1) (XS.icmpNo X0.here hx rfl (hb hby dO2_2) rfl (by decide) (XS.iloadN X0.here hx rfl (hb hby dO2_5) rfl (XS.aloadN X0.here hx rfl (hb hby dO2_6) rfl rfl kont))))) ?_
  show Go _ _ _ _ _ _ _ (s₁.setTop (mkF m 7 #[.val (.ref ar), .val (.int (2 : Int32)), .unset, .unset, .unset, .unset, .unset, .unset, .unset, .unset, .unset, .unset, .unset] [(.ref ar), (.int (2 : Int32))]))
  obtain ⟨cl_q101, Ar_q101, q1_q101, S_q101, N_q101, H_q101, G_q101⟩ := id Va
  refine Go.by (X0.arraylength hx (by first | exact Ar_q101.1 | (rw [e0]; exact Ar_q101.1)) (State.isArrayOf_alike hZ.alike Ar_q101.2.1) (g := (mkF m 7 #[.val (.ref ar), .val (.int (2 : Int32)), .unset, .unset, .unset, .unset, .unset, .unset, .unset, .unset, .unset, .unset, .unset] [(.ref ar), (.int (2 : Int32))])) rfl rfl (hb hby dO2_7)) ?_
  rw [len_of S_q101 N_q101]
  show Go _ _ _ _ _ _ _ (s₁.setTop (mkF m 8 #[.val (.ref ar), .val (.int (2 : Int32)), .unset, .unset, .unset, .unset, .unset, .unset, .unset, .unset, .unset, .unset, .unset] [(.int (2 : Int32)), (.int (2 : Int32))]))
  refine Go.by (fun _ kont => XS.icmpYes X0.here hx rfl (pc0 := 8) (pc' := 27) rfl (hb hby dO2_8) rfl (by decide) (by decide) (by decide) (XS.lconst X0.here hx rfl (hb hby dO2_27) (XS.lstoreN X0.here hx rfl (hb hby dO2_28) rfl (l' := #[.val (.ref ar), .val (.int (2 : Int32)), .val (.long (0 : Int64)), .second, .unset, .unset, .unset, .unset, .unset, .unset, .unset, .unset, .unset]) rfl (XS.lconst X0.here hx rfl (hb hby dO2_29) (XS.lstore X0.here hx rfl (hb hby dO2_30) rfl (l' := #[.val (.ref ar), .val (.int (2 : Int32)), .val (.long (0 : Int64)), .second, .val (.long (0 : Int64)), .second, .unset, .unset, .unset, .unset, .unset, .unset, .unset]) rfl (X0.ldc2Long hx hown (mvT hZ (hw _ (List.mem_of_getElem? (i := 32) rfl))) (g := (mkF m 32 #[.val (.ref ar), .val (.int (2 : Int32)), .val (.long (0 : Int64)), .second, .val (.long (0 : Int64)), .second, .unset, .unset, .unset, .unset, .unset, .unset, .unset] [])) rfl (hb hby dO2_32) _ kont)))))) ?_
  show Go _ _ _ _ _ _ _ (s₁.setTop (mkF m 35 #[.val (.ref ar), .val (.int (2 : Int32)), .val (.long (0 : Int64)), .second, .val (.long (0 : Int64)), .second, .unset, .unset, .unset, .unset, .unset, .unset, .unset] [(.long (9223372036854775807 : Int64))]))
  refine Go.by (fun _ kont => XS.lstore X0.here hx rfl (hb hby dO2_35) rfl (l' := #[.val (.ref ar), .val (.int (2 : Int32)), .val (.long (0 : Int64)), .second, .val (.long (0 : Int64)), .second, .val (.long (9223372036854775807 : Int64)), .second, .unset, .unset, .unset, .unset, .unset]) rfl (XS.lconst X0.here hx rfl (hb hby dO2_37) (XS.lstore X0.here hx rfl (hb hby dO2_38) rfl (l' := #[.val (.ref ar), .val (.int (2 : Int32)), .val (.long (0 : Int64)), .second, .val (.long (0 : Int64)), .second, .val (.long (9223372036854775807 : Int64)), .second, .val (.long (0 : Int64)), .second, .unset, .unset, .unset]) rfl (XS.iconst X0.here hx rfl (hb hby dO2_40) (XS.istore X0.here hx rfl (hb hby dO2_41) rfl (l' := #[.val (.ref ar), .val (.int (2 : Int32)), .val (.long (0 : Int64)), .second, .val (.long (0 : Int64)), .second, .val (.long (9223372036854775807 : Int64)), .second, .val (.long (0 : Int64)), .second, .val (.int (0 : Int32)), .unset, .unset]) rfl (XS.iload X0.here hx rfl (hb hby dO2_43) rfl kont)))))) ?_
  show Go _ _ _ _ _ _ _ (s₁.setTop (mkF m 45 #[.val (.ref ar), .val (.int (2 : Int32)), .val (.long (0 : Int64)), .second, .val (.long (0 : Int64)), .second, .val (.long (9223372036854775807 : Int64)), .second, .val (.long (0 : Int64)), .second, .val (.int (0 : Int32)), .unset, .unset] [(.int (0 : Int32))]))
  refine Go.by (fun _ kont => XS.iloadN X0.here hx rfl (hb hby dO2_45) rfl (XS.icmpNo X0.here hx rfl (hb hby dO2_46) rfl (by decide) (XS.aloadN X0.here hx rfl (hb hby dO2_49) rfl rfl (XS.iload X0.here hx rfl (hb hby dO2_50) rfl kont)))) ?_
  show Go _ _ _ _ _ _ _ (s₁.setTop (mkF m 52 #[.val (.ref ar), .val (.int (2 : Int32)), .val (.long (0 : Int64)), .second, .val (.long (0 : Int64)), .second, .val (.long (9223372036854775807 : Int64)), .second, .val (.long (0 : Int64)), .second, .val (.int (0 : Int32)), .unset, .unset] [(.int (0 : Int32)), (.ref ar)]))
  obtain ⟨cl_q102, Ar_q102, q1_q102, S_q102, N_q102, H_q102, G_q102⟩ := id Va
  have hin_q102 : ¬ ((0 : Int32) < 0 ∨ cl_q102.slots.size ≤ ((0 : Int32)).toNatClampNeg) := inb_of S_q102 ⟨by decide, by decide⟩
  have hat_q102 : cl_q102.slots[((0 : Int32)).toNatClampNeg]? = some (.long x0) := Has.at H_q102 hin_q102 rfl
  refine Go.by (X0.laload hx (j := (0 : Int32)) (v := (.long x0)) (by first | exact Ar_q102.1 | (rw [e0]; exact Ar_q102.1)) (State.isArrayOf_alike hZ.alike Ar_q102.2.1) Ar_q102.2.2 hin_q102 hat_q102 (g := (mkF m 52 #[.val (.ref ar), .val (.int (2 : Int32)), .val (.long (0 : Int64)), .second, .val (.long (0 : Int64)), .second, .val (.long (9223372036854775807 : Int64)), .second, .val (.long (0 : Int64)), .second, .val (.int (0 : Int32)), .unset, .unset] [(.int (0 : Int32)), (.ref ar)])) rfl rfl (hb hby dO2_52)) ?_
  show Go _ _ _ _ _ _ _ (s₁.setTop (mkF m 53 #[.val (.ref ar), .val (.int (2 : Int32)), .val (.long (0 : Int64)), .second, .val (.long (0 : Int64)), .second, .val (.long (9223372036854775807 : Int64)), .second, .val (.long (0 : Int64)), .second, .val (.int (0 : Int32)), .unset, .unset] [(.long x0)]))
  refine Go.by (fun _ kont => XS.lstore X0.here hx rfl (hb hby dO2_53) rfl (l' := #[.val (.ref ar), .val (.int (2 : Int32)), .val (.long (0 : Int64)), .second, .val (.long (0 : Int64)), .second, .val (.long (9223372036854775807 : Int64)), .second, .val (.long (0 : Int64)), .second, .val (.int (0 : Int32)), .val (.long x0), .second]) rfl (XS.lload X0.here hx rfl (hb hby dO2_55) rfl (XS.lconst X0.here hx rfl (hb hby dO2_57) (XS.lcmp X0.here hx rfl (hb hby dO2_58) rfl kont)))) ?_
  show Go _ _ _ _ _ _ _ (s₁.setTop (mkF m 59 #[.val (.ref ar), .val (.int (2 : Int32)), .val (.long (0 : Int64)), .second, .val (.long (0 : Int64)), .second, .val (.long (9223372036854775807 : Int64)), .second, .val (.long (0 : Int64)), .second, .val (.int (0 : Int32)), .val (.long x0), .second] [(.int (lcmpW x0 (0 : Int64)))]))
  have hd103 : ¬ (x0 < (0 : Int64)) := own_nlt Bx0
  refine Go.by (fun _ kont => XS.ifYes X0.here hx rfl (pc0 := 59) (pc' := 79) rfl (hb hby dO2_59) rfl ((if0 _ _).trans (flt (fun z => hd103 ((lw_lt _ _).mp z))).2.1) (by decide) (by decide) kont) ?_
  show Go _ _ _ _ _ _ _ (s₁.setTop (mkF m 79 #[.val (.ref ar), .val (.int (2 : Int32)), .val (.long (0 : Int64)), .second, .val (.long (0 : Int64)), .second, .val (.long (9223372036854775807 : Int64)), .second, .val (.long (0 : Int64)), .second, .val (.int (0 : Int32)), .val (.long x0), .second] []))
  refine Go.by (fun _ kont => XS.lload X0.here hx rfl (hb hby dO2_79) rfl (XS.lload X0.here hx rfl (hb hby dO2_81) rfl (XS.ladd X0.here hx rfl (hb hby dO2_83) rfl (XS.lstore X0.here hx rfl (hb hby dO2_84) rfl (l' := #[.val (.ref ar), .val (.int (2 : Int32)), .val (.long (0 : Int64)), .second, .val (.long ((0 : Int64) + x0)), .second, .val (.long (9223372036854775807 : Int64)), .second, .val (.long (0 : Int64)), .second, .val (.int (0 : Int32)), .val (.long x0), .second]) rfl (XS.lload X0.here hx rfl (hb hby dO2_86) rfl (XS.lconst X0.here hx rfl (hb hby dO2_88) kont)))))) ?_
  show Go _ _ _ _ _ _ _ (s₁.setTop (mkF m 89 #[.val (.ref ar), .val (.int (2 : Int32)), .val (.long (0 : Int64)), .second, .val (.long ((0 : Int64) + x0)), .second, .val (.long (9223372036854775807 : Int64)), .second, .val (.long (0 : Int64)), .second, .val (.int (0 : Int32)), .val (.long x0), .second] [(.long (0 : Int64)), (.long ((0 : Int64) + x0))]))
  refine Go.by (fun _ kont => XS.lcmp X0.here hx rfl (hb hby dO2_89) rfl kont) ?_
  show Go _ _ _ _ _ _ _ (s₁.setTop (mkF m 90 #[.val (.ref ar), .val (.int (2 : Int32)), .val (.long (0 : Int64)), .second, .val (.long ((0 : Int64) + x0)), .second, .val (.long (9223372036854775807 : Int64)), .second, .val (.long (0 : Int64)), .second, .val (.int (0 : Int32)), .val (.long x0), .second] [(.int (lcmpW ((0 : Int64) + x0) (0 : Int64)))]))
  have hd104 : ¬ (((0 : Int64) + x0) < (0 : Int64)) := own_s1 Bx0
  refine Go.by (fun _ kont => XS.ifYes X0.here hx rfl (pc0 := 90) (pc' := 105) rfl (hb hby dO2_90) rfl ((if0 _ _).trans (flt (fun z => hd104 ((lw_lt _ _).mp z))).2.1) (by decide) (by decide) kont) ?_
  show Go _ _ _ _ _ _ _ (s₁.setTop (mkF m 105 #[.val (.ref ar), .val (.int (2 : Int32)), .val (.long (0 : Int64)), .second, .val (.long ((0 : Int64) + x0)), .second, .val (.long (9223372036854775807 : Int64)), .second, .val (.long (0 : Int64)), .second, .val (.int (0 : Int32)), .val (.long x0), .second] []))
  refine Go.by (fun _ kont => XS.lload X0.here hx rfl (hb hby dO2_105) rfl (XS.lload X0.here hx rfl (hb hby dO2_107) rfl kont)) ?_
  show Go _ _ _ _ _ _ _ (s₁.setTop (mkF m 109 #[.val (.ref ar), .val (.int (2 : Int32)), .val (.long (0 : Int64)), .second, .val (.long ((0 : Int64) + x0)), .second, .val (.long (9223372036854775807 : Int64)), .second, .val (.long (0 : Int64)), .second, .val (.int (0 : Int32)), .val (.long x0), .second] [(.long x0), (.long (9223372036854775807 : Int64))]))
  obtain ⟨_, _, ⟨T105, L105, k105, n105⟩, -, X105, ⟨Lc105, hQ105, l105, y105, z105⟩, st105⟩ := Jvm.LawKit.callS X0 hx (y := (⟨"java/lang/Math", "min", "(JJ)J"⟩ : MethodName)) hown (mvT hZ (hw _ (List.mem_of_getElem? (i := 33) rfl))) (mvT hZ (hw _ (List.mem_of_getElem? (i := 34) rfl))) (mvT hZ (hw _ (List.mem_of_getElem? (i := 35) rfl))) (mvT hZ (hw _ (List.mem_of_getElem? (i := 36) rfl))) (by decide) (backOf (W := 0) (rmMi l Z a0 hw [] (9223372036854775807 : Int64) x0 h0 n0 Z0 ) hZ (hw _ (List.mem_of_getElem? (i := 36) rfl)) (hw _ (List.mem_of_getElem? (i := 35) rfl)) (by decide) (by decide)) (g := (mkF m 109 #[.val (.ref ar), .val (.int (2 : Int32)), .val (.long (0 : Int64)), .second, .val (.long ((0 : Int64) + x0)), .second, .val (.long (9223372036854775807 : Int64)), .second, .val (.long (0 : Int64)), .second, .val (.int (0 : Int32)), .val (.long x0), .second] [(.long x0), (.long (9223372036854775807 : Int64))])) rfl (by rw [hml]; rfl) (argsL := [(.long (9223372036854775807 : Int64)), (.long x0)]) (rest := []) (lenOf pdO2_0 rfl) rfl (by show 2 * 0 + _ ≤ _; exact Nat.le_of_eq rfl) (hb hby dO2_109) (fun _ _ => ⟨rfl, e0, (by decide : 0 + 0 ≤ _), (by decide : 0 + 0 ≤ _)⟩)
  dsimp only [Pt.U, Pt.locs, Pt.cells, Pt.slots] at X105 l105 y105 z105 st105 hQ105
  subst l105 y105 z105
  obtain ⟨rfl, N105q, eh105⟩ := hQ105
  have N105 := Fr.app N0 N105q
  refine Go.by st105 ?_
  show Go _ _ _ _ _ _ _ (T105.setTop (mkF m 112 #[.val (.ref ar), .val (.int (2 : Int32)), .val (.long (0 : Int64)), .second, .val (.long ((0 : Int64) + x0)), .second, .val (.long (9223372036854775807 : Int64)), .second, .val (.long (0 : Int64)), .second, .val (.int (0 : Int32)), .val (.long x0), .second] [(.long (fMi (9223372036854775807 : Int64) x0))]))
  refine Go.by (fun _ kont => XS.lstore X105.here hx rfl (hb hby dO2_112) rfl (l' := #[.val (.ref ar), .val (.int (2 : Int32)), .val (.long (0 : Int64)), .second, .val (.long ((0 : Int64) + x0)), .second, .val (.long (fMi (9223372036854775807 : Int64) x0)), .second, .val (.long (0 : Int64)), .second, .val (.int (0 : Int32)), .val (.long x0), .second]) rfl (XS.lload X105.here hx rfl (hb hby dO2_114) rfl (XS.lload X105.here hx rfl (hb hby dO2_116) rfl kont))) ?_
  show Go _ _ _ _ _ _ _ (T105.setTop (mkF m 118 #[.val (.ref ar), .val (.int (2 : Int32)), .val (.long (0 : Int64)), .second, .val (.long ((0 : Int64) + x0)), .second, .val (.long (fMi (9223372036854775807 : Int64) x0)), .second, .val (.long (0 : Int64)), .second, .val (.int (0 : Int32)), .val (.long x0), .second] [(.long x0), (.long (0 : Int64))]))
  obtain ⟨_, _, ⟨T106, L106, k106, n106⟩, -, X106, ⟨Lc106, hQ106, l106, y106, z106⟩, st106⟩ := Jvm.LawKit.callS X105 hx (y := (⟨"java/lang/Math", "max", "(JJ)J"⟩ : MethodName)) hown (mvT hZ (hw _ (List.mem_of_getElem? (i := 37) rfl))) (mvT hZ (hw _ (List.mem_of_getElem? (i := 38) rfl))) (mvT hZ (hw _ (List.mem_of_getElem? (i := 35) rfl))) (mvT hZ (hw _ (List.mem_of_getElem? (i := 39) rfl))) (by decide) (backOf (W := 0) (rmMa l Z a0 hw [] (0 : Int64) x0 h0 n0 Z0 ) hZ (hw _ (List.mem_of_getElem? (i := 39) rfl)) (hw _ (List.mem_of_getElem? (i := 35) rfl)) (by decide) (by decide)) (g := (mkF m 118 #[.val (.ref ar), .val (.int (2 : Int32)), .val (.long (0 : Int64)), .second, .val (.long ((0 : Int64) + x0)), .second, .val (.long (fMi (9223372036854775807 : Int64) x0)), .second, .val (.long (0 : Int64)), .second, .val (.int (0 : Int32)), .val (.long x0), .second] [(.long x0), (.long (0 : Int64))])) rfl (by rw [hml]; rfl) (argsL := [(.long (0 : Int64)), (.long x0)]) (rest := []) (lenOf pdO2_0 rfl) rfl (by show 2 * 0 + _ ≤ _; exact Nat.le_of_eq rfl) (hb hby dO2_118) (fun _ _ => ⟨rfl, eh105, (by decide : 0 + 0 ≤ _), (by decide : 0 + 0 ≤ _)⟩)
  dsimp only [Pt.U, Pt.locs, Pt.cells, Pt.slots] at X106 l106 y106 z106 st106 hQ106
  subst l106 y106 z106
  obtain ⟨rfl, N106q, eh106⟩ := hQ106
  have N106 := Fr.app N105 N106q
  refine Go.by st106 ?_
  show Go _ _ _ _ _ _ _ (T106.setTop (mkF m 121 #[.val (.ref ar), .val (.int (2 : Int32)), .val (.long (0 : Int64)), .second, .val (.long ((0 : Int64) + x0)), .second, .val (.long (fMi (9223372036854775807 : Int64) x0)), .second, .val (.long (0 : Int64)), .second, .val (.int (0 : Int32)), .val (.long x0), .second] [(.long (fMa (0 : Int64) x0))]))
  refine Go.by (fun _ kont => XS.lstore X106.here hx rfl (hb hby dO2_121) rfl (l' := #[.val (.ref ar), .val (.int (2 : Int32)), .val (.long (0 : Int64)), .second, .val (.long ((0 : Int64) + x0)), .second, .val (.long (fMi (9223372036854775807 : Int64) x0)), .second, .val (.long (fMa (0 : Int64) x0)), .second, .val (.int (0 : Int32)), .val (.long x0), .second]) rfl (XS.iinc X106.here hx rfl (hb hby dO2_123) rfl (l' := #[.val (.ref ar), .val (.int (2 : Int32)), .val (.long (0 : Int64)), .second, .val (.long ((0 : Int64) + x0)), .second, .val (.long (fMi (9223372036854775807 : Int64) x0)), .second, .val (.long (fMa (0 : Int64) x0)), .second, .val (.int (1 : Int32)), .val (.long x0), .second]) rfl (XS.goto X106.here hx rfl (pc0 := 126) (pc' := 43) rfl (hb hby dO2_126) (by decide) (by decide) (XS.iload X106.here hx rfl (hb hby dO2_43) rfl (XS.iloadN X106.here hx rfl (hb hby dO2_45) rfl (XS.icmpNo X106.here hx rfl (hb hby dO2_46) rfl (by decide) kont)))))) ?_
  show Go _ _ _ _ _ _ _ (T106.setTop (mkF m 49 #[.val (.ref ar), .val (.int (2 : Int32)), .val (.long (0 : Int64)), .second, .val (.long ((0 : Int64) + x0)), .second, .val (.long (fMi (9223372036854775807 : Int64) x0)), .second, .val (.long (fMa (0 : Int64) x0)), .second, .val (.int (1 : Int32)), .val (.long x0), .second] []))
  refine Go.by (fun _ kont => XS.aloadN X106.here hx rfl (hb hby dO2_49) rfl rfl (XS.iload X106.here hx rfl (hb hby dO2_50) rfl kont)) ?_
  show Go _ _ _ _ _ _ _ (T106.setTop (mkF m 52 #[.val (.ref ar), .val (.int (2 : Int32)), .val (.long (0 : Int64)), .second, .val (.long ((0 : Int64) + x0)), .second, .val (.long (fMi (9223372036854775807 : Int64) x0)), .second, .val (.long (fMa (0 : Int64) x0)), .second, .val (.int (1 : Int32)), .val (.long x0), .second] [(.int (1 : Int32)), (.ref ar)]))
  obtain ⟨cl_q107, Ar_q107, q1_q107, S_q107, N_q107, H_q107, G_q107⟩ := id Va
  have hin_q107 : ¬ ((1 : Int32) < 0 ∨ cl_q107.slots.size ≤ ((1 : Int32)).toNatClampNeg) := inb_of S_q107 ⟨by decide, by decide⟩
  have hat_q107 : cl_q107.slots[((1 : Int32)).toNatClampNeg]? = some (.long x1) := Has.at H_q107 hin_q107 rfl
  refine Go.by (X106.laload hx (j := (1 : Int32)) (v := (.long x1)) (by first | exact Ar_q107.1 | (rw [eh106]; exact Ar_q107.1)) (State.isArrayOf_alike hZ.alike Ar_q107.2.1) Ar_q107.2.2 hin_q107 hat_q107 (g := (mkF m 52 #[.val (.ref ar), .val (.int (2 : Int32)), .val (.long (0 : Int64)), .second, .val (.long ((0 : Int64) + x0)), .second, .val (.long (fMi (9223372036854775807 : Int64) x0)), .second, .val (.long (fMa (0 : Int64) x0)), .second, .val (.int (1 : Int32)), .val (.long x0), .second] [(.int (1 : Int32)), (.ref ar)])) rfl rfl (hb hby dO2_52)) ?_
  show Go _ _ _ _ _ _ _ (T106.setTop (mkF m 53 #[.val (.ref ar), .val (.int (2 : Int32)), .val (.long (0 : Int64)), .second, .val (.long ((0 : Int64) + x0)), .second, .val (.long (fMi (9223372036854775807 : Int64) x0)), .second, .val (.long (fMa (0 : Int64) x0)), .second, .val (.int (1 : Int32)), .val (.long x0), .second] [(.long x1)]))
  refine Go.by (fun _ kont => XS.lstore X106.here hx rfl (hb hby dO2_53) rfl (l' := #[.val (.ref ar), .val (.int (2 : Int32)), .val (.long (0 : Int64)), .second, .val (.long ((0 : Int64) + x0)), .second, .val (.long (fMi (9223372036854775807 : Int64) x0)), .second, .val (.long (fMa (0 : Int64) x0)), .second, .val (.int (1 : Int32)), .val (.long x1), .second]) rfl (XS.lload X106.here hx rfl (hb hby dO2_55) rfl (XS.lconst X106.here hx rfl (hb hby dO2_57) (XS.lcmp X106.here hx rfl (hb hby dO2_58) rfl kont)))) ?_
  show Go _ _ _ _ _ _ _ (T106.setTop (mkF m 59 #[.val (.ref ar), .val (.int (2 : Int32)), .val (.long (0 : Int64)), .second, .val (.long ((0 : Int64) + x0)), .second, .val (.long (fMi (9223372036854775807 : Int64) x0)), .second, .val (.long (fMa (0 : Int64) x0)), .second, .val (.int (1 : Int32)), .val (.long x1), .second] [(.int (lcmpW x1 (0 : Int64)))]))
  have hd108 : ¬ (x1 < (0 : Int64)) := own_nlt Bx1
  refine Go.by (fun _ kont => XS.ifYes X106.here hx rfl (pc0 := 59) (pc' := 79) rfl (hb hby dO2_59) rfl ((if0 _ _).trans (flt (fun z => hd108 ((lw_lt _ _).mp z))).2.1) (by decide) (by decide) kont) ?_
  show Go _ _ _ _ _ _ _ (T106.setTop (mkF m 79 #[.val (.ref ar), .val (.int (2 : Int32)), .val (.long (0 : Int64)), .second, .val (.long ((0 : Int64) + x0)), .second, .val (.long (fMi (9223372036854775807 : Int64) x0)), .second, .val (.long (fMa (0 : Int64) x0)), .second, .val (.int (1 : Int32)), .val (.long x1), .second] []))
  refine Go.by (fun _ kont => XS.lload X106.here hx rfl (hb hby dO2_79) rfl (XS.lload X106.here hx rfl (hb hby dO2_81) rfl (XS.ladd X106.here hx rfl (hb hby dO2_83) rfl (XS.lstore X106.here hx rfl (hb hby dO2_84) rfl (l' := #[.val (.ref ar), .val (.int (2 : Int32)), .val (.long (0 : Int64)), .second, .val (.long (((0 : Int64) + x0) + x1)), .second, .val (.long (fMi (9223372036854775807 : Int64) x0)), .second, .val (.long (fMa (0 : Int64) x0)), .second, .val (.int (1 : Int32)), .val (.long x1), .second]) rfl (XS.lload X106.here hx rfl (hb hby dO2_86) rfl (XS.lconst X106.here hx rfl (hb hby dO2_88) kont)))))) ?_
  show Go _ _ _ _ _ _ _ (T106.setTop (mkF m 89 #[.val (.ref ar), .val (.int (2 : Int32)), .val (.long (0 : Int64)), .second, .val (.long (((0 : Int64) + x0) + x1)), .second, .val (.long (fMi (9223372036854775807 : Int64) x0)), .second, .val (.long (fMa (0 : Int64) x0)), .second, .val (.int (1 : Int32)), .val (.long x1), .second] [(.long (0 : Int64)), (.long (((0 : Int64) + x0) + x1))]))
  refine Go.by (fun _ kont => XS.lcmp X106.here hx rfl (hb hby dO2_89) rfl kont) ?_
  show Go _ _ _ _ _ _ _ (T106.setTop (mkF m 90 #[.val (.ref ar), .val (.int (2 : Int32)), .val (.long (0 : Int64)), .second, .val (.long (((0 : Int64) + x0) + x1)), .second, .val (.long (fMi (9223372036854775807 : Int64) x0)), .second, .val (.long (fMa (0 : Int64) x0)), .second, .val (.int (1 : Int32)), .val (.long x1), .second] [(.int (lcmpW (((0 : Int64) + x0) + x1) (0 : Int64)))]))
  have hd109 : ¬ ((((0 : Int64) + x0) + x1) < (0 : Int64)) := own_s2 Bx0 Bx1
  refine Go.by (fun _ kont => XS.ifYes X106.here hx rfl (pc0 := 90) (pc' := 105) rfl (hb hby dO2_90) rfl ((if0 _ _).trans (flt (fun z => hd109 ((lw_lt _ _).mp z))).2.1) (by decide) (by decide) kont) ?_
  show Go _ _ _ _ _ _ _ (T106.setTop (mkF m 105 #[.val (.ref ar), .val (.int (2 : Int32)), .val (.long (0 : Int64)), .second, .val (.long (((0 : Int64) + x0) + x1)), .second, .val (.long (fMi (9223372036854775807 : Int64) x0)), .second, .val (.long (fMa (0 : Int64) x0)), .second, .val (.int (1 : Int32)), .val (.long x1), .second] []))
  refine Go.by (fun _ kont => XS.lload X106.here hx rfl (hb hby dO2_105) rfl (XS.lload X106.here hx rfl (hb hby dO2_107) rfl kont)) ?_
  show Go _ _ _ _ _ _ _ (T106.setTop (mkF m 109 #[.val (.ref ar), .val (.int (2 : Int32)), .val (.long (0 : Int64)), .second, .val (.long (((0 : Int64) + x0) + x1)), .second, .val (.long (fMi (9223372036854775807 : Int64) x0)), .second, .val (.long (fMa (0 : Int64) x0)), .second, .val (.int (1 : Int32)), .val (.long x1), .second] [(.long x1), (.long (fMi (9223372036854775807 : Int64) x0))]))
  obtain ⟨_, _, ⟨T110, L110, k110, n110⟩, -, X110, ⟨Lc110, hQ110, l110, y110, z110⟩, st110⟩ := Jvm.LawKit.callS X106 hx (y := (⟨"java/lang/Math", "min", "(JJ)J"⟩ : MethodName)) hown (mvT hZ (hw _ (List.mem_of_getElem? (i := 33) rfl))) (mvT hZ (hw _ (List.mem_of_getElem? (i := 34) rfl))) (mvT hZ (hw _ (List.mem_of_getElem? (i := 35) rfl))) (mvT hZ (hw _ (List.mem_of_getElem? (i := 36) rfl))) (by decide) (backOf (W := 0) (rmMi l Z a0 hw [] (fMi (9223372036854775807 : Int64) x0) x1 h0 n0 Z0 ) hZ (hw _ (List.mem_of_getElem? (i := 36) rfl)) (hw _ (List.mem_of_getElem? (i := 35) rfl)) (by decide) (by decide)) (g := (mkF m 109 #[.val (.ref ar), .val (.int (2 : Int32)), .val (.long (0 : Int64)), .second, .val (.long (((0 : Int64) + x0) + x1)), .second, .val (.long (fMi (9223372036854775807 : Int64) x0)), .second, .val (.long (fMa (0 : Int64) x0)), .second, .val (.int (1 : Int32)), .val (.long x1), .second] [(.long x1), (.long (fMi (9223372036854775807 : Int64) x0))])) rfl (by rw [hml]; rfl) (argsL := [(.long (fMi (9223372036854775807 : Int64) x0)), (.long x1)]) (rest := []) (lenOf pdO2_0 rfl) rfl (by show 2 * 0 + _ ≤ _; exact Nat.le_of_eq rfl) (hb hby dO2_109) (fun _ _ => ⟨rfl, eh106, (by decide : 0 + 0 ≤ _), (by decide : 0 + 0 ≤ _)⟩)
  dsimp only [Pt.U, Pt.locs, Pt.cells, Pt.slots] at X110 l110 y110 z110 st110 hQ110
  subst l110 y110 z110
  obtain ⟨rfl, N110q, eh110⟩ := hQ110
  have N110 := Fr.app N106 N110q
  refine Go.by st110 ?_
  show Go _ _ _ _ _ _ _ (T110.setTop (mkF m 112 #[.val (.ref ar), .val (.int (2 : Int32)), .val (.long (0 : Int64)), .second, .val (.long (((0 : Int64) + x0) + x1)), .second, .val (.long (fMi (9223372036854775807 : Int64) x0)), .second, .val (.long (fMa (0 : Int64) x0)), .second, .val (.int (1 : Int32)), .val (.long x1), .second] [(.long (fMi (fMi (9223372036854775807 : Int64) x0) x1))]))
  refine Go.by (fun _ kont => XS.lstore X110.here hx rfl (hb hby dO2_112) rfl (l' := #[.val (.ref ar), .val (.int (2 : Int32)), .val (.long (0 : Int64)), .second, .val (.long (((0 : Int64) + x0) + x1)), .second, .val (.long (fMi (fMi (9223372036854775807 : Int64) x0) x1)), .second, .val (.long (fMa (0 : Int64) x0)), .second, .val (.int (1 : Int32)), .val (.long x1), .second]) rfl (XS.lload X110.here hx rfl (hb hby dO2_114) rfl (XS.lload X110.here hx rfl (hb hby dO2_116) rfl kont))) ?_
  show Go _ _ _ _ _ _ _ (T110.setTop (mkF m 118 #[.val (.ref ar), .val (.int (2 : Int32)), .val (.long (0 : Int64)), .second, .val (.long (((0 : Int64) + x0) + x1)), .second, .val (.long (fMi (fMi (9223372036854775807 : Int64) x0) x1)), .second, .val (.long (fMa (0 : Int64) x0)), .second, .val (.int (1 : Int32)), .val (.long x1), .second] [(.long x1), (.long (fMa (0 : Int64) x0))]))
  obtain ⟨_, _, ⟨T111, L111, k111, n111⟩, -, X111, ⟨Lc111, hQ111, l111, y111, z111⟩, st111⟩ := Jvm.LawKit.callS X110 hx (y := (⟨"java/lang/Math", "max", "(JJ)J"⟩ : MethodName)) hown (mvT hZ (hw _ (List.mem_of_getElem? (i := 37) rfl))) (mvT hZ (hw _ (List.mem_of_getElem? (i := 38) rfl))) (mvT hZ (hw _ (List.mem_of_getElem? (i := 35) rfl))) (mvT hZ (hw _ (List.mem_of_getElem? (i := 39) rfl))) (by decide) (backOf (W := 0) (rmMa l Z a0 hw [] (fMa (0 : Int64) x0) x1 h0 n0 Z0 ) hZ (hw _ (List.mem_of_getElem? (i := 39) rfl)) (hw _ (List.mem_of_getElem? (i := 35) rfl)) (by decide) (by decide)) (g := (mkF m 118 #[.val (.ref ar), .val (.int (2 : Int32)), .val (.long (0 : Int64)), .second, .val (.long (((0 : Int64) + x0) + x1)), .second, .val (.long (fMi (fMi (9223372036854775807 : Int64) x0) x1)), .second, .val (.long (fMa (0 : Int64) x0)), .second, .val (.int (1 : Int32)), .val (.long x1), .second] [(.long x1), (.long (fMa (0 : Int64) x0))])) rfl (by rw [hml]; rfl) (argsL := [(.long (fMa (0 : Int64) x0)), (.long x1)]) (rest := []) (lenOf pdO2_0 rfl) rfl (by show 2 * 0 + _ ≤ _; exact Nat.le_of_eq rfl) (hb hby dO2_118) (fun _ _ => ⟨rfl, eh110, (by decide : 0 + 0 ≤ _), (by decide : 0 + 0 ≤ _)⟩)
  dsimp only [Pt.U, Pt.locs, Pt.cells, Pt.slots] at X111 l111 y111 z111 st111 hQ111
  subst l111 y111 z111
  obtain ⟨rfl, N111q, eh111⟩ := hQ111
  have N111 := Fr.app N110 N111q
  refine Go.by st111 ?_
  show Go _ _ _ _ _ _ _ (T111.setTop (mkF m 121 #[.val (.ref ar), .val (.int (2 : Int32)), .val (.long (0 : Int64)), .second, .val (.long (((0 : Int64) + x0) + x1)), .second, .val (.long (fMi (fMi (9223372036854775807 : Int64) x0) x1)), .second, .val (.long (fMa (0 : Int64) x0)), .second, .val (.int (1 : Int32)), .val (.long x1), .second] [(.long (fMa (fMa (0 : Int64) x0) x1))]))
  refine Go.by (fun _ kont => XS.lstore X111.here hx rfl (hb hby dO2_121) rfl (l' := #[.val (.ref ar), .val (.int (2 : Int32)), .val (.long (0 : Int64)), .second, .val (.long (((0 : Int64) + x0) + x1)), .second, .val (.long (fMi (fMi (9223372036854775807 : Int64) x0) x1)), .second, .val (.long (fMa (fMa (0 : Int64) x0) x1)), .second, .val (.int (1 : Int32)), .val (.long x1), .second]) rfl (XS.iinc X111.here hx rfl (hb hby dO2_123) rfl (l' := #[.val (.ref ar), .val (.int (2 : Int32)), .val (.long (0 : Int64)), .second, .val (.long (((0 : Int64) + x0) + x1)), .second, .val (.long (fMi (fMi (9223372036854775807 : Int64) x0) x1)), .second, .val (.long (fMa (fMa (0 : Int64) x0) x1)), .second, .val (.int (2 : Int32)), .val (.long x1), .second]) rfl (XS.goto X111.here hx rfl (pc0 := 126) (pc' := 43) rfl (hb hby dO2_126) (by decide) (by decide) (XS.iload X111.here hx rfl (hb hby dO2_43) rfl (XS.iloadN X111.here hx rfl (hb hby dO2_45) rfl (XS.icmpYes X111.here hx rfl (pc0 := 46) (pc' := 129) rfl (hb hby dO2_46) rfl (by decide) (by decide) (by decide) kont)))))) ?_
  show Go _ _ _ _ _ _ _ (T111.setTop (mkF m 129 #[.val (.ref ar), .val (.int (2 : Int32)), .val (.long (0 : Int64)), .second, .val (.long (((0 : Int64) + x0) + x1)), .second, .val (.long (fMi (fMi (9223372036854775807 : Int64) x0) x1)), .second, .val (.long (fMa (fMa (0 : Int64) x0) x1)), .second, .val (.int (2 : Int32)), .val (.long x1), .second] []))
  refine Go.by (fun _ kont => XS.lloadN X111.here hx rfl (hb hby dO2_129) rfl kont) ?_
  show Go _ _ _ _ _ _ _ (T111.setTop (mkF m 130 #[.val (.ref ar), .val (.int (2 : Int32)), .val (.long (0 : Int64)), .second, .val (.long (((0 : Int64) + x0) + x1)), .second, .val (.long (fMi (fMi (9223372036854775807 : Int64) x0) x1)), .second, .val (.long (fMa (fMa (0 : Int64) x0) x1)), .second, .val (.int (2 : Int32)), .val (.long x1), .second] [(.long (0 : Int64))]))
  obtain ⟨_, _, ⟨T112, L112, k112, n112⟩, -, X112, ⟨Lc112, hQ112, l112, y112, z112⟩, st112⟩ := Jvm.LawKit.callS X111 hx (y := (⟨"java/math/BigInteger", "valueOf", "(J)Ljava/math/BigInteger;"⟩ : MethodName)) hown (mvT hZ (hw _ (List.mem_of_getElem? (i := 40) rfl))) (mvT hZ (hw _ (List.mem_of_getElem? (i := 41) rfl))) (mvT hZ (hw _ (List.mem_of_getElem? (i := 42) rfl))) (mvT hZ (hw _ (List.mem_of_getElem? (i := 43) rfl))) (by decide) (backOf (W := 0) (rmV0 l Z a0 hw [] z0 h0 n0 Z0 SZ0) hZ (hw _ (List.mem_of_getElem? (i := 43) rfl)) (hw _ (List.mem_of_getElem? (i := 42) rfl)) (by decide) (by decide)) (g := (mkF m 130 #[.val (.ref ar), .val (.int (2 : Int32)), .val (.long (0 : Int64)), .second, .val (.long (((0 : Int64) + x0) + x1)), .second, .val (.long (fMi (fMi (9223372036854775807 : Int64) x0) x1)), .second, .val (.long (fMa (fMa (0 : Int64) x0) x1)), .second, .val (.int (2 : Int32)), .val (.long x1), .second] [(.long (0 : Int64))])) rfl (by rw [hml]; rfl) (argsL := [(.long (0 : Int64))]) (rest := []) (lenOf pdO2_1 rfl) rfl (by show 2 * 0 + _ ≤ _; exact Nat.le_of_eq rfl) (hb hby dO2_130) (fun _ _ => ⟨rfl, eh111, (by decide : 0 + 0 ≤ _), (by decide : 0 + 0 ≤ _)⟩)
  dsimp only [Pt.U, Pt.locs, Pt.cells, Pt.slots] at X112 l112 y112 z112 st112 hQ112
  subst l112 y112 z112
  obtain ⟨rfl, N112q, eh112⟩ := hQ112
  have N112 := Fr.app N111 N112q
  refine Go.by st112 ?_
  show Go _ _ _ _ _ _ _ (T112.setTop (mkF m 133 #[.val (.ref ar), .val (.int (2 : Int32)), .val (.long (0 : Int64)), .second, .val (.long (((0 : Int64) + x0) + x1)), .second, .val (.long (fMi (fMi (9223372036854775807 : Int64) x0) x1)), .second, .val (.long (fMa (fMa (0 : Int64) x0) x1)), .second, .val (.int (2 : Int32)), .val (.long x1), .second] [(.ref z0)]))
  refine Go.by (fun _ kont => XS.bipush X112.here hx rfl (hb hby dO2_133) kont) ?_
  show Go _ _ _ _ _ _ _ (T112.setTop (mkF m 135 #[.val (.ref ar), .val (.int (2 : Int32)), .val (.long (0 : Int64)), .second, .val (.long (((0 : Int64) + x0) + x1)), .second, .val (.long (fMi (fMi (9223372036854775807 : Int64) x0) x1)), .second, .val (.long (fMa (fMa (0 : Int64) x0) x1)), .second, .val (.int (2 : Int32)), .val (.long x1), .second] [(.int (63 : Int32)), (.ref z0)]))
  obtain ⟨cq113, kq113, q113a, q113b, q113c⟩ := isOf hZ eh112 EZ0
  obtain ⟨_, _, ⟨T113, L113, k113, n113⟩, -, X113, ⟨Lc113, hQ113, l113, y113, z113⟩, st113⟩ := X112.virtualBack hx (y := (⟨"java/math/BigInteger", "shiftLeft", "(I)Ljava/math/BigInteger;"⟩ : MethodName)) (z := (⟨"java/math/BigInteger", "shiftLeft", "(I)Ljava/math/BigInteger;"⟩ : MethodName)) hown (mvT hZ (hw _ (List.mem_of_getElem? (i := 45) rfl))) (mvT hZ (hw _ (List.mem_of_getElem? (i := 46) rfl))) (notFace_of_selects (args := #[]) (mvT hZ (hw _ (List.mem_of_getElem? (i := 48) rfl)))) (mvT hZ (hw _ (List.mem_of_getElem? (i := 48) rfl))) (mvT hZ (hw _ (List.mem_of_getElem? (i := 47) rfl))) (by decide) (backOf (W := 0) (rmSl l Z a0 hw [] z0 h0 n0 Z0 EZ0 FZ0 SZ0) hZ (hw _ (List.mem_of_getElem? (i := 49) rfl)) (hw _ (List.mem_of_getElem? (i := 42) rfl)) (by decide) (by decide)) q113a q113c (g := (mkF m 135 #[.val (.ref ar), .val (.int (2 : Int32)), .val (.long (0 : Int64)), .second, .val (.long (((0 : Int64) + x0) + x1)), .second, .val (.long (fMi (fMi (9223372036854775807 : Int64) x0) x1)), .second, .val (.long (fMa (fMa (0 : Int64) x0) x1)), .second, .val (.int (2 : Int32)), .val (.long x1), .second] [(.int (63 : Int32)), (.ref z0)])) rfl (by rw [hml]; rfl) (Steps.refl _) (argsL := [(.int (63 : Int32))]) (rest := []) (lenOf pdO2_2 rfl) rfl (by show 2 * 0 + _ ≤ _; exact Nat.le_of_eq rfl) (hb hby dO2_135) (fun _ _ => ⟨rfl, eh112, (by decide : 0 + 0 ≤ _), (by decide : 0 + 0 ≤ _)⟩)
  dsimp only [Pt.U, Pt.locs, Pt.cells, Pt.slots] at X113 l113 y113 z113 st113 hQ113
  subst l113 y113 z113
  obtain ⟨rfl, N113q, eh113⟩ := hQ113
  have N113 := Fr.app N112 N113q
  refine Go.tr st113 ?_
  show Go _ _ _ _ _ _ _ (T113.setTop (mkF m 138 #[.val (.ref ar), .val (.int (2 : Int32)), .val (.long (0 : Int64)), .second, .val (.long (((0 : Int64) + x0) + x1)), .second, .val (.long (fMi (fMi (9223372036854775807 : Int64) x0) x1)), .second, .val (.long (fMa (fMa (0 : Int64) x0) x1)), .second, .val (.int (2 : Int32)), .val (.long x1), .second] [(.ref z0)]))
  refine Go.by (fun _ kont => XS.lload X113.here hx rfl (hb hby dO2_138) rfl kont) ?_
  show Go _ _ _ _ _ _ _ (T113.setTop (mkF m 140 #[.val (.ref ar), .val (.int (2 : Int32)), .val (.long (0 : Int64)), .second, .val (.long (((0 : Int64) + x0) + x1)), .second, .val (.long (fMi (fMi (9223372036854775807 : Int64) x0) x1)), .second, .val (.long (fMa (fMa (0 : Int64) x0) x1)), .second, .val (.int (2 : Int32)), .val (.long x1), .second] [(.long (((0 : Int64) + x0) + x1)), (.ref z0)]))
  obtain ⟨_, _, ⟨T114, L114, k114, n114⟩, -, X114, ⟨Lc114, hQ114, l114, y114, z114⟩, st114⟩ := Jvm.LawKit.callS X113 hx (y := (⟨"java/math/BigInteger", "valueOf", "(J)Ljava/math/BigInteger;"⟩ : MethodName)) hown (mvT hZ (hw _ (List.mem_of_getElem? (i := 40) rfl))) (mvT hZ (hw _ (List.mem_of_getElem? (i := 41) rfl))) (mvT hZ (hw _ (List.mem_of_getElem? (i := 42) rfl))) (mvT hZ (hw _ (List.mem_of_getElem? (i := 43) rfl))) (by decide) (backOf (W := 1) (rmV l Z a0 hw [] (((0 : Int64) + x0) + x1) z0 pa h0 n0 Z0 O0 SZ EZ FZ SP HP hv2) hZ (hw _ (List.mem_of_getElem? (i := 43) rfl)) (hw _ (List.mem_of_getElem? (i := 42) rfl)) (by decide) (by decide)) (g := (mkF m 140 #[.val (.ref ar), .val (.int (2 : Int32)), .val (.long (0 : Int64)), .second, .val (.long (((0 : Int64) + x0) + x1)), .second, .val (.long (fMi (fMi (9223372036854775807 : Int64) x0) x1)), .second, .val (.long (fMa (fMa (0 : Int64) x0) x1)), .second, .val (.int (2 : Int32)), .val (.long x1), .second] [(.long (((0 : Int64) + x0) + x1)), (.ref z0)])) rfl (by rw [hml]; rfl) (argsL := [(.long (((0 : Int64) + x0) + x1))]) (rest := [(.ref z0)]) (lenOf pdO2_1 rfl) rfl (by show 2 * 0 + _ ≤ _; exact Nat.le_of_eq rfl) (hb hby dO2_140) (fun _ _ => ⟨rfl, eh113, (by decide : 0 + 2 ≤ _), (by decide : 0 + 8 ≤ _)⟩)
  dsimp only [Pt.U, Pt.locs, Pt.cells, Pt.slots] at X114 l114 y114 z114 st114 hQ114
  subst l114 y114 z114
  obtain ⟨y114, sg114, rfl, N114q, K114, hsg114, E114z, F114z⟩ := hQ114
  have S115_ZERO := own_stakeep SZ0 K114 all0
  have S115_posConst := own_stakeep SP0 K114 all0
  have F115_signum_z0 := FZ0.keep K114 nin0
  have E115_z0 := EZ0.keep K114
  have V115_ar := Va.keep K114 nin0
  have P115_old := O0.keep K114 all0
  have Z115 := Nat.le_trans Z0 K114.1
  have K115 : Keep h0 T114.heap [] := Keep.trans (Keep.refl h0 []) K114 all0
  have N114 := Fr.app N113 N114q
  refine Go.by st114 ?_
  show Go _ _ _ _ _ _ _ (T114.setTop (mkF m 143 #[.val (.ref ar), .val (.int (2 : Int32)), .val (.long (0 : Int64)), .second, .val (.long (((0 : Int64) + x0) + x1)), .second, .val (.long (fMi (fMi (9223372036854775807 : Int64) x0) x1)), .second, .val (.long (fMa (fMa (0 : Int64) x0) x1)), .second, .val (.int (2 : Int32)), .val (.long x1), .second] [(.ref y114), (.ref z0)]))
  obtain ⟨cq116, kq116, q116a, q116b, q116c⟩ := isOf hZ rfl E115_z0
  obtain ⟨_, _, ⟨T116, L116, k116, n116⟩, -, X116, ⟨Lc116, hQ116, l116, y116, z116⟩, st116⟩ := X114.virtualBack hx (y := (⟨"java/math/BigInteger", "add", "(Ljava/math/BigInteger;)Ljava/math/BigInteger;"⟩ : MethodName)) (z := (⟨"java/math/BigInteger", "add", "(Ljava/math/BigInteger;)Ljava/math/BigInteger;"⟩ : MethodName)) hown (mvT hZ (hw _ (List.mem_of_getElem? (i := 54) rfl))) (mvT hZ (hw _ (List.mem_of_getElem? (i := 55) rfl))) (notFace_of_selects (args := #[]) (mvT hZ (hw _ (List.mem_of_getElem? (i := 57) rfl)))) (mvT hZ (hw _ (List.mem_of_getElem? (i := 57) rfl))) (mvT hZ (hw _ (List.mem_of_getElem? (i := 56) rfl))) (by decide) (backOf (W := 0) (rmAd l Z a0 hw [] z0 y114 sg114 T114.heap n0 Z115 F115_signum_z0 F114z) hZ (hw _ (List.mem_of_getElem? (i := 58) rfl)) (hw _ (List.mem_of_getElem? (i := 42) rfl)) (by decide) (by decide)) q116a q116c (g := (mkF m 143 #[.val (.ref ar), .val (.int (2 : Int32)), .val (.long (0 : Int64)), .second, .val (.long (((0 : Int64) + x0) + x1)), .second, .val (.long (fMi (fMi (9223372036854775807 : Int64) x0) x1)), .second, .val (.long (fMa (fMa (0 : Int64) x0) x1)), .second, .val (.int (2 : Int32)), .val (.long x1), .second] [(.ref y114), (.ref z0)])) rfl (by rw [hml]; rfl) (Steps.refl _) (argsL := [(.ref y114)]) (rest := []) (lenOf pdO2_3 rfl) rfl (by show 2 * 0 + _ ≤ _; exact Nat.le_of_eq rfl) (hb hby dO2_143) (fun _ _ => ⟨rfl, rfl, (by decide : 2 + 0 ≤ _), (by decide : 8 + 0 ≤ _)⟩)
  dsimp only [Pt.U, Pt.locs, Pt.cells, Pt.slots] at X116 l116 y116 z116 st116 hQ116
  subst l116 y116 z116
  obtain ⟨y116, rfl, N116q, eh116⟩ := hQ116
  have N116 := Fr.app N114 N116q
  refine Go.tr st116 ?_
  show Go _ _ _ _ _ _ _ (T116.setTop (mkF m 146 #[.val (.ref ar), .val (.int (2 : Int32)), .val (.long (0 : Int64)), .second, .val (.long (((0 : Int64) + x0) + x1)), .second, .val (.long (fMi (fMi (9223372036854775807 : Int64) x0) x1)), .second, .val (.long (fMa (fMa (0 : Int64) x0) x1)), .second, .val (.int (2 : Int32)), .val (.long x1), .second] [(.ref y116)]))
  refine Go.by (fun _ kont => XS.astore X116.here hx rfl (hb hby dO2_146) rfl rfl (l' := #[.val (.ref ar), .val (.int (2 : Int32)), .val (.long (0 : Int64)), .second, .val (.long (((0 : Int64) + x0) + x1)), .second, .val (.long (fMi (fMi (9223372036854775807 : Int64) x0) x1)), .second, .val (.long (fMa (fMa (0 : Int64) x0) x1)), .second, .val (.ref y116), .val (.long x1), .second]) rfl kont) ?_
  show Go _ _ _ _ _ _ _ (T116.setTop (mkF m 148 #[.val (.ref ar), .val (.int (2 : Int32)), .val (.long (0 : Int64)), .second, .val (.long (((0 : Int64) + x0) + x1)), .second, .val (.long (fMi (fMi (9223372036854775807 : Int64) x0) x1)), .second, .val (.long (fMa (fMa (0 : Int64) x0) x1)), .second, .val (.ref y116), .val (.long x1), .second] []))
  obtain ⟨T117, h117, X117, e117, X_117, A117, D117, -, st117⟩ := newO X116 hx hZ hown (hw _ (List.mem_of_getElem? (i := 59) rfl)) (hw _ (List.mem_of_getElem? (i := 60) rfl)) (hw _ (List.mem_of_getElem? (i := 30) rfl)) eh116 (g := (mkF m 148 #[.val (.ref ar), .val (.int (2 : Int32)), .val (.long (0 : Int64)), .second, .val (.long (((0 : Int64) + x0) + x1)), .second, .val (.long (fMi (fMi (9223372036854775807 : Int64) x0) x1)), .second, .val (.long (fMa (fMa (0 : Int64) x0) x1)), .second, .val (.ref y116), .val (.long x1), .second] [])) rfl (hb hby dO2_148) (by decide) (by decide)
  obtain ⟨b117, g117⟩ : ∃ z, z = T114.heap.size := ⟨_, rfl⟩
  rw [← g117] at A117 D117 st117
  have ne_z0_b117 : z0 ≠ b117 := Nat.ne_of_lt (Nat.lt_of_lt_of_le F115_signum_z0.lt (Nat.le_of_eq g117.symm))
  have ne_y114_b117 : y114 ≠ b117 := Nat.ne_of_lt (Nat.lt_of_lt_of_le F114z.lt (Nat.le_of_eq g117.symm))
  have ne_ar_b117 : ar ≠ b117 := Nat.ne_of_lt (Nat.lt_of_lt_of_le V115_ar.lt (Nat.le_of_eq g117.symm))
  have ge_b117 : n0 ≤ b117 := Nat.le_trans Z115 (Nat.le_of_eq g117.symm)
  have sz_b117 : h0.size ≤ b117 := Nat.le_trans K115.1 (Nat.le_of_eq g117.symm)
  have F118_signum_z0 := F115_signum_z0.ext X_117
  have F118_signum_y114 := F114z.ext X_117
  have E118_z0 := E115_z0.ext X_117
  have E118_y114 := E114z.ext X_117
  have V118_ar := V115_ar.ext X_117
  have S118_ZERO := S115_ZERO.ext X_117
  have S118_posConst := S115_posConst.ext X_117
  have P118_old := P115_old.ext X_117
  have Z118 := Nat.le_trans Z115 X_117.1
  have K118 : Keep h0 h117 [] := K115.ext X_117
  have F117_total : Fld Z h117 b117 "com/example/quorumsmith/quorumsmith/engine/CountSummary" "total" "Ljava/math/BigInteger;" .null := D117 (Or.inr (hw _ (List.mem_of_getElem? (i := 75) rfl))) (ty := (.object "java/math/BigInteger")) (by decide)
  have F117_members : Fld Z h117 b117 "com/example/quorumsmith/quorumsmith/engine/CountSummary" "members" "J" (.long (0 : Int64)) := D117 (Or.inr (hw _ (List.mem_of_getElem? (i := 77) rfl))) (ty := .long) (by decide)
  have F117_min : Fld Z h117 b117 "com/example/quorumsmith/quorumsmith/engine/CountSummary" "min" "J" (.long (0 : Int64)) := D117 (Or.inr (hw _ (List.mem_of_getElem? (i := 79) rfl))) (ty := .long) (by decide)
  have F117_max : Fld Z h117 b117 "com/example/quorumsmith/quorumsmith/engine/CountSummary" "max" "J" (.long (0 : Int64)) := D117 (Or.inr (hw _ (List.mem_of_getElem? (i := 81) rfl))) (ty := .long) (by decide)
  refine Go.by st117 ?_
  show Go _ _ _ _ _ _ _ (T117.setTop (mkF m 151 #[.val (.ref ar), .val (.int (2 : Int32)), .val (.long (0 : Int64)), .second, .val (.long (((0 : Int64) + x0) + x1)), .second, .val (.long (fMi (fMi (9223372036854775807 : Int64) x0) x1)), .second, .val (.long (fMa (fMa (0 : Int64) x0) x1)), .second, .val (.ref y116), .val (.long x1), .second] [(.ref b117)]))
  refine Go.by (fun _ kont => XS.dup X117.here hx rfl (hb hby dO2_151) rfl rfl (XS.aload X117.here hx rfl (hb hby dO2_152) rfl rfl (XS.iloadN X117.here hx rfl (hb hby dO2_154) rfl (XS.i2l X117.here hx rfl (hb hby dO2_155) rfl kont)))) ?_
  show Go _ _ _ _ _ _ _ (T117.setTop (mkF m 156 #[.val (.ref ar), .val (.int (2 : Int32)), .val (.long (0 : Int64)), .second, .val (.long (((0 : Int64) + x0) + x1)), .second, .val (.long (fMi (fMi (9223372036854775807 : Int64) x0) x1)), .second, .val (.long (fMa (fMa (0 : Int64) x0) x1)), .second, .val (.ref y116), .val (.long x1), .second] [(.long ((2 : Int32).toInt64)), (.ref y116), (.ref b117), (.ref b117)]))
  rw [show ((2 : Int32).toInt64) = (2 : Int64) from by decide]
  show Go _ _ _ _ _ _ _ (T117.setTop (mkF m 156 #[.val (.ref ar), .val (.int (2 : Int32)), .val (.long (0 : Int64)), .second, .val (.long (((0 : Int64) + x0) + x1)), .second, .val (.long (fMi (fMi (9223372036854775807 : Int64) x0) x1)), .second, .val (.long (fMa (fMa (0 : Int64) x0) x1)), .second, .val (.ref y116), .val (.long x1), .second] [(.long (2 : Int64)), (.ref y116), (.ref b117), (.ref b117)]))
  refine Go.by (fun _ kont => XS.lload X117.here hx rfl (hb hby dO2_156) rfl (XS.lload X117.here hx rfl (hb hby dO2_158) rfl kont)) ?_
  show Go _ _ _ _ _ _ _ (T117.setTop (mkF m 160 #[.val (.ref ar), .val (.int (2 : Int32)), .val (.long (0 : Int64)), .second, .val (.long (((0 : Int64) + x0) + x1)), .second, .val (.long (fMi (fMi (9223372036854775807 : Int64) x0) x1)), .second, .val (.long (fMa (fMa (0 : Int64) x0) x1)), .second, .val (.ref y116), .val (.long x1), .second] [(.long (fMa (fMa (0 : Int64) x0) x1)), (.long (fMi (fMi (9223372036854775807 : Int64) x0) x1)), (.long (2 : Int64)), (.ref y116), (.ref b117), (.ref b117)]))
  obtain ⟨_, _, ⟨T119, L119, k119, n119⟩, -, X119, ⟨Lc119, hQ119, l119, y119, z119⟩, st119⟩ := X117.specialBack hx (y := (⟨"com/example/quorumsmith/quorumsmith/engine/CountSummary", "<init>", "(Ljava/math/BigInteger;JJJ)V"⟩ : MethodName)) rfl hown (mvT hZ (hw _ (List.mem_of_getElem? (i := 61) rfl))) (mvT hZ (hw _ (List.mem_of_getElem? (i := 62) rfl))) (mvT hZ (hw _ (List.mem_of_getElem? (i := 63) rfl))) (by decide) (backOf (W := 1) (rmC2 l Z a0 hw [] b117 y116 (fMi (fMi (9223372036854775807 : Int64) x0) x1) (fMa (fMa (0 : Int64) x0) x1) h117 n0 Z118 A117 F117_total F117_members F117_min F117_max ge_b117) hZ (hw _ (List.mem_of_getElem? (i := 63) rfl)) (hw _ (List.mem_of_getElem? (i := 30) rfl)) (by decide) (by decide)) (g := (mkF m 160 #[.val (.ref ar), .val (.int (2 : Int32)), .val (.long (0 : Int64)), .second, .val (.long (((0 : Int64) + x0) + x1)), .second, .val (.long (fMi (fMi (9223372036854775807 : Int64) x0) x1)), .second, .val (.long (fMa (fMa (0 : Int64) x0) x1)), .second, .val (.ref y116), .val (.long x1), .second] [(.long (fMa (fMa (0 : Int64) x0) x1)), (.long (fMi (fMi (9223372036854775807 : Int64) x0) x1)), (.long (2 : Int64)), (.ref y116), (.ref b117), (.ref b117)])) rfl (by rw [hml]; rfl) (Steps.refl _) (a := b117) (argsL := [(.ref y116), (.long (2 : Int64)), (.long (fMi (fMi (9223372036854775807 : Int64) x0) x1)), (.long (fMa (fMa (0 : Int64) x0) x1))]) (rest := [(.ref b117)]) (lenOf pdO2_4 rfl) rfl (by show 2 * 0 + _ ≤ _; exact Nat.le_of_eq rfl) (hb hby dO2_160) (fun _ _ => ⟨rfl, e117, (by decide : 3 + 0 ≤ _), (by decide : 12 + 0 ≤ _)⟩)
  dsimp only [Pt.U, Pt.locs, Pt.cells, Pt.slots] at X119 l119 y119 z119 st119 hQ119
  subst l119 y119 z119
  obtain ⟨rfl, N119q, K119, g119_0, g119_1, g119_2, g119_3, g119_4⟩ := hQ119
  have S120_ZERO := own_stakeep S118_ZERO K119 (allS (own_ns A117) all0)
  have S120_posConst := own_stakeep S118_posConst K119 (allS (own_ns A117) all0)
  have F120_signum_z0 := F118_signum_z0.keep K119 (ninS ne_z0_b117 nin0)
  have F120_signum_y114 := F118_signum_y114.keep K119 (ninS ne_y114_b117 nin0)
  have E120_z0 := E118_z0.keep K119
  have E120_y114 := E118_y114.keep K119
  have E120_b117 := A117.keep K119
  have V120_ar := V118_ar.keep K119 (ninS ne_ar_b117 nin0)
  have P120_old := P118_old.keep K119 (allS ge_b117 all0)
  have Z120 := Nat.le_trans Z118 K119.1
  have K120 : Keep h0 T119.heap [] := Keep.trans K118 K119 (allS (Or.inr sz_b117) all0)
  have N119 := Fr.app N116 N119q
  refine Go.tr st119 ?_
  show Go _ _ _ _ _ _ _ (T119.setTop (mkF m 163 #[.val (.ref ar), .val (.int (2 : Int32)), .val (.long (0 : Int64)), .second, .val (.long (((0 : Int64) + x0) + x1)), .second, .val (.long (fMi (fMi (9223372036854775807 : Int64) x0) x1)), .second, .val (.long (fMa (fMa (0 : Int64) x0) x1)), .second, .val (.ref y116), .val (.long x1), .second] [(.ref b117)]))
  refine Go.retR X119 hx hret rfl rfl hlk (hb hby dO2_163) ?_ (by decide) (by decide)
  show QO2 Z x0 x1 h0 n0 (some (.ref b117)) T119.heap _
  exact ⟨b117, rfl, N119, K120, ge_b117, sz_b117, g119_0, g119_3, g119_4⟩

theorem dMmS1_0 : decode prog_23_method_8_code 0 = .ok (.aload_n 0, 1) := by decide +kernel
theorem dMmS1_1 : decode prog_23_method_8_code 1 = .ok (.getfield 16, 3) := by decide +kernel
theorem dMmS1_4 : decode prog_23_method_8_code 4 = .ok (.iload_n 1, 1) := by decide +kernel
theorem dMmS1_5 : decode prog_23_method_8_code 5 = .ok (.invokestatic 63, 3) := by decide +kernel
theorem dMmS1_8 : decode prog_23_method_8_code 8 = .ok (.areturn, 1) := by decide +kernel
theorem pdMmS1_0 : parseMethodDescriptor "([JI)Lcom/example/quorumsmith/quorumsmith/engine/CountSummary;" = some ⟨[(.array .long), .int], some (.object "com/example/quorumsmith/quorumsmith/engine/CountSummary")⟩ := by decide +kernel
theorem pnMmS1 : plainName "com/example/quorumsmith/quorumsmith/engine/Network" = true := by first | (simp [plainName, overriddenIn]; done) | decide +kernel
theorem efMmS1 (m : MethodId) (a : Addr) : entryFrame m #[(.ref a), (.int (1 : Int32))] 2 = mkF m 0 #[.val (.ref a), .val (.int (1 : Int32))] [] := by first | (simp [entryFrame, mkF, argsToLocals, Value.category]; done) | rfl
def QMmS1 (Z : State) (x0 : Int64) (x1 : Int64) (h0 : Heap) (n0 : Nat) (v : Option Value) (h : Heap) (L : List Loc) : Prop := ∃ y : Addr, (v = some (.ref y) ∧ Fr n0 L ∧ Keep h0 h [] ∧ n0 ≤ y ∧ h0.size ≤ y ∧ Exa Z h y "com/example/quorumsmith/quorumsmith/engine/CountSummary" ∧ Fld Z h y "com/example/quorumsmith/quorumsmith/engine/CountSummary" "min" "J" (.long (fMi (9223372036854775807 : Int64) x0)) ∧ Fld Z h y "com/example/quorumsmith/quorumsmith/engine/CountSummary" "max" "J" (.long (fMa (0 : Int64) x0)))
set_option maxRecDepth 65536 in
set_option maxHeartbeats 40000000 in
theorem rmMmS1 (l : Launch) (Z : State) (a0 : Array Value) (hw : ∀ d ∈ tables_1, d.before a0 Z = true) (ws : List Jvm.Cond) (a : Addr) (ar : Addr) (kc : ClassId) (x0 : Int64) (x1 : Int64) (z0 : Addr) (pa : Addr) (h0 : Heap) (n0 : Nat) (Z0 : n0 ≤ h0.size) (Fa : Fld Z h0 a "com/example/quorumsmith/quorumsmith/engine/Network" "sent" "[J" (.ref ar)) (Va : Arv Z h0 ar kc .long (2 : Int32) [(.long x0), (.long x1)] (.long (0 : Int64))) (Bx0 : 0 ≤ x0.toInt ∧ x0.toInt ≤ 4294967296) (Bx1 : 0 ≤ x1.toInt ∧ x1.toInt ≤ 4294967296) (O0 : Old Z n0 h0) (SZ : Sta Z Z.heap "java/math/BigInteger" "ZERO" "Ljava/math/BigInteger;" (.ref z0)) (EZ : Exa Z Z.heap z0 "java/math/BigInteger") (FZ : Fld Z Z.heap z0 "java/math/BigInteger" "signum" "I" (.int (0 : Int32))) (SP : Sta Z Z.heap "java/math/BigInteger" "posConst" "[Ljava/math/BigInteger;" (.ref pa)) (HP : PC Z pa) :
    MetFree l (⟨"com/example/quorumsmith/quorumsmith/engine/Network", "messagesSent", "(I)Lcom/example/quorumsmith/quorumsmith/engine/CountSummary;"⟩ : MethodName) (head1 (Jvm.Cond.code (⟨"com/example/quorumsmith/quorumsmith/engine/Network", "messagesSent", "(I)Lcom/example/quorumsmith/quorumsmith/engine/CountSummary;"⟩ : MethodName) prog_23_method_8_code 2 (some (.object "com/example/quorumsmith/quorumsmith/engine/CountSummary")) :: ws) ({ frames := 5, cells := 3, slots := 12, locals := 78 } : Room)) (fun aa_ U_ => aa_ = #[(.ref a), (.int (1 : Int32))] ∧ Z.Warmed39 U_.vm ∧ U_.heap = h0) (fun _ _ _ _ _ => True) (fun _ U_ o_ V_ => ∃ v_ L_, o_ = .returned v_ ∧ QMmS1 Z x0 x1 h0 n0 v_ V_.heap L_ ∧ FrameEnd U_ o_ V_ L_ ({ frames := 5, cells := 3, slots := 12, locals := 78 } : Room).cells ({ frames := 5, cells := 3, slots := 12, locals := 78 } : Room).slots) := by
  refine MetFree.of_bodySF (plainFor_of_name pnMmS1) hisR ?_
  intro p e s m args below meth c s₁ Bd hml0 hP hK
  obtain ⟨rfl, hZ, hh⟩ := hP
  have hx := Bd.exec
  have hby := Bd.bytes
  have hml : c.maxLocals = 2 := hml0
  have hown : s.vm.findClass "com/example/quorumsmith/quorumsmith/engine/Network" = some m.cls := findClass_of_methodNamed Bd.named
  have hnm := (name_of_methodNamed Bd.named Bd.method).1
  have hlk : meth.locks = false := BodyLoose.notSynchronized Bd
  have hret : meth.sig.returnType = (some (.object "com/example/quorumsmith/quorumsmith/engine/CountSummary")) := Bd.returns
  have X0 : Stand p l e ({ frames := 5, cells := 3, slots := 12, locals := 78 } : Room) s m #[(.ref a), (.int (1 : Int32))] below meth c s₁ [] 0 0 := Stand.of_body Bd
  have e0 : s₁.heap = h0 := by rw [← hh, Bd.state]; rfl
  have N0 := Fr.nil n0
  show Go p e below s ({ frames := 5, cells := 3, slots := 12, locals := 78 } : Room).cells ({ frames := 5, cells := 3, slots := 12, locals := 78 } : Room).slots (QMmS1 Z x0 x1 h0 n0) (s₁.setTop (entryFrame m #[(.ref a), (.int (1 : Int32))] 2))
  rw [efMmS1]
  have SZ0 := SZ.ext O0.2
  have EZ0 := EZ.ext O0.2
  have FZ0 := FZ.ext O0.2
  have SP0 := SP.ext O0.2
  refine Go.by (fun _ kont => XS.aloadN X0.here hx rfl (hb hby dMmS1_0) rfl rfl kont) ?_
  show Go _ _ _ _ _ _ _ (s₁.setTop (mkF m 1 #[.val (.ref a), .val (.int (1 : Int32))] [(.ref a)]))
  obtain ⟨T101, X101, e101, st101⟩ := getF X0 hx hZ hown (host := "") (Or.inl (hw _ (List.mem_of_getElem? (i := 11) rfl))) Via.refl e0 Fa (g := (mkF m 1 #[.val (.ref a), .val (.int (1 : Int32))] [(.ref a)])) rfl rfl (hb hby dMmS1_1)
  refine Go.by st101 ?_
  show Go _ _ _ _ _ _ _ (T101.setTop (mkF m 4 #[.val (.ref a), .val (.int (1 : Int32))] [(.ref ar)]))
  refine Go.by (fun _ kont => XS.iloadN X101.here hx rfl (hb hby dMmS1_4) rfl kont) ?_
  show Go _ _ _ _ _ _ _ (T101.setTop (mkF m 5 #[.val (.ref a), .val (.int (1 : Int32))] [(.int (1 : Int32)), (.ref ar)]))
  obtain ⟨_, _, ⟨T102, L102, k102, n102⟩, -, X102, ⟨Lc102, hQ102, l102, y102, z102⟩, st102⟩ := Jvm.LawKit.callS X101 hx (y := (⟨"com/example/quorumsmith/quorumsmith/engine/CountSummary", "of", "([JI)Lcom/example/quorumsmith/quorumsmith/engine/CountSummary;"⟩ : MethodName)) hown (mvT hZ (hw _ (List.mem_of_getElem? (i := 28) rfl))) (mvT hZ (hw _ (List.mem_of_getElem? (i := 29) rfl))) (mvT hZ (hw _ (List.mem_of_getElem? (i := 30) rfl))) (mvT hZ (hw _ (List.mem_of_getElem? (i := 31) rfl))) (by decide) (backOf (W := 0) (rmO1 l Z a0 hw [] ar kc x0 x1 z0 pa h0 n0 Z0 Va Bx0 Bx1 O0 SZ EZ FZ SP HP) hZ (hw _ (List.mem_of_getElem? (i := 31) rfl)) (hw _ (List.mem_of_getElem? (i := 30) rfl)) (by decide) (by decide)) (g := (mkF m 5 #[.val (.ref a), .val (.int (1 : Int32))] [(.int (1 : Int32)), (.ref ar)])) rfl (by rw [hml]; rfl) (argsL := [(.ref ar), (.int (1 : Int32))]) (rest := []) (lenOf pdMmS1_0 rfl) rfl (by show 2 * 0 + _ ≤ _; exact Nat.le_of_eq rfl) (hb hby dMmS1_5) (fun _ _ => ⟨rfl, e101, (by decide : 0 + 3 ≤ _), (by decide : 0 + 12 ≤ _)⟩)
  dsimp only [Pt.U, Pt.locs, Pt.cells, Pt.slots] at X102 l102 y102 z102 st102 hQ102
  subst l102 y102 z102
  obtain ⟨y102, rfl, N102q, K102, ge_y102, szc_y102, E102z, Fn102z, Fx102z⟩ := hQ102
  have ne_z0_y102 : z0 ≠ y102 := Nat.ne_of_lt (Nat.lt_of_lt_of_le FZ0.lt szc_y102)
  have ne_a_y102 : a ≠ y102 := Nat.ne_of_lt (Nat.lt_of_lt_of_le Fa.lt szc_y102)
  have ne_ar_y102 : ar ≠ y102 := Nat.ne_of_lt (Nat.lt_of_lt_of_le Va.lt szc_y102)
  have sz_y102 : h0.size ≤ y102 := Nat.le_trans (Keep.refl h0 []).1 szc_y102
  have S103_ZERO := own_stakeep SZ0 K102 all0
  have S103_posConst := own_stakeep SP0 K102 all0
  have F103_signum_z0 := FZ0.keep K102 nin0
  have F103_sent_a := Fa.keep K102 nin0
  have E103_z0 := EZ0.keep K102
  have V103_ar := Va.keep K102 nin0
  have P103_old := O0.keep K102 all0
  have Z103 := Nat.le_trans Z0 K102.1
  have K103 : Keep h0 T102.heap [] := Keep.trans (Keep.refl h0 []) K102 all0
  have N102 := Fr.app N0 N102q
  refine Go.by st102 ?_
  show Go _ _ _ _ _ _ _ (T102.setTop (mkF m 8 #[.val (.ref a), .val (.int (1 : Int32))] [(.ref y102)]))
  refine Go.retR X102 hx hret rfl rfl hlk (hb hby dMmS1_8) ?_ (by decide) (by decide)
  show QMmS1 Z x0 x1 h0 n0 (some (.ref y102)) T102.heap _
  exact ⟨y102, rfl, N102, K103, ge_y102, sz_y102, E102z, Fn102z, Fx102z⟩

theorem dMmS2_0 : decode prog_23_method_8_code 0 = .ok (.aload_n 0, 1) := by decide +kernel
theorem dMmS2_1 : decode prog_23_method_8_code 1 = .ok (.getfield 16, 3) := by decide +kernel
theorem dMmS2_4 : decode prog_23_method_8_code 4 = .ok (.iload_n 1, 1) := by decide +kernel
theorem dMmS2_5 : decode prog_23_method_8_code 5 = .ok (.invokestatic 63, 3) := by decide +kernel
theorem dMmS2_8 : decode prog_23_method_8_code 8 = .ok (.areturn, 1) := by decide +kernel
theorem pdMmS2_0 : parseMethodDescriptor "([JI)Lcom/example/quorumsmith/quorumsmith/engine/CountSummary;" = some ⟨[(.array .long), .int], some (.object "com/example/quorumsmith/quorumsmith/engine/CountSummary")⟩ := by decide +kernel
theorem pnMmS2 : plainName "com/example/quorumsmith/quorumsmith/engine/Network" = true := by first | (simp [plainName, overriddenIn]; done) | decide +kernel
theorem efMmS2 (m : MethodId) (a : Addr) : entryFrame m #[(.ref a), (.int (2 : Int32))] 2 = mkF m 0 #[.val (.ref a), .val (.int (2 : Int32))] [] := by first | (simp [entryFrame, mkF, argsToLocals, Value.category]; done) | rfl
def QMmS2 (Z : State) (x0 : Int64) (x1 : Int64) (h0 : Heap) (n0 : Nat) (v : Option Value) (h : Heap) (L : List Loc) : Prop := ∃ y : Addr, (v = some (.ref y) ∧ Fr n0 L ∧ Keep h0 h [] ∧ n0 ≤ y ∧ h0.size ≤ y ∧ Exa Z h y "com/example/quorumsmith/quorumsmith/engine/CountSummary" ∧ Fld Z h y "com/example/quorumsmith/quorumsmith/engine/CountSummary" "min" "J" (.long (fMi (fMi (9223372036854775807 : Int64) x0) x1)) ∧ Fld Z h y "com/example/quorumsmith/quorumsmith/engine/CountSummary" "max" "J" (.long (fMa (fMa (0 : Int64) x0) x1)))
set_option maxRecDepth 65536 in
set_option maxHeartbeats 40000000 in
theorem rmMmS2 (l : Launch) (Z : State) (a0 : Array Value) (hw : ∀ d ∈ tables_1, d.before a0 Z = true) (ws : List Jvm.Cond) (a : Addr) (ar : Addr) (kc : ClassId) (x0 : Int64) (x1 : Int64) (z0 : Addr) (pa : Addr) (h0 : Heap) (n0 : Nat) (Z0 : n0 ≤ h0.size) (Fa : Fld Z h0 a "com/example/quorumsmith/quorumsmith/engine/Network" "sent" "[J" (.ref ar)) (Va : Arv Z h0 ar kc .long (2 : Int32) [(.long x0), (.long x1)] (.long (0 : Int64))) (Bx0 : 0 ≤ x0.toInt ∧ x0.toInt ≤ 4294967296) (Bx1 : 0 ≤ x1.toInt ∧ x1.toInt ≤ 4294967296) (O0 : Old Z n0 h0) (SZ : Sta Z Z.heap "java/math/BigInteger" "ZERO" "Ljava/math/BigInteger;" (.ref z0)) (EZ : Exa Z Z.heap z0 "java/math/BigInteger") (FZ : Fld Z Z.heap z0 "java/math/BigInteger" "signum" "I" (.int (0 : Int32))) (SP : Sta Z Z.heap "java/math/BigInteger" "posConst" "[Ljava/math/BigInteger;" (.ref pa)) (HP : PC Z pa) :
    MetFree l (⟨"com/example/quorumsmith/quorumsmith/engine/Network", "messagesSent", "(I)Lcom/example/quorumsmith/quorumsmith/engine/CountSummary;"⟩ : MethodName) (head1 (Jvm.Cond.code (⟨"com/example/quorumsmith/quorumsmith/engine/Network", "messagesSent", "(I)Lcom/example/quorumsmith/quorumsmith/engine/CountSummary;"⟩ : MethodName) prog_23_method_8_code 2 (some (.object "com/example/quorumsmith/quorumsmith/engine/CountSummary")) :: ws) ({ frames := 5, cells := 3, slots := 12, locals := 78 } : Room)) (fun aa_ U_ => aa_ = #[(.ref a), (.int (2 : Int32))] ∧ Z.Warmed39 U_.vm ∧ U_.heap = h0) (fun _ _ _ _ _ => True) (fun _ U_ o_ V_ => ∃ v_ L_, o_ = .returned v_ ∧ QMmS2 Z x0 x1 h0 n0 v_ V_.heap L_ ∧ FrameEnd U_ o_ V_ L_ ({ frames := 5, cells := 3, slots := 12, locals := 78 } : Room).cells ({ frames := 5, cells := 3, slots := 12, locals := 78 } : Room).slots) := by
  refine MetFree.of_bodySF (plainFor_of_name pnMmS2) hisR ?_
  intro p e s m args below meth c s₁ Bd hml0 hP hK
  obtain ⟨rfl, hZ, hh⟩ := hP
  have hx := Bd.exec
  have hby := Bd.bytes
  have hml : c.maxLocals = 2 := hml0
  have hown : s.vm.findClass "com/example/quorumsmith/quorumsmith/engine/Network" = some m.cls := findClass_of_methodNamed Bd.named
  have hnm := (name_of_methodNamed Bd.named Bd.method).1
  have hlk : meth.locks = false := BodyLoose.notSynchronized Bd
  have hret : meth.sig.returnType = (some (.object "com/example/quorumsmith/quorumsmith/engine/CountSummary")) := Bd.returns
  have X0 : Stand p l e ({ frames := 5, cells := 3, slots := 12, locals := 78 } : Room) s m #[(.ref a), (.int (2 : Int32))] below meth c s₁ [] 0 0 := Stand.of_body Bd
  have e0 : s₁.heap = h0 := by rw [← hh, Bd.state]; rfl
  have N0 := Fr.nil n0
  show Go p e below s ({ frames := 5, cells := 3, slots := 12, locals := 78 } : Room).cells ({ frames := 5, cells := 3, slots := 12, locals := 78 } : Room).slots (QMmS2 Z x0 x1 h0 n0) (s₁.setTop (entryFrame m #[(.ref a), (.int (2 : Int32))] 2))
  rw [efMmS2]
  have SZ0 := SZ.ext O0.2
  have EZ0 := EZ.ext O0.2
  have FZ0 := FZ.ext O0.2
  have SP0 := SP.ext O0.2
  refine Go.by (fun _ kont => XS.aloadN X0.here hx rfl (hb hby dMmS2_0) rfl rfl kont) ?_
  show Go _ _ _ _ _ _ _ (s₁.setTop (mkF m 1 #[.val (.ref a), .val (.int (2 : Int32))] [(.ref a)]))
  obtain ⟨T101, X101, e101, st101⟩ := getF X0 hx hZ hown (host := "") (Or.inl (hw _ (List.mem_of_getElem? (i := 11) rfl))) Via.refl e0 Fa (g := (mkF m 1 #[.val (.ref a), .val (.int (2 : Int32))] [(.ref a)])) rfl rfl (hb hby dMmS2_1)
  refine Go.by st101 ?_
  show Go _ _ _ _ _ _ _ (T101.setTop (mkF m 4 #[.val (.ref a), .val (.int (2 : Int32))] [(.ref ar)]))
  refine Go.by (fun _ kont => XS.iloadN X101.here hx rfl (hb hby dMmS2_4) rfl kont) ?_
  show Go _ _ _ _ _ _ _ (T101.setTop (mkF m 5 #[.val (.ref a), .val (.int (2 : Int32))] [(.int (2 : Int32)), (.ref ar)]))
  obtain ⟨_, _, ⟨T102, L102, k102, n102⟩, -, X102, ⟨Lc102, hQ102, l102, y102, z102⟩, st102⟩ := Jvm.LawKit.callS X101 hx (y := (⟨"com/example/quorumsmith/quorumsmith/engine/CountSummary", "of", "([JI)Lcom/example/quorumsmith/quorumsmith/engine/CountSummary;"⟩ : MethodName)) hown (mvT hZ (hw _ (List.mem_of_getElem? (i := 28) rfl))) (mvT hZ (hw _ (List.mem_of_getElem? (i := 29) rfl))) (mvT hZ (hw _ (List.mem_of_getElem? (i := 30) rfl))) (mvT hZ (hw _ (List.mem_of_getElem? (i := 31) rfl))) (by decide) (backOf (W := 0) (rmO2 l Z a0 hw [] ar kc x0 x1 z0 pa h0 n0 Z0 Va Bx0 Bx1 O0 SZ EZ FZ SP HP) hZ (hw _ (List.mem_of_getElem? (i := 31) rfl)) (hw _ (List.mem_of_getElem? (i := 30) rfl)) (by decide) (by decide)) (g := (mkF m 5 #[.val (.ref a), .val (.int (2 : Int32))] [(.int (2 : Int32)), (.ref ar)])) rfl (by rw [hml]; rfl) (argsL := [(.ref ar), (.int (2 : Int32))]) (rest := []) (lenOf pdMmS2_0 rfl) rfl (by show 2 * 0 + _ ≤ _; exact Nat.le_of_eq rfl) (hb hby dMmS2_5) (fun _ _ => ⟨rfl, e101, (by decide : 0 + 3 ≤ _), (by decide : 0 + 12 ≤ _)⟩)
  dsimp only [Pt.U, Pt.locs, Pt.cells, Pt.slots] at X102 l102 y102 z102 st102 hQ102
  subst l102 y102 z102
  obtain ⟨y102, rfl, N102q, K102, ge_y102, szc_y102, E102z, Fn102z, Fx102z⟩ := hQ102
  have ne_z0_y102 : z0 ≠ y102 := Nat.ne_of_lt (Nat.lt_of_lt_of_le FZ0.lt szc_y102)
  have ne_a_y102 : a ≠ y102 := Nat.ne_of_lt (Nat.lt_of_lt_of_le Fa.lt szc_y102)
  have ne_ar_y102 : ar ≠ y102 := Nat.ne_of_lt (Nat.lt_of_lt_of_le Va.lt szc_y102)
  have sz_y102 : h0.size ≤ y102 := Nat.le_trans (Keep.refl h0 []).1 szc_y102
  have S103_ZERO := own_stakeep SZ0 K102 all0
  have S103_posConst := own_stakeep SP0 K102 all0
  have F103_signum_z0 := FZ0.keep K102 nin0
  have F103_sent_a := Fa.keep K102 nin0
  have E103_z0 := EZ0.keep K102
  have V103_ar := Va.keep K102 nin0
  have P103_old := O0.keep K102 all0
  have Z103 := Nat.le_trans Z0 K102.1
  have K103 : Keep h0 T102.heap [] := Keep.trans (Keep.refl h0 []) K102 all0
  have N102 := Fr.app N0 N102q
  refine Go.by st102 ?_
  show Go _ _ _ _ _ _ _ (T102.setTop (mkF m 8 #[.val (.ref a), .val (.int (2 : Int32))] [(.ref y102)]))
  refine Go.retR X102 hx hret rfl rfl hlk (hb hby dMmS2_8) ?_ (by decide) (by decide)
  show QMmS2 Z x0 x1 h0 n0 (some (.ref y102)) T102.heap _
  exact ⟨y102, rfl, N102, K103, ge_y102, sz_y102, E102z, Fn102z, Fx102z⟩

theorem dMmR1_0 : decode prog_23_method_9_code 0 = .ok (.aload_n 0, 1) := by decide +kernel
theorem dMmR1_1 : decode prog_23_method_9_code 1 = .ok (.getfield 22, 3) := by decide +kernel
theorem dMmR1_4 : decode prog_23_method_9_code 4 = .ok (.iload_n 1, 1) := by decide +kernel
theorem dMmR1_5 : decode prog_23_method_9_code 5 = .ok (.invokestatic 63, 3) := by decide +kernel
theorem dMmR1_8 : decode prog_23_method_9_code 8 = .ok (.areturn, 1) := by decide +kernel
theorem pdMmR1_0 : parseMethodDescriptor "([JI)Lcom/example/quorumsmith/quorumsmith/engine/CountSummary;" = some ⟨[(.array .long), .int], some (.object "com/example/quorumsmith/quorumsmith/engine/CountSummary")⟩ := by decide +kernel
theorem pnMmR1 : plainName "com/example/quorumsmith/quorumsmith/engine/Network" = true := by first | (simp [plainName, overriddenIn]; done) | decide +kernel
theorem efMmR1 (m : MethodId) (a : Addr) : entryFrame m #[(.ref a), (.int (1 : Int32))] 2 = mkF m 0 #[.val (.ref a), .val (.int (1 : Int32))] [] := by first | (simp [entryFrame, mkF, argsToLocals, Value.category]; done) | rfl
def QMmR1 (Z : State) (x0 : Int64) (x1 : Int64) (h0 : Heap) (n0 : Nat) (v : Option Value) (h : Heap) (L : List Loc) : Prop := ∃ y : Addr, (v = some (.ref y) ∧ Fr n0 L ∧ Keep h0 h [] ∧ n0 ≤ y ∧ h0.size ≤ y ∧ Exa Z h y "com/example/quorumsmith/quorumsmith/engine/CountSummary" ∧ Fld Z h y "com/example/quorumsmith/quorumsmith/engine/CountSummary" "min" "J" (.long (fMi (9223372036854775807 : Int64) x0)) ∧ Fld Z h y "com/example/quorumsmith/quorumsmith/engine/CountSummary" "max" "J" (.long (fMa (0 : Int64) x0)))
set_option maxRecDepth 65536 in
set_option maxHeartbeats 40000000 in
theorem rmMmR1 (l : Launch) (Z : State) (a0 : Array Value) (hw : ∀ d ∈ tables_1, d.before a0 Z = true) (ws : List Jvm.Cond) (a : Addr) (ar : Addr) (kc : ClassId) (x0 : Int64) (x1 : Int64) (z0 : Addr) (pa : Addr) (h0 : Heap) (n0 : Nat) (Z0 : n0 ≤ h0.size) (Fa : Fld Z h0 a "com/example/quorumsmith/quorumsmith/engine/Network" "received" "[J" (.ref ar)) (Va : Arv Z h0 ar kc .long (2 : Int32) [(.long x0), (.long x1)] (.long (0 : Int64))) (Bx0 : 0 ≤ x0.toInt ∧ x0.toInt ≤ 4294967296) (Bx1 : 0 ≤ x1.toInt ∧ x1.toInt ≤ 4294967296) (O0 : Old Z n0 h0) (SZ : Sta Z Z.heap "java/math/BigInteger" "ZERO" "Ljava/math/BigInteger;" (.ref z0)) (EZ : Exa Z Z.heap z0 "java/math/BigInteger") (FZ : Fld Z Z.heap z0 "java/math/BigInteger" "signum" "I" (.int (0 : Int32))) (SP : Sta Z Z.heap "java/math/BigInteger" "posConst" "[Ljava/math/BigInteger;" (.ref pa)) (HP : PC Z pa) :
    MetFree l (⟨"com/example/quorumsmith/quorumsmith/engine/Network", "messagesReceived", "(I)Lcom/example/quorumsmith/quorumsmith/engine/CountSummary;"⟩ : MethodName) (head1 (Jvm.Cond.code (⟨"com/example/quorumsmith/quorumsmith/engine/Network", "messagesReceived", "(I)Lcom/example/quorumsmith/quorumsmith/engine/CountSummary;"⟩ : MethodName) prog_23_method_9_code 2 (some (.object "com/example/quorumsmith/quorumsmith/engine/CountSummary")) :: ws) ({ frames := 5, cells := 3, slots := 12, locals := 78 } : Room)) (fun aa_ U_ => aa_ = #[(.ref a), (.int (1 : Int32))] ∧ Z.Warmed39 U_.vm ∧ U_.heap = h0) (fun _ _ _ _ _ => True) (fun _ U_ o_ V_ => ∃ v_ L_, o_ = .returned v_ ∧ QMmR1 Z x0 x1 h0 n0 v_ V_.heap L_ ∧ FrameEnd U_ o_ V_ L_ ({ frames := 5, cells := 3, slots := 12, locals := 78 } : Room).cells ({ frames := 5, cells := 3, slots := 12, locals := 78 } : Room).slots) := by
  refine MetFree.of_bodySF (plainFor_of_name pnMmR1) hisR ?_
  intro p e s m args below meth c s₁ Bd hml0 hP hK
  obtain ⟨rfl, hZ, hh⟩ := hP
  have hx := Bd.exec
  have hby := Bd.bytes
  have hml : c.maxLocals = 2 := hml0
  have hown : s.vm.findClass "com/example/quorumsmith/quorumsmith/engine/Network" = some m.cls := findClass_of_methodNamed Bd.named
  have hnm := (name_of_methodNamed Bd.named Bd.method).1
  have hlk : meth.locks = false := BodyLoose.notSynchronized Bd
  have hret : meth.sig.returnType = (some (.object "com/example/quorumsmith/quorumsmith/engine/CountSummary")) := Bd.returns
  have X0 : Stand p l e ({ frames := 5, cells := 3, slots := 12, locals := 78 } : Room) s m #[(.ref a), (.int (1 : Int32))] below meth c s₁ [] 0 0 := Stand.of_body Bd
  have e0 : s₁.heap = h0 := by rw [← hh, Bd.state]; rfl
  have N0 := Fr.nil n0
  show Go p e below s ({ frames := 5, cells := 3, slots := 12, locals := 78 } : Room).cells ({ frames := 5, cells := 3, slots := 12, locals := 78 } : Room).slots (QMmR1 Z x0 x1 h0 n0) (s₁.setTop (entryFrame m #[(.ref a), (.int (1 : Int32))] 2))
  rw [efMmR1]
  have SZ0 := SZ.ext O0.2
  have EZ0 := EZ.ext O0.2
  have FZ0 := FZ.ext O0.2
  have SP0 := SP.ext O0.2
  refine Go.by (fun _ kont => XS.aloadN X0.here hx rfl (hb hby dMmR1_0) rfl rfl kont) ?_
  show Go _ _ _ _ _ _ _ (s₁.setTop (mkF m 1 #[.val (.ref a), .val (.int (1 : Int32))] [(.ref a)]))
  obtain ⟨T101, X101, e101, st101⟩ := getF X0 hx hZ hown (host := "") (Or.inl (hw _ (List.mem_of_getElem? (i := 13) rfl))) Via.refl e0 Fa (g := (mkF m 1 #[.val (.ref a), .val (.int (1 : Int32))] [(.ref a)])) rfl rfl (hb hby dMmR1_1)
  refine Go.by st101 ?_
  show Go _ _ _ _ _ _ _ (T101.setTop (mkF m 4 #[.val (.ref a), .val (.int (1 : Int32))] [(.ref ar)]))
  refine Go.by (fun _ kont => XS.iloadN X101.here hx rfl (hb hby dMmR1_4) rfl kont) ?_
  show Go _ _ _ _ _ _ _ (T101.setTop (mkF m 5 #[.val (.ref a), .val (.int (1 : Int32))] [(.int (1 : Int32)), (.ref ar)]))
  obtain ⟨_, _, ⟨T102, L102, k102, n102⟩, -, X102, ⟨Lc102, hQ102, l102, y102, z102⟩, st102⟩ := Jvm.LawKit.callS X101 hx (y := (⟨"com/example/quorumsmith/quorumsmith/engine/CountSummary", "of", "([JI)Lcom/example/quorumsmith/quorumsmith/engine/CountSummary;"⟩ : MethodName)) hown (mvT hZ (hw _ (List.mem_of_getElem? (i := 28) rfl))) (mvT hZ (hw _ (List.mem_of_getElem? (i := 29) rfl))) (mvT hZ (hw _ (List.mem_of_getElem? (i := 30) rfl))) (mvT hZ (hw _ (List.mem_of_getElem? (i := 31) rfl))) (by decide) (backOf (W := 0) (rmO1 l Z a0 hw [] ar kc x0 x1 z0 pa h0 n0 Z0 Va Bx0 Bx1 O0 SZ EZ FZ SP HP) hZ (hw _ (List.mem_of_getElem? (i := 31) rfl)) (hw _ (List.mem_of_getElem? (i := 30) rfl)) (by decide) (by decide)) (g := (mkF m 5 #[.val (.ref a), .val (.int (1 : Int32))] [(.int (1 : Int32)), (.ref ar)])) rfl (by rw [hml]; rfl) (argsL := [(.ref ar), (.int (1 : Int32))]) (rest := []) (lenOf pdMmR1_0 rfl) rfl (by show 2 * 0 + _ ≤ _; exact Nat.le_of_eq rfl) (hb hby dMmR1_5) (fun _ _ => ⟨rfl, e101, (by decide : 0 + 3 ≤ _), (by decide : 0 + 12 ≤ _)⟩)
  dsimp only [Pt.U, Pt.locs, Pt.cells, Pt.slots] at X102 l102 y102 z102 st102 hQ102
  subst l102 y102 z102
  obtain ⟨y102, rfl, N102q, K102, ge_y102, szc_y102, E102z, Fn102z, Fx102z⟩ := hQ102
  have ne_z0_y102 : z0 ≠ y102 := Nat.ne_of_lt (Nat.lt_of_lt_of_le FZ0.lt szc_y102)
  have ne_a_y102 : a ≠ y102 := Nat.ne_of_lt (Nat.lt_of_lt_of_le Fa.lt szc_y102)
  have ne_ar_y102 : ar ≠ y102 := Nat.ne_of_lt (Nat.lt_of_lt_of_le Va.lt szc_y102)
  have sz_y102 : h0.size ≤ y102 := Nat.le_trans (Keep.refl h0 []).1 szc_y102
  have S103_ZERO := own_stakeep SZ0 K102 all0
  have S103_posConst := own_stakeep SP0 K102 all0
  have F103_signum_z0 := FZ0.keep K102 nin0
  have F103_received_a := Fa.keep K102 nin0
  have E103_z0 := EZ0.keep K102
  have V103_ar := Va.keep K102 nin0
  have P103_old := O0.keep K102 all0
  have Z103 := Nat.le_trans Z0 K102.1
  have K103 : Keep h0 T102.heap [] := Keep.trans (Keep.refl h0 []) K102 all0
  have N102 := Fr.app N0 N102q
  refine Go.by st102 ?_
  show Go _ _ _ _ _ _ _ (T102.setTop (mkF m 8 #[.val (.ref a), .val (.int (1 : Int32))] [(.ref y102)]))
  refine Go.retR X102 hx hret rfl rfl hlk (hb hby dMmR1_8) ?_ (by decide) (by decide)
  show QMmR1 Z x0 x1 h0 n0 (some (.ref y102)) T102.heap _
  exact ⟨y102, rfl, N102, K103, ge_y102, sz_y102, E102z, Fn102z, Fx102z⟩

theorem dMmR2_0 : decode prog_23_method_9_code 0 = .ok (.aload_n 0, 1) := by decide +kernel
theorem dMmR2_1 : decode prog_23_method_9_code 1 = .ok (.getfield 22, 3) := by decide +kernel
theorem dMmR2_4 : decode prog_23_method_9_code 4 = .ok (.iload_n 1, 1) := by decide +kernel
theorem dMmR2_5 : decode prog_23_method_9_code 5 = .ok (.invokestatic 63, 3) := by decide +kernel
theorem dMmR2_8 : decode prog_23_method_9_code 8 = .ok (.areturn, 1) := by decide +kernel
theorem pdMmR2_0 : parseMethodDescriptor "([JI)Lcom/example/quorumsmith/quorumsmith/engine/CountSummary;" = some ⟨[(.array .long), .int], some (.object "com/example/quorumsmith/quorumsmith/engine/CountSummary")⟩ := by decide +kernel
theorem pnMmR2 : plainName "com/example/quorumsmith/quorumsmith/engine/Network" = true := by first | (simp [plainName, overriddenIn]; done) | decide +kernel
theorem efMmR2 (m : MethodId) (a : Addr) : entryFrame m #[(.ref a), (.int (2 : Int32))] 2 = mkF m 0 #[.val (.ref a), .val (.int (2 : Int32))] [] := by first | (simp [entryFrame, mkF, argsToLocals, Value.category]; done) | rfl
def QMmR2 (Z : State) (x0 : Int64) (x1 : Int64) (h0 : Heap) (n0 : Nat) (v : Option Value) (h : Heap) (L : List Loc) : Prop := ∃ y : Addr, (v = some (.ref y) ∧ Fr n0 L ∧ Keep h0 h [] ∧ n0 ≤ y ∧ h0.size ≤ y ∧ Exa Z h y "com/example/quorumsmith/quorumsmith/engine/CountSummary" ∧ Fld Z h y "com/example/quorumsmith/quorumsmith/engine/CountSummary" "min" "J" (.long (fMi (fMi (9223372036854775807 : Int64) x0) x1)) ∧ Fld Z h y "com/example/quorumsmith/quorumsmith/engine/CountSummary" "max" "J" (.long (fMa (fMa (0 : Int64) x0) x1)))
set_option maxRecDepth 65536 in
set_option maxHeartbeats 40000000 in
theorem rmMmR2 (l : Launch) (Z : State) (a0 : Array Value) (hw : ∀ d ∈ tables_1, d.before a0 Z = true) (ws : List Jvm.Cond) (a : Addr) (ar : Addr) (kc : ClassId) (x0 : Int64) (x1 : Int64) (z0 : Addr) (pa : Addr) (h0 : Heap) (n0 : Nat) (Z0 : n0 ≤ h0.size) (Fa : Fld Z h0 a "com/example/quorumsmith/quorumsmith/engine/Network" "received" "[J" (.ref ar)) (Va : Arv Z h0 ar kc .long (2 : Int32) [(.long x0), (.long x1)] (.long (0 : Int64))) (Bx0 : 0 ≤ x0.toInt ∧ x0.toInt ≤ 4294967296) (Bx1 : 0 ≤ x1.toInt ∧ x1.toInt ≤ 4294967296) (O0 : Old Z n0 h0) (SZ : Sta Z Z.heap "java/math/BigInteger" "ZERO" "Ljava/math/BigInteger;" (.ref z0)) (EZ : Exa Z Z.heap z0 "java/math/BigInteger") (FZ : Fld Z Z.heap z0 "java/math/BigInteger" "signum" "I" (.int (0 : Int32))) (SP : Sta Z Z.heap "java/math/BigInteger" "posConst" "[Ljava/math/BigInteger;" (.ref pa)) (HP : PC Z pa) :
    MetFree l (⟨"com/example/quorumsmith/quorumsmith/engine/Network", "messagesReceived", "(I)Lcom/example/quorumsmith/quorumsmith/engine/CountSummary;"⟩ : MethodName) (head1 (Jvm.Cond.code (⟨"com/example/quorumsmith/quorumsmith/engine/Network", "messagesReceived", "(I)Lcom/example/quorumsmith/quorumsmith/engine/CountSummary;"⟩ : MethodName) prog_23_method_9_code 2 (some (.object "com/example/quorumsmith/quorumsmith/engine/CountSummary")) :: ws) ({ frames := 5, cells := 3, slots := 12, locals := 78 } : Room)) (fun aa_ U_ => aa_ = #[(.ref a), (.int (2 : Int32))] ∧ Z.Warmed39 U_.vm ∧ U_.heap = h0) (fun _ _ _ _ _ => True) (fun _ U_ o_ V_ => ∃ v_ L_, o_ = .returned v_ ∧ QMmR2 Z x0 x1 h0 n0 v_ V_.heap L_ ∧ FrameEnd U_ o_ V_ L_ ({ frames := 5, cells := 3, slots := 12, locals := 78 } : Room).cells ({ frames := 5, cells := 3, slots := 12, locals := 78 } : Room).slots) := by
  refine MetFree.of_bodySF (plainFor_of_name pnMmR2) hisR ?_
  intro p e s m args below meth c s₁ Bd hml0 hP hK
  obtain ⟨rfl, hZ, hh⟩ := hP
  have hx := Bd.exec
  have hby := Bd.bytes
  have hml : c.maxLocals = 2 := hml0
  have hown : s.vm.findClass "com/example/quorumsmith/quorumsmith/engine/Network" = some m.cls := findClass_of_methodNamed Bd.named
  have hnm := (name_of_methodNamed Bd.named Bd.method).1
  have hlk : meth.locks = false := BodyLoose.notSynchronized Bd
  have hret : meth.sig.returnType = (some (.object "com/example/quorumsmith/quorumsmith/engine/CountSummary")) := Bd.returns
  have X0 : Stand p l e ({ frames := 5, cells := 3, slots := 12, locals := 78 } : Room) s m #[(.ref a), (.int (2 : Int32))] below meth c s₁ [] 0 0 := Stand.of_body Bd
  have e0 : s₁.heap = h0 := by rw [← hh, Bd.state]; rfl
  have N0 := Fr.nil n0
  show Go p e below s ({ frames := 5, cells := 3, slots := 12, locals := 78 } : Room).cells ({ frames := 5, cells := 3, slots := 12, locals := 78 } : Room).slots (QMmR2 Z x0 x1 h0 n0) (s₁.setTop (entryFrame m #[(.ref a), (.int (2 : Int32))] 2))
  rw [efMmR2]
  have SZ0 := SZ.ext O0.2
  have EZ0 := EZ.ext O0.2
  have FZ0 := FZ.ext O0.2
  have SP0 := SP.ext O0.2
  refine Go.by (fun _ kont => XS.aloadN X0.here hx rfl (hb hby dMmR2_0) rfl rfl kont) ?_
  show Go _ _ _ _ _ _ _ (s₁.setTop (mkF m 1 #[.val (.ref a), .val (.int (2 : Int32))] [(.ref a)]))
  obtain ⟨T101, X101, e101, st101⟩ := getF X0 hx hZ hown (host := "") (Or.inl (hw _ (List.mem_of_getElem? (i := 13) rfl))) Via.refl e0 Fa (g := (mkF m 1 #[.val (.ref a), .val (.int (2 : Int32))] [(.ref a)])) rfl rfl (hb hby dMmR2_1)
  refine Go.by st101 ?_
  show Go _ _ _ _ _ _ _ (T101.setTop (mkF m 4 #[.val (.ref a), .val (.int (2 : Int32))] [(.ref ar)]))
  refine Go.by (fun _ kont => XS.iloadN X101.here hx rfl (hb hby dMmR2_4) rfl kont) ?_
  show Go _ _ _ _ _ _ _ (T101.setTop (mkF m 5 #[.val (.ref a), .val (.int (2 : Int32))] [(.int (2 : Int32)), (.ref ar)]))
  obtain ⟨_, _, ⟨T102, L102, k102, n102⟩, -, X102, ⟨Lc102, hQ102, l102, y102, z102⟩, st102⟩ := Jvm.LawKit.callS X101 hx (y := (⟨"com/example/quorumsmith/quorumsmith/engine/CountSummary", "of", "([JI)Lcom/example/quorumsmith/quorumsmith/engine/CountSummary;"⟩ : MethodName)) hown (mvT hZ (hw _ (List.mem_of_getElem? (i := 28) rfl))) (mvT hZ (hw _ (List.mem_of_getElem? (i := 29) rfl))) (mvT hZ (hw _ (List.mem_of_getElem? (i := 30) rfl))) (mvT hZ (hw _ (List.mem_of_getElem? (i := 31) rfl))) (by decide) (backOf (W := 0) (rmO2 l Z a0 hw [] ar kc x0 x1 z0 pa h0 n0 Z0 Va Bx0 Bx1 O0 SZ EZ FZ SP HP) hZ (hw _ (List.mem_of_getElem? (i := 31) rfl)) (hw _ (List.mem_of_getElem? (i := 30) rfl)) (by decide) (by decide)) (g := (mkF m 5 #[.val (.ref a), .val (.int (2 : Int32))] [(.int (2 : Int32)), (.ref ar)])) rfl (by rw [hml]; rfl) (argsL := [(.ref ar), (.int (2 : Int32))]) (rest := []) (lenOf pdMmR2_0 rfl) rfl (by show 2 * 0 + _ ≤ _; exact Nat.le_of_eq rfl) (hb hby dMmR2_5) (fun _ _ => ⟨rfl, e101, (by decide : 0 + 3 ≤ _), (by decide : 0 + 12 ≤ _)⟩)
  dsimp only [Pt.U, Pt.locs, Pt.cells, Pt.slots] at X102 l102 y102 z102 st102 hQ102
  subst l102 y102 z102
  obtain ⟨y102, rfl, N102q, K102, ge_y102, szc_y102, E102z, Fn102z, Fx102z⟩ := hQ102
  have ne_z0_y102 : z0 ≠ y102 := Nat.ne_of_lt (Nat.lt_of_lt_of_le FZ0.lt szc_y102)
  have ne_a_y102 : a ≠ y102 := Nat.ne_of_lt (Nat.lt_of_lt_of_le Fa.lt szc_y102)
  have ne_ar_y102 : ar ≠ y102 := Nat.ne_of_lt (Nat.lt_of_lt_of_le Va.lt szc_y102)
  have sz_y102 : h0.size ≤ y102 := Nat.le_trans (Keep.refl h0 []).1 szc_y102
  have S103_ZERO := own_stakeep SZ0 K102 all0
  have S103_posConst := own_stakeep SP0 K102 all0
  have F103_signum_z0 := FZ0.keep K102 nin0
  have F103_received_a := Fa.keep K102 nin0
  have E103_z0 := EZ0.keep K102
  have V103_ar := Va.keep K102 nin0
  have P103_old := O0.keep K102 all0
  have Z103 := Nat.le_trans Z0 K102.1
  have K103 : Keep h0 T102.heap [] := Keep.trans (Keep.refl h0 []) K102 all0
  have N102 := Fr.app N0 N102q
  refine Go.by st102 ?_
  show Go _ _ _ _ _ _ _ (T102.setTop (mkF m 8 #[.val (.ref a), .val (.int (2 : Int32))] [(.ref y102)]))
  refine Go.retR X102 hx hret rfl rfl hlk (hb hby dMmR2_8) ?_ (by decide) (by decide)
  show QMmR2 Z x0 x1 h0 n0 (some (.ref y102)) T102.heap _
  exact ⟨y102, rfl, N102, K103, ge_y102, sz_y102, E102z, Fn102z, Fx102z⟩

theorem dMb1_0 : decode prog_23_method_10_code 0 = .ok (.aload_n 0, 1) := by decide +kernel
theorem dMb1_1 : decode prog_23_method_10_code 1 = .ok (.getfield 25, 3) := by decide +kernel
theorem dMb1_4 : decode prog_23_method_10_code 4 = .ok (.iload_n 1, 1) := by decide +kernel
theorem dMb1_5 : decode prog_23_method_10_code 5 = .ok (.invokestatic 63, 3) := by decide +kernel
theorem dMb1_8 : decode prog_23_method_10_code 8 = .ok (.areturn, 1) := by decide +kernel
theorem pdMb1_0 : parseMethodDescriptor "([JI)Lcom/example/quorumsmith/quorumsmith/engine/CountSummary;" = some ⟨[(.array .long), .int], some (.object "com/example/quorumsmith/quorumsmith/engine/CountSummary")⟩ := by decide +kernel
theorem pnMb1 : plainName "com/example/quorumsmith/quorumsmith/engine/Network" = true := by first | (simp [plainName, overriddenIn]; done) | decide +kernel
theorem efMb1 (m : MethodId) (a : Addr) : entryFrame m #[(.ref a), (.int (1 : Int32))] 2 = mkF m 0 #[.val (.ref a), .val (.int (1 : Int32))] [] := by first | (simp [entryFrame, mkF, argsToLocals, Value.category]; done) | rfl
def QMb1 (Z : State) (x0 : Int64) (x1 : Int64) (h0 : Heap) (n0 : Nat) (v : Option Value) (h : Heap) (L : List Loc) : Prop := ∃ y : Addr, (v = some (.ref y) ∧ Fr n0 L ∧ Keep h0 h [] ∧ n0 ≤ y ∧ h0.size ≤ y ∧ Exa Z h y "com/example/quorumsmith/quorumsmith/engine/CountSummary" ∧ Fld Z h y "com/example/quorumsmith/quorumsmith/engine/CountSummary" "min" "J" (.long (fMi (9223372036854775807 : Int64) x0)) ∧ Fld Z h y "com/example/quorumsmith/quorumsmith/engine/CountSummary" "max" "J" (.long (fMa (0 : Int64) x0)))
set_option maxRecDepth 65536 in
set_option maxHeartbeats 40000000 in
theorem rmMb1 (l : Launch) (Z : State) (a0 : Array Value) (hw : ∀ d ∈ tables_1, d.before a0 Z = true) (ws : List Jvm.Cond) (a : Addr) (ar : Addr) (kc : ClassId) (x0 : Int64) (x1 : Int64) (z0 : Addr) (pa : Addr) (h0 : Heap) (n0 : Nat) (Z0 : n0 ≤ h0.size) (Fa : Fld Z h0 a "com/example/quorumsmith/quorumsmith/engine/Network" "bitsSent" "[J" (.ref ar)) (Va : Arv Z h0 ar kc .long (2 : Int32) [(.long x0), (.long x1)] (.long (0 : Int64))) (Bx0 : 0 ≤ x0.toInt ∧ x0.toInt ≤ 4294967296) (Bx1 : 0 ≤ x1.toInt ∧ x1.toInt ≤ 4294967296) (O0 : Old Z n0 h0) (SZ : Sta Z Z.heap "java/math/BigInteger" "ZERO" "Ljava/math/BigInteger;" (.ref z0)) (EZ : Exa Z Z.heap z0 "java/math/BigInteger") (FZ : Fld Z Z.heap z0 "java/math/BigInteger" "signum" "I" (.int (0 : Int32))) (SP : Sta Z Z.heap "java/math/BigInteger" "posConst" "[Ljava/math/BigInteger;" (.ref pa)) (HP : PC Z pa) :
    MetFree l (⟨"com/example/quorumsmith/quorumsmith/engine/Network", "bitsSent", "(I)Lcom/example/quorumsmith/quorumsmith/engine/CountSummary;"⟩ : MethodName) (head1 (Jvm.Cond.code (⟨"com/example/quorumsmith/quorumsmith/engine/Network", "bitsSent", "(I)Lcom/example/quorumsmith/quorumsmith/engine/CountSummary;"⟩ : MethodName) prog_23_method_10_code 2 (some (.object "com/example/quorumsmith/quorumsmith/engine/CountSummary")) :: ws) ({ frames := 5, cells := 3, slots := 12, locals := 78 } : Room)) (fun aa_ U_ => aa_ = #[(.ref a), (.int (1 : Int32))] ∧ Z.Warmed39 U_.vm ∧ U_.heap = h0) (fun _ _ _ _ _ => True) (fun _ U_ o_ V_ => ∃ v_ L_, o_ = .returned v_ ∧ QMb1 Z x0 x1 h0 n0 v_ V_.heap L_ ∧ FrameEnd U_ o_ V_ L_ ({ frames := 5, cells := 3, slots := 12, locals := 78 } : Room).cells ({ frames := 5, cells := 3, slots := 12, locals := 78 } : Room).slots) := by
  refine MetFree.of_bodySF (plainFor_of_name pnMb1) hisR ?_
  intro p e s m args below meth c s₁ Bd hml0 hP hK
  obtain ⟨rfl, hZ, hh⟩ := hP
  have hx := Bd.exec
  have hby := Bd.bytes
  have hml : c.maxLocals = 2 := hml0
  have hown : s.vm.findClass "com/example/quorumsmith/quorumsmith/engine/Network" = some m.cls := findClass_of_methodNamed Bd.named
  have hnm := (name_of_methodNamed Bd.named Bd.method).1
  have hlk : meth.locks = false := BodyLoose.notSynchronized Bd
  have hret : meth.sig.returnType = (some (.object "com/example/quorumsmith/quorumsmith/engine/CountSummary")) := Bd.returns
  have X0 : Stand p l e ({ frames := 5, cells := 3, slots := 12, locals := 78 } : Room) s m #[(.ref a), (.int (1 : Int32))] below meth c s₁ [] 0 0 := Stand.of_body Bd
  have e0 : s₁.heap = h0 := by rw [← hh, Bd.state]; rfl
  have N0 := Fr.nil n0
  show Go p e below s ({ frames := 5, cells := 3, slots := 12, locals := 78 } : Room).cells ({ frames := 5, cells := 3, slots := 12, locals := 78 } : Room).slots (QMb1 Z x0 x1 h0 n0) (s₁.setTop (entryFrame m #[(.ref a), (.int (1 : Int32))] 2))
  rw [efMb1]
  have SZ0 := SZ.ext O0.2
  have EZ0 := EZ.ext O0.2
  have FZ0 := FZ.ext O0.2
  have SP0 := SP.ext O0.2
  refine Go.by (fun _ kont => XS.aloadN X0.here hx rfl (hb hby dMb1_0) rfl rfl kont) ?_
  show Go _ _ _ _ _ _ _ (s₁.setTop (mkF m 1 #[.val (.ref a), .val (.int (1 : Int32))] [(.ref a)]))
  obtain ⟨T101, X101, e101, st101⟩ := getF X0 hx hZ hown (host := "") (Or.inl (hw _ (List.mem_of_getElem? (i := 15) rfl))) Via.refl e0 Fa (g := (mkF m 1 #[.val (.ref a), .val (.int (1 : Int32))] [(.ref a)])) rfl rfl (hb hby dMb1_1)
  refine Go.by st101 ?_
  show Go _ _ _ _ _ _ _ (T101.setTop (mkF m 4 #[.val (.ref a), .val (.int (1 : Int32))] [(.ref ar)]))
  refine Go.by (fun _ kont => XS.iloadN X101.here hx rfl (hb hby dMb1_4) rfl kont) ?_
  show Go _ _ _ _ _ _ _ (T101.setTop (mkF m 5 #[.val (.ref a), .val (.int (1 : Int32))] [(.int (1 : Int32)), (.ref ar)]))
  obtain ⟨_, _, ⟨T102, L102, k102, n102⟩, -, X102, ⟨Lc102, hQ102, l102, y102, z102⟩, st102⟩ := Jvm.LawKit.callS X101 hx (y := (⟨"com/example/quorumsmith/quorumsmith/engine/CountSummary", "of", "([JI)Lcom/example/quorumsmith/quorumsmith/engine/CountSummary;"⟩ : MethodName)) hown (mvT hZ (hw _ (List.mem_of_getElem? (i := 28) rfl))) (mvT hZ (hw _ (List.mem_of_getElem? (i := 29) rfl))) (mvT hZ (hw _ (List.mem_of_getElem? (i := 30) rfl))) (mvT hZ (hw _ (List.mem_of_getElem? (i := 31) rfl))) (by decide) (backOf (W := 0) (rmO1 l Z a0 hw [] ar kc x0 x1 z0 pa h0 n0 Z0 Va Bx0 Bx1 O0 SZ EZ FZ SP HP) hZ (hw _ (List.mem_of_getElem? (i := 31) rfl)) (hw _ (List.mem_of_getElem? (i := 30) rfl)) (by decide) (by decide)) (g := (mkF m 5 #[.val (.ref a), .val (.int (1 : Int32))] [(.int (1 : Int32)), (.ref ar)])) rfl (by rw [hml]; rfl) (argsL := [(.ref ar), (.int (1 : Int32))]) (rest := []) (lenOf pdMb1_0 rfl) rfl (by show 2 * 0 + _ ≤ _; exact Nat.le_of_eq rfl) (hb hby dMb1_5) (fun _ _ => ⟨rfl, e101, (by decide : 0 + 3 ≤ _), (by decide : 0 + 12 ≤ _)⟩)
  dsimp only [Pt.U, Pt.locs, Pt.cells, Pt.slots] at X102 l102 y102 z102 st102 hQ102
  subst l102 y102 z102
  obtain ⟨y102, rfl, N102q, K102, ge_y102, szc_y102, E102z, Fn102z, Fx102z⟩ := hQ102
  have ne_z0_y102 : z0 ≠ y102 := Nat.ne_of_lt (Nat.lt_of_lt_of_le FZ0.lt szc_y102)
  have ne_a_y102 : a ≠ y102 := Nat.ne_of_lt (Nat.lt_of_lt_of_le Fa.lt szc_y102)
  have ne_ar_y102 : ar ≠ y102 := Nat.ne_of_lt (Nat.lt_of_lt_of_le Va.lt szc_y102)
  have sz_y102 : h0.size ≤ y102 := Nat.le_trans (Keep.refl h0 []).1 szc_y102
  have S103_ZERO := own_stakeep SZ0 K102 all0
  have S103_posConst := own_stakeep SP0 K102 all0
  have F103_signum_z0 := FZ0.keep K102 nin0
  have F103_bitsSent_a := Fa.keep K102 nin0
  have E103_z0 := EZ0.keep K102
  have V103_ar := Va.keep K102 nin0
  have P103_old := O0.keep K102 all0
  have Z103 := Nat.le_trans Z0 K102.1
  have K103 : Keep h0 T102.heap [] := Keep.trans (Keep.refl h0 []) K102 all0
  have N102 := Fr.app N0 N102q
  refine Go.by st102 ?_
  show Go _ _ _ _ _ _ _ (T102.setTop (mkF m 8 #[.val (.ref a), .val (.int (1 : Int32))] [(.ref y102)]))
  refine Go.retR X102 hx hret rfl rfl hlk (hb hby dMb1_8) ?_ (by decide) (by decide)
  show QMb1 Z x0 x1 h0 n0 (some (.ref y102)) T102.heap _
  exact ⟨y102, rfl, N102, K103, ge_y102, sz_y102, E102z, Fn102z, Fx102z⟩

theorem dMb2_0 : decode prog_23_method_10_code 0 = .ok (.aload_n 0, 1) := by decide +kernel
theorem dMb2_1 : decode prog_23_method_10_code 1 = .ok (.getfield 25, 3) := by decide +kernel
theorem dMb2_4 : decode prog_23_method_10_code 4 = .ok (.iload_n 1, 1) := by decide +kernel
theorem dMb2_5 : decode prog_23_method_10_code 5 = .ok (.invokestatic 63, 3) := by decide +kernel
theorem dMb2_8 : decode prog_23_method_10_code 8 = .ok (.areturn, 1) := by decide +kernel
theorem pdMb2_0 : parseMethodDescriptor "([JI)Lcom/example/quorumsmith/quorumsmith/engine/CountSummary;" = some ⟨[(.array .long), .int], some (.object "com/example/quorumsmith/quorumsmith/engine/CountSummary")⟩ := by decide +kernel
theorem pnMb2 : plainName "com/example/quorumsmith/quorumsmith/engine/Network" = true := by first | (simp [plainName, overriddenIn]; done) | decide +kernel
theorem efMb2 (m : MethodId) (a : Addr) : entryFrame m #[(.ref a), (.int (2 : Int32))] 2 = mkF m 0 #[.val (.ref a), .val (.int (2 : Int32))] [] := by first | (simp [entryFrame, mkF, argsToLocals, Value.category]; done) | rfl
def QMb2 (Z : State) (x0 : Int64) (x1 : Int64) (h0 : Heap) (n0 : Nat) (v : Option Value) (h : Heap) (L : List Loc) : Prop := ∃ y : Addr, (v = some (.ref y) ∧ Fr n0 L ∧ Keep h0 h [] ∧ n0 ≤ y ∧ h0.size ≤ y ∧ Exa Z h y "com/example/quorumsmith/quorumsmith/engine/CountSummary" ∧ Fld Z h y "com/example/quorumsmith/quorumsmith/engine/CountSummary" "min" "J" (.long (fMi (fMi (9223372036854775807 : Int64) x0) x1)) ∧ Fld Z h y "com/example/quorumsmith/quorumsmith/engine/CountSummary" "max" "J" (.long (fMa (fMa (0 : Int64) x0) x1)))
set_option maxRecDepth 65536 in
set_option maxHeartbeats 40000000 in
theorem rmMb2 (l : Launch) (Z : State) (a0 : Array Value) (hw : ∀ d ∈ tables_1, d.before a0 Z = true) (ws : List Jvm.Cond) (a : Addr) (ar : Addr) (kc : ClassId) (x0 : Int64) (x1 : Int64) (z0 : Addr) (pa : Addr) (h0 : Heap) (n0 : Nat) (Z0 : n0 ≤ h0.size) (Fa : Fld Z h0 a "com/example/quorumsmith/quorumsmith/engine/Network" "bitsSent" "[J" (.ref ar)) (Va : Arv Z h0 ar kc .long (2 : Int32) [(.long x0), (.long x1)] (.long (0 : Int64))) (Bx0 : 0 ≤ x0.toInt ∧ x0.toInt ≤ 4294967296) (Bx1 : 0 ≤ x1.toInt ∧ x1.toInt ≤ 4294967296) (O0 : Old Z n0 h0) (SZ : Sta Z Z.heap "java/math/BigInteger" "ZERO" "Ljava/math/BigInteger;" (.ref z0)) (EZ : Exa Z Z.heap z0 "java/math/BigInteger") (FZ : Fld Z Z.heap z0 "java/math/BigInteger" "signum" "I" (.int (0 : Int32))) (SP : Sta Z Z.heap "java/math/BigInteger" "posConst" "[Ljava/math/BigInteger;" (.ref pa)) (HP : PC Z pa) :
    MetFree l (⟨"com/example/quorumsmith/quorumsmith/engine/Network", "bitsSent", "(I)Lcom/example/quorumsmith/quorumsmith/engine/CountSummary;"⟩ : MethodName) (head1 (Jvm.Cond.code (⟨"com/example/quorumsmith/quorumsmith/engine/Network", "bitsSent", "(I)Lcom/example/quorumsmith/quorumsmith/engine/CountSummary;"⟩ : MethodName) prog_23_method_10_code 2 (some (.object "com/example/quorumsmith/quorumsmith/engine/CountSummary")) :: ws) ({ frames := 5, cells := 3, slots := 12, locals := 78 } : Room)) (fun aa_ U_ => aa_ = #[(.ref a), (.int (2 : Int32))] ∧ Z.Warmed39 U_.vm ∧ U_.heap = h0) (fun _ _ _ _ _ => True) (fun _ U_ o_ V_ => ∃ v_ L_, o_ = .returned v_ ∧ QMb2 Z x0 x1 h0 n0 v_ V_.heap L_ ∧ FrameEnd U_ o_ V_ L_ ({ frames := 5, cells := 3, slots := 12, locals := 78 } : Room).cells ({ frames := 5, cells := 3, slots := 12, locals := 78 } : Room).slots) := by
  refine MetFree.of_bodySF (plainFor_of_name pnMb2) hisR ?_
  intro p e s m args below meth c s₁ Bd hml0 hP hK
  obtain ⟨rfl, hZ, hh⟩ := hP
  have hx := Bd.exec
  have hby := Bd.bytes
  have hml : c.maxLocals = 2 := hml0
  have hown : s.vm.findClass "com/example/quorumsmith/quorumsmith/engine/Network" = some m.cls := findClass_of_methodNamed Bd.named
  have hnm := (name_of_methodNamed Bd.named Bd.method).1
  have hlk : meth.locks = false := BodyLoose.notSynchronized Bd
  have hret : meth.sig.returnType = (some (.object "com/example/quorumsmith/quorumsmith/engine/CountSummary")) := Bd.returns
  have X0 : Stand p l e ({ frames := 5, cells := 3, slots := 12, locals := 78 } : Room) s m #[(.ref a), (.int (2 : Int32))] below meth c s₁ [] 0 0 := Stand.of_body Bd
  have e0 : s₁.heap = h0 := by rw [← hh, Bd.state]; rfl
  have N0 := Fr.nil n0
  show Go p e below s ({ frames := 5, cells := 3, slots := 12, locals := 78 } : Room).cells ({ frames := 5, cells := 3, slots := 12, locals := 78 } : Room).slots (QMb2 Z x0 x1 h0 n0) (s₁.setTop (entryFrame m #[(.ref a), (.int (2 : Int32))] 2))
  rw [efMb2]
  have SZ0 := SZ.ext O0.2
  have EZ0 := EZ.ext O0.2
  have FZ0 := FZ.ext O0.2
  have SP0 := SP.ext O0.2
  refine Go.by (fun _ kont => XS.aloadN X0.here hx rfl (hb hby dMb2_0) rfl rfl kont) ?_
  show Go _ _ _ _ _ _ _ (s₁.setTop (mkF m 1 #[.val (.ref a), .val (.int (2 : Int32))] [(.ref a)]))
  obtain ⟨T101, X101, e101, st101⟩ := getF X0 hx hZ hown (host := "") (Or.inl (hw _ (List.mem_of_getElem? (i := 15) rfl))) Via.refl e0 Fa (g := (mkF m 1 #[.val (.ref a), .val (.int (2 : Int32))] [(.ref a)])) rfl rfl (hb hby dMb2_1)
  refine Go.by st101 ?_
  show Go _ _ _ _ _ _ _ (T101.setTop (mkF m 4 #[.val (.ref a), .val (.int (2 : Int32))] [(.ref ar)]))
  refine Go.by (fun _ kont => XS.iloadN X101.here hx rfl (hb hby dMb2_4) rfl kont) ?_
  show Go _ _ _ _ _ _ _ (T101.setTop (mkF m 5 #[.val (.ref a), .val (.int (2 : Int32))] [(.int (2 : Int32)), (.ref ar)]))
  obtain ⟨_, _, ⟨T102, L102, k102, n102⟩, -, X102, ⟨Lc102, hQ102, l102, y102, z102⟩, st102⟩ := Jvm.LawKit.callS X101 hx (y := (⟨"com/example/quorumsmith/quorumsmith/engine/CountSummary", "of", "([JI)Lcom/example/quorumsmith/quorumsmith/engine/CountSummary;"⟩ : MethodName)) hown (mvT hZ (hw _ (List.mem_of_getElem? (i := 28) rfl))) (mvT hZ (hw _ (List.mem_of_getElem? (i := 29) rfl))) (mvT hZ (hw _ (List.mem_of_getElem? (i := 30) rfl))) (mvT hZ (hw _ (List.mem_of_getElem? (i := 31) rfl))) (by decide) (backOf (W := 0) (rmO2 l Z a0 hw [] ar kc x0 x1 z0 pa h0 n0 Z0 Va Bx0 Bx1 O0 SZ EZ FZ SP HP) hZ (hw _ (List.mem_of_getElem? (i := 31) rfl)) (hw _ (List.mem_of_getElem? (i := 30) rfl)) (by decide) (by decide)) (g := (mkF m 5 #[.val (.ref a), .val (.int (2 : Int32))] [(.int (2 : Int32)), (.ref ar)])) rfl (by rw [hml]; rfl) (argsL := [(.ref ar), (.int (2 : Int32))]) (rest := []) (lenOf pdMb2_0 rfl) rfl (by show 2 * 0 + _ ≤ _; exact Nat.le_of_eq rfl) (hb hby dMb2_5) (fun _ _ => ⟨rfl, e101, (by decide : 0 + 3 ≤ _), (by decide : 0 + 12 ≤ _)⟩)
  dsimp only [Pt.U, Pt.locs, Pt.cells, Pt.slots] at X102 l102 y102 z102 st102 hQ102
  subst l102 y102 z102
  obtain ⟨y102, rfl, N102q, K102, ge_y102, szc_y102, E102z, Fn102z, Fx102z⟩ := hQ102
  have ne_z0_y102 : z0 ≠ y102 := Nat.ne_of_lt (Nat.lt_of_lt_of_le FZ0.lt szc_y102)
  have ne_a_y102 : a ≠ y102 := Nat.ne_of_lt (Nat.lt_of_lt_of_le Fa.lt szc_y102)
  have ne_ar_y102 : ar ≠ y102 := Nat.ne_of_lt (Nat.lt_of_lt_of_le Va.lt szc_y102)
  have sz_y102 : h0.size ≤ y102 := Nat.le_trans (Keep.refl h0 []).1 szc_y102
  have S103_ZERO := own_stakeep SZ0 K102 all0
  have S103_posConst := own_stakeep SP0 K102 all0
  have F103_signum_z0 := FZ0.keep K102 nin0
  have F103_bitsSent_a := Fa.keep K102 nin0
  have E103_z0 := EZ0.keep K102
  have V103_ar := Va.keep K102 nin0
  have P103_old := O0.keep K102 all0
  have Z103 := Nat.le_trans Z0 K102.1
  have K103 : Keep h0 T102.heap [] := Keep.trans (Keep.refl h0 []) K102 all0
  have N102 := Fr.app N0 N102q
  refine Go.by st102 ?_
  show Go _ _ _ _ _ _ _ (T102.setTop (mkF m 8 #[.val (.ref a), .val (.int (2 : Int32))] [(.ref y102)]))
  refine Go.retR X102 hx hret rfl rfl hlk (hb hby dMb2_8) ?_ (by decide) (by decide)
  show QMb2 Z x0 x1 h0 n0 (some (.ref y102)) T102.heap _
  exact ⟨y102, rfl, N102, K103, ge_y102, sz_y102, E102z, Fn102z, Fx102z⟩

theorem dGx_0 : decode prog_20_method_13_code 0 = .ok (.aload_n 0, 1) := by decide +kernel
theorem dGx_1 : decode prog_20_method_13_code 1 = .ok (.getfield 35, 3) := by decide +kernel
theorem dGx_4 : decode prog_20_method_13_code 4 = .ok (.lreturn, 1) := by decide +kernel
theorem pnGx : plainName "com/example/quorumsmith/quorumsmith/engine/CountSummary" = true := by first | (simp [plainName, overriddenIn]; done) | decide +kernel
theorem efGx (m : MethodId) (a : Addr) : entryFrame m #[(.ref a)] 1 = mkF m 0 #[.val (.ref a)] [] := by first | (simp [entryFrame, mkF, argsToLocals, Value.category]; done) | rfl
def QGx (Z : State) (a : Addr) (vv : Int64) (h0 : Heap) (n0 : Nat) (v : Option Value) (h : Heap) (L : List Loc) : Prop := (v = some (.long vv) ∧ Fr n0 L ∧ h = h0)
set_option maxRecDepth 65536 in
set_option maxHeartbeats 40000000 in
theorem rmGx (l : Launch) (Z : State) (a0 : Array Value) (hw : ∀ d ∈ tables_1, d.before a0 Z = true) (ws : List Jvm.Cond) (a : Addr) (vv : Int64) (h0 : Heap) (n0 : Nat) (Z0 : n0 ≤ h0.size) (E0_a : Exa Z h0 a "com/example/quorumsmith/quorumsmith/engine/CountSummary") (F0_a_max : Fld Z h0 a "com/example/quorumsmith/quorumsmith/engine/CountSummary" "max" "J" (.long vv)) :
    MetFree l (⟨"com/example/quorumsmith/quorumsmith/engine/CountSummary", "max", "()J"⟩ : MethodName) (head1 (Jvm.Cond.code (⟨"com/example/quorumsmith/quorumsmith/engine/CountSummary", "max", "()J"⟩ : MethodName) prog_20_method_13_code 1 (some .long) :: ws) ({ frames := 0, cells := 0, slots := 0, locals := 0 } : Room)) (fun aa_ U_ => aa_ = #[(.ref a)] ∧ Z.Warmed39 U_.vm ∧ U_.heap = h0) (fun _ _ _ _ _ => True) (fun _ U_ o_ V_ => ∃ v_ L_, o_ = .returned v_ ∧ QGx Z a vv h0 n0 v_ V_.heap L_ ∧ FrameEnd U_ o_ V_ L_ ({ frames := 0, cells := 0, slots := 0, locals := 0 } : Room).cells ({ frames := 0, cells := 0, slots := 0, locals := 0 } : Room).slots) := by
  refine MetFree.of_bodySF (plainFor_of_name pnGx) hisR ?_
  intro p e s m args below meth c s₁ Bd hml0 hP hK
  obtain ⟨rfl, hZ, hh⟩ := hP
  have hx := Bd.exec
  have hby := Bd.bytes
  have hml : c.maxLocals = 1 := hml0
  have hown : s.vm.findClass "com/example/quorumsmith/quorumsmith/engine/CountSummary" = some m.cls := findClass_of_methodNamed Bd.named
  have hnm := (name_of_methodNamed Bd.named Bd.method).1
  have hlk : meth.locks = false := BodyLoose.notSynchronized Bd
  have hret : meth.sig.returnType = (some .long) := Bd.returns
  have X0 : Stand p l e ({ frames := 0, cells := 0, slots := 0, locals := 0 } : Room) s m #[(.ref a)] below meth c s₁ [] 0 0 := Stand.of_body Bd
  have e0 : s₁.heap = h0 := by rw [← hh, Bd.state]; rfl
  have N0 := Fr.nil n0
  show Go p e below s ({ frames := 0, cells := 0, slots := 0, locals := 0 } : Room).cells ({ frames := 0, cells := 0, slots := 0, locals := 0 } : Room).slots (QGx Z a vv h0 n0) (s₁.setTop (entryFrame m #[(.ref a)] 1))
  rw [efGx]
  refine Go.by (fun _ kont => XS.aloadN X0.here hx rfl (hb hby dGx_0) rfl rfl kont) ?_
  show Go _ _ _ _ _ _ _ (s₁.setTop (mkF m 1 #[.val (.ref a)] [(.ref a)]))
  obtain ⟨T101, X101, e101, st101⟩ := getF X0 hx hZ hown (host := "") (Or.inl (hw _ (List.mem_of_getElem? (i := 80) rfl))) Via.refl e0 F0_a_max (g := (mkF m 1 #[.val (.ref a)] [(.ref a)])) rfl rfl (hb hby dGx_1)
  refine Go.by st101 ?_
  show Go _ _ _ _ _ _ _ (T101.setTop (mkF m 4 #[.val (.ref a)] [(.long vv)]))
  refine Go.retJ X101 hx hret hlk (hb hby dGx_4) ?_ (by decide) (by decide)
  show QGx Z a vv h0 n0 (some (.long vv)) T101.heap _
  rw [e101]
  exact ⟨rfl, N0, rfl⟩

theorem dGn_0 : decode prog_20_method_12_code 0 = .ok (.aload_n 0, 1) := by decide +kernel
theorem dGn_1 : decode prog_20_method_12_code 1 = .ok (.getfield 32, 3) := by decide +kernel
theorem dGn_4 : decode prog_20_method_12_code 4 = .ok (.lreturn, 1) := by decide +kernel
theorem pnGn : plainName "com/example/quorumsmith/quorumsmith/engine/CountSummary" = true := by first | (simp [plainName, overriddenIn]; done) | decide +kernel
theorem efGn (m : MethodId) (a : Addr) : entryFrame m #[(.ref a)] 1 = mkF m 0 #[.val (.ref a)] [] := by first | (simp [entryFrame, mkF, argsToLocals, Value.category]; done) | rfl
def QGn (Z : State) (a : Addr) (vv : Int64) (h0 : Heap) (n0 : Nat) (v : Option Value) (h : Heap) (L : List Loc) : Prop := (v = some (.long vv) ∧ Fr n0 L ∧ h = h0)
set_option maxRecDepth 65536 in
set_option maxHeartbeats 40000000 in
theorem rmGn (l : Launch) (Z : State) (a0 : Array Value) (hw : ∀ d ∈ tables_1, d.before a0 Z = true) (ws : List Jvm.Cond) (a : Addr) (vv : Int64) (h0 : Heap) (n0 : Nat) (Z0 : n0 ≤ h0.size) (E0_a : Exa Z h0 a "com/example/quorumsmith/quorumsmith/engine/CountSummary") (F0_a_min : Fld Z h0 a "com/example/quorumsmith/quorumsmith/engine/CountSummary" "min" "J" (.long vv)) :
    MetFree l (⟨"com/example/quorumsmith/quorumsmith/engine/CountSummary", "min", "()J"⟩ : MethodName) (head1 (Jvm.Cond.code (⟨"com/example/quorumsmith/quorumsmith/engine/CountSummary", "min", "()J"⟩ : MethodName) prog_20_method_12_code 1 (some .long) :: ws) ({ frames := 0, cells := 0, slots := 0, locals := 0 } : Room)) (fun aa_ U_ => aa_ = #[(.ref a)] ∧ Z.Warmed39 U_.vm ∧ U_.heap = h0) (fun _ _ _ _ _ => True) (fun _ U_ o_ V_ => ∃ v_ L_, o_ = .returned v_ ∧ QGn Z a vv h0 n0 v_ V_.heap L_ ∧ FrameEnd U_ o_ V_ L_ ({ frames := 0, cells := 0, slots := 0, locals := 0 } : Room).cells ({ frames := 0, cells := 0, slots := 0, locals := 0 } : Room).slots) := by
  refine MetFree.of_bodySF (plainFor_of_name pnGn) hisR ?_
  intro p e s m args below meth c s₁ Bd hml0 hP hK
  obtain ⟨rfl, hZ, hh⟩ := hP
  have hx := Bd.exec
  have hby := Bd.bytes
  have hml : c.maxLocals = 1 := hml0
  have hown : s.vm.findClass "com/example/quorumsmith/quorumsmith/engine/CountSummary" = some m.cls := findClass_of_methodNamed Bd.named
  have hnm := (name_of_methodNamed Bd.named Bd.method).1
  have hlk : meth.locks = false := BodyLoose.notSynchronized Bd
  have hret : meth.sig.returnType = (some .long) := Bd.returns
  have X0 : Stand p l e ({ frames := 0, cells := 0, slots := 0, locals := 0 } : Room) s m #[(.ref a)] below meth c s₁ [] 0 0 := Stand.of_body Bd
  have e0 : s₁.heap = h0 := by rw [← hh, Bd.state]; rfl
  have N0 := Fr.nil n0
  show Go p e below s ({ frames := 0, cells := 0, slots := 0, locals := 0 } : Room).cells ({ frames := 0, cells := 0, slots := 0, locals := 0 } : Room).slots (QGn Z a vv h0 n0) (s₁.setTop (entryFrame m #[(.ref a)] 1))
  rw [efGn]
  refine Go.by (fun _ kont => XS.aloadN X0.here hx rfl (hb hby dGn_0) rfl rfl kont) ?_
  show Go _ _ _ _ _ _ _ (s₁.setTop (mkF m 1 #[.val (.ref a)] [(.ref a)]))
  obtain ⟨T101, X101, e101, st101⟩ := getF X0 hx hZ hown (host := "") (Or.inl (hw _ (List.mem_of_getElem? (i := 78) rfl))) Via.refl e0 F0_a_min (g := (mkF m 1 #[.val (.ref a)] [(.ref a)])) rfl rfl (hb hby dGn_1)
  refine Go.by st101 ?_
  show Go _ _ _ _ _ _ _ (T101.setTop (mkF m 4 #[.val (.ref a)] [(.long vv)]))
  refine Go.retJ X101 hx hret hlk (hb hby dGn_4) ?_ (by decide) (by decide)
  show QGn Z a vv h0 n0 (some (.long vv)) T101.heap _
  rw [e101]
  exact ⟨rfl, N0, rfl⟩

theorem dPn_0 : decode method_2_code 0 = .ok (.aload_n 0, 1) := by decide +kernel
theorem dPn_1 : decode method_2_code 1 = .ok (.invokevirtual 7, 3) := by decide +kernel
theorem dPn_4 : decode method_2_code 4 = .ok (.lload_n 2, 1) := by decide +kernel
theorem dPn_5 : decode method_2_code 5 = .ok (.lcmp, 1) := by decide +kernel
theorem dPn_6 : decode method_2_code 6 = .ok (.ifCond .ne 35, 3) := by decide +kernel
theorem dPn_9 : decode method_2_code 9 = .ok (.aload_n 1, 1) := by decide +kernel
theorem dPn_10 : decode method_2_code 10 = .ok (.invokevirtual 13, 3) := by decide +kernel
theorem dPn_13 : decode method_2_code 13 = .ok (.lload_n 2, 1) := by decide +kernel
theorem dPn_14 : decode method_2_code 14 = .ok (.lload 4, 2) := by decide +kernel
theorem dPn_16 : decode method_2_code 16 = .ok (.invokestatic 16, 3) := by decide +kernel
theorem dPn_19 : decode method_2_code 19 = .ok (.lcmp, 1) := by decide +kernel
theorem dPn_20 : decode method_2_code 20 = .ok (.ifCond .ne 21, 3) := by decide +kernel
theorem dPn_23 : decode method_2_code 23 = .ok (.aload_n 1, 1) := by decide +kernel
theorem dPn_24 : decode method_2_code 24 = .ok (.invokevirtual 7, 3) := by decide +kernel
theorem dPn_27 : decode method_2_code 27 = .ok (.lload_n 2, 1) := by decide +kernel
theorem dPn_28 : decode method_2_code 28 = .ok (.lload 4, 2) := by decide +kernel
theorem dPn_30 : decode method_2_code 30 = .ok (.invokestatic 21, 3) := by decide +kernel
theorem dPn_33 : decode method_2_code 33 = .ok (.lcmp, 1) := by decide +kernel
theorem dPn_34 : decode method_2_code 34 = .ok (.ifCond .ne 7, 3) := by decide +kernel
theorem dPn_37 : decode method_2_code 37 = .ok (.iconst 1, 1) := by decide +kernel
theorem dPn_38 : decode method_2_code 38 = .ok (.goto 4, 3) := by decide +kernel
theorem dPn_41 : decode method_2_code 41 = .ok (.iconst 0, 1) := by decide +kernel
theorem dPn_42 : decode method_2_code 42 = .ok (.ireturn, 1) := by decide +kernel
theorem pdPn_0 : parseMethodDescriptor "()J" = some ⟨[], some .long⟩ := by decide +kernel
theorem pdPn_1 : parseMethodDescriptor "(JJ)J" = some ⟨[.long, .long], some .long⟩ := by decide +kernel
theorem pnPn : plainName "com/example/quorumsmith/quorumsmith/engine/NetworkSendPinLaw" = true := by first | (simp [plainName, overriddenIn]; done) | decide +kernel
theorem efPn (m : MethodId) (a : Addr) (b : Addr) (k0 : Int64) (k1 : Int64) : entryFrame m #[(.ref a), (.ref b), (.long k0), (.long k1)] 6 = mkF m 0 #[.val (.ref a), .val (.ref b), .val (.long k0), .second, .val (.long k1), .second] [] := by first | (simp [entryFrame, mkF, argsToLocals, Value.category]; done) | rfl
def fPn (k0 : Int64) (k1 : Int64) (fm : Int64) (bn : Int64) (bx : Int64) : Int32 := (if fm = k0 then (if bn = (fMi k0 k1) then (if bx = (fMa k0 k1) then (1 : Int32) else (0 : Int32)) else (0 : Int32)) else (0 : Int32))
def QPn (Z : State) (a : Addr) (b : Addr) (k0 : Int64) (k1 : Int64) (fm : Int64) (bn : Int64) (bx : Int64) (h0 : Heap) (n0 : Nat) (v : Option Value) (h : Heap) (L : List Loc) : Prop := v = some (.int (fPn k0 k1 fm bn bx)) ∧ Fr n0 L ∧ h = h0
set_option maxRecDepth 65536 in
set_option maxHeartbeats 40000000 in
theorem rmPn (l : Launch) (Z : State) (a0 : Array Value) (hw : ∀ d ∈ tables_1, d.before a0 Z = true) (ws : List Jvm.Cond) (a : Addr) (b : Addr) (k0 : Int64) (k1 : Int64) (fm : Int64) (bn : Int64) (bx : Int64) (h0 : Heap) (n0 : Nat) (Z0 : n0 ≤ h0.size) (Ea : Exa Z h0 a "com/example/quorumsmith/quorumsmith/engine/CountSummary") (Eb : Exa Z h0 b "com/example/quorumsmith/quorumsmith/engine/CountSummary") (Fa : Fld Z h0 a "com/example/quorumsmith/quorumsmith/engine/CountSummary" "max" "J" (.long fm)) (Fn : Fld Z h0 b "com/example/quorumsmith/quorumsmith/engine/CountSummary" "min" "J" (.long bn)) (Fx : Fld Z h0 b "com/example/quorumsmith/quorumsmith/engine/CountSummary" "max" "J" (.long bx)) :
    MetFree l (⟨"com/example/quorumsmith/quorumsmith/engine/NetworkSendPinLaw", "pinned", "(Lcom/example/quorumsmith/quorumsmith/engine/CountSummary;Lcom/example/quorumsmith/quorumsmith/engine/CountSummary;JJ)Z"⟩ : MethodName) (head1 (Jvm.Cond.code (⟨"com/example/quorumsmith/quorumsmith/engine/NetworkSendPinLaw", "pinned", "(Lcom/example/quorumsmith/quorumsmith/engine/CountSummary;Lcom/example/quorumsmith/quorumsmith/engine/CountSummary;JJ)Z"⟩ : MethodName) method_2_code 6 (some .boolean) :: ws) ({ frames := 1, cells := 0, slots := 0, locals := 17 } : Room)) (fun aa_ U_ => aa_ = #[(.ref a), (.ref b), (.long k0), (.long k1)] ∧ Z.Warmed39 U_.vm ∧ U_.heap = h0) (fun _ _ _ _ _ => True) (fun _ U_ o_ V_ => ∃ v_ L_, o_ = .returned v_ ∧ QPn Z a b k0 k1 fm bn bx h0 n0 v_ V_.heap L_ ∧ FrameEnd U_ o_ V_ L_ ({ frames := 1, cells := 0, slots := 0, locals := 17 } : Room).cells ({ frames := 1, cells := 0, slots := 0, locals := 17 } : Room).slots) := by
  refine MetFree.of_bodySF (plainFor_of_name pnPn) hisR ?_
  intro p e s m args below meth c s₁ Bd hml0 hP hK
  obtain ⟨rfl, hZ, hh⟩ := hP
  have hx := Bd.exec
  have hby := Bd.bytes
  have hml : c.maxLocals = 6 := hml0
  have hown : s.vm.findClass "com/example/quorumsmith/quorumsmith/engine/NetworkSendPinLaw" = some m.cls := findClass_of_methodNamed Bd.named
  have hnm := (name_of_methodNamed Bd.named Bd.method).1
  have hlk : meth.locks = false := BodyLoose.notSynchronized Bd
  have hret : meth.sig.returnType = (some .boolean) := Bd.returns
  have X0 : Stand p l e ({ frames := 1, cells := 0, slots := 0, locals := 17 } : Room) s m #[(.ref a), (.ref b), (.long k0), (.long k1)] below meth c s₁ [] 0 0 := Stand.of_body Bd
  have e0 : s₁.heap = h0 := by rw [← hh, Bd.state]; rfl
  have N0 := Fr.nil n0
  show Go p e below s ({ frames := 1, cells := 0, slots := 0, locals := 17 } : Room).cells ({ frames := 1, cells := 0, slots := 0, locals := 17 } : Room).slots (QPn Z a b k0 k1 fm bn bx h0 n0) (s₁.setTop (entryFrame m #[(.ref a), (.ref b), (.long k0), (.long k1)] 6))
  rw [efPn]
  refine Go.by (fun _ kont => XS.aloadN X0.here hx rfl (hb hby dPn_0) rfl rfl kont) ?_
  show Go _ _ _ _ _ _ _ (s₁.setTop (mkF m 1 #[.val (.ref a), .val (.ref b), .val (.long k0), .second, .val (.long k1), .second] [(.ref a)]))
  obtain ⟨cq101, kq101, q101a, q101b, q101c⟩ := isOf hZ e0 Ea
  obtain ⟨_, _, ⟨T101, L101, k101, n101⟩, -, X101, ⟨Lc101, hQ101, l101, y101, z101⟩, st101⟩ := X0.virtualBack hx (y := (⟨"com/example/quorumsmith/quorumsmith/engine/CountSummary", "max", "()J"⟩ : MethodName)) (z := (⟨"com/example/quorumsmith/quorumsmith/engine/CountSummary", "max", "()J"⟩ : MethodName)) hown (mvT hZ (hw _ (List.mem_of_getElem? (i := 86) rfl))) (mvT hZ (hw _ (List.mem_of_getElem? (i := 87) rfl))) (notFace_of_selects (args := #[]) (mvT hZ (hw _ (List.mem_of_getElem? (i := 89) rfl)))) (mvT hZ (hw _ (List.mem_of_getElem? (i := 89) rfl))) (mvT hZ (hw _ (List.mem_of_getElem? (i := 88) rfl))) (by decide) (backOf (W := 0) (rmGx l Z a0 hw [] a fm h0 n0 Z0 Ea Fa) hZ (hw _ (List.mem_of_getElem? (i := 90) rfl)) (hw _ (List.mem_of_getElem? (i := 30) rfl)) (by decide) (by decide)) q101a q101c (g := (mkF m 1 #[.val (.ref a), .val (.ref b), .val (.long k0), .second, .val (.long k1), .second] [(.ref a)])) rfl (by rw [hml]; rfl) (Steps.refl _) (argsL := []) (rest := []) (lenOf pdPn_0 rfl) rfl (by show 2 * 0 + _ ≤ _; exact Nat.le_of_eq rfl) (hb hby dPn_1) (fun _ _ => ⟨rfl, e0, (by decide : 0 + 0 ≤ _), (by decide : 0 + 0 ≤ _)⟩)
  dsimp only [Pt.U, Pt.locs, Pt.cells, Pt.slots] at X101 l101 y101 z101 st101 hQ101
  subst l101 y101 z101
  obtain ⟨rfl, N101q, eh101⟩ := hQ101
  have N101 := Fr.app N0 N101q
  refine Go.tr st101 ?_
  show Go _ _ _ _ _ _ _ (T101.setTop (mkF m 4 #[.val (.ref a), .val (.ref b), .val (.long k0), .second, .val (.long k1), .second] [(.long fm)]))
  refine Go.by (fun _ kont => XS.lloadN X101.here hx rfl (hb hby dPn_4) rfl (XS.lcmp X101.here hx rfl (hb hby dPn_5) rfl kont)) ?_
  show Go _ _ _ _ _ _ _ (T101.setTop (mkF m 6 #[.val (.ref a), .val (.ref b), .val (.long k0), .second, .val (.long k1), .second] [(.int (lcmpW fm k0))]))
  by_cases hc102 : fm = k0
  · refine Go.by (fun _ kont => XS.ifNo X101.here hx rfl (hb hby dPn_6) rfl ((if0 _ _).trans (teq ((lw_eq _ _).mpr hc102)).2) kont) ?_
    show Go _ _ _ _ _ _ _ (T101.setTop (mkF m 9 #[.val (.ref a), .val (.ref b), .val (.long k0), .second, .val (.long k1), .second] []))
    refine Go.by (fun _ kont => XS.aloadN X101.here hx rfl (hb hby dPn_9) rfl rfl kont) ?_
    show Go _ _ _ _ _ _ _ (T101.setTop (mkF m 10 #[.val (.ref a), .val (.ref b), .val (.long k0), .second, .val (.long k1), .second] [(.ref b)]))
    obtain ⟨cq103, kq103, q103a, q103b, q103c⟩ := isOf hZ eh101 Eb
    obtain ⟨_, _, ⟨T103, L103, k103, n103⟩, -, X103, ⟨Lc103, hQ103, l103, y103, z103⟩, st103⟩ := X101.virtualBack hx (y := (⟨"com/example/quorumsmith/quorumsmith/engine/CountSummary", "min", "()J"⟩ : MethodName)) (z := (⟨"com/example/quorumsmith/quorumsmith/engine/CountSummary", "min", "()J"⟩ : MethodName)) hown (mvT hZ (hw _ (List.mem_of_getElem? (i := 91) rfl))) (mvT hZ (hw _ (List.mem_of_getElem? (i := 92) rfl))) (notFace_of_selects (args := #[]) (mvT hZ (hw _ (List.mem_of_getElem? (i := 94) rfl)))) (mvT hZ (hw _ (List.mem_of_getElem? (i := 94) rfl))) (mvT hZ (hw _ (List.mem_of_getElem? (i := 93) rfl))) (by decide) (backOf (W := 0) (rmGn l Z a0 hw [] b bn h0 n0 Z0 Eb Fn) hZ (hw _ (List.mem_of_getElem? (i := 95) rfl)) (hw _ (List.mem_of_getElem? (i := 30) rfl)) (by decide) (by decide)) q103a q103c (g := (mkF m 10 #[.val (.ref a), .val (.ref b), .val (.long k0), .second, .val (.long k1), .second] [(.ref b)])) rfl (by rw [hml]; rfl) (Steps.refl _) (argsL := []) (rest := []) (lenOf pdPn_0 rfl) rfl (by show 2 * 0 + _ ≤ _; exact Nat.le_of_eq rfl) (hb hby dPn_10) (fun _ _ => ⟨rfl, eh101, (by decide : 0 + 0 ≤ _), (by decide : 0 + 0 ≤ _)⟩)
    dsimp only [Pt.U, Pt.locs, Pt.cells, Pt.slots] at X103 l103 y103 z103 st103 hQ103
    subst l103 y103 z103
    obtain ⟨rfl, N103q, eh103⟩ := hQ103
    have N103 := Fr.app N101 N103q
    refine Go.tr st103 ?_
    show Go _ _ _ _ _ _ _ (T103.setTop (mkF m 13 #[.val (.ref a), .val (.ref b), .val (.long k0), .second, .val (.long k1), .second] [(.long bn)]))
    refine Go.by (fun _ kont => XS.lloadN X103.here hx rfl (hb hby dPn_13) rfl (XS.lload X103.here hx rfl (hb hby dPn_14) rfl kont)) ?_
    show Go _ _ _ _ _ _ _ (T103.setTop (mkF m 16 #[.val (.ref a), .val (.ref b), .val (.long k0), .second, .val (.long k1), .second] [(.long k1), (.long k0), (.long bn)]))
    obtain ⟨_, _, ⟨T104, L104, k104, n104⟩, -, X104, ⟨Lc104, hQ104, l104, y104, z104⟩, st104⟩ := Jvm.LawKit.callS X103 hx (y := (⟨"java/lang/Math", "min", "(JJ)J"⟩ : MethodName)) hown (mvT hZ (hw _ (List.mem_of_getElem? (i := 96) rfl))) (mvT hZ (hw _ (List.mem_of_getElem? (i := 34) rfl))) (mvT hZ (hw _ (List.mem_of_getElem? (i := 35) rfl))) (mvT hZ (hw _ (List.mem_of_getElem? (i := 36) rfl))) (by decide) (backOf (W := 2) (rmMi l Z a0 hw [] k0 k1 h0 n0 Z0 ) hZ (hw _ (List.mem_of_getElem? (i := 36) rfl)) (hw _ (List.mem_of_getElem? (i := 35) rfl)) (by decide) (by decide)) (g := (mkF m 16 #[.val (.ref a), .val (.ref b), .val (.long k0), .second, .val (.long k1), .second] [(.long k1), (.long k0), (.long bn)])) rfl (by rw [hml]; rfl) (argsL := [(.long k0), (.long k1)]) (rest := [(.long bn)]) (lenOf pdPn_1 rfl) rfl (by show 2 * 0 + _ ≤ _; exact Nat.le_of_eq rfl) (hb hby dPn_16) (fun _ _ => ⟨rfl, eh103, (by decide : 0 + 0 ≤ _), (by decide : 0 + 0 ≤ _)⟩)
    dsimp only [Pt.U, Pt.locs, Pt.cells, Pt.slots] at X104 l104 y104 z104 st104 hQ104
    subst l104 y104 z104
    obtain ⟨rfl, N104q, eh104⟩ := hQ104
    have N104 := Fr.app N103 N104q
    refine Go.by st104 ?_
    show Go _ _ _ _ _ _ _ (T104.setTop (mkF m 19 #[.val (.ref a), .val (.ref b), .val (.long k0), .second, .val (.long k1), .second] [(.long (fMi k0 k1)), (.long bn)]))
    refine Go.by (fun _ kont => XS.lcmp X104.here hx rfl (hb hby dPn_19) rfl kont) ?_
    show Go _ _ _ _ _ _ _ (T104.setTop (mkF m 20 #[.val (.ref a), .val (.ref b), .val (.long k0), .second, .val (.long k1), .second] [(.int (lcmpW bn (fMi k0 k1)))]))
    by_cases hc105 : bn = (fMi k0 k1)
    · refine Go.by (fun _ kont => XS.ifNo X104.here hx rfl (hb hby dPn_20) rfl ((if0 _ _).trans (teq ((lw_eq _ _).mpr hc105)).2) kont) ?_
      show Go _ _ _ _ _ _ _ (T104.setTop (mkF m 23 #[.val (.ref a), .val (.ref b), .val (.long k0), .second, .val (.long k1), .second] []))
      refine Go.by (fun _ kont => XS.aloadN X104.here hx rfl (hb hby dPn_23) rfl rfl kont) ?_
      show Go _ _ _ _ _ _ _ (T104.setTop (mkF m 24 #[.val (.ref a), .val (.ref b), .val (.long k0), .second, .val (.long k1), .second] [(.ref b)]))
      obtain ⟨cq106, kq106, q106a, q106b, q106c⟩ := isOf hZ eh104 Eb
      obtain ⟨_, _, ⟨T106, L106, k106, n106⟩, -, X106, ⟨Lc106, hQ106, l106, y106, z106⟩, st106⟩ := X104.virtualBack hx (y := (⟨"com/example/quorumsmith/quorumsmith/engine/CountSummary", "max", "()J"⟩ : MethodName)) (z := (⟨"com/example/quorumsmith/quorumsmith/engine/CountSummary", "max", "()J"⟩ : MethodName)) hown (mvT hZ (hw _ (List.mem_of_getElem? (i := 86) rfl))) (mvT hZ (hw _ (List.mem_of_getElem? (i := 87) rfl))) (notFace_of_selects (args := #[]) (mvT hZ (hw _ (List.mem_of_getElem? (i := 89) rfl)))) (mvT hZ (hw _ (List.mem_of_getElem? (i := 89) rfl))) (mvT hZ (hw _ (List.mem_of_getElem? (i := 88) rfl))) (by decide) (backOf (W := 0) (rmGx l Z a0 hw [] b bx h0 n0 Z0 Eb Fx) hZ (hw _ (List.mem_of_getElem? (i := 90) rfl)) (hw _ (List.mem_of_getElem? (i := 30) rfl)) (by decide) (by decide)) q106a q106c (g := (mkF m 24 #[.val (.ref a), .val (.ref b), .val (.long k0), .second, .val (.long k1), .second] [(.ref b)])) rfl (by rw [hml]; rfl) (Steps.refl _) (argsL := []) (rest := []) (lenOf pdPn_0 rfl) rfl (by show 2 * 0 + _ ≤ _; exact Nat.le_of_eq rfl) (hb hby dPn_24) (fun _ _ => ⟨rfl, eh104, (by decide : 0 + 0 ≤ _), (by decide : 0 + 0 ≤ _)⟩)
      dsimp only [Pt.U, Pt.locs, Pt.cells, Pt.slots] at X106 l106 y106 z106 st106 hQ106
      subst l106 y106 z106
      obtain ⟨rfl, N106q, eh106⟩ := hQ106
      have N106 := Fr.app N104 N106q
      refine Go.tr st106 ?_
      show Go _ _ _ _ _ _ _ (T106.setTop (mkF m 27 #[.val (.ref a), .val (.ref b), .val (.long k0), .second, .val (.long k1), .second] [(.long bx)]))
      refine Go.by (fun _ kont => XS.lloadN X106.here hx rfl (hb hby dPn_27) rfl (XS.lload X106.here hx rfl (hb hby dPn_28) rfl kont)) ?_
      show Go _ _ _ _ _ _ _ (T106.setTop (mkF m 30 #[.val (.ref a), .val (.ref b), .val (.long k0), .second, .val (.long k1), .second] [(.long k1), (.long k0), (.long bx)]))
      obtain ⟨_, _, ⟨T107, L107, k107, n107⟩, -, X107, ⟨Lc107, hQ107, l107, y107, z107⟩, st107⟩ := Jvm.LawKit.callS X106 hx (y := (⟨"java/lang/Math", "max", "(JJ)J"⟩ : MethodName)) hown (mvT hZ (hw _ (List.mem_of_getElem? (i := 97) rfl))) (mvT hZ (hw _ (List.mem_of_getElem? (i := 38) rfl))) (mvT hZ (hw _ (List.mem_of_getElem? (i := 35) rfl))) (mvT hZ (hw _ (List.mem_of_getElem? (i := 39) rfl))) (by decide) (backOf (W := 2) (rmMa l Z a0 hw [] k0 k1 h0 n0 Z0 ) hZ (hw _ (List.mem_of_getElem? (i := 39) rfl)) (hw _ (List.mem_of_getElem? (i := 35) rfl)) (by decide) (by decide)) (g := (mkF m 30 #[.val (.ref a), .val (.ref b), .val (.long k0), .second, .val (.long k1), .second] [(.long k1), (.long k0), (.long bx)])) rfl (by rw [hml]; rfl) (argsL := [(.long k0), (.long k1)]) (rest := [(.long bx)]) (lenOf pdPn_1 rfl) rfl (by show 2 * 0 + _ ≤ _; exact Nat.le_of_eq rfl) (hb hby dPn_30) (fun _ _ => ⟨rfl, eh106, (by decide : 0 + 0 ≤ _), (by decide : 0 + 0 ≤ _)⟩)
      dsimp only [Pt.U, Pt.locs, Pt.cells, Pt.slots] at X107 l107 y107 z107 st107 hQ107
      subst l107 y107 z107
      obtain ⟨rfl, N107q, eh107⟩ := hQ107
      have N107 := Fr.app N106 N107q
      refine Go.by st107 ?_
      show Go _ _ _ _ _ _ _ (T107.setTop (mkF m 33 #[.val (.ref a), .val (.ref b), .val (.long k0), .second, .val (.long k1), .second] [(.long (fMa k0 k1)), (.long bx)]))
      refine Go.by (fun _ kont => XS.lcmp X107.here hx rfl (hb hby dPn_33) rfl kont) ?_
      show Go _ _ _ _ _ _ _ (T107.setTop (mkF m 34 #[.val (.ref a), .val (.ref b), .val (.long k0), .second, .val (.long k1), .second] [(.int (lcmpW bx (fMa k0 k1)))]))
      by_cases hc108 : bx = (fMa k0 k1)
      · refine Go.by (fun _ kont => XS.ifNo X107.here hx rfl (hb hby dPn_34) rfl ((if0 _ _).trans (teq ((lw_eq _ _).mpr hc108)).2) kont) ?_
        show Go _ _ _ _ _ _ _ (T107.setTop (mkF m 37 #[.val (.ref a), .val (.ref b), .val (.long k0), .second, .val (.long k1), .second] []))
        refine Go.by (fun _ kont => XS.iconst X107.here hx rfl (hb hby dPn_37) (XS.goto X107.here hx rfl (pc0 := 38) (pc' := 42) rfl (hb hby dPn_38) (by decide) (by decide) kont)) ?_
        show Go _ _ _ _ _ _ _ (T107.setTop (mkF m 42 #[.val (.ref a), .val (.ref b), .val (.long k0), .second, .val (.long k1), .second] [(.int (1 : Int32))]))
        refine Go.retN X107 hx (t := .boolean) hret (by simp) hlk (hb hby dPn_42) ?_ (by decide) (by decide)
        show QPn Z a b k0 k1 fm bn bx h0 n0 (some (.int (1 : Int32))) T107.heap _
        rw [eh107]
        refine ⟨?_, N107, rfl⟩
        unfold fPn
        rw [if_pos hc102, if_pos hc105, if_pos hc108]
      · refine Go.by (fun _ kont => XS.ifYes X107.here hx rfl (pc0 := 34) (pc' := 41) rfl (hb hby dPn_34) rfl ((if0 _ _).trans (feq (fun z => hc108 ((lw_eq _ _).mp z))).2) (by decide) (by decide) kont) ?_
        show Go _ _ _ _ _ _ _ (T107.setTop (mkF m 41 #[.val (.ref a), .val (.ref b), .val (.long k0), .second, .val (.long k1), .second] []))
        refine Go.by (fun _ kont => XS.iconst X107.here hx rfl (hb hby dPn_41) kont) ?_
        show Go _ _ _ _ _ _ _ (T107.setTop (mkF m 42 #[.val (.ref a), .val (.ref b), .val (.long k0), .second, .val (.long k1), .second] [(.int (0 : Int32))]))
        refine Go.retN X107 hx (t := .boolean) hret (by simp) hlk (hb hby dPn_42) ?_ (by decide) (by decide)
        show QPn Z a b k0 k1 fm bn bx h0 n0 (some (.int (0 : Int32))) T107.heap _
        rw [eh107]
        refine ⟨?_, N107, rfl⟩
        unfold fPn
        rw [if_pos hc102, if_pos hc105, if_neg hc108]
    · refine Go.by (fun _ kont => XS.ifYes X104.here hx rfl (pc0 := 20) (pc' := 41) rfl (hb hby dPn_20) rfl ((if0 _ _).trans (feq (fun z => hc105 ((lw_eq _ _).mp z))).2) (by decide) (by decide) kont) ?_
      show Go _ _ _ _ _ _ _ (T104.setTop (mkF m 41 #[.val (.ref a), .val (.ref b), .val (.long k0), .second, .val (.long k1), .second] []))
      refine Go.by (fun _ kont => XS.iconst X104.here hx rfl (hb hby dPn_41) kont) ?_
      show Go _ _ _ _ _ _ _ (T104.setTop (mkF m 42 #[.val (.ref a), .val (.ref b), .val (.long k0), .second, .val (.long k1), .second] [(.int (0 : Int32))]))
      refine Go.retN X104 hx (t := .boolean) hret (by simp) hlk (hb hby dPn_42) ?_ (by decide) (by decide)
      show QPn Z a b k0 k1 fm bn bx h0 n0 (some (.int (0 : Int32))) T104.heap _
      rw [eh104]
      refine ⟨?_, N104, rfl⟩
      unfold fPn
      rw [if_pos hc102, if_neg hc105]
  · refine Go.by (fun _ kont => XS.ifYes X101.here hx rfl (pc0 := 6) (pc' := 41) rfl (hb hby dPn_6) rfl ((if0 _ _).trans (feq (fun z => hc102 ((lw_eq _ _).mp z))).2) (by decide) (by decide) kont) ?_
    show Go _ _ _ _ _ _ _ (T101.setTop (mkF m 41 #[.val (.ref a), .val (.ref b), .val (.long k0), .second, .val (.long k1), .second] []))
    refine Go.by (fun _ kont => XS.iconst X101.here hx rfl (hb hby dPn_41) kont) ?_
    show Go _ _ _ _ _ _ _ (T101.setTop (mkF m 42 #[.val (.ref a), .val (.ref b), .val (.long k0), .second, .val (.long k1), .second] [(.int (0 : Int32))]))
    refine Go.retN X101 hx (t := .boolean) hret (by simp) hlk (hb hby dPn_42) ?_ (by decide) (by decide)
    show QPn Z a b k0 k1 fm bn bx h0 n0 (some (.int (0 : Int32))) T101.heap _
    rw [eh101]
    refine ⟨?_, N101, rfl⟩
    unfold fPn
    rw [if_neg hc102]

theorem dNi_0 : decode prog_23_method_1_code 0 = .ok (.aload_n 0, 1) := by decide +kernel
theorem dNi_1 : decode prog_23_method_1_code 1 = .ok (.invokespecial 1, 3) := by decide +kernel
theorem dNi_4 : decode prog_23_method_1_code 4 = .ok (.iload_n 1, 1) := by decide +kernel
theorem dNi_5 : decode prog_23_method_1_code 5 = .ok (.iconst 1, 1) := by decide +kernel
theorem dNi_6 : decode prog_23_method_1_code 6 = .ok (.if_icmp .ge 17, 3) := by decide +kernel
theorem dNi_23 : decode prog_23_method_1_code 23 = .ok (.aload_n 0, 1) := by decide +kernel
theorem dNi_24 : decode prog_23_method_1_code 24 = .ok (.iload_n 1, 1) := by decide +kernel
theorem dNi_25 : decode prog_23_method_1_code 25 = .ok (.newarray .long, 2) := by decide +kernel
theorem dNi_27 : decode prog_23_method_1_code 27 = .ok (.putfield 16, 3) := by decide +kernel
theorem dNi_30 : decode prog_23_method_1_code 30 = .ok (.aload_n 0, 1) := by decide +kernel
theorem dNi_31 : decode prog_23_method_1_code 31 = .ok (.iload_n 1, 1) := by decide +kernel
theorem dNi_32 : decode prog_23_method_1_code 32 = .ok (.newarray .long, 2) := by decide +kernel
theorem dNi_34 : decode prog_23_method_1_code 34 = .ok (.putfield 22, 3) := by decide +kernel
theorem dNi_37 : decode prog_23_method_1_code 37 = .ok (.aload_n 0, 1) := by decide +kernel
theorem dNi_38 : decode prog_23_method_1_code 38 = .ok (.iload_n 1, 1) := by decide +kernel
theorem dNi_39 : decode prog_23_method_1_code 39 = .ok (.newarray .long, 2) := by decide +kernel
theorem dNi_41 : decode prog_23_method_1_code 41 = .ok (.putfield 25, 3) := by decide +kernel
theorem dNi_44 : decode prog_23_method_1_code 44 = .ok (.return_, 1) := by decide +kernel
theorem pnNi : plainName "com/example/quorumsmith/quorumsmith/engine/Network" = true := by first | (simp [plainName, overriddenIn]; done) | decide +kernel
theorem efNi (m : MethodId) (a : Addr) : entryFrame m #[(.ref a), (.int (2 : Int32))] 2 = mkF m 0 #[.val (.ref a), .val (.int (2 : Int32))] [] := by first | (simp [entryFrame, mkF, argsToLocals, Value.category]; done) | rfl
def QNi (Z : State) (a : Addr) (h0 : Heap) (n0 : Nat) (v : Option Value) (h : Heap) (L : List Loc) : Prop := ∃ b102 : Addr, ∃ b106 : Addr, ∃ b110 : Addr, ∃ k102 : ClassId, ∃ k106 : ClassId, ∃ k110 : ClassId, (v = none ∧ Fr n0 L ∧ Keep h0 h [a] ∧ Exa Z h a "com/example/quorumsmith/quorumsmith/engine/Network" ∧ Fld Z h a "com/example/quorumsmith/quorumsmith/engine/Network" "sent" "[J" (.ref b102) ∧ Fld Z h a "com/example/quorumsmith/quorumsmith/engine/Network" "received" "[J" (.ref b106) ∧ Fld Z h a "com/example/quorumsmith/quorumsmith/engine/Network" "bitsSent" "[J" (.ref b110) ∧ n0 ≤ b102 ∧ h0.size ≤ b102 ∧ Arv Z h b102 k102 .long (2 : Int32) [(.long (0 : Int64)), (.long (0 : Int64))] (.long (0 : Int64)) ∧ n0 ≤ b106 ∧ h0.size ≤ b106 ∧ Arv Z h b106 k106 .long (2 : Int32) [(.long (0 : Int64)), (.long (0 : Int64))] (.long (0 : Int64)) ∧ n0 ≤ b110 ∧ h0.size ≤ b110 ∧ Arv Z h b110 k110 .long (2 : Int32) [(.long (0 : Int64)), (.long (0 : Int64))] (.long (0 : Int64)) ∧ b102 ≠ b106 ∧ b102 ≠ b110 ∧ b106 ≠ b110)
set_option maxRecDepth 65536 in
set_option maxHeartbeats 40000000 in
theorem rmNi (l : Launch) (Z : State) (a0 : Array Value) (hw : ∀ d ∈ tables_1, d.before a0 Z = true) (ws : List Jvm.Cond) (a : Addr) (h0 : Heap) (n0 : Nat) (Z0 : n0 ≤ h0.size) (E0_a : Exa Z h0 a "com/example/quorumsmith/quorumsmith/engine/Network") (F0_a_sent : Fld Z h0 a "com/example/quorumsmith/quorumsmith/engine/Network" "sent" "[J" .null) (F0_a_received : Fld Z h0 a "com/example/quorumsmith/quorumsmith/engine/Network" "received" "[J" .null) (F0_a_bitsSent : Fld Z h0 a "com/example/quorumsmith/quorumsmith/engine/Network" "bitsSent" "[J" .null) (ge0_a : n0 ≤ a) :
    MetFree l (⟨"com/example/quorumsmith/quorumsmith/engine/Network", "<init>", "(I)V"⟩ : MethodName) (head1 (Jvm.Cond.code (⟨"com/example/quorumsmith/quorumsmith/engine/Network", "<init>", "(I)V"⟩ : MethodName) prog_23_method_1_code 2 none :: ws) ({ frames := 1, cells := 3, slots := 6, locals := 12 } : Room)) (fun aa_ U_ => aa_ = #[(.ref a), (.int (2 : Int32))] ∧ Z.Warmed39 U_.vm ∧ U_.heap = h0) (fun _ _ _ _ _ => True) (fun _ U_ o_ V_ => ∃ v_ L_, o_ = .returned v_ ∧ QNi Z a h0 n0 v_ V_.heap L_ ∧ FrameEnd U_ o_ V_ L_ ({ frames := 1, cells := 3, slots := 6, locals := 12 } : Room).cells ({ frames := 1, cells := 3, slots := 6, locals := 12 } : Room).slots) := by
  refine MetFree.of_bodySF (plainFor_of_name pnNi) hisR ?_
  intro p e s m args below meth c s₁ Bd hml0 hP hK
  obtain ⟨rfl, hZ, hh⟩ := hP
  have hx := Bd.exec
  have hby := Bd.bytes
  have hml : c.maxLocals = 2 := hml0
  have hown : s.vm.findClass "com/example/quorumsmith/quorumsmith/engine/Network" = some m.cls := findClass_of_methodNamed Bd.named
  have hnm := (name_of_methodNamed Bd.named Bd.method).1
  have hlk : meth.locks = false := BodyLoose.notSynchronized Bd
  have hret : meth.sig.returnType = none := Bd.returns
  have X0 : Stand p l e ({ frames := 1, cells := 3, slots := 6, locals := 12 } : Room) s m #[(.ref a), (.int (2 : Int32))] below meth c s₁ [] 0 0 := Stand.of_body Bd
  have e0 : s₁.heap = h0 := by rw [← hh, Bd.state]; rfl
  have N0 := Fr.nil n0
  show Go p e below s ({ frames := 1, cells := 3, slots := 6, locals := 12 } : Room).cells ({ frames := 1, cells := 3, slots := 6, locals := 12 } : Room).slots (QNi Z a h0 n0) (s₁.setTop (entryFrame m #[(.ref a), (.int (2 : Int32))] 2))
  rw [efNi]
  refine Go.by (fun _ kont => XS.aloadN X0.here hx rfl (hb hby dNi_0) rfl rfl kont) ?_
  show Go _ _ _ _ _ _ _ (s₁.setTop (mkF m 1 #[.val (.ref a), .val (.int (2 : Int32))] [(.ref a)]))
  obtain ⟨T101, X101, e101, st101⟩ := initO X0 hx hZ hown (hw _ (List.mem_of_getElem? (i := 7) rfl)) (hw _ (List.mem_of_getElem? (i := 8) rfl)) (hw _ (List.mem_of_getElem? (i := 9) rfl)) e0 (g := (mkF m 1 #[.val (.ref a), .val (.int (2 : Int32))] [(.ref a)])) rfl (by rw [hml]; rfl) rfl (hb hby dNi_1) (by decide) (W := 0) (by show 2 * 0 + _ ≤ _; exact Nat.le_of_eq rfl) (by decide)
  refine Go.by st101 ?_
  show Go _ _ _ _ _ _ _ (T101.setTop (mkF m 4 #[.val (.ref a), .val (.int (2 : Int32))] []))
  refine Go.by (fun _ kont => XS.iloadN X101.here hx rfl (hb hby dNi_4) rfl (XS.iconst X101.here hx rfl (hb hby dNi_5) (XS.icmpYes X101.here hx rfl (pc0 := 6) (pc' := 23) rfl (hb hby dNi_6) rfl (by decide) (by decide) (by decide) (XS.aloadN X101.here hx rfl (hb hby dNi_23) rfl rfl (XS.iloadN X101.here hx rfl (hb hby dNi_24) rfl kont))))) ?_
  show Go _ _ _ _ _ _ _ (T101.setTop (mkF m 25 #[.val (.ref a), .val (.int (2 : Int32))] [(.int (2 : Int32)), (.ref a)]))
  obtain ⟨T102, h102, k102, X102, e102, X_102, A102, st102⟩ := newP X101 hx hZ (hw _ (List.mem_of_getElem? (i := 10) rfl)) e101 (g := (mkF m 25 #[.val (.ref a), .val (.int (2 : Int32))] [(.int (2 : Int32)), (.ref a)])) rfl (hb hby dNi_25) rfl (by decide) (cap := 2) (by decide) (by decide) (by decide) (by decide)
  obtain ⟨b102, g102⟩ : ∃ z, z = h0.size := ⟨_, rfl⟩
  rw [← g102] at A102 st102
  have ne_a_b102 : a ≠ b102 := Nat.ne_of_lt (Nat.lt_of_lt_of_le F0_a_sent.lt (Nat.le_of_eq g102.symm))
  have ge_b102 : n0 ≤ b102 := Nat.le_trans Z0 (Nat.le_of_eq g102.symm)
  have sz_b102 : h0.size ≤ b102 := Nat.le_trans (Keep.refl h0 [a]).1 (Nat.le_of_eq g102.symm)
  have F103_sent_a := F0_a_sent.ext X_102
  have F103_received_a := F0_a_received.ext X_102
  have F103_bitsSent_a := F0_a_bitsSent.ext X_102
  have E103_a := E0_a.ext X_102
  have Z103 := Nat.le_trans Z0 X_102.1
  have K103 : Keep h0 h102 [a] := (Keep.refl h0 [a]).ext X_102
  have V102 : Arv Z h102 b102 k102 .long (2 : Int32) [(.long (0 : Int64)), (.long (0 : Int64))] (.long (0 : Int64)) := (Arv.new A102 (by decide)).pad (pad_rep [] (.long (0 : Int64)) 2)
  refine Go.by st102 ?_
  show Go _ _ _ _ _ _ _ (T102.setTop (mkF m 27 #[.val (.ref a), .val (.int (2 : Int32))] [(.ref b102), (.ref a)]))
  obtain ⟨T104, h104, X104, e104, W104, st104⟩ := putF X102 hx hZ hown (host := "") (Or.inl (hw _ (List.mem_of_getElem? (i := 11) rfl))) Via.refl e102 F103_sent_a E103_a (Or.inr ⟨(hw _ (List.mem_of_getElem? (i := 12) rfl)), rfl, hnm⟩) (hw _ (List.mem_of_getElem? (i := 2) rfl)) (ty := (.array .long)) (by decide) rfl rfl (g := (mkF m 27 #[.val (.ref a), .val (.int (2 : Int32))] [(.ref b102), (.ref a)])) rfl rfl (hb hby dNi_27)
  have Fw104 := F103_sent_a.same W104
  have F105_received_a := F103_received_a.other W104 (Or.inr (slot_ne (Or.inr (hw _ (List.mem_of_getElem? (i := 14) rfl))) (Or.inr (hw _ (List.mem_of_getElem? (i := 12) rfl))) (by decide) (t := (.array .long)) (t' := (.array .long)) (by decide) (by decide)))
  have F105_bitsSent_a := F103_bitsSent_a.other W104 (Or.inr (slot_ne (Or.inr (hw _ (List.mem_of_getElem? (i := 16) rfl))) (Or.inr (hw _ (List.mem_of_getElem? (i := 12) rfl))) (by decide) (t := (.array .long)) (t' := (.array .long)) (by decide) (by decide)))
  have E105_a := E103_a.wr W104
  have V105_b102 := V102.other W104 (Ne.symm ne_a_b102)
  have Z105 := Nat.le_trans Z103 (Keep.of_wr W104).1
  have K105 : Keep h0 h104 [a] := K103.wr W104 (Or.inl (by simp))
  have N104 := Fr.snoc X104 N0 ge0_a
  refine Go.by st104 ?_
  show Go _ _ _ _ _ _ _ (T104.setTop (mkF m 30 #[.val (.ref a), .val (.int (2 : Int32))] []))
  refine Go.by (fun _ kont => XS.aloadN X104.here hx rfl (hb hby dNi_30) rfl rfl (XS.iloadN X104.here hx rfl (hb hby dNi_31) rfl kont)) ?_
  show Go _ _ _ _ _ _ _ (T104.setTop (mkF m 32 #[.val (.ref a), .val (.int (2 : Int32))] [(.int (2 : Int32)), (.ref a)]))
  obtain ⟨T106, h106, k106, X106, e106, X_106, A106, st106⟩ := newP X104 hx hZ (hw _ (List.mem_of_getElem? (i := 10) rfl)) e104 (g := (mkF m 32 #[.val (.ref a), .val (.int (2 : Int32))] [(.int (2 : Int32)), (.ref a)])) rfl (hb hby dNi_32) rfl (by decide) (cap := 2) (by decide) (by decide) (by decide) (by decide)
  obtain ⟨b106, g106⟩ : ∃ z, z = h104.size := ⟨_, rfl⟩
  rw [← g106] at A106 st106
  have ne_a_b106 : a ≠ b106 := Nat.ne_of_lt (Nat.lt_of_lt_of_le Fw104.lt (Nat.le_of_eq g106.symm))
  have ne_b102_b106 : b102 ≠ b106 := Nat.ne_of_lt (Nat.lt_of_lt_of_le V105_b102.lt (Nat.le_of_eq g106.symm))
  have ge_b106 : n0 ≤ b106 := Nat.le_trans Z105 (Nat.le_of_eq g106.symm)
  have sz_b106 : h0.size ≤ b106 := Nat.le_trans K105.1 (Nat.le_of_eq g106.symm)
  have F107_sent_a := Fw104.ext X_106
  have F107_received_a := F105_received_a.ext X_106
  have F107_bitsSent_a := F105_bitsSent_a.ext X_106
  have E107_a := E105_a.ext X_106
  have V107_b102 := V105_b102.ext X_106
  have Z107 := Nat.le_trans Z105 X_106.1
  have K107 : Keep h0 h106 [a] := K105.ext X_106
  have V106 : Arv Z h106 b106 k106 .long (2 : Int32) [(.long (0 : Int64)), (.long (0 : Int64))] (.long (0 : Int64)) := (Arv.new A106 (by decide)).pad (pad_rep [] (.long (0 : Int64)) 2)
  refine Go.by st106 ?_
  show Go _ _ _ _ _ _ _ (T106.setTop (mkF m 34 #[.val (.ref a), .val (.int (2 : Int32))] [(.ref b106), (.ref a)]))
  obtain ⟨T108, h108, X108, e108, W108, st108⟩ := putF X106 hx hZ hown (host := "") (Or.inl (hw _ (List.mem_of_getElem? (i := 13) rfl))) Via.refl e106 F107_received_a E107_a (Or.inr ⟨(hw _ (List.mem_of_getElem? (i := 14) rfl)), rfl, hnm⟩) (hw _ (List.mem_of_getElem? (i := 2) rfl)) (ty := (.array .long)) (by decide) rfl rfl (g := (mkF m 34 #[.val (.ref a), .val (.int (2 : Int32))] [(.ref b106), (.ref a)])) rfl rfl (hb hby dNi_34)
  have Fw108 := F107_received_a.same W108
  have F109_sent_a := F107_sent_a.other W108 (Or.inr (slot_ne (Or.inr (hw _ (List.mem_of_getElem? (i := 12) rfl))) (Or.inr (hw _ (List.mem_of_getElem? (i := 14) rfl))) (by decide) (t := (.array .long)) (t' := (.array .long)) (by decide) (by decide)))
  have F109_bitsSent_a := F107_bitsSent_a.other W108 (Or.inr (slot_ne (Or.inr (hw _ (List.mem_of_getElem? (i := 16) rfl))) (Or.inr (hw _ (List.mem_of_getElem? (i := 14) rfl))) (by decide) (t := (.array .long)) (t' := (.array .long)) (by decide) (by decide)))
  have E109_a := E107_a.wr W108
  have V109_b102 := V107_b102.other W108 (Ne.symm ne_a_b102)
  have V109_b106 := V106.other W108 (Ne.symm ne_a_b106)
  have Z109 := Nat.le_trans Z107 (Keep.of_wr W108).1
  have K109 : Keep h0 h108 [a] := K107.wr W108 (Or.inl (by simp))
  have N108 := Fr.snoc X108 N104 ge0_a
  refine Go.by st108 ?_
  show Go _ _ _ _ _ _ _ (T108.setTop (mkF m 37 #[.val (.ref a), .val (.int (2 : Int32))] []))
  refine Go.by (fun _ kont => XS.aloadN X108.here hx rfl (hb hby dNi_37) rfl rfl (XS.iloadN X108.here hx rfl (hb hby dNi_38) rfl kont)) ?_
  show Go _ _ _ _ _ _ _ (T108.setTop (mkF m 39 #[.val (.ref a), .val (.int (2 : Int32))] [(.int (2 : Int32)), (.ref a)]))
  obtain ⟨T110, h110, k110, X110, e110, X_110, A110, st110⟩ := newP X108 hx hZ (hw _ (List.mem_of_getElem? (i := 10) rfl)) e108 (g := (mkF m 39 #[.val (.ref a), .val (.int (2 : Int32))] [(.int (2 : Int32)), (.ref a)])) rfl (hb hby dNi_39) rfl (by decide) (cap := 2) (by decide) (by decide) (by decide) (by decide)
  obtain ⟨b110, g110⟩ : ∃ z, z = h108.size := ⟨_, rfl⟩
  rw [← g110] at A110 st110
  have ne_a_b110 : a ≠ b110 := Nat.ne_of_lt (Nat.lt_of_lt_of_le F109_sent_a.lt (Nat.le_of_eq g110.symm))
  have ne_b102_b110 : b102 ≠ b110 := Nat.ne_of_lt (Nat.lt_of_lt_of_le V109_b102.lt (Nat.le_of_eq g110.symm))
  have ne_b106_b110 : b106 ≠ b110 := Nat.ne_of_lt (Nat.lt_of_lt_of_le V109_b106.lt (Nat.le_of_eq g110.symm))
  have ge_b110 : n0 ≤ b110 := Nat.le_trans Z109 (Nat.le_of_eq g110.symm)
  have sz_b110 : h0.size ≤ b110 := Nat.le_trans K109.1 (Nat.le_of_eq g110.symm)
  have F111_sent_a := F109_sent_a.ext X_110
  have F111_received_a := Fw108.ext X_110
  have F111_bitsSent_a := F109_bitsSent_a.ext X_110
  have E111_a := E109_a.ext X_110
  have V111_b102 := V109_b102.ext X_110
  have V111_b106 := V109_b106.ext X_110
  have Z111 := Nat.le_trans Z109 X_110.1
  have K111 : Keep h0 h110 [a] := K109.ext X_110
  have V110 : Arv Z h110 b110 k110 .long (2 : Int32) [(.long (0 : Int64)), (.long (0 : Int64))] (.long (0 : Int64)) := (Arv.new A110 (by decide)).pad (pad_rep [] (.long (0 : Int64)) 2)
  refine Go.by st110 ?_
  show Go _ _ _ _ _ _ _ (T110.setTop (mkF m 41 #[.val (.ref a), .val (.int (2 : Int32))] [(.ref b110), (.ref a)]))
  obtain ⟨T112, h112, X112, e112, W112, st112⟩ := putF X110 hx hZ hown (host := "") (Or.inl (hw _ (List.mem_of_getElem? (i := 15) rfl))) Via.refl e110 F111_bitsSent_a E111_a (Or.inr ⟨(hw _ (List.mem_of_getElem? (i := 16) rfl)), rfl, hnm⟩) (hw _ (List.mem_of_getElem? (i := 2) rfl)) (ty := (.array .long)) (by decide) rfl rfl (g := (mkF m 41 #[.val (.ref a), .val (.int (2 : Int32))] [(.ref b110), (.ref a)])) rfl rfl (hb hby dNi_41)
  have Fw112 := F111_bitsSent_a.same W112
  have F113_sent_a := F111_sent_a.other W112 (Or.inr (slot_ne (Or.inr (hw _ (List.mem_of_getElem? (i := 12) rfl))) (Or.inr (hw _ (List.mem_of_getElem? (i := 16) rfl))) (by decide) (t := (.array .long)) (t' := (.array .long)) (by decide) (by decide)))
  have F113_received_a := F111_received_a.other W112 (Or.inr (slot_ne (Or.inr (hw _ (List.mem_of_getElem? (i := 14) rfl))) (Or.inr (hw _ (List.mem_of_getElem? (i := 16) rfl))) (by decide) (t := (.array .long)) (t' := (.array .long)) (by decide) (by decide)))
  have E113_a := E111_a.wr W112
  have V113_b102 := V111_b102.other W112 (Ne.symm ne_a_b102)
  have V113_b106 := V111_b106.other W112 (Ne.symm ne_a_b106)
  have V113_b110 := V110.other W112 (Ne.symm ne_a_b110)
  have Z113 := Nat.le_trans Z111 (Keep.of_wr W112).1
  have K113 : Keep h0 h112 [a] := K111.wr W112 (Or.inl (by simp))
  have N112 := Fr.snoc X112 N108 ge0_a
  refine Go.by st112 ?_
  show Go _ _ _ _ _ _ _ (T112.setTop (mkF m 44 #[.val (.ref a), .val (.int (2 : Int32))] []))
  refine Go.retV X112 hx hret hlk (hb hby dNi_44) ?_ (by decide) (by decide)
  show QNi Z a h0 n0 none T112.heap _
  rw [e112]
  exact ⟨b102, b106, b110, k102, k106, k110, rfl, N112, K113, E113_a, F113_sent_a, F113_received_a, Fw112, ge_b102, sz_b102, V113_b102, ge_b106, sz_b106, V113_b106, ge_b110, sz_b110, V113_b110, ne_b102_b106, ne_b102_b110, ne_b106_b110⟩

theorem dSn_0 : decode prog_23_method_2_code 0 = .ok (.aload_n 0, 1) := by decide +kernel
theorem dSn_1 : decode prog_23_method_2_code 1 = .ok (.getfield 16, 3) := by decide +kernel
theorem dSn_4 : decode prog_23_method_2_code 4 = .ok (.iload_n 1, 1) := by decide +kernel
theorem dSn_5 : decode prog_23_method_2_code 5 = .ok (.dup2, 1) := by decide +kernel
theorem dSn_6 : decode prog_23_method_2_code 6 = .ok (.laload, 1) := by decide +kernel
theorem dSn_7 : decode prog_23_method_2_code 7 = .ok (.lconst 1, 1) := by decide +kernel
theorem dSn_8 : decode prog_23_method_2_code 8 = .ok (.ladd, 1) := by decide +kernel
theorem dSn_9 : decode prog_23_method_2_code 9 = .ok (.lastore, 1) := by decide +kernel
theorem dSn_10 : decode prog_23_method_2_code 10 = .ok (.aload_n 0, 1) := by decide +kernel
theorem dSn_11 : decode prog_23_method_2_code 11 = .ok (.getfield 22, 3) := by decide +kernel
theorem dSn_14 : decode prog_23_method_2_code 14 = .ok (.iload_n 2, 1) := by decide +kernel
theorem dSn_15 : decode prog_23_method_2_code 15 = .ok (.dup2, 1) := by decide +kernel
theorem dSn_16 : decode prog_23_method_2_code 16 = .ok (.laload, 1) := by decide +kernel
theorem dSn_17 : decode prog_23_method_2_code 17 = .ok (.lconst 1, 1) := by decide +kernel
theorem dSn_18 : decode prog_23_method_2_code 18 = .ok (.ladd, 1) := by decide +kernel
theorem dSn_19 : decode prog_23_method_2_code 19 = .ok (.lastore, 1) := by decide +kernel
theorem dSn_20 : decode prog_23_method_2_code 20 = .ok (.aload_n 0, 1) := by decide +kernel
theorem dSn_21 : decode prog_23_method_2_code 21 = .ok (.getfield 25, 3) := by decide +kernel
theorem dSn_24 : decode prog_23_method_2_code 24 = .ok (.iload_n 1, 1) := by decide +kernel
theorem dSn_25 : decode prog_23_method_2_code 25 = .ok (.dup2, 1) := by decide +kernel
theorem dSn_26 : decode prog_23_method_2_code 26 = .ok (.laload, 1) := by decide +kernel
theorem dSn_27 : decode prog_23_method_2_code 27 = .ok (.iload_n 3, 1) := by decide +kernel
theorem dSn_28 : decode prog_23_method_2_code 28 = .ok (.i2l, 1) := by decide +kernel
theorem dSn_29 : decode prog_23_method_2_code 29 = .ok (.ladd, 1) := by decide +kernel
theorem dSn_30 : decode prog_23_method_2_code 30 = .ok (.lastore, 1) := by decide +kernel
theorem dSn_31 : decode prog_23_method_2_code 31 = .ok (.return_, 1) := by decide +kernel
theorem pnSn : plainName "com/example/quorumsmith/quorumsmith/engine/Network" = true := by first | (simp [plainName, overriddenIn]; done) | decide +kernel
theorem efSn (m : MethodId) (a : Addr) (ff : Int32) (tt : Int32) (bb : Int32) : entryFrame m #[(.ref a), (.int ff), (.int tt), (.int bb)] 4 = mkF m 0 #[.val (.ref a), .val (.int ff), .val (.int tt), .val (.int bb)] [] := by first | (simp [entryFrame, mkF, argsToLocals, Value.category]; done) | rfl
def QSn (Z : State) (a : Addr) (ff : Int32) (tt : Int32) (bb : Int32) (sa : Addr) (ra : Addr) (ba : Addr) (ks : ClassId) (kr : ClassId) (kb : ClassId) (s0 : Int64) (s1 : Int64) (r0 : Int64) (r1 : Int64) (b0 : Int64) (b1 : Int64) (h0 : Heap) (n0 : Nat) (v : Option Value) (h : Heap) (L : List Loc) : Prop := v = none ∧ Fr n0 L ∧ Keep h0 h [sa, ra, ba] ∧ Arv Z h sa ks .long (2 : Int32) [(.long (gF ff 0 s0 1)), (.long (gF ff 1 s1 1))] (.long (0 : Int64)) ∧ Arv Z h ra kr .long (2 : Int32) [(.long (gF tt 0 r0 1)), (.long (gF tt 1 r1 1))] (.long (0 : Int64)) ∧ Arv Z h ba kb .long (2 : Int32) [(.long (gF ff 0 b0 bb.toInt64)), (.long (gF ff 1 b1 bb.toInt64))] (.long (0 : Int64))
set_option maxRecDepth 65536 in
set_option maxHeartbeats 40000000 in
theorem rmSn (l : Launch) (Z : State) (a0 : Array Value) (hw : ∀ d ∈ tables_1, d.before a0 Z = true) (ws : List Jvm.Cond) (a : Addr) (ff : Int32) (tt : Int32) (bb : Int32) (sa : Addr) (ra : Addr) (ba : Addr) (ks : ClassId) (kr : ClassId) (kb : ClassId) (s0 : Int64) (s1 : Int64) (r0 : Int64) (r1 : Int64) (b0 : Int64) (b1 : Int64) (h0 : Heap) (n0 : Nat) (Z0 : n0 ≤ h0.size) (E0a : Exa Z h0 a "com/example/quorumsmith/quorumsmith/engine/Network") (Fis : Fld Z h0 a "com/example/quorumsmith/quorumsmith/engine/Network" "sent" "[J" (.ref sa)) (Fir : Fld Z h0 a "com/example/quorumsmith/quorumsmith/engine/Network" "received" "[J" (.ref ra)) (Fib : Fld Z h0 a "com/example/quorumsmith/quorumsmith/engine/Network" "bitsSent" "[J" (.ref ba)) (Vs : Arv Z h0 sa ks .long (2 : Int32) [(.long s0), (.long s1)] (.long (0 : Int64))) (Vr : Arv Z h0 ra kr .long (2 : Int32) [(.long r0), (.long r1)] (.long (0 : Int64))) (Vb : Arv Z h0 ba kb .long (2 : Int32) [(.long b0), (.long b1)] (.long (0 : Int64))) (n1 : a ≠ sa) (n2 : a ≠ ra) (n3 : a ≠ ba) (n4 : sa ≠ ra) (n5 : sa ≠ ba) (n6 : ra ≠ ba) (g1 : n0 ≤ sa) (g2 : n0 ≤ ra) (g3 : n0 ≤ ba) (Hf : ff = 0 ∨ ff = 1) (Ht : tt = 0 ∨ tt = 1) :
    MetFree l (⟨"com/example/quorumsmith/quorumsmith/engine/Network", "send", "(III)V"⟩ : MethodName) (head1 (Jvm.Cond.code (⟨"com/example/quorumsmith/quorumsmith/engine/Network", "send", "(III)V"⟩ : MethodName) prog_23_method_2_code 4 none :: ws) ({ frames := 0, cells := 0, slots := 0, locals := 0 } : Room)) (fun aa_ U_ => aa_ = #[(.ref a), (.int ff), (.int tt), (.int bb)] ∧ Z.Warmed39 U_.vm ∧ U_.heap = h0) (fun _ _ _ _ _ => True) (fun _ U_ o_ V_ => ∃ v_ L_, o_ = .returned v_ ∧ QSn Z a ff tt bb sa ra ba ks kr kb s0 s1 r0 r1 b0 b1 h0 n0 v_ V_.heap L_ ∧ FrameEnd U_ o_ V_ L_ ({ frames := 0, cells := 0, slots := 0, locals := 0 } : Room).cells ({ frames := 0, cells := 0, slots := 0, locals := 0 } : Room).slots) := by
  refine MetFree.of_bodySF (plainFor_of_name pnSn) hisR ?_
  intro p e s m args below meth c s₁ Bd hml0 hP hK
  obtain ⟨rfl, hZ, hh⟩ := hP
  have hx := Bd.exec
  have hby := Bd.bytes
  have hml : c.maxLocals = 4 := hml0
  have hown : s.vm.findClass "com/example/quorumsmith/quorumsmith/engine/Network" = some m.cls := findClass_of_methodNamed Bd.named
  have hnm := (name_of_methodNamed Bd.named Bd.method).1
  have hlk : meth.locks = false := BodyLoose.notSynchronized Bd
  have hret : meth.sig.returnType = none := Bd.returns
  have X0 : Stand p l e ({ frames := 0, cells := 0, slots := 0, locals := 0 } : Room) s m #[(.ref a), (.int ff), (.int tt), (.int bb)] below meth c s₁ [] 0 0 := Stand.of_body Bd
  have e0 : s₁.heap = h0 := by rw [← hh, Bd.state]; rfl
  have N0 := Fr.nil n0
  show Go p e below s ({ frames := 0, cells := 0, slots := 0, locals := 0 } : Room).cells ({ frames := 0, cells := 0, slots := 0, locals := 0 } : Room).slots (QSn Z a ff tt bb sa ra ba ks kr kb s0 s1 r0 r1 b0 b1 h0 n0) (s₁.setTop (entryFrame m #[(.ref a), (.int ff), (.int tt), (.int bb)] 4))
  rw [efSn]
  rcases Hf with hf | hf <;> rcases Ht with ht | ht
  · rw [show (mkF m 0 #[.val (.ref a), .val (.int ff), .val (.int tt), .val (.int bb)] []) = (mkF m 0 #[.val (.ref a), .val (.int (0 : Int32)), .val (.int (0 : Int32)), .val (.int bb)] []) from by rw [hf, ht]]
    show Go _ _ _ _ _ _ _ (s₁.setTop (mkF m 0 #[.val (.ref a), .val (.int (0 : Int32)), .val (.int (0 : Int32)), .val (.int bb)] []))
    refine Go.by (fun _ kont => XS.aloadN X0.here hx rfl (hb hby dSn_0) rfl rfl kont) ?_
    show Go _ _ _ _ _ _ _ (s₁.setTop (mkF m 1 #[.val (.ref a), .val (.int (0 : Int32)), .val (.int (0 : Int32)), .val (.int bb)] [(.ref a)]))
    obtain ⟨T101, X101, e101, st101⟩ := getF X0 hx hZ hown (host := "") (Or.inl (hw _ (List.mem_of_getElem? (i := 11) rfl))) Via.refl e0 Fis (g := (mkF m 1 #[.val (.ref a), .val (.int (0 : Int32)), .val (.int (0 : Int32)), .val (.int bb)] [(.ref a)])) rfl rfl (hb hby dSn_1)
    refine Go.by st101 ?_
    show Go _ _ _ _ _ _ _ (T101.setTop (mkF m 4 #[.val (.ref a), .val (.int (0 : Int32)), .val (.int (0 : Int32)), .val (.int bb)] [(.ref sa)]))
    refine Go.by (fun _ kont => XS.iloadN X101.here hx rfl (hb hby dSn_4) rfl (XT.dup2 X101.here hx rfl (hb hby dSn_5) rfl rfl rfl kont)) ?_
    show Go _ _ _ _ _ _ _ (T101.setTop (mkF m 6 #[.val (.ref a), .val (.int (0 : Int32)), .val (.int (0 : Int32)), .val (.int bb)] [(.int (0 : Int32)), (.ref sa), (.int (0 : Int32)), (.ref sa)]))
    obtain ⟨cl_q102, Ar_q102, q1_q102, S_q102, N_q102, H_q102, G_q102⟩ := id Vs
    have hin_q102 : ¬ ((0 : Int32) < 0 ∨ cl_q102.slots.size ≤ ((0 : Int32)).toNatClampNeg) := inb_of S_q102 ⟨by decide, by decide⟩
    have hat_q102 : cl_q102.slots[((0 : Int32)).toNatClampNeg]? = some (.long s0) := Has.at H_q102 hin_q102 rfl
    refine Go.by (X101.laload hx (j := (0 : Int32)) (v := (.long s0)) (by first | exact Ar_q102.1 | (rw [e101]; exact Ar_q102.1)) (State.isArrayOf_alike hZ.alike Ar_q102.2.1) Ar_q102.2.2 hin_q102 hat_q102 (g := (mkF m 6 #[.val (.ref a), .val (.int (0 : Int32)), .val (.int (0 : Int32)), .val (.int bb)] [(.int (0 : Int32)), (.ref sa), (.int (0 : Int32)), (.ref sa)])) rfl rfl (hb hby dSn_6)) ?_
    show Go _ _ _ _ _ _ _ (T101.setTop (mkF m 7 #[.val (.ref a), .val (.int (0 : Int32)), .val (.int (0 : Int32)), .val (.int bb)] [(.long s0), (.int (0 : Int32)), (.ref sa)]))
    refine Go.by (fun _ kont => XS.lconst X101.here hx rfl (hb hby dSn_7) (XS.ladd X101.here hx rfl (hb hby dSn_8) rfl kont)) ?_
    show Go _ _ _ _ _ _ _ (T101.setTop (mkF m 9 #[.val (.ref a), .val (.int (0 : Int32)), .val (.int (0 : Int32)), .val (.int bb)] [(.long (s0 + (1 : Int64))), (.int (0 : Int32)), (.ref sa)]))
    obtain ⟨cl_q103, Ar_q103, q1_q103, S_q103, N_q103, H_q103, G_q103⟩ := id Vs
    have hin_q103 : ¬ ((0 : Int32) < 0 ∨ cl_q103.slots.size ≤ ((0 : Int32)).toNatClampNeg) := inb_of S_q103 ⟨by decide, by decide⟩
    obtain ⟨T104, h104, X104, e104, W104, st104⟩ := stJ X101 hx hZ e101 Ar_q103 (j := (0 : Int32)) hin_q103 (g := (mkF m 9 #[.val (.ref a), .val (.int (0 : Int32)), .val (.int (0 : Int32)), .val (.int bb)] [(.long (s0 + (1 : Int64))), (.int (0 : Int32)), (.ref sa)])) rfl rfl (hb hby dSn_9)
    have V104 : Arv Z h104 sa ks .long (2 : Int32) [(.long (s0 + (1 : Int64))), (.long s1)] (.long (0 : Int64)) := Arv.set Ar_q103 q1_q103 S_q103 N_q103 H_q103 G_q103 rfl W104 0 rfl (Nat.le_of_ble_eq_true rfl)
    have F105_sent_a := Fis.other W104 (Or.inl n1)
    have F105_received_a := Fir.other W104 (Or.inl n1)
    have F105_bitsSent_a := Fib.other W104 (Or.inl n1)
    have E105_a := E0a.wr W104
    have V105_ra := Vr.other W104 (Ne.symm n4)
    have V105_ba := Vb.other W104 (Ne.symm n5)
    have Z105 := Nat.le_trans Z0 (Keep.of_wr W104).1
    have K105 : Keep h0 h104 [sa, ra, ba] := (Keep.refl h0 [sa, ra, ba]).wr W104 (Or.inl (by simp))
    have N104 := Fr.snoc X104 N0 g1
    refine Go.by st104 ?_
    show Go _ _ _ _ _ _ _ (T104.setTop (mkF m 10 #[.val (.ref a), .val (.int (0 : Int32)), .val (.int (0 : Int32)), .val (.int bb)] []))
    refine Go.by (fun _ kont => XS.aloadN X104.here hx rfl (hb hby dSn_10) rfl rfl kont) ?_
    show Go _ _ _ _ _ _ _ (T104.setTop (mkF m 11 #[.val (.ref a), .val (.int (0 : Int32)), .val (.int (0 : Int32)), .val (.int bb)] [(.ref a)]))
    obtain ⟨T106, X106, e106, st106⟩ := getF X104 hx hZ hown (host := "") (Or.inl (hw _ (List.mem_of_getElem? (i := 13) rfl))) Via.refl e104 F105_received_a (g := (mkF m 11 #[.val (.ref a), .val (.int (0 : Int32)), .val (.int (0 : Int32)), .val (.int bb)] [(.ref a)])) rfl rfl (hb hby dSn_11)
    refine Go.by st106 ?_
    show Go _ _ _ _ _ _ _ (T106.setTop (mkF m 14 #[.val (.ref a), .val (.int (0 : Int32)), .val (.int (0 : Int32)), .val (.int bb)] [(.ref ra)]))
    refine Go.by (fun _ kont => XS.iloadN X106.here hx rfl (hb hby dSn_14) rfl (XT.dup2 X106.here hx rfl (hb hby dSn_15) rfl rfl rfl kont)) ?_
    show Go _ _ _ _ _ _ _ (T106.setTop (mkF m 16 #[.val (.ref a), .val (.int (0 : Int32)), .val (.int (0 : Int32)), .val (.int bb)] [(.int (0 : Int32)), (.ref ra), (.int (0 : Int32)), (.ref ra)]))
    obtain ⟨cl_q107, Ar_q107, q1_q107, S_q107, N_q107, H_q107, G_q107⟩ := id V105_ra
    have hin_q107 : ¬ ((0 : Int32) < 0 ∨ cl_q107.slots.size ≤ ((0 : Int32)).toNatClampNeg) := inb_of S_q107 ⟨by decide, by decide⟩
    have hat_q107 : cl_q107.slots[((0 : Int32)).toNatClampNeg]? = some (.long r0) := Has.at H_q107 hin_q107 rfl
    refine Go.by (X106.laload hx (j := (0 : Int32)) (v := (.long r0)) (by first | exact Ar_q107.1 | (rw [e106]; exact Ar_q107.1)) (State.isArrayOf_alike hZ.alike Ar_q107.2.1) Ar_q107.2.2 hin_q107 hat_q107 (g := (mkF m 16 #[.val (.ref a), .val (.int (0 : Int32)), .val (.int (0 : Int32)), .val (.int bb)] [(.int (0 : Int32)), (.ref ra), (.int (0 : Int32)), (.ref ra)])) rfl rfl (hb hby dSn_16)) ?_
    show Go _ _ _ _ _ _ _ (T106.setTop (mkF m 17 #[.val (.ref a), .val (.int (0 : Int32)), .val (.int (0 : Int32)), .val (.int bb)] [(.long r0), (.int (0 : Int32)), (.ref ra)]))
    refine Go.by (fun _ kont => XS.lconst X106.here hx rfl (hb hby dSn_17) (XS.ladd X106.here hx rfl (hb hby dSn_18) rfl kont)) ?_
    show Go _ _ _ _ _ _ _ (T106.setTop (mkF m 19 #[.val (.ref a), .val (.int (0 : Int32)), .val (.int (0 : Int32)), .val (.int bb)] [(.long (r0 + (1 : Int64))), (.int (0 : Int32)), (.ref ra)]))
    obtain ⟨cl_q108, Ar_q108, q1_q108, S_q108, N_q108, H_q108, G_q108⟩ := id V105_ra
    have hin_q108 : ¬ ((0 : Int32) < 0 ∨ cl_q108.slots.size ≤ ((0 : Int32)).toNatClampNeg) := inb_of S_q108 ⟨by decide, by decide⟩
    obtain ⟨T109, h109, X109, e109, W109, st109⟩ := stJ X106 hx hZ e106 Ar_q108 (j := (0 : Int32)) hin_q108 (g := (mkF m 19 #[.val (.ref a), .val (.int (0 : Int32)), .val (.int (0 : Int32)), .val (.int bb)] [(.long (r0 + (1 : Int64))), (.int (0 : Int32)), (.ref ra)])) rfl rfl (hb hby dSn_19)
    have V109 : Arv Z h109 ra kr .long (2 : Int32) [(.long (r0 + (1 : Int64))), (.long r1)] (.long (0 : Int64)) := Arv.set Ar_q108 q1_q108 S_q108 N_q108 H_q108 G_q108 rfl W109 0 rfl (Nat.le_of_ble_eq_true rfl)
    have F110_sent_a := F105_sent_a.other W109 (Or.inl n2)
    have F110_received_a := F105_received_a.other W109 (Or.inl n2)
    have F110_bitsSent_a := F105_bitsSent_a.other W109 (Or.inl n2)
    have E110_a := E105_a.wr W109
    have V110_sa := V104.other W109 n4
    have V110_ba := V105_ba.other W109 (Ne.symm n6)
    have Z110 := Nat.le_trans Z105 (Keep.of_wr W109).1
    have K110 : Keep h0 h109 [sa, ra, ba] := K105.wr W109 (Or.inl (by simp))
    have N109 := Fr.snoc X109 N104 g2
    refine Go.by st109 ?_
    show Go _ _ _ _ _ _ _ (T109.setTop (mkF m 20 #[.val (.ref a), .val (.int (0 : Int32)), .val (.int (0 : Int32)), .val (.int bb)] []))
    refine Go.by (fun _ kont => XS.aloadN X109.here hx rfl (hb hby dSn_20) rfl rfl kont) ?_
    show Go _ _ _ _ _ _ _ (T109.setTop (mkF m 21 #[.val (.ref a), .val (.int (0 : Int32)), .val (.int (0 : Int32)), .val (.int bb)] [(.ref a)]))
    obtain ⟨T111, X111, e111, st111⟩ := getF X109 hx hZ hown (host := "") (Or.inl (hw _ (List.mem_of_getElem? (i := 15) rfl))) Via.refl e109 F110_bitsSent_a (g := (mkF m 21 #[.val (.ref a), .val (.int (0 : Int32)), .val (.int (0 : Int32)), .val (.int bb)] [(.ref a)])) rfl rfl (hb hby dSn_21)
    refine Go.by st111 ?_
    show Go _ _ _ _ _ _ _ (T111.setTop (mkF m 24 #[.val (.ref a), .val (.int (0 : Int32)), .val (.int (0 : Int32)), .val (.int bb)] [(.ref ba)]))
    refine Go.by (fun _ kont => XS.iloadN X111.here hx rfl (hb hby dSn_24) rfl (XT.dup2 X111.here hx rfl (hb hby dSn_25) rfl rfl rfl kont)) ?_
    show Go _ _ _ _ _ _ _ (T111.setTop (mkF m 26 #[.val (.ref a), .val (.int (0 : Int32)), .val (.int (0 : Int32)), .val (.int bb)] [(.int (0 : Int32)), (.ref ba), (.int (0 : Int32)), (.ref ba)]))
    obtain ⟨cl_q112, Ar_q112, q1_q112, S_q112, N_q112, H_q112, G_q112⟩ := id V110_ba
    have hin_q112 : ¬ ((0 : Int32) < 0 ∨ cl_q112.slots.size ≤ ((0 : Int32)).toNatClampNeg) := inb_of S_q112 ⟨by decide, by decide⟩
    have hat_q112 : cl_q112.slots[((0 : Int32)).toNatClampNeg]? = some (.long b0) := Has.at H_q112 hin_q112 rfl
    refine Go.by (X111.laload hx (j := (0 : Int32)) (v := (.long b0)) (by first | exact Ar_q112.1 | (rw [e111]; exact Ar_q112.1)) (State.isArrayOf_alike hZ.alike Ar_q112.2.1) Ar_q112.2.2 hin_q112 hat_q112 (g := (mkF m 26 #[.val (.ref a), .val (.int (0 : Int32)), .val (.int (0 : Int32)), .val (.int bb)] [(.int (0 : Int32)), (.ref ba), (.int (0 : Int32)), (.ref ba)])) rfl rfl (hb hby dSn_26)) ?_
    show Go _ _ _ _ _ _ _ (T111.setTop (mkF m 27 #[.val (.ref a), .val (.int (0 : Int32)), .val (.int (0 : Int32)), .val (.int bb)] [(.long b0), (.int (0 : Int32)), (.ref ba)]))
    refine Go.by (fun _ kont => XS.iloadN X111.here hx rfl (hb hby dSn_27) rfl (XS.i2l X111.here hx rfl (hb hby dSn_28) rfl (XS.ladd X111.here hx rfl (hb hby dSn_29) rfl kont))) ?_
    show Go _ _ _ _ _ _ _ (T111.setTop (mkF m 30 #[.val (.ref a), .val (.int (0 : Int32)), .val (.int (0 : Int32)), .val (.int bb)] [(.long (b0 + (bb.toInt64))), (.int (0 : Int32)), (.ref ba)]))
    obtain ⟨cl_q113, Ar_q113, q1_q113, S_q113, N_q113, H_q113, G_q113⟩ := id V110_ba
    have hin_q113 : ¬ ((0 : Int32) < 0 ∨ cl_q113.slots.size ≤ ((0 : Int32)).toNatClampNeg) := inb_of S_q113 ⟨by decide, by decide⟩
    obtain ⟨T114, h114, X114, e114, W114, st114⟩ := stJ X111 hx hZ e111 Ar_q113 (j := (0 : Int32)) hin_q113 (g := (mkF m 30 #[.val (.ref a), .val (.int (0 : Int32)), .val (.int (0 : Int32)), .val (.int bb)] [(.long (b0 + (bb.toInt64))), (.int (0 : Int32)), (.ref ba)])) rfl rfl (hb hby dSn_30)
    have V114 : Arv Z h114 ba kb .long (2 : Int32) [(.long (b0 + (bb.toInt64))), (.long b1)] (.long (0 : Int64)) := Arv.set Ar_q113 q1_q113 S_q113 N_q113 H_q113 G_q113 rfl W114 0 rfl (Nat.le_of_ble_eq_true rfl)
    have F115_sent_a := F110_sent_a.other W114 (Or.inl n3)
    have F115_received_a := F110_received_a.other W114 (Or.inl n3)
    have F115_bitsSent_a := F110_bitsSent_a.other W114 (Or.inl n3)
    have E115_a := E110_a.wr W114
    have V115_sa := V110_sa.other W114 n5
    have V115_ra := V109.other W114 n6
    have Z115 := Nat.le_trans Z110 (Keep.of_wr W114).1
    have K115 : Keep h0 h114 [sa, ra, ba] := K110.wr W114 (Or.inl (by simp))
    have N114 := Fr.snoc X114 N109 g3
    refine Go.by st114 ?_
    show Go _ _ _ _ _ _ _ (T114.setTop (mkF m 31 #[.val (.ref a), .val (.int (0 : Int32)), .val (.int (0 : Int32)), .val (.int bb)] []))
    refine Go.retV X114 hx hret hlk (hb hby dSn_31) ?_ (by decide) (by decide)
    show QSn Z a ff tt bb sa ra ba ks kr kb s0 s1 r0 r1 b0 b1 h0 n0 none T114.heap _
    rw [e114]
    have W1 := V115_sa
    have W2 := V115_ra
    have W3 := V114
    refine ⟨rfl, N114, K115, ?_, ?_, ?_⟩
    · simpa [gF, hf] using W1
    · simpa [gF, ht] using W2
    · simpa [gF, hf] using W3
  · rw [show (mkF m 0 #[.val (.ref a), .val (.int ff), .val (.int tt), .val (.int bb)] []) = (mkF m 0 #[.val (.ref a), .val (.int (0 : Int32)), .val (.int (1 : Int32)), .val (.int bb)] []) from by rw [hf, ht]]
    show Go _ _ _ _ _ _ _ (s₁.setTop (mkF m 0 #[.val (.ref a), .val (.int (0 : Int32)), .val (.int (1 : Int32)), .val (.int bb)] []))
    refine Go.by (fun _ kont => XS.aloadN X0.here hx rfl (hb hby dSn_0) rfl rfl kont) ?_
    show Go _ _ _ _ _ _ _ (s₁.setTop (mkF m 1 #[.val (.ref a), .val (.int (0 : Int32)), .val (.int (1 : Int32)), .val (.int bb)] [(.ref a)]))
    obtain ⟨T116, X116, e116, st116⟩ := getF X0 hx hZ hown (host := "") (Or.inl (hw _ (List.mem_of_getElem? (i := 11) rfl))) Via.refl e0 Fis (g := (mkF m 1 #[.val (.ref a), .val (.int (0 : Int32)), .val (.int (1 : Int32)), .val (.int bb)] [(.ref a)])) rfl rfl (hb hby dSn_1)
    refine Go.by st116 ?_
    show Go _ _ _ _ _ _ _ (T116.setTop (mkF m 4 #[.val (.ref a), .val (.int (0 : Int32)), .val (.int (1 : Int32)), .val (.int bb)] [(.ref sa)]))
    refine Go.by (fun _ kont => XS.iloadN X116.here hx rfl (hb hby dSn_4) rfl (XT.dup2 X116.here hx rfl (hb hby dSn_5) rfl rfl rfl kont)) ?_
    show Go _ _ _ _ _ _ _ (T116.setTop (mkF m 6 #[.val (.ref a), .val (.int (0 : Int32)), .val (.int (1 : Int32)), .val (.int bb)] [(.int (0 : Int32)), (.ref sa), (.int (0 : Int32)), (.ref sa)]))
    obtain ⟨cl_q117, Ar_q117, q1_q117, S_q117, N_q117, H_q117, G_q117⟩ := id Vs
    have hin_q117 : ¬ ((0 : Int32) < 0 ∨ cl_q117.slots.size ≤ ((0 : Int32)).toNatClampNeg) := inb_of S_q117 ⟨by decide, by decide⟩
    have hat_q117 : cl_q117.slots[((0 : Int32)).toNatClampNeg]? = some (.long s0) := Has.at H_q117 hin_q117 rfl
    refine Go.by (X116.laload hx (j := (0 : Int32)) (v := (.long s0)) (by first | exact Ar_q117.1 | (rw [e116]; exact Ar_q117.1)) (State.isArrayOf_alike hZ.alike Ar_q117.2.1) Ar_q117.2.2 hin_q117 hat_q117 (g := (mkF m 6 #[.val (.ref a), .val (.int (0 : Int32)), .val (.int (1 : Int32)), .val (.int bb)] [(.int (0 : Int32)), (.ref sa), (.int (0 : Int32)), (.ref sa)])) rfl rfl (hb hby dSn_6)) ?_
    show Go _ _ _ _ _ _ _ (T116.setTop (mkF m 7 #[.val (.ref a), .val (.int (0 : Int32)), .val (.int (1 : Int32)), .val (.int bb)] [(.long s0), (.int (0 : Int32)), (.ref sa)]))
    refine Go.by (fun _ kont => XS.lconst X116.here hx rfl (hb hby dSn_7) (XS.ladd X116.here hx rfl (hb hby dSn_8) rfl kont)) ?_
    show Go _ _ _ _ _ _ _ (T116.setTop (mkF m 9 #[.val (.ref a), .val (.int (0 : Int32)), .val (.int (1 : Int32)), .val (.int bb)] [(.long (s0 + (1 : Int64))), (.int (0 : Int32)), (.ref sa)]))
    obtain ⟨cl_q118, Ar_q118, q1_q118, S_q118, N_q118, H_q118, G_q118⟩ := id Vs
    have hin_q118 : ¬ ((0 : Int32) < 0 ∨ cl_q118.slots.size ≤ ((0 : Int32)).toNatClampNeg) := inb_of S_q118 ⟨by decide, by decide⟩
    obtain ⟨T119, h119, X119, e119, W119, st119⟩ := stJ X116 hx hZ e116 Ar_q118 (j := (0 : Int32)) hin_q118 (g := (mkF m 9 #[.val (.ref a), .val (.int (0 : Int32)), .val (.int (1 : Int32)), .val (.int bb)] [(.long (s0 + (1 : Int64))), (.int (0 : Int32)), (.ref sa)])) rfl rfl (hb hby dSn_9)
    have V119 : Arv Z h119 sa ks .long (2 : Int32) [(.long (s0 + (1 : Int64))), (.long s1)] (.long (0 : Int64)) := Arv.set Ar_q118 q1_q118 S_q118 N_q118 H_q118 G_q118 rfl W119 0 rfl (Nat.le_of_ble_eq_true rfl)
    have F120_sent_a := Fis.other W119 (Or.inl n1)
    have F120_received_a := Fir.other W119 (Or.inl n1)
    have F120_bitsSent_a := Fib.other W119 (Or.inl n1)
    have E120_a := E0a.wr W119
    have V120_ra := Vr.other W119 (Ne.symm n4)
    have V120_ba := Vb.other W119 (Ne.symm n5)
    have Z120 := Nat.le_trans Z0 (Keep.of_wr W119).1
    have K120 : Keep h0 h119 [sa, ra, ba] := (Keep.refl h0 [sa, ra, ba]).wr W119 (Or.inl (by simp))
    have N119 := Fr.snoc X119 N0 g1
    refine Go.by st119 ?_
    show Go _ _ _ _ _ _ _ (T119.setTop (mkF m 10 #[.val (.ref a), .val (.int (0 : Int32)), .val (.int (1 : Int32)), .val (.int bb)] []))
    refine Go.by (fun _ kont => XS.aloadN X119.here hx rfl (hb hby dSn_10) rfl rfl kont) ?_
    show Go _ _ _ _ _ _ _ (T119.setTop (mkF m 11 #[.val (.ref a), .val (.int (0 : Int32)), .val (.int (1 : Int32)), .val (.int bb)] [(.ref a)]))
    obtain ⟨T121, X121, e121, st121⟩ := getF X119 hx hZ hown (host := "") (Or.inl (hw _ (List.mem_of_getElem? (i := 13) rfl))) Via.refl e119 F120_received_a (g := (mkF m 11 #[.val (.ref a), .val (.int (0 : Int32)), .val (.int (1 : Int32)), .val (.int bb)] [(.ref a)])) rfl rfl (hb hby dSn_11)
    refine Go.by st121 ?_
    show Go _ _ _ _ _ _ _ (T121.setTop (mkF m 14 #[.val (.ref a), .val (.int (0 : Int32)), .val (.int (1 : Int32)), .val (.int bb)] [(.ref ra)]))
    refine Go.by (fun _ kont => XS.iloadN X121.here hx rfl (hb hby dSn_14) rfl (XT.dup2 X121.here hx rfl (hb hby dSn_15) rfl rfl rfl kont)) ?_
    show Go _ _ _ _ _ _ _ (T121.setTop (mkF m 16 #[.val (.ref a), .val (.int (0 : Int32)), .val (.int (1 : Int32)), .val (.int bb)] [(.int (1 : Int32)), (.ref ra), (.int (1 : Int32)), (.ref ra)]))
    obtain ⟨cl_q122, Ar_q122, q1_q122, S_q122, N_q122, H_q122, G_q122⟩ := id V120_ra
    have hin_q122 : ¬ ((1 : Int32) < 0 ∨ cl_q122.slots.size ≤ ((1 : Int32)).toNatClampNeg) := inb_of S_q122 ⟨by decide, by decide⟩
    have hat_q122 : cl_q122.slots[((1 : Int32)).toNatClampNeg]? = some (.long r1) := Has.at H_q122 hin_q122 rfl
    refine Go.by (X121.laload hx (j := (1 : Int32)) (v := (.long r1)) (by first | exact Ar_q122.1 | (rw [e121]; exact Ar_q122.1)) (State.isArrayOf_alike hZ.alike Ar_q122.2.1) Ar_q122.2.2 hin_q122 hat_q122 (g := (mkF m 16 #[.val (.ref a), .val (.int (0 : Int32)), .val (.int (1 : Int32)), .val (.int bb)] [(.int (1 : Int32)), (.ref ra), (.int (1 : Int32)), (.ref ra)])) rfl rfl (hb hby dSn_16)) ?_
    show Go _ _ _ _ _ _ _ (T121.setTop (mkF m 17 #[.val (.ref a), .val (.int (0 : Int32)), .val (.int (1 : Int32)), .val (.int bb)] [(.long r1), (.int (1 : Int32)), (.ref ra)]))
    refine Go.by (fun _ kont => XS.lconst X121.here hx rfl (hb hby dSn_17) (XS.ladd X121.here hx rfl (hb hby dSn_18) rfl kont)) ?_
    show Go _ _ _ _ _ _ _ (T121.setTop (mkF m 19 #[.val (.ref a), .val (.int (0 : Int32)), .val (.int (1 : Int32)), .val (.int bb)] [(.long (r1 + (1 : Int64))), (.int (1 : Int32)), (.ref ra)]))
    obtain ⟨cl_q123, Ar_q123, q1_q123, S_q123, N_q123, H_q123, G_q123⟩ := id V120_ra
    have hin_q123 : ¬ ((1 : Int32) < 0 ∨ cl_q123.slots.size ≤ ((1 : Int32)).toNatClampNeg) := inb_of S_q123 ⟨by decide, by decide⟩
    obtain ⟨T124, h124, X124, e124, W124, st124⟩ := stJ X121 hx hZ e121 Ar_q123 (j := (1 : Int32)) hin_q123 (g := (mkF m 19 #[.val (.ref a), .val (.int (0 : Int32)), .val (.int (1 : Int32)), .val (.int bb)] [(.long (r1 + (1 : Int64))), (.int (1 : Int32)), (.ref ra)])) rfl rfl (hb hby dSn_19)
    have V124 : Arv Z h124 ra kr .long (2 : Int32) [(.long r0), (.long (r1 + (1 : Int64)))] (.long (0 : Int64)) := Arv.set Ar_q123 q1_q123 S_q123 N_q123 H_q123 G_q123 rfl W124 1 rfl (Nat.le_of_ble_eq_true rfl)
    have F125_sent_a := F120_sent_a.other W124 (Or.inl n2)
    have F125_received_a := F120_received_a.other W124 (Or.inl n2)
    have F125_bitsSent_a := F120_bitsSent_a.other W124 (Or.inl n2)
    have E125_a := E120_a.wr W124
    have V125_sa := V119.other W124 n4
    have V125_ba := V120_ba.other W124 (Ne.symm n6)
    have Z125 := Nat.le_trans Z120 (Keep.of_wr W124).1
    have K125 : Keep h0 h124 [sa, ra, ba] := K120.wr W124 (Or.inl (by simp))
    have N124 := Fr.snoc X124 N119 g2
    refine Go.by st124 ?_
    show Go _ _ _ _ _ _ _ (T124.setTop (mkF m 20 #[.val (.ref a), .val (.int (0 : Int32)), .val (.int (1 : Int32)), .val (.int bb)] []))
    refine Go.by (fun _ kont => XS.aloadN X124.here hx rfl (hb hby dSn_20) rfl rfl kont) ?_
    show Go _ _ _ _ _ _ _ (T124.setTop (mkF m 21 #[.val (.ref a), .val (.int (0 : Int32)), .val (.int (1 : Int32)), .val (.int bb)] [(.ref a)]))
    obtain ⟨T126, X126, e126, st126⟩ := getF X124 hx hZ hown (host := "") (Or.inl (hw _ (List.mem_of_getElem? (i := 15) rfl))) Via.refl e124 F125_bitsSent_a (g := (mkF m 21 #[.val (.ref a), .val (.int (0 : Int32)), .val (.int (1 : Int32)), .val (.int bb)] [(.ref a)])) rfl rfl (hb hby dSn_21)
    refine Go.by st126 ?_
    show Go _ _ _ _ _ _ _ (T126.setTop (mkF m 24 #[.val (.ref a), .val (.int (0 : Int32)), .val (.int (1 : Int32)), .val (.int bb)] [(.ref ba)]))
    refine Go.by (fun _ kont => XS.iloadN X126.here hx rfl (hb hby dSn_24) rfl (XT.dup2 X126.here hx rfl (hb hby dSn_25) rfl rfl rfl kont)) ?_
    show Go _ _ _ _ _ _ _ (T126.setTop (mkF m 26 #[.val (.ref a), .val (.int (0 : Int32)), .val (.int (1 : Int32)), .val (.int bb)] [(.int (0 : Int32)), (.ref ba), (.int (0 : Int32)), (.ref ba)]))
    obtain ⟨cl_q127, Ar_q127, q1_q127, S_q127, N_q127, H_q127, G_q127⟩ := id V125_ba
    have hin_q127 : ¬ ((0 : Int32) < 0 ∨ cl_q127.slots.size ≤ ((0 : Int32)).toNatClampNeg) := inb_of S_q127 ⟨by decide, by decide⟩
    have hat_q127 : cl_q127.slots[((0 : Int32)).toNatClampNeg]? = some (.long b0) := Has.at H_q127 hin_q127 rfl
    refine Go.by (X126.laload hx (j := (0 : Int32)) (v := (.long b0)) (by first | exact Ar_q127.1 | (rw [e126]; exact Ar_q127.1)) (State.isArrayOf_alike hZ.alike Ar_q127.2.1) Ar_q127.2.2 hin_q127 hat_q127 (g := (mkF m 26 #[.val (.ref a), .val (.int (0 : Int32)), .val (.int (1 : Int32)), .val (.int bb)] [(.int (0 : Int32)), (.ref ba), (.int (0 : Int32)), (.ref ba)])) rfl rfl (hb hby dSn_26)) ?_
    show Go _ _ _ _ _ _ _ (T126.setTop (mkF m 27 #[.val (.ref a), .val (.int (0 : Int32)), .val (.int (1 : Int32)), .val (.int bb)] [(.long b0), (.int (0 : Int32)), (.ref ba)]))
    refine Go.by (fun _ kont => XS.iloadN X126.here hx rfl (hb hby dSn_27) rfl (XS.i2l X126.here hx rfl (hb hby dSn_28) rfl (XS.ladd X126.here hx rfl (hb hby dSn_29) rfl kont))) ?_
    show Go _ _ _ _ _ _ _ (T126.setTop (mkF m 30 #[.val (.ref a), .val (.int (0 : Int32)), .val (.int (1 : Int32)), .val (.int bb)] [(.long (b0 + (bb.toInt64))), (.int (0 : Int32)), (.ref ba)]))
    obtain ⟨cl_q128, Ar_q128, q1_q128, S_q128, N_q128, H_q128, G_q128⟩ := id V125_ba
    have hin_q128 : ¬ ((0 : Int32) < 0 ∨ cl_q128.slots.size ≤ ((0 : Int32)).toNatClampNeg) := inb_of S_q128 ⟨by decide, by decide⟩
    obtain ⟨T129, h129, X129, e129, W129, st129⟩ := stJ X126 hx hZ e126 Ar_q128 (j := (0 : Int32)) hin_q128 (g := (mkF m 30 #[.val (.ref a), .val (.int (0 : Int32)), .val (.int (1 : Int32)), .val (.int bb)] [(.long (b0 + (bb.toInt64))), (.int (0 : Int32)), (.ref ba)])) rfl rfl (hb hby dSn_30)
    have V129 : Arv Z h129 ba kb .long (2 : Int32) [(.long (b0 + (bb.toInt64))), (.long b1)] (.long (0 : Int64)) := Arv.set Ar_q128 q1_q128 S_q128 N_q128 H_q128 G_q128 rfl W129 0 rfl (Nat.le_of_ble_eq_true rfl)
    have F130_sent_a := F125_sent_a.other W129 (Or.inl n3)
    have F130_received_a := F125_received_a.other W129 (Or.inl n3)
    have F130_bitsSent_a := F125_bitsSent_a.other W129 (Or.inl n3)
    have E130_a := E125_a.wr W129
    have V130_sa := V125_sa.other W129 n5
    have V130_ra := V124.other W129 n6
    have Z130 := Nat.le_trans Z125 (Keep.of_wr W129).1
    have K130 : Keep h0 h129 [sa, ra, ba] := K125.wr W129 (Or.inl (by simp))
    have N129 := Fr.snoc X129 N124 g3
    refine Go.by st129 ?_
    show Go _ _ _ _ _ _ _ (T129.setTop (mkF m 31 #[.val (.ref a), .val (.int (0 : Int32)), .val (.int (1 : Int32)), .val (.int bb)] []))
    refine Go.retV X129 hx hret hlk (hb hby dSn_31) ?_ (by decide) (by decide)
    show QSn Z a ff tt bb sa ra ba ks kr kb s0 s1 r0 r1 b0 b1 h0 n0 none T129.heap _
    rw [e129]
    have W1 := V130_sa
    have W2 := V130_ra
    have W3 := V129
    refine ⟨rfl, N129, K130, ?_, ?_, ?_⟩
    · simpa [gF, hf] using W1
    · simpa [gF, ht] using W2
    · simpa [gF, hf] using W3
  · rw [show (mkF m 0 #[.val (.ref a), .val (.int ff), .val (.int tt), .val (.int bb)] []) = (mkF m 0 #[.val (.ref a), .val (.int (1 : Int32)), .val (.int (0 : Int32)), .val (.int bb)] []) from by rw [hf, ht]]
    show Go _ _ _ _ _ _ _ (s₁.setTop (mkF m 0 #[.val (.ref a), .val (.int (1 : Int32)), .val (.int (0 : Int32)), .val (.int bb)] []))
    refine Go.by (fun _ kont => XS.aloadN X0.here hx rfl (hb hby dSn_0) rfl rfl kont) ?_
    show Go _ _ _ _ _ _ _ (s₁.setTop (mkF m 1 #[.val (.ref a), .val (.int (1 : Int32)), .val (.int (0 : Int32)), .val (.int bb)] [(.ref a)]))
    obtain ⟨T131, X131, e131, st131⟩ := getF X0 hx hZ hown (host := "") (Or.inl (hw _ (List.mem_of_getElem? (i := 11) rfl))) Via.refl e0 Fis (g := (mkF m 1 #[.val (.ref a), .val (.int (1 : Int32)), .val (.int (0 : Int32)), .val (.int bb)] [(.ref a)])) rfl rfl (hb hby dSn_1)
    refine Go.by st131 ?_
    show Go _ _ _ _ _ _ _ (T131.setTop (mkF m 4 #[.val (.ref a), .val (.int (1 : Int32)), .val (.int (0 : Int32)), .val (.int bb)] [(.ref sa)]))
    refine Go.by (fun _ kont => XS.iloadN X131.here hx rfl (hb hby dSn_4) rfl (XT.dup2 X131.here hx rfl (hb hby dSn_5) rfl rfl rfl kont)) ?_
    show Go _ _ _ _ _ _ _ (T131.setTop (mkF m 6 #[.val (.ref a), .val (.int (1 : Int32)), .val (.int (0 : Int32)), .val (.int bb)] [(.int (1 : Int32)), (.ref sa), (.int (1 : Int32)), (.ref sa)]))
    obtain ⟨cl_q132, Ar_q132, q1_q132, S_q132, N_q132, H_q132, G_q132⟩ := id Vs
    have hin_q132 : ¬ ((1 : Int32) < 0 ∨ cl_q132.slots.size ≤ ((1 : Int32)).toNatClampNeg) := inb_of S_q132 ⟨by decide, by decide⟩
    have hat_q132 : cl_q132.slots[((1 : Int32)).toNatClampNeg]? = some (.long s1) := Has.at H_q132 hin_q132 rfl
    refine Go.by (X131.laload hx (j := (1 : Int32)) (v := (.long s1)) (by first | exact Ar_q132.1 | (rw [e131]; exact Ar_q132.1)) (State.isArrayOf_alike hZ.alike Ar_q132.2.1) Ar_q132.2.2 hin_q132 hat_q132 (g := (mkF m 6 #[.val (.ref a), .val (.int (1 : Int32)), .val (.int (0 : Int32)), .val (.int bb)] [(.int (1 : Int32)), (.ref sa), (.int (1 : Int32)), (.ref sa)])) rfl rfl (hb hby dSn_6)) ?_
    show Go _ _ _ _ _ _ _ (T131.setTop (mkF m 7 #[.val (.ref a), .val (.int (1 : Int32)), .val (.int (0 : Int32)), .val (.int bb)] [(.long s1), (.int (1 : Int32)), (.ref sa)]))
    refine Go.by (fun _ kont => XS.lconst X131.here hx rfl (hb hby dSn_7) (XS.ladd X131.here hx rfl (hb hby dSn_8) rfl kont)) ?_
    show Go _ _ _ _ _ _ _ (T131.setTop (mkF m 9 #[.val (.ref a), .val (.int (1 : Int32)), .val (.int (0 : Int32)), .val (.int bb)] [(.long (s1 + (1 : Int64))), (.int (1 : Int32)), (.ref sa)]))
    obtain ⟨cl_q133, Ar_q133, q1_q133, S_q133, N_q133, H_q133, G_q133⟩ := id Vs
    have hin_q133 : ¬ ((1 : Int32) < 0 ∨ cl_q133.slots.size ≤ ((1 : Int32)).toNatClampNeg) := inb_of S_q133 ⟨by decide, by decide⟩
    obtain ⟨T134, h134, X134, e134, W134, st134⟩ := stJ X131 hx hZ e131 Ar_q133 (j := (1 : Int32)) hin_q133 (g := (mkF m 9 #[.val (.ref a), .val (.int (1 : Int32)), .val (.int (0 : Int32)), .val (.int bb)] [(.long (s1 + (1 : Int64))), (.int (1 : Int32)), (.ref sa)])) rfl rfl (hb hby dSn_9)
    have V134 : Arv Z h134 sa ks .long (2 : Int32) [(.long s0), (.long (s1 + (1 : Int64)))] (.long (0 : Int64)) := Arv.set Ar_q133 q1_q133 S_q133 N_q133 H_q133 G_q133 rfl W134 1 rfl (Nat.le_of_ble_eq_true rfl)
    have F135_sent_a := Fis.other W134 (Or.inl n1)
    have F135_received_a := Fir.other W134 (Or.inl n1)
    have F135_bitsSent_a := Fib.other W134 (Or.inl n1)
    have E135_a := E0a.wr W134
    have V135_ra := Vr.other W134 (Ne.symm n4)
    have V135_ba := Vb.other W134 (Ne.symm n5)
    have Z135 := Nat.le_trans Z0 (Keep.of_wr W134).1
    have K135 : Keep h0 h134 [sa, ra, ba] := (Keep.refl h0 [sa, ra, ba]).wr W134 (Or.inl (by simp))
    have N134 := Fr.snoc X134 N0 g1
    refine Go.by st134 ?_
    show Go _ _ _ _ _ _ _ (T134.setTop (mkF m 10 #[.val (.ref a), .val (.int (1 : Int32)), .val (.int (0 : Int32)), .val (.int bb)] []))
    refine Go.by (fun _ kont => XS.aloadN X134.here hx rfl (hb hby dSn_10) rfl rfl kont) ?_
    show Go _ _ _ _ _ _ _ (T134.setTop (mkF m 11 #[.val (.ref a), .val (.int (1 : Int32)), .val (.int (0 : Int32)), .val (.int bb)] [(.ref a)]))
    obtain ⟨T136, X136, e136, st136⟩ := getF X134 hx hZ hown (host := "") (Or.inl (hw _ (List.mem_of_getElem? (i := 13) rfl))) Via.refl e134 F135_received_a (g := (mkF m 11 #[.val (.ref a), .val (.int (1 : Int32)), .val (.int (0 : Int32)), .val (.int bb)] [(.ref a)])) rfl rfl (hb hby dSn_11)
    refine Go.by st136 ?_
    show Go _ _ _ _ _ _ _ (T136.setTop (mkF m 14 #[.val (.ref a), .val (.int (1 : Int32)), .val (.int (0 : Int32)), .val (.int bb)] [(.ref ra)]))
    refine Go.by (fun _ kont => XS.iloadN X136.here hx rfl (hb hby dSn_14) rfl (XT.dup2 X136.here hx rfl (hb hby dSn_15) rfl rfl rfl kont)) ?_
    show Go _ _ _ _ _ _ _ (T136.setTop (mkF m 16 #[.val (.ref a), .val (.int (1 : Int32)), .val (.int (0 : Int32)), .val (.int bb)] [(.int (0 : Int32)), (.ref ra), (.int (0 : Int32)), (.ref ra)]))
    obtain ⟨cl_q137, Ar_q137, q1_q137, S_q137, N_q137, H_q137, G_q137⟩ := id V135_ra
    have hin_q137 : ¬ ((0 : Int32) < 0 ∨ cl_q137.slots.size ≤ ((0 : Int32)).toNatClampNeg) := inb_of S_q137 ⟨by decide, by decide⟩
    have hat_q137 : cl_q137.slots[((0 : Int32)).toNatClampNeg]? = some (.long r0) := Has.at H_q137 hin_q137 rfl
    refine Go.by (X136.laload hx (j := (0 : Int32)) (v := (.long r0)) (by first | exact Ar_q137.1 | (rw [e136]; exact Ar_q137.1)) (State.isArrayOf_alike hZ.alike Ar_q137.2.1) Ar_q137.2.2 hin_q137 hat_q137 (g := (mkF m 16 #[.val (.ref a), .val (.int (1 : Int32)), .val (.int (0 : Int32)), .val (.int bb)] [(.int (0 : Int32)), (.ref ra), (.int (0 : Int32)), (.ref ra)])) rfl rfl (hb hby dSn_16)) ?_
    show Go _ _ _ _ _ _ _ (T136.setTop (mkF m 17 #[.val (.ref a), .val (.int (1 : Int32)), .val (.int (0 : Int32)), .val (.int bb)] [(.long r0), (.int (0 : Int32)), (.ref ra)]))
    refine Go.by (fun _ kont => XS.lconst X136.here hx rfl (hb hby dSn_17) (XS.ladd X136.here hx rfl (hb hby dSn_18) rfl kont)) ?_
    show Go _ _ _ _ _ _ _ (T136.setTop (mkF m 19 #[.val (.ref a), .val (.int (1 : Int32)), .val (.int (0 : Int32)), .val (.int bb)] [(.long (r0 + (1 : Int64))), (.int (0 : Int32)), (.ref ra)]))
    obtain ⟨cl_q138, Ar_q138, q1_q138, S_q138, N_q138, H_q138, G_q138⟩ := id V135_ra
    have hin_q138 : ¬ ((0 : Int32) < 0 ∨ cl_q138.slots.size ≤ ((0 : Int32)).toNatClampNeg) := inb_of S_q138 ⟨by decide, by decide⟩
    obtain ⟨T139, h139, X139, e139, W139, st139⟩ := stJ X136 hx hZ e136 Ar_q138 (j := (0 : Int32)) hin_q138 (g := (mkF m 19 #[.val (.ref a), .val (.int (1 : Int32)), .val (.int (0 : Int32)), .val (.int bb)] [(.long (r0 + (1 : Int64))), (.int (0 : Int32)), (.ref ra)])) rfl rfl (hb hby dSn_19)
    have V139 : Arv Z h139 ra kr .long (2 : Int32) [(.long (r0 + (1 : Int64))), (.long r1)] (.long (0 : Int64)) := Arv.set Ar_q138 q1_q138 S_q138 N_q138 H_q138 G_q138 rfl W139 0 rfl (Nat.le_of_ble_eq_true rfl)
    have F140_sent_a := F135_sent_a.other W139 (Or.inl n2)
    have F140_received_a := F135_received_a.other W139 (Or.inl n2)
    have F140_bitsSent_a := F135_bitsSent_a.other W139 (Or.inl n2)
    have E140_a := E135_a.wr W139
    have V140_sa := V134.other W139 n4
    have V140_ba := V135_ba.other W139 (Ne.symm n6)
    have Z140 := Nat.le_trans Z135 (Keep.of_wr W139).1
    have K140 : Keep h0 h139 [sa, ra, ba] := K135.wr W139 (Or.inl (by simp))
    have N139 := Fr.snoc X139 N134 g2
    refine Go.by st139 ?_
    show Go _ _ _ _ _ _ _ (T139.setTop (mkF m 20 #[.val (.ref a), .val (.int (1 : Int32)), .val (.int (0 : Int32)), .val (.int bb)] []))
    refine Go.by (fun _ kont => XS.aloadN X139.here hx rfl (hb hby dSn_20) rfl rfl kont) ?_
    show Go _ _ _ _ _ _ _ (T139.setTop (mkF m 21 #[.val (.ref a), .val (.int (1 : Int32)), .val (.int (0 : Int32)), .val (.int bb)] [(.ref a)]))
    obtain ⟨T141, X141, e141, st141⟩ := getF X139 hx hZ hown (host := "") (Or.inl (hw _ (List.mem_of_getElem? (i := 15) rfl))) Via.refl e139 F140_bitsSent_a (g := (mkF m 21 #[.val (.ref a), .val (.int (1 : Int32)), .val (.int (0 : Int32)), .val (.int bb)] [(.ref a)])) rfl rfl (hb hby dSn_21)
    refine Go.by st141 ?_
    show Go _ _ _ _ _ _ _ (T141.setTop (mkF m 24 #[.val (.ref a), .val (.int (1 : Int32)), .val (.int (0 : Int32)), .val (.int bb)] [(.ref ba)]))
    refine Go.by (fun _ kont => XS.iloadN X141.here hx rfl (hb hby dSn_24) rfl (XT.dup2 X141.here hx rfl (hb hby dSn_25) rfl rfl rfl kont)) ?_
    show Go _ _ _ _ _ _ _ (T141.setTop (mkF m 26 #[.val (.ref a), .val (.int (1 : Int32)), .val (.int (0 : Int32)), .val (.int bb)] [(.int (1 : Int32)), (.ref ba), (.int (1 : Int32)), (.ref ba)]))
    obtain ⟨cl_q142, Ar_q142, q1_q142, S_q142, N_q142, H_q142, G_q142⟩ := id V140_ba
    have hin_q142 : ¬ ((1 : Int32) < 0 ∨ cl_q142.slots.size ≤ ((1 : Int32)).toNatClampNeg) := inb_of S_q142 ⟨by decide, by decide⟩
    have hat_q142 : cl_q142.slots[((1 : Int32)).toNatClampNeg]? = some (.long b1) := Has.at H_q142 hin_q142 rfl
    refine Go.by (X141.laload hx (j := (1 : Int32)) (v := (.long b1)) (by first | exact Ar_q142.1 | (rw [e141]; exact Ar_q142.1)) (State.isArrayOf_alike hZ.alike Ar_q142.2.1) Ar_q142.2.2 hin_q142 hat_q142 (g := (mkF m 26 #[.val (.ref a), .val (.int (1 : Int32)), .val (.int (0 : Int32)), .val (.int bb)] [(.int (1 : Int32)), (.ref ba), (.int (1 : Int32)), (.ref ba)])) rfl rfl (hb hby dSn_26)) ?_
    show Go _ _ _ _ _ _ _ (T141.setTop (mkF m 27 #[.val (.ref a), .val (.int (1 : Int32)), .val (.int (0 : Int32)), .val (.int bb)] [(.long b1), (.int (1 : Int32)), (.ref ba)]))
    refine Go.by (fun _ kont => XS.iloadN X141.here hx rfl (hb hby dSn_27) rfl (XS.i2l X141.here hx rfl (hb hby dSn_28) rfl (XS.ladd X141.here hx rfl (hb hby dSn_29) rfl kont))) ?_
    show Go _ _ _ _ _ _ _ (T141.setTop (mkF m 30 #[.val (.ref a), .val (.int (1 : Int32)), .val (.int (0 : Int32)), .val (.int bb)] [(.long (b1 + (bb.toInt64))), (.int (1 : Int32)), (.ref ba)]))
    obtain ⟨cl_q143, Ar_q143, q1_q143, S_q143, N_q143, H_q143, G_q143⟩ := id V140_ba
    have hin_q143 : ¬ ((1 : Int32) < 0 ∨ cl_q143.slots.size ≤ ((1 : Int32)).toNatClampNeg) := inb_of S_q143 ⟨by decide, by decide⟩
    obtain ⟨T144, h144, X144, e144, W144, st144⟩ := stJ X141 hx hZ e141 Ar_q143 (j := (1 : Int32)) hin_q143 (g := (mkF m 30 #[.val (.ref a), .val (.int (1 : Int32)), .val (.int (0 : Int32)), .val (.int bb)] [(.long (b1 + (bb.toInt64))), (.int (1 : Int32)), (.ref ba)])) rfl rfl (hb hby dSn_30)
    have V144 : Arv Z h144 ba kb .long (2 : Int32) [(.long b0), (.long (b1 + (bb.toInt64)))] (.long (0 : Int64)) := Arv.set Ar_q143 q1_q143 S_q143 N_q143 H_q143 G_q143 rfl W144 1 rfl (Nat.le_of_ble_eq_true rfl)
    have F145_sent_a := F140_sent_a.other W144 (Or.inl n3)
    have F145_received_a := F140_received_a.other W144 (Or.inl n3)
    have F145_bitsSent_a := F140_bitsSent_a.other W144 (Or.inl n3)
    have E145_a := E140_a.wr W144
    have V145_sa := V140_sa.other W144 n5
    have V145_ra := V139.other W144 n6
    have Z145 := Nat.le_trans Z140 (Keep.of_wr W144).1
    have K145 : Keep h0 h144 [sa, ra, ba] := K140.wr W144 (Or.inl (by simp))
    have N144 := Fr.snoc X144 N139 g3
    refine Go.by st144 ?_
    show Go _ _ _ _ _ _ _ (T144.setTop (mkF m 31 #[.val (.ref a), .val (.int (1 : Int32)), .val (.int (0 : Int32)), .val (.int bb)] []))
    refine Go.retV X144 hx hret hlk (hb hby dSn_31) ?_ (by decide) (by decide)
    show QSn Z a ff tt bb sa ra ba ks kr kb s0 s1 r0 r1 b0 b1 h0 n0 none T144.heap _
    rw [e144]
    have W1 := V145_sa
    have W2 := V145_ra
    have W3 := V144
    refine ⟨rfl, N144, K145, ?_, ?_, ?_⟩
    · simpa [gF, hf] using W1
    · simpa [gF, ht] using W2
    · simpa [gF, hf] using W3
  · rw [show (mkF m 0 #[.val (.ref a), .val (.int ff), .val (.int tt), .val (.int bb)] []) = (mkF m 0 #[.val (.ref a), .val (.int (1 : Int32)), .val (.int (1 : Int32)), .val (.int bb)] []) from by rw [hf, ht]]
    show Go _ _ _ _ _ _ _ (s₁.setTop (mkF m 0 #[.val (.ref a), .val (.int (1 : Int32)), .val (.int (1 : Int32)), .val (.int bb)] []))
    refine Go.by (fun _ kont => XS.aloadN X0.here hx rfl (hb hby dSn_0) rfl rfl kont) ?_
    show Go _ _ _ _ _ _ _ (s₁.setTop (mkF m 1 #[.val (.ref a), .val (.int (1 : Int32)), .val (.int (1 : Int32)), .val (.int bb)] [(.ref a)]))
    obtain ⟨T146, X146, e146, st146⟩ := getF X0 hx hZ hown (host := "") (Or.inl (hw _ (List.mem_of_getElem? (i := 11) rfl))) Via.refl e0 Fis (g := (mkF m 1 #[.val (.ref a), .val (.int (1 : Int32)), .val (.int (1 : Int32)), .val (.int bb)] [(.ref a)])) rfl rfl (hb hby dSn_1)
    refine Go.by st146 ?_
    show Go _ _ _ _ _ _ _ (T146.setTop (mkF m 4 #[.val (.ref a), .val (.int (1 : Int32)), .val (.int (1 : Int32)), .val (.int bb)] [(.ref sa)]))
    refine Go.by (fun _ kont => XS.iloadN X146.here hx rfl (hb hby dSn_4) rfl (XT.dup2 X146.here hx rfl (hb hby dSn_5) rfl rfl rfl kont)) ?_
    show Go _ _ _ _ _ _ _ (T146.setTop (mkF m 6 #[.val (.ref a), .val (.int (1 : Int32)), .val (.int (1 : Int32)), .val (.int bb)] [(.int (1 : Int32)), (.ref sa), (.int (1 : Int32)), (.ref sa)]))
    obtain ⟨cl_q147, Ar_q147, q1_q147, S_q147, N_q147, H_q147, G_q147⟩ := id Vs
    have hin_q147 : ¬ ((1 : Int32) < 0 ∨ cl_q147.slots.size ≤ ((1 : Int32)).toNatClampNeg) := inb_of S_q147 ⟨by decide, by decide⟩
    have hat_q147 : cl_q147.slots[((1 : Int32)).toNatClampNeg]? = some (.long s1) := Has.at H_q147 hin_q147 rfl
    refine Go.by (X146.laload hx (j := (1 : Int32)) (v := (.long s1)) (by first | exact Ar_q147.1 | (rw [e146]; exact Ar_q147.1)) (State.isArrayOf_alike hZ.alike Ar_q147.2.1) Ar_q147.2.2 hin_q147 hat_q147 (g := (mkF m 6 #[.val (.ref a), .val (.int (1 : Int32)), .val (.int (1 : Int32)), .val (.int bb)] [(.int (1 : Int32)), (.ref sa), (.int (1 : Int32)), (.ref sa)])) rfl rfl (hb hby dSn_6)) ?_
    show Go _ _ _ _ _ _ _ (T146.setTop (mkF m 7 #[.val (.ref a), .val (.int (1 : Int32)), .val (.int (1 : Int32)), .val (.int bb)] [(.long s1), (.int (1 : Int32)), (.ref sa)]))
    refine Go.by (fun _ kont => XS.lconst X146.here hx rfl (hb hby dSn_7) (XS.ladd X146.here hx rfl (hb hby dSn_8) rfl kont)) ?_
    show Go _ _ _ _ _ _ _ (T146.setTop (mkF m 9 #[.val (.ref a), .val (.int (1 : Int32)), .val (.int (1 : Int32)), .val (.int bb)] [(.long (s1 + (1 : Int64))), (.int (1 : Int32)), (.ref sa)]))
    obtain ⟨cl_q148, Ar_q148, q1_q148, S_q148, N_q148, H_q148, G_q148⟩ := id Vs
    have hin_q148 : ¬ ((1 : Int32) < 0 ∨ cl_q148.slots.size ≤ ((1 : Int32)).toNatClampNeg) := inb_of S_q148 ⟨by decide, by decide⟩
    obtain ⟨T149, h149, X149, e149, W149, st149⟩ := stJ X146 hx hZ e146 Ar_q148 (j := (1 : Int32)) hin_q148 (g := (mkF m 9 #[.val (.ref a), .val (.int (1 : Int32)), .val (.int (1 : Int32)), .val (.int bb)] [(.long (s1 + (1 : Int64))), (.int (1 : Int32)), (.ref sa)])) rfl rfl (hb hby dSn_9)
    have V149 : Arv Z h149 sa ks .long (2 : Int32) [(.long s0), (.long (s1 + (1 : Int64)))] (.long (0 : Int64)) := Arv.set Ar_q148 q1_q148 S_q148 N_q148 H_q148 G_q148 rfl W149 1 rfl (Nat.le_of_ble_eq_true rfl)
    have F150_sent_a := Fis.other W149 (Or.inl n1)
    have F150_received_a := Fir.other W149 (Or.inl n1)
    have F150_bitsSent_a := Fib.other W149 (Or.inl n1)
    have E150_a := E0a.wr W149
    have V150_ra := Vr.other W149 (Ne.symm n4)
    have V150_ba := Vb.other W149 (Ne.symm n5)
    have Z150 := Nat.le_trans Z0 (Keep.of_wr W149).1
    have K150 : Keep h0 h149 [sa, ra, ba] := (Keep.refl h0 [sa, ra, ba]).wr W149 (Or.inl (by simp))
    have N149 := Fr.snoc X149 N0 g1
    refine Go.by st149 ?_
    show Go _ _ _ _ _ _ _ (T149.setTop (mkF m 10 #[.val (.ref a), .val (.int (1 : Int32)), .val (.int (1 : Int32)), .val (.int bb)] []))
    refine Go.by (fun _ kont => XS.aloadN X149.here hx rfl (hb hby dSn_10) rfl rfl kont) ?_
    show Go _ _ _ _ _ _ _ (T149.setTop (mkF m 11 #[.val (.ref a), .val (.int (1 : Int32)), .val (.int (1 : Int32)), .val (.int bb)] [(.ref a)]))
    obtain ⟨T151, X151, e151, st151⟩ := getF X149 hx hZ hown (host := "") (Or.inl (hw _ (List.mem_of_getElem? (i := 13) rfl))) Via.refl e149 F150_received_a (g := (mkF m 11 #[.val (.ref a), .val (.int (1 : Int32)), .val (.int (1 : Int32)), .val (.int bb)] [(.ref a)])) rfl rfl (hb hby dSn_11)
    refine Go.by st151 ?_
    show Go _ _ _ _ _ _ _ (T151.setTop (mkF m 14 #[.val (.ref a), .val (.int (1 : Int32)), .val (.int (1 : Int32)), .val (.int bb)] [(.ref ra)]))
    refine Go.by (fun _ kont => XS.iloadN X151.here hx rfl (hb hby dSn_14) rfl (XT.dup2 X151.here hx rfl (hb hby dSn_15) rfl rfl rfl kont)) ?_
    show Go _ _ _ _ _ _ _ (T151.setTop (mkF m 16 #[.val (.ref a), .val (.int (1 : Int32)), .val (.int (1 : Int32)), .val (.int bb)] [(.int (1 : Int32)), (.ref ra), (.int (1 : Int32)), (.ref ra)]))
    obtain ⟨cl_q152, Ar_q152, q1_q152, S_q152, N_q152, H_q152, G_q152⟩ := id V150_ra
    have hin_q152 : ¬ ((1 : Int32) < 0 ∨ cl_q152.slots.size ≤ ((1 : Int32)).toNatClampNeg) := inb_of S_q152 ⟨by decide, by decide⟩
    have hat_q152 : cl_q152.slots[((1 : Int32)).toNatClampNeg]? = some (.long r1) := Has.at H_q152 hin_q152 rfl
    refine Go.by (X151.laload hx (j := (1 : Int32)) (v := (.long r1)) (by first | exact Ar_q152.1 | (rw [e151]; exact Ar_q152.1)) (State.isArrayOf_alike hZ.alike Ar_q152.2.1) Ar_q152.2.2 hin_q152 hat_q152 (g := (mkF m 16 #[.val (.ref a), .val (.int (1 : Int32)), .val (.int (1 : Int32)), .val (.int bb)] [(.int (1 : Int32)), (.ref ra), (.int (1 : Int32)), (.ref ra)])) rfl rfl (hb hby dSn_16)) ?_
    show Go _ _ _ _ _ _ _ (T151.setTop (mkF m 17 #[.val (.ref a), .val (.int (1 : Int32)), .val (.int (1 : Int32)), .val (.int bb)] [(.long r1), (.int (1 : Int32)), (.ref ra)]))
    refine Go.by (fun _ kont => XS.lconst X151.here hx rfl (hb hby dSn_17) (XS.ladd X151.here hx rfl (hb hby dSn_18) rfl kont)) ?_
    show Go _ _ _ _ _ _ _ (T151.setTop (mkF m 19 #[.val (.ref a), .val (.int (1 : Int32)), .val (.int (1 : Int32)), .val (.int bb)] [(.long (r1 + (1 : Int64))), (.int (1 : Int32)), (.ref ra)]))
    obtain ⟨cl_q153, Ar_q153, q1_q153, S_q153, N_q153, H_q153, G_q153⟩ := id V150_ra
    have hin_q153 : ¬ ((1 : Int32) < 0 ∨ cl_q153.slots.size ≤ ((1 : Int32)).toNatClampNeg) := inb_of S_q153 ⟨by decide, by decide⟩
    obtain ⟨T154, h154, X154, e154, W154, st154⟩ := stJ X151 hx hZ e151 Ar_q153 (j := (1 : Int32)) hin_q153 (g := (mkF m 19 #[.val (.ref a), .val (.int (1 : Int32)), .val (.int (1 : Int32)), .val (.int bb)] [(.long (r1 + (1 : Int64))), (.int (1 : Int32)), (.ref ra)])) rfl rfl (hb hby dSn_19)
    have V154 : Arv Z h154 ra kr .long (2 : Int32) [(.long r0), (.long (r1 + (1 : Int64)))] (.long (0 : Int64)) := Arv.set Ar_q153 q1_q153 S_q153 N_q153 H_q153 G_q153 rfl W154 1 rfl (Nat.le_of_ble_eq_true rfl)
    have F155_sent_a := F150_sent_a.other W154 (Or.inl n2)
    have F155_received_a := F150_received_a.other W154 (Or.inl n2)
    have F155_bitsSent_a := F150_bitsSent_a.other W154 (Or.inl n2)
    have E155_a := E150_a.wr W154
    have V155_sa := V149.other W154 n4
    have V155_ba := V150_ba.other W154 (Ne.symm n6)
    have Z155 := Nat.le_trans Z150 (Keep.of_wr W154).1
    have K155 : Keep h0 h154 [sa, ra, ba] := K150.wr W154 (Or.inl (by simp))
    have N154 := Fr.snoc X154 N149 g2
    refine Go.by st154 ?_
    show Go _ _ _ _ _ _ _ (T154.setTop (mkF m 20 #[.val (.ref a), .val (.int (1 : Int32)), .val (.int (1 : Int32)), .val (.int bb)] []))
    refine Go.by (fun _ kont => XS.aloadN X154.here hx rfl (hb hby dSn_20) rfl rfl kont) ?_
    show Go _ _ _ _ _ _ _ (T154.setTop (mkF m 21 #[.val (.ref a), .val (.int (1 : Int32)), .val (.int (1 : Int32)), .val (.int bb)] [(.ref a)]))
    obtain ⟨T156, X156, e156, st156⟩ := getF X154 hx hZ hown (host := "") (Or.inl (hw _ (List.mem_of_getElem? (i := 15) rfl))) Via.refl e154 F155_bitsSent_a (g := (mkF m 21 #[.val (.ref a), .val (.int (1 : Int32)), .val (.int (1 : Int32)), .val (.int bb)] [(.ref a)])) rfl rfl (hb hby dSn_21)
    refine Go.by st156 ?_
    show Go _ _ _ _ _ _ _ (T156.setTop (mkF m 24 #[.val (.ref a), .val (.int (1 : Int32)), .val (.int (1 : Int32)), .val (.int bb)] [(.ref ba)]))
    refine Go.by (fun _ kont => XS.iloadN X156.here hx rfl (hb hby dSn_24) rfl (XT.dup2 X156.here hx rfl (hb hby dSn_25) rfl rfl rfl kont)) ?_
    show Go _ _ _ _ _ _ _ (T156.setTop (mkF m 26 #[.val (.ref a), .val (.int (1 : Int32)), .val (.int (1 : Int32)), .val (.int bb)] [(.int (1 : Int32)), (.ref ba), (.int (1 : Int32)), (.ref ba)]))
    obtain ⟨cl_q157, Ar_q157, q1_q157, S_q157, N_q157, H_q157, G_q157⟩ := id V155_ba
    have hin_q157 : ¬ ((1 : Int32) < 0 ∨ cl_q157.slots.size ≤ ((1 : Int32)).toNatClampNeg) := inb_of S_q157 ⟨by decide, by decide⟩
    have hat_q157 : cl_q157.slots[((1 : Int32)).toNatClampNeg]? = some (.long b1) := Has.at H_q157 hin_q157 rfl
    refine Go.by (X156.laload hx (j := (1 : Int32)) (v := (.long b1)) (by first | exact Ar_q157.1 | (rw [e156]; exact Ar_q157.1)) (State.isArrayOf_alike hZ.alike Ar_q157.2.1) Ar_q157.2.2 hin_q157 hat_q157 (g := (mkF m 26 #[.val (.ref a), .val (.int (1 : Int32)), .val (.int (1 : Int32)), .val (.int bb)] [(.int (1 : Int32)), (.ref ba), (.int (1 : Int32)), (.ref ba)])) rfl rfl (hb hby dSn_26)) ?_
    show Go _ _ _ _ _ _ _ (T156.setTop (mkF m 27 #[.val (.ref a), .val (.int (1 : Int32)), .val (.int (1 : Int32)), .val (.int bb)] [(.long b1), (.int (1 : Int32)), (.ref ba)]))
    refine Go.by (fun _ kont => XS.iloadN X156.here hx rfl (hb hby dSn_27) rfl (XS.i2l X156.here hx rfl (hb hby dSn_28) rfl (XS.ladd X156.here hx rfl (hb hby dSn_29) rfl kont))) ?_
    show Go _ _ _ _ _ _ _ (T156.setTop (mkF m 30 #[.val (.ref a), .val (.int (1 : Int32)), .val (.int (1 : Int32)), .val (.int bb)] [(.long (b1 + (bb.toInt64))), (.int (1 : Int32)), (.ref ba)]))
    obtain ⟨cl_q158, Ar_q158, q1_q158, S_q158, N_q158, H_q158, G_q158⟩ := id V155_ba
    have hin_q158 : ¬ ((1 : Int32) < 0 ∨ cl_q158.slots.size ≤ ((1 : Int32)).toNatClampNeg) := inb_of S_q158 ⟨by decide, by decide⟩
    obtain ⟨T159, h159, X159, e159, W159, st159⟩ := stJ X156 hx hZ e156 Ar_q158 (j := (1 : Int32)) hin_q158 (g := (mkF m 30 #[.val (.ref a), .val (.int (1 : Int32)), .val (.int (1 : Int32)), .val (.int bb)] [(.long (b1 + (bb.toInt64))), (.int (1 : Int32)), (.ref ba)])) rfl rfl (hb hby dSn_30)
    have V159 : Arv Z h159 ba kb .long (2 : Int32) [(.long b0), (.long (b1 + (bb.toInt64)))] (.long (0 : Int64)) := Arv.set Ar_q158 q1_q158 S_q158 N_q158 H_q158 G_q158 rfl W159 1 rfl (Nat.le_of_ble_eq_true rfl)
    have F160_sent_a := F155_sent_a.other W159 (Or.inl n3)
    have F160_received_a := F155_received_a.other W159 (Or.inl n3)
    have F160_bitsSent_a := F155_bitsSent_a.other W159 (Or.inl n3)
    have E160_a := E155_a.wr W159
    have V160_sa := V155_sa.other W159 n5
    have V160_ra := V154.other W159 n6
    have Z160 := Nat.le_trans Z155 (Keep.of_wr W159).1
    have K160 : Keep h0 h159 [sa, ra, ba] := K155.wr W159 (Or.inl (by simp))
    have N159 := Fr.snoc X159 N154 g3
    refine Go.by st159 ?_
    show Go _ _ _ _ _ _ _ (T159.setTop (mkF m 31 #[.val (.ref a), .val (.int (1 : Int32)), .val (.int (1 : Int32)), .val (.int bb)] []))
    refine Go.retV X159 hx hret hlk (hb hby dSn_31) ?_ (by decide) (by decide)
    show QSn Z a ff tt bb sa ra ba ks kr kb s0 s1 r0 r1 b0 b1 h0 n0 none T159.heap _
    rw [e159]
    have W1 := V160_sa
    have W2 := V160_ra
    have W3 := V159
    refine ⟨rfl, N159, K160, ?_, ?_, ?_⟩
    · simpa [gF, hf] using W1
    · simpa [gF, ht] using W2
    · simpa [gF, hf] using W3

theorem own_b1 (y : Int32) : y &&& (1 : Int32) = 0 ∨ y &&& (1 : Int32) = 1 := and_one y
theorem own_bt (y : Int32) : 0 ≤ (y &&& (2147483647 : Int32)).toInt ∧ (y &&& (2147483647 : Int32)).toInt ≤ 2147483647 := by
  have h := c_mask y 2147483647 31 (by decide) (by decide)
  rw [h]; omega
theorem own_gb (f g i : Int32) (d e : Int64) (hd : 0 ≤ d.toInt ∧ d.toInt ≤ 2147483647) (he : 0 ≤ e.toInt ∧ e.toInt ≤ 2147483647) : 0 ≤ (gF g i (gF f i (0 : Int64) d) e).toInt ∧ (gF g i (gF f i (0 : Int64) d) e).toInt ≤ 4294967296 := by
  unfold gF
  have c1 := c_ladd 0 d
  have r1 := rng64 (0 + d)
  have c2 := c_ladd (0 + d) e
  have r2 := rng64 (0 + d + e)
  have c3 := c_ladd 0 e
  have r3 := rng64 (0 + e)
  rw [show (0 : Int64).toInt = 0 from by decide] at c1 c3
  split <;> split <;> (try rw [show (0 : Int64).toInt = 0 from by decide]) <;> omega
theorem own_pin (y z : Int64) (B : 0 ≤ y.toInt ∧ y.toInt ≤ 4294967296) (C : 0 ≤ z.toInt ∧ z.toInt ≤ 4294967296) : fPn y z (fMa (0 : Int64) y) (fMi (fMi (9223372036854775807 : Int64) y) z) (fMa (fMa (0 : Int64) y) z) = 1 := by
  have e1 : fMa (0 : Int64) y = y := by
    unfold fMa
    by_cases c : (0 : Int64) < y
    · rw [if_pos c]
    · rw [if_neg c, ← Int64.toInt_inj]; rw [Int64.lt_iff_toInt_lt] at c; have e0 : (0 : Int64).toInt = 0 := by decide
      omega
  have e2 : fMi (9223372036854775807 : Int64) y = y := by
    unfold fMi
    by_cases c : y < (9223372036854775807 : Int64)
    · rw [if_pos c]
    · exfalso; rw [Int64.lt_iff_toInt_lt, show (9223372036854775807 : Int64).toInt = 9223372036854775807 from by decide] at c; omega
  unfold fPn
  rw [e1, e2]
  simp

theorem pd0_0 : parseMethodDescriptor "(I)V" = some ⟨[.int], none⟩ := by decide +kernel
theorem pd0_1 : parseMethodDescriptor "(III)V" = some ⟨[.int, .int, .int], none⟩ := by decide +kernel
theorem pd0_2 : parseMethodDescriptor "(I)Lcom/example/quorumsmith/quorumsmith/engine/CountSummary;" = some ⟨[.int], some (.object "com/example/quorumsmith/quorumsmith/engine/CountSummary")⟩ := by decide +kernel
theorem pd0_3 : parseMethodDescriptor "(Lcom/example/quorumsmith/quorumsmith/engine/CountSummary;Lcom/example/quorumsmith/quorumsmith/engine/CountSummary;JJ)Z" = some ⟨[(.object "com/example/quorumsmith/quorumsmith/engine/CountSummary"), (.object "com/example/quorumsmith/quorumsmith/engine/CountSummary"), .long, .long], some .boolean⟩ := by decide +kernel
theorem pn0 : plainName "com/example/quorumsmith/quorumsmith/engine/NetworkSendPinLaw" = true := by first | (simp [plainName, overriddenIn]; done) | decide +kernel
theorem ef0 (m : MethodId) (ids : Int32) (q1 : Int32) (q2 : Int32) : entryFrame m #[(.int ids), (.int q1), (.int q2)] maxLocals = mkF m 0 #[.val (.int ids), .val (.int q1), .val (.int q2), .unset, .unset, .unset, .unset, .unset, .unset, .unset, .unset, .unset, .unset, .unset, .unset, .unset, .unset, .unset, .unset, .unset, .unset, .unset, .unset, .unset, .unset] [] := by first | (simp [entryFrame, mkF, argsToLocals, Value.category, maxLocals]; done) | rfl
def Q0 (Z : State) (h0 : Heap) (n0 : Nat) (v : Option Value) (h : Heap) (L : List Loc) : Prop := v = some (.int 1) ∧ Fr n0 L
set_option maxRecDepth 65536 in
set_option maxHeartbeats 40000000 in
theorem rm0 (l : Launch) (Z : State) (a0 : Array Value) (hw : ∀ d ∈ tables_1, d.before a0 Z = true) (ws : List Jvm.Cond) (ids : Int32) (q1 : Int32) (q2 : Int32) (z0 : Addr) (pa : Addr) (h0 : Heap) (n0 : Nat) (Z0 : n0 ≤ h0.size) (O0 : Old Z n0 h0) (SZ : Sta Z Z.heap "java/math/BigInteger" "ZERO" "Ljava/math/BigInteger;" (.ref z0)) (EZ : Exa Z Z.heap z0 "java/math/BigInteger") (FZ : Fld Z Z.heap z0 "java/math/BigInteger" "signum" "I" (.int (0 : Int32))) (SP : Sta Z Z.heap "java/math/BigInteger" "posConst" "[Ljava/math/BigInteger;" (.ref pa)) (HP : PC Z pa) :
    MetFree l x (head1 (Jvm.Cond.code x code maxLocals ret :: ws) room_1) (fun aa_ U_ => aa_ = #[(.int ids), (.int q1), (.int q2)] ∧ Z.Warmed39 U_.vm ∧ U_.heap = h0) (fun _ _ _ _ _ => True) (fun _ U_ o_ V_ => ∃ v_ L_, o_ = .returned v_ ∧ Q0 Z h0 n0 v_ V_.heap L_ ∧ FrameEnd U_ o_ V_ L_ 40 192) := by
  refine MetFree.of_bodySF (plainFor_of_name pn0) hisR ?_
  intro p e s m args below meth c s₁ Bd hml0 hP hK
  obtain ⟨rfl, hZ, hh⟩ := hP
  have hx := Bd.exec
  have hby := Bd.bytes
  have hml : c.maxLocals = 25 := hml0
  have hown : s.vm.findClass "com/example/quorumsmith/quorumsmith/engine/NetworkSendPinLaw" = some m.cls := findClass_of_methodNamed Bd.named
  have hnm := (name_of_methodNamed Bd.named Bd.method).1
  have hlk : meth.locks = false := BodyLoose.notSynchronized Bd
  have hret : meth.sig.returnType = (some .boolean) := Bd.returns
  have X0 : Stand p l e room_1 s m #[(.int ids), (.int q1), (.int q2)] below meth c s₁ [] 0 0 := Stand.of_body Bd
  have e0 : s₁.heap = h0 := by rw [← hh, Bd.state]; rfl
  have N0 := Fr.nil n0
  show Go p e below s 40 192 (Q0 Z h0 n0) (s₁.setTop (entryFrame m #[(.int ids), (.int q1), (.int q2)] maxLocals))
  rw [ef0]
  have SZ0 := SZ.ext O0.2
  have EZ0 := EZ.ext O0.2
  have FZ0 := FZ.ext O0.2
  have SP0 := SP.ext O0.2
  refine Go.by (fun _ kont => XS.iloadN X0.here hx rfl (hb hby at_0) rfl (XS.iconst X0.here hx rfl (hb hby at_1) (XS.iand X0.here hx rfl (hb hby at_2) rfl (XS.istoreN X0.here hx rfl (hb hby at_3) rfl (l' := #[.val (.int ids), .val (.int q1), .val (.int q2), .val (.int (ids &&& (1 : Int32))), .unset, .unset, .unset, .unset, .unset, .unset, .unset, .unset, .unset, .unset, .unset, .unset, .unset, .unset, .unset, .unset, .unset, .unset, .unset, .unset, .unset]) rfl (XS.iloadN X0.here hx rfl (hb hby at_4) rfl (XS.iconst X0.here hx rfl (hb hby at_5) kont)))))) ?_
  show Go _ _ _ _ _ _ _ (s₁.setTop (mkF m 6 #[.val (.int ids), .val (.int q1), .val (.int q2), .val (.int (ids &&& (1 : Int32))), .unset, .unset, .unset, .unset, .unset, .unset, .unset, .unset, .unset, .unset, .unset, .unset, .unset, .unset, .unset, .unset, .unset, .unset, .unset, .unset, .unset] [(.int (1 : Int32)), (.int ids)]))
  refine Go.by (fun _ kont => XS.ishr X0.here hx rfl (hb hby at_6) rfl (XS.iconst X0.here hx rfl (hb hby at_7) (XS.iand X0.here hx rfl (hb hby at_8) rfl (XS.istore X0.here hx rfl (hb hby at_9) rfl (l' := #[.val (.int ids), .val (.int q1), .val (.int q2), .val (.int (ids &&& (1 : Int32))), .val (.int ((ids >>> ((1 : Int32) &&& 31)) &&& (1 : Int32))), .unset, .unset, .unset, .unset, .unset, .unset, .unset, .unset, .unset, .unset, .unset, .unset, .unset, .unset, .unset, .unset, .unset, .unset, .unset, .unset]) rfl (XS.iloadN X0.here hx rfl (hb hby at_11) rfl (XS.iconst X0.here hx rfl (hb hby at_12) kont)))))) ?_
  show Go _ _ _ _ _ _ _ (s₁.setTop (mkF m 13 #[.val (.int ids), .val (.int q1), .val (.int q2), .val (.int (ids &&& (1 : Int32))), .val (.int ((ids >>> ((1 : Int32) &&& 31)) &&& (1 : Int32))), .unset, .unset, .unset, .unset, .unset, .unset, .unset, .unset, .unset, .unset, .unset, .unset, .unset, .unset, .unset, .unset, .unset, .unset, .unset, .unset] [(.int (2 : Int32)), (.int ids)]))
  refine Go.by (fun _ kont => XS.ishr X0.here hx rfl (hb hby at_13) rfl (XS.iconst X0.here hx rfl (hb hby at_14) (XS.iand X0.here hx rfl (hb hby at_15) rfl (XS.istore X0.here hx rfl (hb hby at_16) rfl (l' := #[.val (.int ids), .val (.int q1), .val (.int q2), .val (.int (ids &&& (1 : Int32))), .val (.int ((ids >>> ((1 : Int32) &&& 31)) &&& (1 : Int32))), .val (.int ((ids >>> ((2 : Int32) &&& 31)) &&& (1 : Int32))), .unset, .unset, .unset, .unset, .unset, .unset, .unset, .unset, .unset, .unset, .unset, .unset, .unset, .unset, .unset, .unset, .unset, .unset, .unset]) rfl (XS.iloadN X0.here hx rfl (hb hby at_18) rfl (XS.iconst X0.here hx rfl (hb hby at_19) kont)))))) ?_
  show Go _ _ _ _ _ _ _ (s₁.setTop (mkF m 20 #[.val (.int ids), .val (.int q1), .val (.int q2), .val (.int (ids &&& (1 : Int32))), .val (.int ((ids >>> ((1 : Int32) &&& 31)) &&& (1 : Int32))), .val (.int ((ids >>> ((2 : Int32) &&& 31)) &&& (1 : Int32))), .unset, .unset, .unset, .unset, .unset, .unset, .unset, .unset, .unset, .unset, .unset, .unset, .unset, .unset, .unset, .unset, .unset, .unset, .unset] [(.int (3 : Int32)), (.int ids)]))
  refine Go.by (fun _ kont => XS.ishr X0.here hx rfl (hb hby at_20) rfl (XS.iconst X0.here hx rfl (hb hby at_21) (XS.iand X0.here hx rfl (hb hby at_22) rfl (XS.istore X0.here hx rfl (hb hby at_23) rfl (l' := #[.val (.int ids), .val (.int q1), .val (.int q2), .val (.int (ids &&& (1 : Int32))), .val (.int ((ids >>> ((1 : Int32) &&& 31)) &&& (1 : Int32))), .val (.int ((ids >>> ((2 : Int32) &&& 31)) &&& (1 : Int32))), .val (.int ((ids >>> ((3 : Int32) &&& 31)) &&& (1 : Int32))), .unset, .unset, .unset, .unset, .unset, .unset, .unset, .unset, .unset, .unset, .unset, .unset, .unset, .unset, .unset, .unset, .unset, .unset]) rfl (XS.iloadN X0.here hx rfl (hb hby at_25) rfl (X0.ldcInt hx hown (mvT hZ (hw _ (List.mem_of_getElem? (i := 0) rfl))) (g := (mkF m 26 #[.val (.int ids), .val (.int q1), .val (.int q2), .val (.int (ids &&& (1 : Int32))), .val (.int ((ids >>> ((1 : Int32) &&& 31)) &&& (1 : Int32))), .val (.int ((ids >>> ((2 : Int32) &&& 31)) &&& (1 : Int32))), .val (.int ((ids >>> ((3 : Int32) &&& 31)) &&& (1 : Int32))), .unset, .unset, .unset, .unset, .unset, .unset, .unset, .unset, .unset, .unset, .unset, .unset, .unset, .unset, .unset, .unset, .unset, .unset] [(.int q1)])) rfl (hb hby at_26) _ kont)))))) ?_
  show Go _ _ _ _ _ _ _ (s₁.setTop (mkF m 28 #[.val (.int ids), .val (.int q1), .val (.int q2), .val (.int (ids &&& (1 : Int32))), .val (.int ((ids >>> ((1 : Int32) &&& 31)) &&& (1 : Int32))), .val (.int ((ids >>> ((2 : Int32) &&& 31)) &&& (1 : Int32))), .val (.int ((ids >>> ((3 : Int32) &&& 31)) &&& (1 : Int32))), .unset, .unset, .unset, .unset, .unset, .unset, .unset, .unset, .unset, .unset, .unset, .unset, .unset, .unset, .unset, .unset, .unset, .unset] [(.int (2147483647 : Int32)), (.int q1)]))
  refine Go.by (fun _ kont => XS.iand X0.here hx rfl (hb hby at_28) rfl (XS.istore X0.here hx rfl (hb hby at_29) rfl (l' := #[.val (.int ids), .val (.int q1), .val (.int q2), .val (.int (ids &&& (1 : Int32))), .val (.int ((ids >>> ((1 : Int32) &&& 31)) &&& (1 : Int32))), .val (.int ((ids >>> ((2 : Int32) &&& 31)) &&& (1 : Int32))), .val (.int ((ids >>> ((3 : Int32) &&& 31)) &&& (1 : Int32))), .val (.int (q1 &&& (2147483647 : Int32))), .unset, .unset, .unset, .unset, .unset, .unset, .unset, .unset, .unset, .unset, .unset, .unset, .unset, .unset, .unset, .unset, .unset]) rfl (XS.iloadN X0.here hx rfl (hb hby at_31) rfl (X0.ldcInt hx hown (mvT hZ (hw _ (List.mem_of_getElem? (i := 0) rfl))) (g := (mkF m 32 #[.val (.int ids), .val (.int q1), .val (.int q2), .val (.int (ids &&& (1 : Int32))), .val (.int ((ids >>> ((1 : Int32) &&& 31)) &&& (1 : Int32))), .val (.int ((ids >>> ((2 : Int32) &&& 31)) &&& (1 : Int32))), .val (.int ((ids >>> ((3 : Int32) &&& 31)) &&& (1 : Int32))), .val (.int (q1 &&& (2147483647 : Int32))), .unset, .unset, .unset, .unset, .unset, .unset, .unset, .unset, .unset, .unset, .unset, .unset, .unset, .unset, .unset, .unset, .unset] [(.int q2)])) rfl (hb hby at_32) _ (XS.iand X0.here hx rfl (hb hby at_34) rfl (XS.istore X0.here hx rfl (hb hby at_35) rfl (l' := #[.val (.int ids), .val (.int q1), .val (.int q2), .val (.int (ids &&& (1 : Int32))), .val (.int ((ids >>> ((1 : Int32) &&& 31)) &&& (1 : Int32))), .val (.int ((ids >>> ((2 : Int32) &&& 31)) &&& (1 : Int32))), .val (.int ((ids >>> ((3 : Int32) &&& 31)) &&& (1 : Int32))), .val (.int (q1 &&& (2147483647 : Int32))), .val (.int (q2 &&& (2147483647 : Int32))), .unset, .unset, .unset, .unset, .unset, .unset, .unset, .unset, .unset, .unset, .unset, .unset, .unset, .unset, .unset, .unset]) rfl kont)))))) ?_
  show Go _ _ _ _ _ _ _ (s₁.setTop (mkF m 37 #[.val (.int ids), .val (.int q1), .val (.int q2), .val (.int (ids &&& (1 : Int32))), .val (.int ((ids >>> ((1 : Int32) &&& 31)) &&& (1 : Int32))), .val (.int ((ids >>> ((2 : Int32) &&& 31)) &&& (1 : Int32))), .val (.int ((ids >>> ((3 : Int32) &&& 31)) &&& (1 : Int32))), .val (.int (q1 &&& (2147483647 : Int32))), .val (.int (q2 &&& (2147483647 : Int32))), .unset, .unset, .unset, .unset, .unset, .unset, .unset, .unset, .unset, .unset, .unset, .unset, .unset, .unset, .unset, .unset] []))
  have Hf1 := own_b1 ids
  generalize (ids &&& (1 : Int32)) = f1 at Hf1 ⊢
  have Ht1 := own_b1 (ids >>> ((1 : Int32) &&& 31))
  generalize ((ids >>> ((1 : Int32) &&& 31)) &&& (1 : Int32)) = t1 at Ht1 ⊢
  have Hf2 := own_b1 (ids >>> ((2 : Int32) &&& 31))
  generalize ((ids >>> ((2 : Int32) &&& 31)) &&& (1 : Int32)) = f2 at Hf2 ⊢
  have Ht2 := own_b1 (ids >>> ((3 : Int32) &&& 31))
  generalize ((ids >>> ((3 : Int32) &&& 31)) &&& (1 : Int32)) = t2 at Ht2 ⊢
  have Bbt1 := own_bt q1
  generalize (q1 &&& (2147483647 : Int32)) = bt1 at Bbt1 ⊢
  have Bbt2 := own_bt q2
  generalize (q2 &&& (2147483647 : Int32)) = bt2 at Bbt2 ⊢
  show Go _ _ _ _ _ _ _ (s₁.setTop (mkF m 37 #[.val (.int ids), .val (.int q1), .val (.int q2), .val (.int f1), .val (.int t1), .val (.int f2), .val (.int t2), .val (.int bt1), .val (.int bt2), .unset, .unset, .unset, .unset, .unset, .unset, .unset, .unset, .unset, .unset, .unset, .unset, .unset, .unset, .unset, .unset] []))
  obtain ⟨T101, h101, X101, e101, X_101, A101, D101, -, st101⟩ := newO X0 hx hZ hown (hw _ (List.mem_of_getElem? (i := 1) rfl)) (hw _ (List.mem_of_getElem? (i := 2) rfl)) (hw _ (List.mem_of_getElem? (i := 3) rfl)) e0 (g := (mkF m 37 #[.val (.int ids), .val (.int q1), .val (.int q2), .val (.int f1), .val (.int t1), .val (.int f2), .val (.int t2), .val (.int bt1), .val (.int bt2), .unset, .unset, .unset, .unset, .unset, .unset, .unset, .unset, .unset, .unset, .unset, .unset, .unset, .unset, .unset, .unset] [])) rfl (hb hby at_37) (by decide) (by decide)
  obtain ⟨b101, g101⟩ : ∃ z, z = h0.size := ⟨_, rfl⟩
  rw [← g101] at A101 D101 st101
  have ne_z0_b101 : z0 ≠ b101 := Nat.ne_of_lt (Nat.lt_of_lt_of_le FZ0.lt (Nat.le_of_eq g101.symm))
  have ge_b101 : n0 ≤ b101 := Nat.le_trans Z0 (Nat.le_of_eq g101.symm)
  have sz_b101 : h0.size ≤ b101 := Nat.le_trans (Keep.refl h0 []).1 (Nat.le_of_eq g101.symm)
  have F102_signum_z0 := FZ0.ext X_101
  have E102_z0 := EZ0.ext X_101
  have S102_ZERO := SZ0.ext X_101
  have S102_posConst := SP0.ext X_101
  have P102_old := O0.ext X_101
  have Z102 := Nat.le_trans Z0 X_101.1
  have K102 : Keep h0 h101 [] := (Keep.refl h0 []).ext X_101
  have F101_sent : Fld Z h101 b101 "com/example/quorumsmith/quorumsmith/engine/Network" "sent" "[J" .null := D101 (Or.inr (hw _ (List.mem_of_getElem? (i := 12) rfl))) (ty := (.array .long)) (by decide)
  have F101_received : Fld Z h101 b101 "com/example/quorumsmith/quorumsmith/engine/Network" "received" "[J" .null := D101 (Or.inr (hw _ (List.mem_of_getElem? (i := 14) rfl))) (ty := (.array .long)) (by decide)
  have F101_bitsSent : Fld Z h101 b101 "com/example/quorumsmith/quorumsmith/engine/Network" "bitsSent" "[J" .null := D101 (Or.inr (hw _ (List.mem_of_getElem? (i := 16) rfl))) (ty := (.array .long)) (by decide)
  refine Go.by st101 ?_
  show Go _ _ _ _ _ _ _ (T101.setTop (mkF m 40 #[.val (.int ids), .val (.int q1), .val (.int q2), .val (.int f1), .val (.int t1), .val (.int f2), .val (.int t2), .val (.int bt1), .val (.int bt2), .unset, .unset, .unset, .unset, .unset, .unset, .unset, .unset, .unset, .unset, .unset, .unset, .unset, .unset, .unset, .unset] [(.ref b101)]))
  refine Go.by (fun _ kont => XS.dup X101.here hx rfl (hb hby at_40) rfl rfl (XS.iconst X101.here hx rfl (hb hby at_41) kont)) ?_
  show Go _ _ _ _ _ _ _ (T101.setTop (mkF m 42 #[.val (.int ids), .val (.int q1), .val (.int q2), .val (.int f1), .val (.int t1), .val (.int f2), .val (.int t2), .val (.int bt1), .val (.int bt2), .unset, .unset, .unset, .unset, .unset, .unset, .unset, .unset, .unset, .unset, .unset, .unset, .unset, .unset, .unset, .unset] [(.int (2 : Int32)), (.ref b101), (.ref b101)]))
  obtain ⟨_, _, ⟨T103, L103, k103, n103⟩, -, X103, ⟨Lc103, hQ103, l103, y103, z103⟩, st103⟩ := X101.specialBack hx (y := (⟨"com/example/quorumsmith/quorumsmith/engine/Network", "<init>", "(I)V"⟩ : MethodName)) rfl hown (mvT hZ (hw _ (List.mem_of_getElem? (i := 4) rfl))) (mvT hZ (hw _ (List.mem_of_getElem? (i := 5) rfl))) (mvT hZ (hw _ (List.mem_of_getElem? (i := 6) rfl))) (by decide) (backOf (W := 1) (rmNi l Z a0 hw [] b101 h101 n0 Z102 A101 F101_sent F101_received F101_bitsSent ge_b101) hZ (hw _ (List.mem_of_getElem? (i := 6) rfl)) (hw _ (List.mem_of_getElem? (i := 3) rfl)) (by decide) (by decide)) (g := (mkF m 42 #[.val (.int ids), .val (.int q1), .val (.int q2), .val (.int f1), .val (.int t1), .val (.int f2), .val (.int t2), .val (.int bt1), .val (.int bt2), .unset, .unset, .unset, .unset, .unset, .unset, .unset, .unset, .unset, .unset, .unset, .unset, .unset, .unset, .unset, .unset] [(.int (2 : Int32)), (.ref b101), (.ref b101)])) rfl (by rw [hml]; rfl) (Steps.refl _) (a := b101) (argsL := [(.int (2 : Int32))]) (rest := [(.ref b101)]) (lenOf pd0_0 rfl) rfl (by show 2 * 0 + _ ≤ _; exact Nat.le_of_eq rfl) (hb hby at_42) (fun _ _ => ⟨rfl, e101, (by decide : 1 + 3 ≤ _), (by decide : 3 + 6 ≤ _)⟩)
  dsimp only [Pt.U, Pt.locs, Pt.cells, Pt.slots] at X103 l103 y103 z103 st103 hQ103
  subst l103 y103 z103
  obtain ⟨b102_103, b106_103, b110_103, k102_103, k106_103, k110_103, rfl, N103q, K103, g103_0, g103_1, g103_2, g103_3, ge_b102_103, szc_b102_103, g103_4, ge_b106_103, szc_b106_103, g103_5, ge_b110_103, szc_b110_103, g103_6, ne_b102_103_b106_103, ne_b102_103_b110_103, ne_b106_103_b110_103⟩ := hQ103
  have ne_z0_b102_103 : z0 ≠ b102_103 := Nat.ne_of_lt (Nat.lt_of_lt_of_le F102_signum_z0.lt szc_b102_103)
  have ne_b101_b102_103 : b101 ≠ b102_103 := Nat.ne_of_lt (Nat.lt_of_lt_of_le F101_sent.lt szc_b102_103)
  have sz_b102_103 : h0.size ≤ b102_103 := Nat.le_trans K102.1 szc_b102_103
  have ne_z0_b106_103 : z0 ≠ b106_103 := Nat.ne_of_lt (Nat.lt_of_lt_of_le F102_signum_z0.lt szc_b106_103)
  have ne_b101_b106_103 : b101 ≠ b106_103 := Nat.ne_of_lt (Nat.lt_of_lt_of_le F101_sent.lt szc_b106_103)
  have sz_b106_103 : h0.size ≤ b106_103 := Nat.le_trans K102.1 szc_b106_103
  have ne_z0_b110_103 : z0 ≠ b110_103 := Nat.ne_of_lt (Nat.lt_of_lt_of_le F102_signum_z0.lt szc_b110_103)
  have ne_b101_b110_103 : b101 ≠ b110_103 := Nat.ne_of_lt (Nat.lt_of_lt_of_le F101_sent.lt szc_b110_103)
  have sz_b110_103 : h0.size ≤ b110_103 := Nat.le_trans K102.1 szc_b110_103
  have S104_ZERO := own_stakeep S102_ZERO K103 (allS (own_ns A101) all0)
  have S104_posConst := own_stakeep S102_posConst K103 (allS (own_ns A101) all0)
  have F104_signum_z0 := F102_signum_z0.keep K103 (ninS ne_z0_b101 nin0)
  have E104_z0 := E102_z0.keep K103
  have E104_b101 := A101.keep K103
  have P104_old := P102_old.keep K103 (allS ge_b101 all0)
  have Z104 := Nat.le_trans Z102 K103.1
  have K104 : Keep h0 T103.heap [] := Keep.trans K102 K103 (allS (Or.inr sz_b101) all0)
  have N103 := Fr.app N0 N103q
  refine Go.tr st103 ?_
  show Go _ _ _ _ _ _ _ (T103.setTop (mkF m 45 #[.val (.int ids), .val (.int q1), .val (.int q2), .val (.int f1), .val (.int t1), .val (.int f2), .val (.int t2), .val (.int bt1), .val (.int bt2), .unset, .unset, .unset, .unset, .unset, .unset, .unset, .unset, .unset, .unset, .unset, .unset, .unset, .unset, .unset, .unset] [(.ref b101)]))
  refine Go.by (fun _ kont => XS.astore X103.here hx rfl (hb hby at_45) rfl rfl (l' := #[.val (.int ids), .val (.int q1), .val (.int q2), .val (.int f1), .val (.int t1), .val (.int f2), .val (.int t2), .val (.int bt1), .val (.int bt2), .val (.ref b101), .unset, .unset, .unset, .unset, .unset, .unset, .unset, .unset, .unset, .unset, .unset, .unset, .unset, .unset, .unset]) rfl (XS.aload X103.here hx rfl (hb hby at_47) rfl rfl (XS.iloadN X103.here hx rfl (hb hby at_49) rfl (XS.iload X103.here hx rfl (hb hby at_50) rfl (XS.iload X103.here hx rfl (hb hby at_52) rfl kont))))) ?_
  show Go _ _ _ _ _ _ _ (T103.setTop (mkF m 54 #[.val (.int ids), .val (.int q1), .val (.int q2), .val (.int f1), .val (.int t1), .val (.int f2), .val (.int t2), .val (.int bt1), .val (.int bt2), .val (.ref b101), .unset, .unset, .unset, .unset, .unset, .unset, .unset, .unset, .unset, .unset, .unset, .unset, .unset, .unset, .unset] [(.int bt1), (.int t1), (.int f1), (.ref b101)]))
  obtain ⟨cq105, kq105, q105a, q105b, q105c⟩ := isOf hZ rfl g103_0
  obtain ⟨_, _, ⟨T105, L105, k105, n105⟩, -, X105, ⟨Lc105, hQ105, l105, y105, z105⟩, st105⟩ := X103.virtualBack hx (y := (⟨"com/example/quorumsmith/quorumsmith/engine/Network", "send", "(III)V"⟩ : MethodName)) (z := (⟨"com/example/quorumsmith/quorumsmith/engine/Network", "send", "(III)V"⟩ : MethodName)) hown (mvT hZ (hw _ (List.mem_of_getElem? (i := 17) rfl))) (mvT hZ (hw _ (List.mem_of_getElem? (i := 18) rfl))) (notFace_of_selects (args := #[]) (mvT hZ (hw _ (List.mem_of_getElem? (i := 20) rfl)))) (mvT hZ (hw _ (List.mem_of_getElem? (i := 20) rfl))) (mvT hZ (hw _ (List.mem_of_getElem? (i := 19) rfl))) (by decide) (backOf (W := 0) (rmSn l Z a0 hw [] b101 f1 t1 bt1 b102_103 b106_103 b110_103 k102_103 k106_103 k110_103 (0 : Int64) (0 : Int64) (0 : Int64) (0 : Int64) (0 : Int64) (0 : Int64) T103.heap n0 Z104 g103_0 g103_1 g103_2 g103_3 g103_4 g103_5 g103_6 ne_b101_b102_103 ne_b101_b106_103 ne_b101_b110_103 ne_b102_103_b106_103 ne_b102_103_b110_103 ne_b106_103_b110_103 ge_b102_103 ge_b106_103 ge_b110_103 Hf1 Ht1) hZ (hw _ (List.mem_of_getElem? (i := 21) rfl)) (hw _ (List.mem_of_getElem? (i := 3) rfl)) (by decide) (by decide)) q105a q105c (g := (mkF m 54 #[.val (.int ids), .val (.int q1), .val (.int q2), .val (.int f1), .val (.int t1), .val (.int f2), .val (.int t2), .val (.int bt1), .val (.int bt2), .val (.ref b101), .unset, .unset, .unset, .unset, .unset, .unset, .unset, .unset, .unset, .unset, .unset, .unset, .unset, .unset, .unset] [(.int bt1), (.int t1), (.int f1), (.ref b101)])) rfl (by rw [hml]; rfl) (Steps.refl _) (argsL := [(.int f1), (.int t1), (.int bt1)]) (rest := []) (lenOf pd0_1 rfl) rfl (by show 2 * 0 + _ ≤ _; exact Nat.le_of_eq rfl) (hb hby at_54) (fun _ _ => ⟨rfl, rfl, (by decide : 4 + 0 ≤ _), (by decide : 9 + 0 ≤ _)⟩)
  dsimp only [Pt.U, Pt.locs, Pt.cells, Pt.slots] at X105 l105 y105 z105 st105 hQ105
  subst l105 y105 z105
  obtain ⟨rfl, N105q, K105, V105s, V105r, V105b⟩ := hQ105
  have F106_signum_z0 := F104_signum_z0.keep K105 (ninS ne_z0_b102_103 (ninS ne_z0_b106_103 (ninS ne_z0_b110_103 nin0)))
  have F106_sent_b101 := g103_1.keep K105 (ninS ne_b101_b102_103 (ninS ne_b101_b106_103 (ninS ne_b101_b110_103 nin0)))
  have F106_received_b101 := g103_2.keep K105 (ninS ne_b101_b102_103 (ninS ne_b101_b106_103 (ninS ne_b101_b110_103 nin0)))
  have F106_bitsSent_b101 := g103_3.keep K105 (ninS ne_b101_b102_103 (ninS ne_b101_b106_103 (ninS ne_b101_b110_103 nin0)))
  have E106_z0 := E104_z0.keep K105
  have E106_b101 := g103_0.keep K105
  have P106_old := P104_old.keep K105 (allS ge_b102_103 (allS ge_b106_103 (allS ge_b110_103 all0)))
  have Z106 := Nat.le_trans Z104 K105.1
  have K106 : Keep h0 T105.heap [] := Keep.trans K104 K105 (allS (Or.inr sz_b102_103) (allS (Or.inr sz_b106_103) (allS (Or.inr sz_b110_103) all0)))
  have N105 := Fr.app N103 N105q
  refine Go.tr st105 ?_
  show Go _ _ _ _ _ _ _ (T105.setTop (mkF m 57 #[.val (.int ids), .val (.int q1), .val (.int q2), .val (.int f1), .val (.int t1), .val (.int f2), .val (.int t2), .val (.int bt1), .val (.int bt2), .val (.ref b101), .unset, .unset, .unset, .unset, .unset, .unset, .unset, .unset, .unset, .unset, .unset, .unset, .unset, .unset, .unset] []))
  refine Go.by (fun _ kont => XS.aload X105.here hx rfl (hb hby at_57) rfl rfl (XS.iload X105.here hx rfl (hb hby at_59) rfl (XS.iload X105.here hx rfl (hb hby at_61) rfl (XS.iload X105.here hx rfl (hb hby at_63) rfl kont)))) ?_
  show Go _ _ _ _ _ _ _ (T105.setTop (mkF m 65 #[.val (.int ids), .val (.int q1), .val (.int q2), .val (.int f1), .val (.int t1), .val (.int f2), .val (.int t2), .val (.int bt1), .val (.int bt2), .val (.ref b101), .unset, .unset, .unset, .unset, .unset, .unset, .unset, .unset, .unset, .unset, .unset, .unset, .unset, .unset, .unset] [(.int bt2), (.int t2), (.int f2), (.ref b101)]))
  obtain ⟨cq107, kq107, q107a, q107b, q107c⟩ := isOf hZ rfl E106_b101
  obtain ⟨_, _, ⟨T107, L107, k107, n107⟩, -, X107, ⟨Lc107, hQ107, l107, y107, z107⟩, st107⟩ := X105.virtualBack hx (y := (⟨"com/example/quorumsmith/quorumsmith/engine/Network", "send", "(III)V"⟩ : MethodName)) (z := (⟨"com/example/quorumsmith/quorumsmith/engine/Network", "send", "(III)V"⟩ : MethodName)) hown (mvT hZ (hw _ (List.mem_of_getElem? (i := 17) rfl))) (mvT hZ (hw _ (List.mem_of_getElem? (i := 18) rfl))) (notFace_of_selects (args := #[]) (mvT hZ (hw _ (List.mem_of_getElem? (i := 20) rfl)))) (mvT hZ (hw _ (List.mem_of_getElem? (i := 20) rfl))) (mvT hZ (hw _ (List.mem_of_getElem? (i := 19) rfl))) (by decide) (backOf (W := 0) (rmSn l Z a0 hw [] b101 f2 t2 bt2 b102_103 b106_103 b110_103 k102_103 k106_103 k110_103 (gF f1 0 (0 : Int64) 1) (gF f1 1 (0 : Int64) 1) (gF t1 0 (0 : Int64) 1) (gF t1 1 (0 : Int64) 1) (gF f1 0 (0 : Int64) bt1.toInt64) (gF f1 1 (0 : Int64) bt1.toInt64) T105.heap n0 Z106 E106_b101 F106_sent_b101 F106_received_b101 F106_bitsSent_b101 V105s V105r V105b ne_b101_b102_103 ne_b101_b106_103 ne_b101_b110_103 ne_b102_103_b106_103 ne_b102_103_b110_103 ne_b106_103_b110_103 ge_b102_103 ge_b106_103 ge_b110_103 Hf2 Ht2) hZ (hw _ (List.mem_of_getElem? (i := 21) rfl)) (hw _ (List.mem_of_getElem? (i := 3) rfl)) (by decide) (by decide)) q107a q107c (g := (mkF m 65 #[.val (.int ids), .val (.int q1), .val (.int q2), .val (.int f1), .val (.int t1), .val (.int f2), .val (.int t2), .val (.int bt1), .val (.int bt2), .val (.ref b101), .unset, .unset, .unset, .unset, .unset, .unset, .unset, .unset, .unset, .unset, .unset, .unset, .unset, .unset, .unset] [(.int bt2), (.int t2), (.int f2), (.ref b101)])) rfl (by rw [hml]; rfl) (Steps.refl _) (argsL := [(.int f2), (.int t2), (.int bt2)]) (rest := []) (lenOf pd0_1 rfl) rfl (by show 2 * 0 + _ ≤ _; exact Nat.le_of_eq rfl) (hb hby at_65) (fun _ _ => ⟨rfl, rfl, (by decide : 4 + 0 ≤ _), (by decide : 9 + 0 ≤ _)⟩)
  dsimp only [Pt.U, Pt.locs, Pt.cells, Pt.slots] at X107 l107 y107 z107 st107 hQ107
  subst l107 y107 z107
  obtain ⟨rfl, N107q, K107, V107s, V107r, V107b⟩ := hQ107
  have F108_signum_z0 := F106_signum_z0.keep K107 (ninS ne_z0_b102_103 (ninS ne_z0_b106_103 (ninS ne_z0_b110_103 nin0)))
  have F108_sent_b101 := F106_sent_b101.keep K107 (ninS ne_b101_b102_103 (ninS ne_b101_b106_103 (ninS ne_b101_b110_103 nin0)))
  have F108_received_b101 := F106_received_b101.keep K107 (ninS ne_b101_b102_103 (ninS ne_b101_b106_103 (ninS ne_b101_b110_103 nin0)))
  have F108_bitsSent_b101 := F106_bitsSent_b101.keep K107 (ninS ne_b101_b102_103 (ninS ne_b101_b106_103 (ninS ne_b101_b110_103 nin0)))
  have E108_z0 := E106_z0.keep K107
  have E108_b101 := E106_b101.keep K107
  have P108_old := P106_old.keep K107 (allS ge_b102_103 (allS ge_b106_103 (allS ge_b110_103 all0)))
  have Z108 := Nat.le_trans Z106 K107.1
  have K108 : Keep h0 T107.heap [] := Keep.trans K106 K107 (allS (Or.inr sz_b102_103) (allS (Or.inr sz_b106_103) (allS (Or.inr sz_b110_103) all0)))
  have N107 := Fr.app N105 N107q
  refine Go.tr st107 ?_
  show Go _ _ _ _ _ _ _ (T107.setTop (mkF m 68 #[.val (.int ids), .val (.int q1), .val (.int q2), .val (.int f1), .val (.int t1), .val (.int f2), .val (.int t2), .val (.int bt1), .val (.int bt2), .val (.ref b101), .unset, .unset, .unset, .unset, .unset, .unset, .unset, .unset, .unset, .unset, .unset, .unset, .unset, .unset, .unset] []))
  have D1 : 0 ≤ (1 : Int64).toInt ∧ (1 : Int64).toInt ≤ 2147483647 := by decide
  have Db1 : 0 ≤ (bt1.toInt64).toInt ∧ (bt1.toInt64).toInt ≤ 2147483647 := by rw [c_i2l]; exact Bbt1
  have Db2 : 0 ≤ (bt2.toInt64).toInt ∧ (bt2.toInt64).toInt ≤ 2147483647 := by rw [c_i2l]; exact Bbt2
  have Bsent0 := own_gb f1 f2 0 _ _ D1 D1
  have Bsent1 := own_gb f1 f2 1 _ _ D1 D1
  have Breceived0 := own_gb t1 t2 0 _ _ D1 D1
  have Breceived1 := own_gb t1 t2 1 _ _ D1 D1
  have BbitsSent0 := own_gb f1 f2 0 _ _ Db1 Db2
  have BbitsSent1 := own_gb f1 f2 1 _ _ Db1 Db2
  have cut183 : ∀ (k0 : Int64) (k1 : Int64) (k2 : Int64) (k3 : Int64) (k4 : Int64) (k5 : Int64), (k0 = (gF f2 0 (gF f1 0 (0 : Int64) 1) 1)) → (k1 = (gF f2 1 (gF f1 1 (0 : Int64) 1) 1)) → (k2 = (gF t2 0 (gF t1 0 (0 : Int64) 1) 1)) → (k3 = (gF t2 1 (gF t1 1 (0 : Int64) 1) 1)) → (k4 = (gF f2 0 (gF f1 0 (0 : Int64) bt1.toInt64) bt2.toInt64)) → (k5 = (gF f2 1 (gF f1 1 (0 : Int64) bt1.toInt64) bt2.toInt64)) → Go p e below s 40 192 (Q0 Z h0 n0) (T107.setTop (mkF m 183 #[.val (.int ids), .val (.int q1), .val (.int q2), .val (.int f1), .val (.int t1), .val (.int f2), .val (.int t2), .val (.int bt1), .val (.int bt2), .val (.ref b101), .val (.long k0), .second, .val (.long k1), .second, .val (.long k2), .second, .val (.long k3), .second, .val (.long k4), .second, .val (.long k5), .second, .unset, .unset, .unset] [])) := by
    intro k0 k1 k2 k3 k4 k5 hk0 hk1 hk2 hk3 hk4 hk5
    show Go _ _ _ _ _ _ _ (T107.setTop (mkF m 183 #[.val (.int ids), .val (.int q1), .val (.int q2), .val (.int f1), .val (.int t1), .val (.int f2), .val (.int t2), .val (.int bt1), .val (.int bt2), .val (.ref b101), .val (.long k0), .second, .val (.long k1), .second, .val (.long k2), .second, .val (.long k3), .second, .val (.long k4), .second, .val (.long k5), .second, .unset, .unset, .unset] []))
    refine Go.by (fun _ kont => XS.aload X107.here hx rfl (hb hby at_183) rfl rfl (XS.iconst X107.here hx rfl (hb hby at_185) kont)) ?_
    show Go _ _ _ _ _ _ _ (T107.setTop (mkF m 186 #[.val (.int ids), .val (.int q1), .val (.int q2), .val (.int f1), .val (.int t1), .val (.int f2), .val (.int t2), .val (.int bt1), .val (.int bt2), .val (.ref b101), .val (.long k0), .second, .val (.long k1), .second, .val (.long k2), .second, .val (.long k3), .second, .val (.long k4), .second, .val (.long k5), .second, .unset, .unset, .unset] [(.int (1 : Int32)), (.ref b101)]))
    obtain ⟨cq109, kq109, q109a, q109b, q109c⟩ := isOf hZ rfl E108_b101
    obtain ⟨_, _, ⟨T109, L109, k109, n109⟩, -, X109, ⟨Lc109, hQ109, l109, y109, z109⟩, st109⟩ := X107.virtualBack hx (y := (⟨"com/example/quorumsmith/quorumsmith/engine/Network", "messagesSent", "(I)Lcom/example/quorumsmith/quorumsmith/engine/CountSummary;"⟩ : MethodName)) (z := (⟨"com/example/quorumsmith/quorumsmith/engine/Network", "messagesSent", "(I)Lcom/example/quorumsmith/quorumsmith/engine/CountSummary;"⟩ : MethodName)) hown (mvT hZ (hw _ (List.mem_of_getElem? (i := 23) rfl))) (mvT hZ (hw _ (List.mem_of_getElem? (i := 24) rfl))) (notFace_of_selects (args := #[]) (mvT hZ (hw _ (List.mem_of_getElem? (i := 26) rfl)))) (mvT hZ (hw _ (List.mem_of_getElem? (i := 26) rfl))) (mvT hZ (hw _ (List.mem_of_getElem? (i := 25) rfl))) (by decide) (backOf (W := 0) (rmMmS1 l Z a0 hw [] b101 b102_103 k102_103 (gF f2 0 (gF f1 0 (0 : Int64) 1) 1) (gF f2 1 (gF f1 1 (0 : Int64) 1) 1) z0 pa T107.heap n0 Z108 F108_sent_b101 V107s Bsent0 Bsent1 P108_old SZ EZ FZ SP HP) hZ (hw _ (List.mem_of_getElem? (i := 27) rfl)) (hw _ (List.mem_of_getElem? (i := 3) rfl)) (by decide) (by decide)) q109a q109c (g := (mkF m 186 #[.val (.int ids), .val (.int q1), .val (.int q2), .val (.int f1), .val (.int t1), .val (.int f2), .val (.int t2), .val (.int bt1), .val (.int bt2), .val (.ref b101), .val (.long k0), .second, .val (.long k1), .second, .val (.long k2), .second, .val (.long k3), .second, .val (.long k4), .second, .val (.long k5), .second, .unset, .unset, .unset] [(.int (1 : Int32)), (.ref b101)])) rfl (by rw [hml]; rfl) (Steps.refl _) (argsL := [(.int (1 : Int32))]) (rest := []) (lenOf pd0_2 rfl) rfl (by show 2 * 0 + _ ≤ _; exact Nat.le_of_eq rfl) (hb hby at_186) (fun _ _ => ⟨rfl, rfl, (by decide : 4 + 3 ≤ _), (by decide : 9 + 12 ≤ _)⟩)
    dsimp only [Pt.U, Pt.locs, Pt.cells, Pt.slots] at X109 l109 y109 z109 st109 hQ109
    subst l109 y109 z109
    obtain ⟨y109, rfl, N109q, K109, ge_y109, szc_y109, E109z, Fn109z, Fx109z⟩ := hQ109
    have ne_z0_y109 : z0 ≠ y109 := Nat.ne_of_lt (Nat.lt_of_lt_of_le F108_signum_z0.lt szc_y109)
    have ne_b101_y109 : b101 ≠ y109 := Nat.ne_of_lt (Nat.lt_of_lt_of_le F108_sent_b101.lt szc_y109)
    have ne_b102_103_y109 : b102_103 ≠ y109 := Nat.ne_of_lt (Nat.lt_of_lt_of_le V107s.lt szc_y109)
    have ne_b106_103_y109 : b106_103 ≠ y109 := Nat.ne_of_lt (Nat.lt_of_lt_of_le V107r.lt szc_y109)
    have ne_b110_103_y109 : b110_103 ≠ y109 := Nat.ne_of_lt (Nat.lt_of_lt_of_le V107b.lt szc_y109)
    have sz_y109 : h0.size ≤ y109 := Nat.le_trans K108.1 szc_y109
    have F110_signum_z0 := F108_signum_z0.keep K109 nin0
    have F110_sent_b101 := F108_sent_b101.keep K109 nin0
    have F110_received_b101 := F108_received_b101.keep K109 nin0
    have F110_bitsSent_b101 := F108_bitsSent_b101.keep K109 nin0
    have E110_z0 := E108_z0.keep K109
    have E110_b101 := E108_b101.keep K109
    have V110_b102_103 := V107s.keep K109 nin0
    have V110_b106_103 := V107r.keep K109 nin0
    have V110_b110_103 := V107b.keep K109 nin0
    have P110_old := P108_old.keep K109 all0
    have Z110 := Nat.le_trans Z108 K109.1
    have K110 : Keep h0 T109.heap [] := Keep.trans K108 K109 all0
    have N109 := Fr.app N107 N109q
    refine Go.tr st109 ?_
    show Go _ _ _ _ _ _ _ (T109.setTop (mkF m 189 #[.val (.int ids), .val (.int q1), .val (.int q2), .val (.int f1), .val (.int t1), .val (.int f2), .val (.int t2), .val (.int bt1), .val (.int bt2), .val (.ref b101), .val (.long k0), .second, .val (.long k1), .second, .val (.long k2), .second, .val (.long k3), .second, .val (.long k4), .second, .val (.long k5), .second, .unset, .unset, .unset] [(.ref y109)]))
    refine Go.by (fun _ kont => XS.aload X109.here hx rfl (hb hby at_189) rfl rfl (XS.iconst X109.here hx rfl (hb hby at_191) kont)) ?_
    show Go _ _ _ _ _ _ _ (T109.setTop (mkF m 192 #[.val (.int ids), .val (.int q1), .val (.int q2), .val (.int f1), .val (.int t1), .val (.int f2), .val (.int t2), .val (.int bt1), .val (.int bt2), .val (.ref b101), .val (.long k0), .second, .val (.long k1), .second, .val (.long k2), .second, .val (.long k3), .second, .val (.long k4), .second, .val (.long k5), .second, .unset, .unset, .unset] [(.int (2 : Int32)), (.ref b101), (.ref y109)]))
    obtain ⟨cq111, kq111, q111a, q111b, q111c⟩ := isOf hZ rfl E110_b101
    obtain ⟨_, _, ⟨T111, L111, k111, n111⟩, -, X111, ⟨Lc111, hQ111, l111, y111, z111⟩, st111⟩ := X109.virtualBack hx (y := (⟨"com/example/quorumsmith/quorumsmith/engine/Network", "messagesSent", "(I)Lcom/example/quorumsmith/quorumsmith/engine/CountSummary;"⟩ : MethodName)) (z := (⟨"com/example/quorumsmith/quorumsmith/engine/Network", "messagesSent", "(I)Lcom/example/quorumsmith/quorumsmith/engine/CountSummary;"⟩ : MethodName)) hown (mvT hZ (hw _ (List.mem_of_getElem? (i := 23) rfl))) (mvT hZ (hw _ (List.mem_of_getElem? (i := 24) rfl))) (notFace_of_selects (args := #[]) (mvT hZ (hw _ (List.mem_of_getElem? (i := 26) rfl)))) (mvT hZ (hw _ (List.mem_of_getElem? (i := 26) rfl))) (mvT hZ (hw _ (List.mem_of_getElem? (i := 25) rfl))) (by decide) (backOf (W := 1) (rmMmS2 l Z a0 hw [] b101 b102_103 k102_103 (gF f2 0 (gF f1 0 (0 : Int64) 1) 1) (gF f2 1 (gF f1 1 (0 : Int64) 1) 1) z0 pa T109.heap n0 Z110 F110_sent_b101 V110_b102_103 Bsent0 Bsent1 P110_old SZ EZ FZ SP HP) hZ (hw _ (List.mem_of_getElem? (i := 27) rfl)) (hw _ (List.mem_of_getElem? (i := 3) rfl)) (by decide) (by decide)) q111a q111c (g := (mkF m 192 #[.val (.int ids), .val (.int q1), .val (.int q2), .val (.int f1), .val (.int t1), .val (.int f2), .val (.int t2), .val (.int bt1), .val (.int bt2), .val (.ref b101), .val (.long k0), .second, .val (.long k1), .second, .val (.long k2), .second, .val (.long k3), .second, .val (.long k4), .second, .val (.long k5), .second, .unset, .unset, .unset] [(.int (2 : Int32)), (.ref b101), (.ref y109)])) rfl (by rw [hml]; rfl) (Steps.refl _) (argsL := [(.int (2 : Int32))]) (rest := [(.ref y109)]) (lenOf pd0_2 rfl) rfl (by show 2 * 0 + _ ≤ _; exact Nat.le_of_eq rfl) (hb hby at_192) (fun _ _ => ⟨rfl, rfl, (by decide : 7 + 3 ≤ _), (by decide : 21 + 12 ≤ _)⟩)
    dsimp only [Pt.U, Pt.locs, Pt.cells, Pt.slots] at X111 l111 y111 z111 st111 hQ111
    subst l111 y111 z111
    obtain ⟨y111, rfl, N111q, K111, ge_y111, szc_y111, E111z, Fn111z, Fx111z⟩ := hQ111
    have ne_z0_y111 : z0 ≠ y111 := Nat.ne_of_lt (Nat.lt_of_lt_of_le F110_signum_z0.lt szc_y111)
    have ne_b101_y111 : b101 ≠ y111 := Nat.ne_of_lt (Nat.lt_of_lt_of_le F110_sent_b101.lt szc_y111)
    have ne_y109_y111 : y109 ≠ y111 := Nat.ne_of_lt (Nat.lt_of_lt_of_le Fn109z.lt szc_y111)
    have ne_b102_103_y111 : b102_103 ≠ y111 := Nat.ne_of_lt (Nat.lt_of_lt_of_le V110_b102_103.lt szc_y111)
    have ne_b106_103_y111 : b106_103 ≠ y111 := Nat.ne_of_lt (Nat.lt_of_lt_of_le V110_b106_103.lt szc_y111)
    have ne_b110_103_y111 : b110_103 ≠ y111 := Nat.ne_of_lt (Nat.lt_of_lt_of_le V110_b110_103.lt szc_y111)
    have sz_y111 : h0.size ≤ y111 := Nat.le_trans K110.1 szc_y111
    have F112_signum_z0 := F110_signum_z0.keep K111 nin0
    have F112_sent_b101 := F110_sent_b101.keep K111 nin0
    have F112_received_b101 := F110_received_b101.keep K111 nin0
    have F112_bitsSent_b101 := F110_bitsSent_b101.keep K111 nin0
    have F112_min_y109 := Fn109z.keep K111 nin0
    have F112_max_y109 := Fx109z.keep K111 nin0
    have E112_z0 := E110_z0.keep K111
    have E112_b101 := E110_b101.keep K111
    have E112_y109 := E109z.keep K111
    have V112_b102_103 := V110_b102_103.keep K111 nin0
    have V112_b106_103 := V110_b106_103.keep K111 nin0
    have V112_b110_103 := V110_b110_103.keep K111 nin0
    have P112_old := P110_old.keep K111 all0
    have Z112 := Nat.le_trans Z110 K111.1
    have K112 : Keep h0 T111.heap [] := Keep.trans K110 K111 all0
    have N111 := Fr.app N109 N111q
    refine Go.tr st111 ?_
    show Go _ _ _ _ _ _ _ (T111.setTop (mkF m 195 #[.val (.int ids), .val (.int q1), .val (.int q2), .val (.int f1), .val (.int t1), .val (.int f2), .val (.int t2), .val (.int bt1), .val (.int bt2), .val (.ref b101), .val (.long k0), .second, .val (.long k1), .second, .val (.long k2), .second, .val (.long k3), .second, .val (.long k4), .second, .val (.long k5), .second, .unset, .unset, .unset] [(.ref y111), (.ref y109)]))
    refine Go.by (fun _ kont => XS.lload X111.here hx rfl (hb hby at_195) rfl (XS.lload X111.here hx rfl (hb hby at_197) rfl kont)) ?_
    show Go _ _ _ _ _ _ _ (T111.setTop (mkF m 199 #[.val (.int ids), .val (.int q1), .val (.int q2), .val (.int f1), .val (.int t1), .val (.int f2), .val (.int t2), .val (.int bt1), .val (.int bt2), .val (.ref b101), .val (.long k0), .second, .val (.long k1), .second, .val (.long k2), .second, .val (.long k3), .second, .val (.long k4), .second, .val (.long k5), .second, .unset, .unset, .unset] [(.long k1), (.long k0), (.ref y111), (.ref y109)]))
    obtain ⟨_, _, ⟨T113, L113, k113, n113⟩, -, X113, ⟨Lc113, hQ113, l113, y113, z113⟩, st113⟩ := Jvm.LawKit.callS X111 hx (y := (⟨"com/example/quorumsmith/quorumsmith/engine/NetworkSendPinLaw", "pinned", "(Lcom/example/quorumsmith/quorumsmith/engine/CountSummary;Lcom/example/quorumsmith/quorumsmith/engine/CountSummary;JJ)Z"⟩ : MethodName)) hown (mvT hZ (hw _ (List.mem_of_getElem? (i := 82) rfl))) (mvT hZ (hw _ (List.mem_of_getElem? (i := 83) rfl))) (mvT hZ (hw _ (List.mem_of_getElem? (i := 84) rfl))) (mvT hZ (hw _ (List.mem_of_getElem? (i := 85) rfl))) (by decide) (backOf (W := 0) (rmPn l Z a0 hw [] y109 y111 k0 k1 (fMa (0 : Int64) (gF f2 0 (gF f1 0 (0 : Int64) 1) 1)) (fMi (fMi (9223372036854775807 : Int64) (gF f2 0 (gF f1 0 (0 : Int64) 1) 1)) (gF f2 1 (gF f1 1 (0 : Int64) 1) 1)) (fMa (fMa (0 : Int64) (gF f2 0 (gF f1 0 (0 : Int64) 1) 1)) (gF f2 1 (gF f1 1 (0 : Int64) 1) 1)) T111.heap n0 Z112 E112_y109 E111z F112_max_y109 Fn111z Fx111z) hZ (hw _ (List.mem_of_getElem? (i := 85) rfl)) (hw _ (List.mem_of_getElem? (i := 84) rfl)) (by decide) (by decide)) (g := (mkF m 199 #[.val (.int ids), .val (.int q1), .val (.int q2), .val (.int f1), .val (.int t1), .val (.int f2), .val (.int t2), .val (.int bt1), .val (.int bt2), .val (.ref b101), .val (.long k0), .second, .val (.long k1), .second, .val (.long k2), .second, .val (.long k3), .second, .val (.long k4), .second, .val (.long k5), .second, .unset, .unset, .unset] [(.long k1), (.long k0), (.ref y111), (.ref y109)])) rfl (by rw [hml]; rfl) (argsL := [(.ref y109), (.ref y111), (.long k0), (.long k1)]) (rest := []) (lenOf pd0_3 rfl) rfl (by show 2 * 0 + _ ≤ _; exact Nat.le_of_eq rfl) (hb hby at_199) (fun _ _ => ⟨rfl, rfl, (by decide : 10 + 0 ≤ _), (by decide : 33 + 0 ≤ _)⟩)
    dsimp only [Pt.U, Pt.locs, Pt.cells, Pt.slots] at X113 l113 y113 z113 st113 hQ113
    subst l113 y113 z113
    obtain ⟨rfl, N113q, eh113⟩ := hQ113
    have N113 := Fr.app N111 N113q
    refine Go.by st113 ?_
    show Go _ _ _ _ _ _ _ (T113.setTop (mkF m 202 #[.val (.int ids), .val (.int q1), .val (.int q2), .val (.int f1), .val (.int t1), .val (.int f2), .val (.int t2), .val (.int bt1), .val (.int bt2), .val (.ref b101), .val (.long k0), .second, .val (.long k1), .second, .val (.long k2), .second, .val (.long k3), .second, .val (.long k4), .second, .val (.long k5), .second, .unset, .unset, .unset] [(.int (fPn k0 k1 (fMa (0 : Int64) (gF f2 0 (gF f1 0 (0 : Int64) 1) 1)) (fMi (fMi (9223372036854775807 : Int64) (gF f2 0 (gF f1 0 (0 : Int64) 1) 1)) (gF f2 1 (gF f1 1 (0 : Int64) 1) 1)) (fMa (fMa (0 : Int64) (gF f2 0 (gF f1 0 (0 : Int64) 1) 1)) (gF f2 1 (gF f1 1 (0 : Int64) 1) 1))))]))
    refine Go.by (fun _ kont => XS.istore X113.here hx rfl (hb hby at_202) rfl (l' := #[.val (.int ids), .val (.int q1), .val (.int q2), .val (.int f1), .val (.int t1), .val (.int f2), .val (.int t2), .val (.int bt1), .val (.int bt2), .val (.ref b101), .val (.long k0), .second, .val (.long k1), .second, .val (.long k2), .second, .val (.long k3), .second, .val (.long k4), .second, .val (.long k5), .second, .val (.int (fPn k0 k1 (fMa (0 : Int64) (gF f2 0 (gF f1 0 (0 : Int64) 1) 1)) (fMi (fMi (9223372036854775807 : Int64) (gF f2 0 (gF f1 0 (0 : Int64) 1) 1)) (gF f2 1 (gF f1 1 (0 : Int64) 1) 1)) (fMa (fMa (0 : Int64) (gF f2 0 (gF f1 0 (0 : Int64) 1) 1)) (gF f2 1 (gF f1 1 (0 : Int64) 1) 1)))), .unset, .unset]) rfl (XS.aload X113.here hx rfl (hb hby at_204) rfl rfl (XS.iconst X113.here hx rfl (hb hby at_206) kont))) ?_
    show Go _ _ _ _ _ _ _ (T113.setTop (mkF m 207 #[.val (.int ids), .val (.int q1), .val (.int q2), .val (.int f1), .val (.int t1), .val (.int f2), .val (.int t2), .val (.int bt1), .val (.int bt2), .val (.ref b101), .val (.long k0), .second, .val (.long k1), .second, .val (.long k2), .second, .val (.long k3), .second, .val (.long k4), .second, .val (.long k5), .second, .val (.int (fPn k0 k1 (fMa (0 : Int64) (gF f2 0 (gF f1 0 (0 : Int64) 1) 1)) (fMi (fMi (9223372036854775807 : Int64) (gF f2 0 (gF f1 0 (0 : Int64) 1) 1)) (gF f2 1 (gF f1 1 (0 : Int64) 1) 1)) (fMa (fMa (0 : Int64) (gF f2 0 (gF f1 0 (0 : Int64) 1) 1)) (gF f2 1 (gF f1 1 (0 : Int64) 1) 1)))), .unset, .unset] [(.int (1 : Int32)), (.ref b101)]))
    obtain ⟨cq114, kq114, q114a, q114b, q114c⟩ := isOf hZ eh113 E112_b101
    obtain ⟨_, _, ⟨T114, L114, k114, n114⟩, -, X114, ⟨Lc114, hQ114, l114, y114, z114⟩, st114⟩ := X113.virtualBack hx (y := (⟨"com/example/quorumsmith/quorumsmith/engine/Network", "messagesReceived", "(I)Lcom/example/quorumsmith/quorumsmith/engine/CountSummary;"⟩ : MethodName)) (z := (⟨"com/example/quorumsmith/quorumsmith/engine/Network", "messagesReceived", "(I)Lcom/example/quorumsmith/quorumsmith/engine/CountSummary;"⟩ : MethodName)) hown (mvT hZ (hw _ (List.mem_of_getElem? (i := 98) rfl))) (mvT hZ (hw _ (List.mem_of_getElem? (i := 99) rfl))) (notFace_of_selects (args := #[]) (mvT hZ (hw _ (List.mem_of_getElem? (i := 101) rfl)))) (mvT hZ (hw _ (List.mem_of_getElem? (i := 101) rfl))) (mvT hZ (hw _ (List.mem_of_getElem? (i := 100) rfl))) (by decide) (backOf (W := 0) (rmMmR1 l Z a0 hw [] b101 b106_103 k106_103 (gF t2 0 (gF t1 0 (0 : Int64) 1) 1) (gF t2 1 (gF t1 1 (0 : Int64) 1) 1) z0 pa T111.heap n0 Z112 F112_received_b101 V112_b106_103 Breceived0 Breceived1 P112_old SZ EZ FZ SP HP) hZ (hw _ (List.mem_of_getElem? (i := 102) rfl)) (hw _ (List.mem_of_getElem? (i := 3) rfl)) (by decide) (by decide)) q114a q114c (g := (mkF m 207 #[.val (.int ids), .val (.int q1), .val (.int q2), .val (.int f1), .val (.int t1), .val (.int f2), .val (.int t2), .val (.int bt1), .val (.int bt2), .val (.ref b101), .val (.long k0), .second, .val (.long k1), .second, .val (.long k2), .second, .val (.long k3), .second, .val (.long k4), .second, .val (.long k5), .second, .val (.int (fPn k0 k1 (fMa (0 : Int64) (gF f2 0 (gF f1 0 (0 : Int64) 1) 1)) (fMi (fMi (9223372036854775807 : Int64) (gF f2 0 (gF f1 0 (0 : Int64) 1) 1)) (gF f2 1 (gF f1 1 (0 : Int64) 1) 1)) (fMa (fMa (0 : Int64) (gF f2 0 (gF f1 0 (0 : Int64) 1) 1)) (gF f2 1 (gF f1 1 (0 : Int64) 1) 1)))), .unset, .unset] [(.int (1 : Int32)), (.ref b101)])) rfl (by rw [hml]; rfl) (Steps.refl _) (argsL := [(.int (1 : Int32))]) (rest := []) (lenOf pd0_2 rfl) rfl (by show 2 * 0 + _ ≤ _; exact Nat.le_of_eq rfl) (hb hby at_207) (fun _ _ => ⟨rfl, eh113, (by decide : 10 + 3 ≤ _), (by decide : 33 + 12 ≤ _)⟩)
    dsimp only [Pt.U, Pt.locs, Pt.cells, Pt.slots] at X114 l114 y114 z114 st114 hQ114
    subst l114 y114 z114
    obtain ⟨y114, rfl, N114q, K114, ge_y114, szc_y114, E114z, Fn114z, Fx114z⟩ := hQ114
    have ne_z0_y114 : z0 ≠ y114 := Nat.ne_of_lt (Nat.lt_of_lt_of_le F112_signum_z0.lt szc_y114)
    have ne_b101_y114 : b101 ≠ y114 := Nat.ne_of_lt (Nat.lt_of_lt_of_le F112_sent_b101.lt szc_y114)
    have ne_y109_y114 : y109 ≠ y114 := Nat.ne_of_lt (Nat.lt_of_lt_of_le F112_min_y109.lt szc_y114)
    have ne_y111_y114 : y111 ≠ y114 := Nat.ne_of_lt (Nat.lt_of_lt_of_le Fn111z.lt szc_y114)
    have ne_b102_103_y114 : b102_103 ≠ y114 := Nat.ne_of_lt (Nat.lt_of_lt_of_le V112_b102_103.lt szc_y114)
    have ne_b106_103_y114 : b106_103 ≠ y114 := Nat.ne_of_lt (Nat.lt_of_lt_of_le V112_b106_103.lt szc_y114)
    have ne_b110_103_y114 : b110_103 ≠ y114 := Nat.ne_of_lt (Nat.lt_of_lt_of_le V112_b110_103.lt szc_y114)
    have sz_y114 : h0.size ≤ y114 := Nat.le_trans K112.1 szc_y114
    have F115_signum_z0 := F112_signum_z0.keep K114 nin0
    have F115_sent_b101 := F112_sent_b101.keep K114 nin0
    have F115_received_b101 := F112_received_b101.keep K114 nin0
    have F115_bitsSent_b101 := F112_bitsSent_b101.keep K114 nin0
    have F115_min_y109 := F112_min_y109.keep K114 nin0
    have F115_max_y109 := F112_max_y109.keep K114 nin0
    have F115_min_y111 := Fn111z.keep K114 nin0
    have F115_max_y111 := Fx111z.keep K114 nin0
    have E115_z0 := E112_z0.keep K114
    have E115_b101 := E112_b101.keep K114
    have E115_y109 := E112_y109.keep K114
    have E115_y111 := E111z.keep K114
    have V115_b102_103 := V112_b102_103.keep K114 nin0
    have V115_b106_103 := V112_b106_103.keep K114 nin0
    have V115_b110_103 := V112_b110_103.keep K114 nin0
    have P115_old := P112_old.keep K114 all0
    have Z115 := Nat.le_trans Z112 K114.1
    have K115 : Keep h0 T114.heap [] := Keep.trans K112 K114 all0
    have N114 := Fr.app N113 N114q
    refine Go.tr st114 ?_
    show Go _ _ _ _ _ _ _ (T114.setTop (mkF m 210 #[.val (.int ids), .val (.int q1), .val (.int q2), .val (.int f1), .val (.int t1), .val (.int f2), .val (.int t2), .val (.int bt1), .val (.int bt2), .val (.ref b101), .val (.long k0), .second, .val (.long k1), .second, .val (.long k2), .second, .val (.long k3), .second, .val (.long k4), .second, .val (.long k5), .second, .val (.int (fPn k0 k1 (fMa (0 : Int64) (gF f2 0 (gF f1 0 (0 : Int64) 1) 1)) (fMi (fMi (9223372036854775807 : Int64) (gF f2 0 (gF f1 0 (0 : Int64) 1) 1)) (gF f2 1 (gF f1 1 (0 : Int64) 1) 1)) (fMa (fMa (0 : Int64) (gF f2 0 (gF f1 0 (0 : Int64) 1) 1)) (gF f2 1 (gF f1 1 (0 : Int64) 1) 1)))), .unset, .unset] [(.ref y114)]))
    refine Go.by (fun _ kont => XS.aload X114.here hx rfl (hb hby at_210) rfl rfl (XS.iconst X114.here hx rfl (hb hby at_212) kont)) ?_
    show Go _ _ _ _ _ _ _ (T114.setTop (mkF m 213 #[.val (.int ids), .val (.int q1), .val (.int q2), .val (.int f1), .val (.int t1), .val (.int f2), .val (.int t2), .val (.int bt1), .val (.int bt2), .val (.ref b101), .val (.long k0), .second, .val (.long k1), .second, .val (.long k2), .second, .val (.long k3), .second, .val (.long k4), .second, .val (.long k5), .second, .val (.int (fPn k0 k1 (fMa (0 : Int64) (gF f2 0 (gF f1 0 (0 : Int64) 1) 1)) (fMi (fMi (9223372036854775807 : Int64) (gF f2 0 (gF f1 0 (0 : Int64) 1) 1)) (gF f2 1 (gF f1 1 (0 : Int64) 1) 1)) (fMa (fMa (0 : Int64) (gF f2 0 (gF f1 0 (0 : Int64) 1) 1)) (gF f2 1 (gF f1 1 (0 : Int64) 1) 1)))), .unset, .unset] [(.int (2 : Int32)), (.ref b101), (.ref y114)]))
    obtain ⟨cq116, kq116, q116a, q116b, q116c⟩ := isOf hZ rfl E115_b101
    obtain ⟨_, _, ⟨T116, L116, k116, n116⟩, -, X116, ⟨Lc116, hQ116, l116, y116, z116⟩, st116⟩ := X114.virtualBack hx (y := (⟨"com/example/quorumsmith/quorumsmith/engine/Network", "messagesReceived", "(I)Lcom/example/quorumsmith/quorumsmith/engine/CountSummary;"⟩ : MethodName)) (z := (⟨"com/example/quorumsmith/quorumsmith/engine/Network", "messagesReceived", "(I)Lcom/example/quorumsmith/quorumsmith/engine/CountSummary;"⟩ : MethodName)) hown (mvT hZ (hw _ (List.mem_of_getElem? (i := 98) rfl))) (mvT hZ (hw _ (List.mem_of_getElem? (i := 99) rfl))) (notFace_of_selects (args := #[]) (mvT hZ (hw _ (List.mem_of_getElem? (i := 101) rfl)))) (mvT hZ (hw _ (List.mem_of_getElem? (i := 101) rfl))) (mvT hZ (hw _ (List.mem_of_getElem? (i := 100) rfl))) (by decide) (backOf (W := 1) (rmMmR2 l Z a0 hw [] b101 b106_103 k106_103 (gF t2 0 (gF t1 0 (0 : Int64) 1) 1) (gF t2 1 (gF t1 1 (0 : Int64) 1) 1) z0 pa T114.heap n0 Z115 F115_received_b101 V115_b106_103 Breceived0 Breceived1 P115_old SZ EZ FZ SP HP) hZ (hw _ (List.mem_of_getElem? (i := 102) rfl)) (hw _ (List.mem_of_getElem? (i := 3) rfl)) (by decide) (by decide)) q116a q116c (g := (mkF m 213 #[.val (.int ids), .val (.int q1), .val (.int q2), .val (.int f1), .val (.int t1), .val (.int f2), .val (.int t2), .val (.int bt1), .val (.int bt2), .val (.ref b101), .val (.long k0), .second, .val (.long k1), .second, .val (.long k2), .second, .val (.long k3), .second, .val (.long k4), .second, .val (.long k5), .second, .val (.int (fPn k0 k1 (fMa (0 : Int64) (gF f2 0 (gF f1 0 (0 : Int64) 1) 1)) (fMi (fMi (9223372036854775807 : Int64) (gF f2 0 (gF f1 0 (0 : Int64) 1) 1)) (gF f2 1 (gF f1 1 (0 : Int64) 1) 1)) (fMa (fMa (0 : Int64) (gF f2 0 (gF f1 0 (0 : Int64) 1) 1)) (gF f2 1 (gF f1 1 (0 : Int64) 1) 1)))), .unset, .unset] [(.int (2 : Int32)), (.ref b101), (.ref y114)])) rfl (by rw [hml]; rfl) (Steps.refl _) (argsL := [(.int (2 : Int32))]) (rest := [(.ref y114)]) (lenOf pd0_2 rfl) rfl (by show 2 * 0 + _ ≤ _; exact Nat.le_of_eq rfl) (hb hby at_213) (fun _ _ => ⟨rfl, rfl, (by decide : 13 + 3 ≤ _), (by decide : 45 + 12 ≤ _)⟩)
    dsimp only [Pt.U, Pt.locs, Pt.cells, Pt.slots] at X116 l116 y116 z116 st116 hQ116
    subst l116 y116 z116
    obtain ⟨y116, rfl, N116q, K116, ge_y116, szc_y116, E116z, Fn116z, Fx116z⟩ := hQ116
    have ne_z0_y116 : z0 ≠ y116 := Nat.ne_of_lt (Nat.lt_of_lt_of_le F115_signum_z0.lt szc_y116)
    have ne_b101_y116 : b101 ≠ y116 := Nat.ne_of_lt (Nat.lt_of_lt_of_le F115_sent_b101.lt szc_y116)
    have ne_y109_y116 : y109 ≠ y116 := Nat.ne_of_lt (Nat.lt_of_lt_of_le F115_min_y109.lt szc_y116)
    have ne_y111_y116 : y111 ≠ y116 := Nat.ne_of_lt (Nat.lt_of_lt_of_le F115_min_y111.lt szc_y116)
    have ne_y114_y116 : y114 ≠ y116 := Nat.ne_of_lt (Nat.lt_of_lt_of_le Fn114z.lt szc_y116)
    have ne_b102_103_y116 : b102_103 ≠ y116 := Nat.ne_of_lt (Nat.lt_of_lt_of_le V115_b102_103.lt szc_y116)
    have ne_b106_103_y116 : b106_103 ≠ y116 := Nat.ne_of_lt (Nat.lt_of_lt_of_le V115_b106_103.lt szc_y116)
    have ne_b110_103_y116 : b110_103 ≠ y116 := Nat.ne_of_lt (Nat.lt_of_lt_of_le V115_b110_103.lt szc_y116)
    have sz_y116 : h0.size ≤ y116 := Nat.le_trans K115.1 szc_y116
    have F117_signum_z0 := F115_signum_z0.keep K116 nin0
    have F117_sent_b101 := F115_sent_b101.keep K116 nin0
    have F117_received_b101 := F115_received_b101.keep K116 nin0
    have F117_bitsSent_b101 := F115_bitsSent_b101.keep K116 nin0
    have F117_min_y109 := F115_min_y109.keep K116 nin0
    have F117_max_y109 := F115_max_y109.keep K116 nin0
    have F117_min_y111 := F115_min_y111.keep K116 nin0
    have F117_max_y111 := F115_max_y111.keep K116 nin0
    have F117_min_y114 := Fn114z.keep K116 nin0
    have F117_max_y114 := Fx114z.keep K116 nin0
    have E117_z0 := E115_z0.keep K116
    have E117_b101 := E115_b101.keep K116
    have E117_y109 := E115_y109.keep K116
    have E117_y111 := E115_y111.keep K116
    have E117_y114 := E114z.keep K116
    have V117_b102_103 := V115_b102_103.keep K116 nin0
    have V117_b106_103 := V115_b106_103.keep K116 nin0
    have V117_b110_103 := V115_b110_103.keep K116 nin0
    have P117_old := P115_old.keep K116 all0
    have Z117 := Nat.le_trans Z115 K116.1
    have K117 : Keep h0 T116.heap [] := Keep.trans K115 K116 all0
    have N116 := Fr.app N114 N116q
    refine Go.tr st116 ?_
    show Go _ _ _ _ _ _ _ (T116.setTop (mkF m 216 #[.val (.int ids), .val (.int q1), .val (.int q2), .val (.int f1), .val (.int t1), .val (.int f2), .val (.int t2), .val (.int bt1), .val (.int bt2), .val (.ref b101), .val (.long k0), .second, .val (.long k1), .second, .val (.long k2), .second, .val (.long k3), .second, .val (.long k4), .second, .val (.long k5), .second, .val (.int (fPn k0 k1 (fMa (0 : Int64) (gF f2 0 (gF f1 0 (0 : Int64) 1) 1)) (fMi (fMi (9223372036854775807 : Int64) (gF f2 0 (gF f1 0 (0 : Int64) 1) 1)) (gF f2 1 (gF f1 1 (0 : Int64) 1) 1)) (fMa (fMa (0 : Int64) (gF f2 0 (gF f1 0 (0 : Int64) 1) 1)) (gF f2 1 (gF f1 1 (0 : Int64) 1) 1)))), .unset, .unset] [(.ref y116), (.ref y114)]))
    refine Go.by (fun _ kont => XS.lload X116.here hx rfl (hb hby at_216) rfl (XS.lload X116.here hx rfl (hb hby at_218) rfl kont)) ?_
    show Go _ _ _ _ _ _ _ (T116.setTop (mkF m 220 #[.val (.int ids), .val (.int q1), .val (.int q2), .val (.int f1), .val (.int t1), .val (.int f2), .val (.int t2), .val (.int bt1), .val (.int bt2), .val (.ref b101), .val (.long k0), .second, .val (.long k1), .second, .val (.long k2), .second, .val (.long k3), .second, .val (.long k4), .second, .val (.long k5), .second, .val (.int (fPn k0 k1 (fMa (0 : Int64) (gF f2 0 (gF f1 0 (0 : Int64) 1) 1)) (fMi (fMi (9223372036854775807 : Int64) (gF f2 0 (gF f1 0 (0 : Int64) 1) 1)) (gF f2 1 (gF f1 1 (0 : Int64) 1) 1)) (fMa (fMa (0 : Int64) (gF f2 0 (gF f1 0 (0 : Int64) 1) 1)) (gF f2 1 (gF f1 1 (0 : Int64) 1) 1)))), .unset, .unset] [(.long k3), (.long k2), (.ref y116), (.ref y114)]))
    obtain ⟨_, _, ⟨T118, L118, k118, n118⟩, -, X118, ⟨Lc118, hQ118, l118, y118, z118⟩, st118⟩ := Jvm.LawKit.callS X116 hx (y := (⟨"com/example/quorumsmith/quorumsmith/engine/NetworkSendPinLaw", "pinned", "(Lcom/example/quorumsmith/quorumsmith/engine/CountSummary;Lcom/example/quorumsmith/quorumsmith/engine/CountSummary;JJ)Z"⟩ : MethodName)) hown (mvT hZ (hw _ (List.mem_of_getElem? (i := 82) rfl))) (mvT hZ (hw _ (List.mem_of_getElem? (i := 83) rfl))) (mvT hZ (hw _ (List.mem_of_getElem? (i := 84) rfl))) (mvT hZ (hw _ (List.mem_of_getElem? (i := 85) rfl))) (by decide) (backOf (W := 0) (rmPn l Z a0 hw [] y114 y116 k2 k3 (fMa (0 : Int64) (gF t2 0 (gF t1 0 (0 : Int64) 1) 1)) (fMi (fMi (9223372036854775807 : Int64) (gF t2 0 (gF t1 0 (0 : Int64) 1) 1)) (gF t2 1 (gF t1 1 (0 : Int64) 1) 1)) (fMa (fMa (0 : Int64) (gF t2 0 (gF t1 0 (0 : Int64) 1) 1)) (gF t2 1 (gF t1 1 (0 : Int64) 1) 1)) T116.heap n0 Z117 E117_y114 E116z F117_max_y114 Fn116z Fx116z) hZ (hw _ (List.mem_of_getElem? (i := 85) rfl)) (hw _ (List.mem_of_getElem? (i := 84) rfl)) (by decide) (by decide)) (g := (mkF m 220 #[.val (.int ids), .val (.int q1), .val (.int q2), .val (.int f1), .val (.int t1), .val (.int f2), .val (.int t2), .val (.int bt1), .val (.int bt2), .val (.ref b101), .val (.long k0), .second, .val (.long k1), .second, .val (.long k2), .second, .val (.long k3), .second, .val (.long k4), .second, .val (.long k5), .second, .val (.int (fPn k0 k1 (fMa (0 : Int64) (gF f2 0 (gF f1 0 (0 : Int64) 1) 1)) (fMi (fMi (9223372036854775807 : Int64) (gF f2 0 (gF f1 0 (0 : Int64) 1) 1)) (gF f2 1 (gF f1 1 (0 : Int64) 1) 1)) (fMa (fMa (0 : Int64) (gF f2 0 (gF f1 0 (0 : Int64) 1) 1)) (gF f2 1 (gF f1 1 (0 : Int64) 1) 1)))), .unset, .unset] [(.long k3), (.long k2), (.ref y116), (.ref y114)])) rfl (by rw [hml]; rfl) (argsL := [(.ref y114), (.ref y116), (.long k2), (.long k3)]) (rest := []) (lenOf pd0_3 rfl) rfl (by show 2 * 0 + _ ≤ _; exact Nat.le_of_eq rfl) (hb hby at_220) (fun _ _ => ⟨rfl, rfl, (by decide : 16 + 0 ≤ _), (by decide : 57 + 0 ≤ _)⟩)
    dsimp only [Pt.U, Pt.locs, Pt.cells, Pt.slots] at X118 l118 y118 z118 st118 hQ118
    subst l118 y118 z118
    obtain ⟨rfl, N118q, eh118⟩ := hQ118
    have N118 := Fr.app N116 N118q
    refine Go.by st118 ?_
    show Go _ _ _ _ _ _ _ (T118.setTop (mkF m 223 #[.val (.int ids), .val (.int q1), .val (.int q2), .val (.int f1), .val (.int t1), .val (.int f2), .val (.int t2), .val (.int bt1), .val (.int bt2), .val (.ref b101), .val (.long k0), .second, .val (.long k1), .second, .val (.long k2), .second, .val (.long k3), .second, .val (.long k4), .second, .val (.long k5), .second, .val (.int (fPn k0 k1 (fMa (0 : Int64) (gF f2 0 (gF f1 0 (0 : Int64) 1) 1)) (fMi (fMi (9223372036854775807 : Int64) (gF f2 0 (gF f1 0 (0 : Int64) 1) 1)) (gF f2 1 (gF f1 1 (0 : Int64) 1) 1)) (fMa (fMa (0 : Int64) (gF f2 0 (gF f1 0 (0 : Int64) 1) 1)) (gF f2 1 (gF f1 1 (0 : Int64) 1) 1)))), .unset, .unset] [(.int (fPn k2 k3 (fMa (0 : Int64) (gF t2 0 (gF t1 0 (0 : Int64) 1) 1)) (fMi (fMi (9223372036854775807 : Int64) (gF t2 0 (gF t1 0 (0 : Int64) 1) 1)) (gF t2 1 (gF t1 1 (0 : Int64) 1) 1)) (fMa (fMa (0 : Int64) (gF t2 0 (gF t1 0 (0 : Int64) 1) 1)) (gF t2 1 (gF t1 1 (0 : Int64) 1) 1))))]))
    refine Go.by (fun _ kont => XS.istore X118.here hx rfl (hb hby at_223) rfl (l' := #[.val (.int ids), .val (.int q1), .val (.int q2), .val (.int f1), .val (.int t1), .val (.int f2), .val (.int t2), .val (.int bt1), .val (.int bt2), .val (.ref b101), .val (.long k0), .second, .val (.long k1), .second, .val (.long k2), .second, .val (.long k3), .second, .val (.long k4), .second, .val (.long k5), .second, .val (.int (fPn k0 k1 (fMa (0 : Int64) (gF f2 0 (gF f1 0 (0 : Int64) 1) 1)) (fMi (fMi (9223372036854775807 : Int64) (gF f2 0 (gF f1 0 (0 : Int64) 1) 1)) (gF f2 1 (gF f1 1 (0 : Int64) 1) 1)) (fMa (fMa (0 : Int64) (gF f2 0 (gF f1 0 (0 : Int64) 1) 1)) (gF f2 1 (gF f1 1 (0 : Int64) 1) 1)))), .val (.int (fPn k2 k3 (fMa (0 : Int64) (gF t2 0 (gF t1 0 (0 : Int64) 1) 1)) (fMi (fMi (9223372036854775807 : Int64) (gF t2 0 (gF t1 0 (0 : Int64) 1) 1)) (gF t2 1 (gF t1 1 (0 : Int64) 1) 1)) (fMa (fMa (0 : Int64) (gF t2 0 (gF t1 0 (0 : Int64) 1) 1)) (gF t2 1 (gF t1 1 (0 : Int64) 1) 1)))), .unset]) rfl (XS.aload X118.here hx rfl (hb hby at_225) rfl rfl (XS.iconst X118.here hx rfl (hb hby at_227) kont))) ?_
    show Go _ _ _ _ _ _ _ (T118.setTop (mkF m 228 #[.val (.int ids), .val (.int q1), .val (.int q2), .val (.int f1), .val (.int t1), .val (.int f2), .val (.int t2), .val (.int bt1), .val (.int bt2), .val (.ref b101), .val (.long k0), .second, .val (.long k1), .second, .val (.long k2), .second, .val (.long k3), .second, .val (.long k4), .second, .val (.long k5), .second, .val (.int (fPn k0 k1 (fMa (0 : Int64) (gF f2 0 (gF f1 0 (0 : Int64) 1) 1)) (fMi (fMi (9223372036854775807 : Int64) (gF f2 0 (gF f1 0 (0 : Int64) 1) 1)) (gF f2 1 (gF f1 1 (0 : Int64) 1) 1)) (fMa (fMa (0 : Int64) (gF f2 0 (gF f1 0 (0 : Int64) 1) 1)) (gF f2 1 (gF f1 1 (0 : Int64) 1) 1)))), .val (.int (fPn k2 k3 (fMa (0 : Int64) (gF t2 0 (gF t1 0 (0 : Int64) 1) 1)) (fMi (fMi (9223372036854775807 : Int64) (gF t2 0 (gF t1 0 (0 : Int64) 1) 1)) (gF t2 1 (gF t1 1 (0 : Int64) 1) 1)) (fMa (fMa (0 : Int64) (gF t2 0 (gF t1 0 (0 : Int64) 1) 1)) (gF t2 1 (gF t1 1 (0 : Int64) 1) 1)))), .unset] [(.int (1 : Int32)), (.ref b101)]))
    obtain ⟨cq119, kq119, q119a, q119b, q119c⟩ := isOf hZ eh118 E117_b101
    obtain ⟨_, _, ⟨T119, L119, k119, n119⟩, -, X119, ⟨Lc119, hQ119, l119, y119, z119⟩, st119⟩ := X118.virtualBack hx (y := (⟨"com/example/quorumsmith/quorumsmith/engine/Network", "bitsSent", "(I)Lcom/example/quorumsmith/quorumsmith/engine/CountSummary;"⟩ : MethodName)) (z := (⟨"com/example/quorumsmith/quorumsmith/engine/Network", "bitsSent", "(I)Lcom/example/quorumsmith/quorumsmith/engine/CountSummary;"⟩ : MethodName)) hown (mvT hZ (hw _ (List.mem_of_getElem? (i := 103) rfl))) (mvT hZ (hw _ (List.mem_of_getElem? (i := 104) rfl))) (notFace_of_selects (args := #[]) (mvT hZ (hw _ (List.mem_of_getElem? (i := 106) rfl)))) (mvT hZ (hw _ (List.mem_of_getElem? (i := 106) rfl))) (mvT hZ (hw _ (List.mem_of_getElem? (i := 105) rfl))) (by decide) (backOf (W := 0) (rmMb1 l Z a0 hw [] b101 b110_103 k110_103 (gF f2 0 (gF f1 0 (0 : Int64) bt1.toInt64) bt2.toInt64) (gF f2 1 (gF f1 1 (0 : Int64) bt1.toInt64) bt2.toInt64) z0 pa T116.heap n0 Z117 F117_bitsSent_b101 V117_b110_103 BbitsSent0 BbitsSent1 P117_old SZ EZ FZ SP HP) hZ (hw _ (List.mem_of_getElem? (i := 107) rfl)) (hw _ (List.mem_of_getElem? (i := 3) rfl)) (by decide) (by decide)) q119a q119c (g := (mkF m 228 #[.val (.int ids), .val (.int q1), .val (.int q2), .val (.int f1), .val (.int t1), .val (.int f2), .val (.int t2), .val (.int bt1), .val (.int bt2), .val (.ref b101), .val (.long k0), .second, .val (.long k1), .second, .val (.long k2), .second, .val (.long k3), .second, .val (.long k4), .second, .val (.long k5), .second, .val (.int (fPn k0 k1 (fMa (0 : Int64) (gF f2 0 (gF f1 0 (0 : Int64) 1) 1)) (fMi (fMi (9223372036854775807 : Int64) (gF f2 0 (gF f1 0 (0 : Int64) 1) 1)) (gF f2 1 (gF f1 1 (0 : Int64) 1) 1)) (fMa (fMa (0 : Int64) (gF f2 0 (gF f1 0 (0 : Int64) 1) 1)) (gF f2 1 (gF f1 1 (0 : Int64) 1) 1)))), .val (.int (fPn k2 k3 (fMa (0 : Int64) (gF t2 0 (gF t1 0 (0 : Int64) 1) 1)) (fMi (fMi (9223372036854775807 : Int64) (gF t2 0 (gF t1 0 (0 : Int64) 1) 1)) (gF t2 1 (gF t1 1 (0 : Int64) 1) 1)) (fMa (fMa (0 : Int64) (gF t2 0 (gF t1 0 (0 : Int64) 1) 1)) (gF t2 1 (gF t1 1 (0 : Int64) 1) 1)))), .unset] [(.int (1 : Int32)), (.ref b101)])) rfl (by rw [hml]; rfl) (Steps.refl _) (argsL := [(.int (1 : Int32))]) (rest := []) (lenOf pd0_2 rfl) rfl (by show 2 * 0 + _ ≤ _; exact Nat.le_of_eq rfl) (hb hby at_228) (fun _ _ => ⟨rfl, eh118, (by decide : 16 + 3 ≤ _), (by decide : 57 + 12 ≤ _)⟩)
    dsimp only [Pt.U, Pt.locs, Pt.cells, Pt.slots] at X119 l119 y119 z119 st119 hQ119
    subst l119 y119 z119
    obtain ⟨y119, rfl, N119q, K119, ge_y119, szc_y119, E119z, Fn119z, Fx119z⟩ := hQ119
    have ne_z0_y119 : z0 ≠ y119 := Nat.ne_of_lt (Nat.lt_of_lt_of_le F117_signum_z0.lt szc_y119)
    have ne_b101_y119 : b101 ≠ y119 := Nat.ne_of_lt (Nat.lt_of_lt_of_le F117_sent_b101.lt szc_y119)
    have ne_y109_y119 : y109 ≠ y119 := Nat.ne_of_lt (Nat.lt_of_lt_of_le F117_min_y109.lt szc_y119)
    have ne_y111_y119 : y111 ≠ y119 := Nat.ne_of_lt (Nat.lt_of_lt_of_le F117_min_y111.lt szc_y119)
    have ne_y114_y119 : y114 ≠ y119 := Nat.ne_of_lt (Nat.lt_of_lt_of_le F117_min_y114.lt szc_y119)
    have ne_y116_y119 : y116 ≠ y119 := Nat.ne_of_lt (Nat.lt_of_lt_of_le Fn116z.lt szc_y119)
    have ne_b102_103_y119 : b102_103 ≠ y119 := Nat.ne_of_lt (Nat.lt_of_lt_of_le V117_b102_103.lt szc_y119)
    have ne_b106_103_y119 : b106_103 ≠ y119 := Nat.ne_of_lt (Nat.lt_of_lt_of_le V117_b106_103.lt szc_y119)
    have ne_b110_103_y119 : b110_103 ≠ y119 := Nat.ne_of_lt (Nat.lt_of_lt_of_le V117_b110_103.lt szc_y119)
    have sz_y119 : h0.size ≤ y119 := Nat.le_trans K117.1 szc_y119
    have F120_signum_z0 := F117_signum_z0.keep K119 nin0
    have F120_sent_b101 := F117_sent_b101.keep K119 nin0
    have F120_received_b101 := F117_received_b101.keep K119 nin0
    have F120_bitsSent_b101 := F117_bitsSent_b101.keep K119 nin0
    have F120_min_y109 := F117_min_y109.keep K119 nin0
    have F120_max_y109 := F117_max_y109.keep K119 nin0
    have F120_min_y111 := F117_min_y111.keep K119 nin0
    have F120_max_y111 := F117_max_y111.keep K119 nin0
    have F120_min_y114 := F117_min_y114.keep K119 nin0
    have F120_max_y114 := F117_max_y114.keep K119 nin0
    have F120_min_y116 := Fn116z.keep K119 nin0
    have F120_max_y116 := Fx116z.keep K119 nin0
    have E120_z0 := E117_z0.keep K119
    have E120_b101 := E117_b101.keep K119
    have E120_y109 := E117_y109.keep K119
    have E120_y111 := E117_y111.keep K119
    have E120_y114 := E117_y114.keep K119
    have E120_y116 := E116z.keep K119
    have V120_b102_103 := V117_b102_103.keep K119 nin0
    have V120_b106_103 := V117_b106_103.keep K119 nin0
    have V120_b110_103 := V117_b110_103.keep K119 nin0
    have P120_old := P117_old.keep K119 all0
    have Z120 := Nat.le_trans Z117 K119.1
    have K120 : Keep h0 T119.heap [] := Keep.trans K117 K119 all0
    have N119 := Fr.app N118 N119q
    refine Go.tr st119 ?_
    show Go _ _ _ _ _ _ _ (T119.setTop (mkF m 231 #[.val (.int ids), .val (.int q1), .val (.int q2), .val (.int f1), .val (.int t1), .val (.int f2), .val (.int t2), .val (.int bt1), .val (.int bt2), .val (.ref b101), .val (.long k0), .second, .val (.long k1), .second, .val (.long k2), .second, .val (.long k3), .second, .val (.long k4), .second, .val (.long k5), .second, .val (.int (fPn k0 k1 (fMa (0 : Int64) (gF f2 0 (gF f1 0 (0 : Int64) 1) 1)) (fMi (fMi (9223372036854775807 : Int64) (gF f2 0 (gF f1 0 (0 : Int64) 1) 1)) (gF f2 1 (gF f1 1 (0 : Int64) 1) 1)) (fMa (fMa (0 : Int64) (gF f2 0 (gF f1 0 (0 : Int64) 1) 1)) (gF f2 1 (gF f1 1 (0 : Int64) 1) 1)))), .val (.int (fPn k2 k3 (fMa (0 : Int64) (gF t2 0 (gF t1 0 (0 : Int64) 1) 1)) (fMi (fMi (9223372036854775807 : Int64) (gF t2 0 (gF t1 0 (0 : Int64) 1) 1)) (gF t2 1 (gF t1 1 (0 : Int64) 1) 1)) (fMa (fMa (0 : Int64) (gF t2 0 (gF t1 0 (0 : Int64) 1) 1)) (gF t2 1 (gF t1 1 (0 : Int64) 1) 1)))), .unset] [(.ref y119)]))
    refine Go.by (fun _ kont => XS.aload X119.here hx rfl (hb hby at_231) rfl rfl (XS.iconst X119.here hx rfl (hb hby at_233) kont)) ?_
    show Go _ _ _ _ _ _ _ (T119.setTop (mkF m 234 #[.val (.int ids), .val (.int q1), .val (.int q2), .val (.int f1), .val (.int t1), .val (.int f2), .val (.int t2), .val (.int bt1), .val (.int bt2), .val (.ref b101), .val (.long k0), .second, .val (.long k1), .second, .val (.long k2), .second, .val (.long k3), .second, .val (.long k4), .second, .val (.long k5), .second, .val (.int (fPn k0 k1 (fMa (0 : Int64) (gF f2 0 (gF f1 0 (0 : Int64) 1) 1)) (fMi (fMi (9223372036854775807 : Int64) (gF f2 0 (gF f1 0 (0 : Int64) 1) 1)) (gF f2 1 (gF f1 1 (0 : Int64) 1) 1)) (fMa (fMa (0 : Int64) (gF f2 0 (gF f1 0 (0 : Int64) 1) 1)) (gF f2 1 (gF f1 1 (0 : Int64) 1) 1)))), .val (.int (fPn k2 k3 (fMa (0 : Int64) (gF t2 0 (gF t1 0 (0 : Int64) 1) 1)) (fMi (fMi (9223372036854775807 : Int64) (gF t2 0 (gF t1 0 (0 : Int64) 1) 1)) (gF t2 1 (gF t1 1 (0 : Int64) 1) 1)) (fMa (fMa (0 : Int64) (gF t2 0 (gF t1 0 (0 : Int64) 1) 1)) (gF t2 1 (gF t1 1 (0 : Int64) 1) 1)))), .unset] [(.int (2 : Int32)), (.ref b101), (.ref y119)]))
    obtain ⟨cq121, kq121, q121a, q121b, q121c⟩ := isOf hZ rfl E120_b101
    obtain ⟨_, _, ⟨T121, L121, k121, n121⟩, -, X121, ⟨Lc121, hQ121, l121, y121, z121⟩, st121⟩ := X119.virtualBack hx (y := (⟨"com/example/quorumsmith/quorumsmith/engine/Network", "bitsSent", "(I)Lcom/example/quorumsmith/quorumsmith/engine/CountSummary;"⟩ : MethodName)) (z := (⟨"com/example/quorumsmith/quorumsmith/engine/Network", "bitsSent", "(I)Lcom/example/quorumsmith/quorumsmith/engine/CountSummary;"⟩ : MethodName)) hown (mvT hZ (hw _ (List.mem_of_getElem? (i := 103) rfl))) (mvT hZ (hw _ (List.mem_of_getElem? (i := 104) rfl))) (notFace_of_selects (args := #[]) (mvT hZ (hw _ (List.mem_of_getElem? (i := 106) rfl)))) (mvT hZ (hw _ (List.mem_of_getElem? (i := 106) rfl))) (mvT hZ (hw _ (List.mem_of_getElem? (i := 105) rfl))) (by decide) (backOf (W := 1) (rmMb2 l Z a0 hw [] b101 b110_103 k110_103 (gF f2 0 (gF f1 0 (0 : Int64) bt1.toInt64) bt2.toInt64) (gF f2 1 (gF f1 1 (0 : Int64) bt1.toInt64) bt2.toInt64) z0 pa T119.heap n0 Z120 F120_bitsSent_b101 V120_b110_103 BbitsSent0 BbitsSent1 P120_old SZ EZ FZ SP HP) hZ (hw _ (List.mem_of_getElem? (i := 107) rfl)) (hw _ (List.mem_of_getElem? (i := 3) rfl)) (by decide) (by decide)) q121a q121c (g := (mkF m 234 #[.val (.int ids), .val (.int q1), .val (.int q2), .val (.int f1), .val (.int t1), .val (.int f2), .val (.int t2), .val (.int bt1), .val (.int bt2), .val (.ref b101), .val (.long k0), .second, .val (.long k1), .second, .val (.long k2), .second, .val (.long k3), .second, .val (.long k4), .second, .val (.long k5), .second, .val (.int (fPn k0 k1 (fMa (0 : Int64) (gF f2 0 (gF f1 0 (0 : Int64) 1) 1)) (fMi (fMi (9223372036854775807 : Int64) (gF f2 0 (gF f1 0 (0 : Int64) 1) 1)) (gF f2 1 (gF f1 1 (0 : Int64) 1) 1)) (fMa (fMa (0 : Int64) (gF f2 0 (gF f1 0 (0 : Int64) 1) 1)) (gF f2 1 (gF f1 1 (0 : Int64) 1) 1)))), .val (.int (fPn k2 k3 (fMa (0 : Int64) (gF t2 0 (gF t1 0 (0 : Int64) 1) 1)) (fMi (fMi (9223372036854775807 : Int64) (gF t2 0 (gF t1 0 (0 : Int64) 1) 1)) (gF t2 1 (gF t1 1 (0 : Int64) 1) 1)) (fMa (fMa (0 : Int64) (gF t2 0 (gF t1 0 (0 : Int64) 1) 1)) (gF t2 1 (gF t1 1 (0 : Int64) 1) 1)))), .unset] [(.int (2 : Int32)), (.ref b101), (.ref y119)])) rfl (by rw [hml]; rfl) (Steps.refl _) (argsL := [(.int (2 : Int32))]) (rest := [(.ref y119)]) (lenOf pd0_2 rfl) rfl (by show 2 * 0 + _ ≤ _; exact Nat.le_of_eq rfl) (hb hby at_234) (fun _ _ => ⟨rfl, rfl, (by decide : 19 + 3 ≤ _), (by decide : 69 + 12 ≤ _)⟩)
    dsimp only [Pt.U, Pt.locs, Pt.cells, Pt.slots] at X121 l121 y121 z121 st121 hQ121
    subst l121 y121 z121
    obtain ⟨y121, rfl, N121q, K121, ge_y121, szc_y121, E121z, Fn121z, Fx121z⟩ := hQ121
    have ne_z0_y121 : z0 ≠ y121 := Nat.ne_of_lt (Nat.lt_of_lt_of_le F120_signum_z0.lt szc_y121)
    have ne_b101_y121 : b101 ≠ y121 := Nat.ne_of_lt (Nat.lt_of_lt_of_le F120_sent_b101.lt szc_y121)
    have ne_y109_y121 : y109 ≠ y121 := Nat.ne_of_lt (Nat.lt_of_lt_of_le F120_min_y109.lt szc_y121)
    have ne_y111_y121 : y111 ≠ y121 := Nat.ne_of_lt (Nat.lt_of_lt_of_le F120_min_y111.lt szc_y121)
    have ne_y114_y121 : y114 ≠ y121 := Nat.ne_of_lt (Nat.lt_of_lt_of_le F120_min_y114.lt szc_y121)
    have ne_y116_y121 : y116 ≠ y121 := Nat.ne_of_lt (Nat.lt_of_lt_of_le F120_min_y116.lt szc_y121)
    have ne_y119_y121 : y119 ≠ y121 := Nat.ne_of_lt (Nat.lt_of_lt_of_le Fn119z.lt szc_y121)
    have ne_b102_103_y121 : b102_103 ≠ y121 := Nat.ne_of_lt (Nat.lt_of_lt_of_le V120_b102_103.lt szc_y121)
    have ne_b106_103_y121 : b106_103 ≠ y121 := Nat.ne_of_lt (Nat.lt_of_lt_of_le V120_b106_103.lt szc_y121)
    have ne_b110_103_y121 : b110_103 ≠ y121 := Nat.ne_of_lt (Nat.lt_of_lt_of_le V120_b110_103.lt szc_y121)
    have sz_y121 : h0.size ≤ y121 := Nat.le_trans K120.1 szc_y121
    have F122_signum_z0 := F120_signum_z0.keep K121 nin0
    have F122_sent_b101 := F120_sent_b101.keep K121 nin0
    have F122_received_b101 := F120_received_b101.keep K121 nin0
    have F122_bitsSent_b101 := F120_bitsSent_b101.keep K121 nin0
    have F122_min_y109 := F120_min_y109.keep K121 nin0
    have F122_max_y109 := F120_max_y109.keep K121 nin0
    have F122_min_y111 := F120_min_y111.keep K121 nin0
    have F122_max_y111 := F120_max_y111.keep K121 nin0
    have F122_min_y114 := F120_min_y114.keep K121 nin0
    have F122_max_y114 := F120_max_y114.keep K121 nin0
    have F122_min_y116 := F120_min_y116.keep K121 nin0
    have F122_max_y116 := F120_max_y116.keep K121 nin0
    have F122_min_y119 := Fn119z.keep K121 nin0
    have F122_max_y119 := Fx119z.keep K121 nin0
    have E122_z0 := E120_z0.keep K121
    have E122_b101 := E120_b101.keep K121
    have E122_y109 := E120_y109.keep K121
    have E122_y111 := E120_y111.keep K121
    have E122_y114 := E120_y114.keep K121
    have E122_y116 := E120_y116.keep K121
    have E122_y119 := E119z.keep K121
    have V122_b102_103 := V120_b102_103.keep K121 nin0
    have V122_b106_103 := V120_b106_103.keep K121 nin0
    have V122_b110_103 := V120_b110_103.keep K121 nin0
    have P122_old := P120_old.keep K121 all0
    have Z122 := Nat.le_trans Z120 K121.1
    have K122 : Keep h0 T121.heap [] := Keep.trans K120 K121 all0
    have N121 := Fr.app N119 N121q
    refine Go.tr st121 ?_
    show Go _ _ _ _ _ _ _ (T121.setTop (mkF m 237 #[.val (.int ids), .val (.int q1), .val (.int q2), .val (.int f1), .val (.int t1), .val (.int f2), .val (.int t2), .val (.int bt1), .val (.int bt2), .val (.ref b101), .val (.long k0), .second, .val (.long k1), .second, .val (.long k2), .second, .val (.long k3), .second, .val (.long k4), .second, .val (.long k5), .second, .val (.int (fPn k0 k1 (fMa (0 : Int64) (gF f2 0 (gF f1 0 (0 : Int64) 1) 1)) (fMi (fMi (9223372036854775807 : Int64) (gF f2 0 (gF f1 0 (0 : Int64) 1) 1)) (gF f2 1 (gF f1 1 (0 : Int64) 1) 1)) (fMa (fMa (0 : Int64) (gF f2 0 (gF f1 0 (0 : Int64) 1) 1)) (gF f2 1 (gF f1 1 (0 : Int64) 1) 1)))), .val (.int (fPn k2 k3 (fMa (0 : Int64) (gF t2 0 (gF t1 0 (0 : Int64) 1) 1)) (fMi (fMi (9223372036854775807 : Int64) (gF t2 0 (gF t1 0 (0 : Int64) 1) 1)) (gF t2 1 (gF t1 1 (0 : Int64) 1) 1)) (fMa (fMa (0 : Int64) (gF t2 0 (gF t1 0 (0 : Int64) 1) 1)) (gF t2 1 (gF t1 1 (0 : Int64) 1) 1)))), .unset] [(.ref y121), (.ref y119)]))
    refine Go.by (fun _ kont => XS.lload X121.here hx rfl (hb hby at_237) rfl (XS.lload X121.here hx rfl (hb hby at_239) rfl kont)) ?_
    show Go _ _ _ _ _ _ _ (T121.setTop (mkF m 241 #[.val (.int ids), .val (.int q1), .val (.int q2), .val (.int f1), .val (.int t1), .val (.int f2), .val (.int t2), .val (.int bt1), .val (.int bt2), .val (.ref b101), .val (.long k0), .second, .val (.long k1), .second, .val (.long k2), .second, .val (.long k3), .second, .val (.long k4), .second, .val (.long k5), .second, .val (.int (fPn k0 k1 (fMa (0 : Int64) (gF f2 0 (gF f1 0 (0 : Int64) 1) 1)) (fMi (fMi (9223372036854775807 : Int64) (gF f2 0 (gF f1 0 (0 : Int64) 1) 1)) (gF f2 1 (gF f1 1 (0 : Int64) 1) 1)) (fMa (fMa (0 : Int64) (gF f2 0 (gF f1 0 (0 : Int64) 1) 1)) (gF f2 1 (gF f1 1 (0 : Int64) 1) 1)))), .val (.int (fPn k2 k3 (fMa (0 : Int64) (gF t2 0 (gF t1 0 (0 : Int64) 1) 1)) (fMi (fMi (9223372036854775807 : Int64) (gF t2 0 (gF t1 0 (0 : Int64) 1) 1)) (gF t2 1 (gF t1 1 (0 : Int64) 1) 1)) (fMa (fMa (0 : Int64) (gF t2 0 (gF t1 0 (0 : Int64) 1) 1)) (gF t2 1 (gF t1 1 (0 : Int64) 1) 1)))), .unset] [(.long k5), (.long k4), (.ref y121), (.ref y119)]))
    obtain ⟨_, _, ⟨T123, L123, k123, n123⟩, -, X123, ⟨Lc123, hQ123, l123, y123, z123⟩, st123⟩ := Jvm.LawKit.callS X121 hx (y := (⟨"com/example/quorumsmith/quorumsmith/engine/NetworkSendPinLaw", "pinned", "(Lcom/example/quorumsmith/quorumsmith/engine/CountSummary;Lcom/example/quorumsmith/quorumsmith/engine/CountSummary;JJ)Z"⟩ : MethodName)) hown (mvT hZ (hw _ (List.mem_of_getElem? (i := 82) rfl))) (mvT hZ (hw _ (List.mem_of_getElem? (i := 83) rfl))) (mvT hZ (hw _ (List.mem_of_getElem? (i := 84) rfl))) (mvT hZ (hw _ (List.mem_of_getElem? (i := 85) rfl))) (by decide) (backOf (W := 0) (rmPn l Z a0 hw [] y119 y121 k4 k5 (fMa (0 : Int64) (gF f2 0 (gF f1 0 (0 : Int64) bt1.toInt64) bt2.toInt64)) (fMi (fMi (9223372036854775807 : Int64) (gF f2 0 (gF f1 0 (0 : Int64) bt1.toInt64) bt2.toInt64)) (gF f2 1 (gF f1 1 (0 : Int64) bt1.toInt64) bt2.toInt64)) (fMa (fMa (0 : Int64) (gF f2 0 (gF f1 0 (0 : Int64) bt1.toInt64) bt2.toInt64)) (gF f2 1 (gF f1 1 (0 : Int64) bt1.toInt64) bt2.toInt64)) T121.heap n0 Z122 E122_y119 E121z F122_max_y119 Fn121z Fx121z) hZ (hw _ (List.mem_of_getElem? (i := 85) rfl)) (hw _ (List.mem_of_getElem? (i := 84) rfl)) (by decide) (by decide)) (g := (mkF m 241 #[.val (.int ids), .val (.int q1), .val (.int q2), .val (.int f1), .val (.int t1), .val (.int f2), .val (.int t2), .val (.int bt1), .val (.int bt2), .val (.ref b101), .val (.long k0), .second, .val (.long k1), .second, .val (.long k2), .second, .val (.long k3), .second, .val (.long k4), .second, .val (.long k5), .second, .val (.int (fPn k0 k1 (fMa (0 : Int64) (gF f2 0 (gF f1 0 (0 : Int64) 1) 1)) (fMi (fMi (9223372036854775807 : Int64) (gF f2 0 (gF f1 0 (0 : Int64) 1) 1)) (gF f2 1 (gF f1 1 (0 : Int64) 1) 1)) (fMa (fMa (0 : Int64) (gF f2 0 (gF f1 0 (0 : Int64) 1) 1)) (gF f2 1 (gF f1 1 (0 : Int64) 1) 1)))), .val (.int (fPn k2 k3 (fMa (0 : Int64) (gF t2 0 (gF t1 0 (0 : Int64) 1) 1)) (fMi (fMi (9223372036854775807 : Int64) (gF t2 0 (gF t1 0 (0 : Int64) 1) 1)) (gF t2 1 (gF t1 1 (0 : Int64) 1) 1)) (fMa (fMa (0 : Int64) (gF t2 0 (gF t1 0 (0 : Int64) 1) 1)) (gF t2 1 (gF t1 1 (0 : Int64) 1) 1)))), .unset] [(.long k5), (.long k4), (.ref y121), (.ref y119)])) rfl (by rw [hml]; rfl) (argsL := [(.ref y119), (.ref y121), (.long k4), (.long k5)]) (rest := []) (lenOf pd0_3 rfl) rfl (by show 2 * 0 + _ ≤ _; exact Nat.le_of_eq rfl) (hb hby at_241) (fun _ _ => ⟨rfl, rfl, (by decide : 22 + 0 ≤ _), (by decide : 81 + 0 ≤ _)⟩)
    dsimp only [Pt.U, Pt.locs, Pt.cells, Pt.slots] at X123 l123 y123 z123 st123 hQ123
    subst l123 y123 z123
    obtain ⟨rfl, N123q, eh123⟩ := hQ123
    have N123 := Fr.app N121 N123q
    refine Go.by st123 ?_
    show Go _ _ _ _ _ _ _ (T123.setTop (mkF m 244 #[.val (.int ids), .val (.int q1), .val (.int q2), .val (.int f1), .val (.int t1), .val (.int f2), .val (.int t2), .val (.int bt1), .val (.int bt2), .val (.ref b101), .val (.long k0), .second, .val (.long k1), .second, .val (.long k2), .second, .val (.long k3), .second, .val (.long k4), .second, .val (.long k5), .second, .val (.int (fPn k0 k1 (fMa (0 : Int64) (gF f2 0 (gF f1 0 (0 : Int64) 1) 1)) (fMi (fMi (9223372036854775807 : Int64) (gF f2 0 (gF f1 0 (0 : Int64) 1) 1)) (gF f2 1 (gF f1 1 (0 : Int64) 1) 1)) (fMa (fMa (0 : Int64) (gF f2 0 (gF f1 0 (0 : Int64) 1) 1)) (gF f2 1 (gF f1 1 (0 : Int64) 1) 1)))), .val (.int (fPn k2 k3 (fMa (0 : Int64) (gF t2 0 (gF t1 0 (0 : Int64) 1) 1)) (fMi (fMi (9223372036854775807 : Int64) (gF t2 0 (gF t1 0 (0 : Int64) 1) 1)) (gF t2 1 (gF t1 1 (0 : Int64) 1) 1)) (fMa (fMa (0 : Int64) (gF t2 0 (gF t1 0 (0 : Int64) 1) 1)) (gF t2 1 (gF t1 1 (0 : Int64) 1) 1)))), .unset] [(.int (fPn k4 k5 (fMa (0 : Int64) (gF f2 0 (gF f1 0 (0 : Int64) bt1.toInt64) bt2.toInt64)) (fMi (fMi (9223372036854775807 : Int64) (gF f2 0 (gF f1 0 (0 : Int64) bt1.toInt64) bt2.toInt64)) (gF f2 1 (gF f1 1 (0 : Int64) bt1.toInt64) bt2.toInt64)) (fMa (fMa (0 : Int64) (gF f2 0 (gF f1 0 (0 : Int64) bt1.toInt64) bt2.toInt64)) (gF f2 1 (gF f1 1 (0 : Int64) bt1.toInt64) bt2.toInt64))))]))
    refine Go.by (fun _ kont => XS.istore X123.here hx rfl (hb hby at_244) rfl (l' := #[.val (.int ids), .val (.int q1), .val (.int q2), .val (.int f1), .val (.int t1), .val (.int f2), .val (.int t2), .val (.int bt1), .val (.int bt2), .val (.ref b101), .val (.long k0), .second, .val (.long k1), .second, .val (.long k2), .second, .val (.long k3), .second, .val (.long k4), .second, .val (.long k5), .second, .val (.int (fPn k0 k1 (fMa (0 : Int64) (gF f2 0 (gF f1 0 (0 : Int64) 1) 1)) (fMi (fMi (9223372036854775807 : Int64) (gF f2 0 (gF f1 0 (0 : Int64) 1) 1)) (gF f2 1 (gF f1 1 (0 : Int64) 1) 1)) (fMa (fMa (0 : Int64) (gF f2 0 (gF f1 0 (0 : Int64) 1) 1)) (gF f2 1 (gF f1 1 (0 : Int64) 1) 1)))), .val (.int (fPn k2 k3 (fMa (0 : Int64) (gF t2 0 (gF t1 0 (0 : Int64) 1) 1)) (fMi (fMi (9223372036854775807 : Int64) (gF t2 0 (gF t1 0 (0 : Int64) 1) 1)) (gF t2 1 (gF t1 1 (0 : Int64) 1) 1)) (fMa (fMa (0 : Int64) (gF t2 0 (gF t1 0 (0 : Int64) 1) 1)) (gF t2 1 (gF t1 1 (0 : Int64) 1) 1)))), .val (.int (fPn k4 k5 (fMa (0 : Int64) (gF f2 0 (gF f1 0 (0 : Int64) bt1.toInt64) bt2.toInt64)) (fMi (fMi (9223372036854775807 : Int64) (gF f2 0 (gF f1 0 (0 : Int64) bt1.toInt64) bt2.toInt64)) (gF f2 1 (gF f1 1 (0 : Int64) bt1.toInt64) bt2.toInt64)) (fMa (fMa (0 : Int64) (gF f2 0 (gF f1 0 (0 : Int64) bt1.toInt64) bt2.toInt64)) (gF f2 1 (gF f1 1 (0 : Int64) bt1.toInt64) bt2.toInt64))))]) rfl (XS.iload X123.here hx rfl (hb hby at_246) rfl kont)) ?_
    show Go _ _ _ _ _ _ _ (T123.setTop (mkF m 248 #[.val (.int ids), .val (.int q1), .val (.int q2), .val (.int f1), .val (.int t1), .val (.int f2), .val (.int t2), .val (.int bt1), .val (.int bt2), .val (.ref b101), .val (.long k0), .second, .val (.long k1), .second, .val (.long k2), .second, .val (.long k3), .second, .val (.long k4), .second, .val (.long k5), .second, .val (.int (fPn k0 k1 (fMa (0 : Int64) (gF f2 0 (gF f1 0 (0 : Int64) 1) 1)) (fMi (fMi (9223372036854775807 : Int64) (gF f2 0 (gF f1 0 (0 : Int64) 1) 1)) (gF f2 1 (gF f1 1 (0 : Int64) 1) 1)) (fMa (fMa (0 : Int64) (gF f2 0 (gF f1 0 (0 : Int64) 1) 1)) (gF f2 1 (gF f1 1 (0 : Int64) 1) 1)))), .val (.int (fPn k2 k3 (fMa (0 : Int64) (gF t2 0 (gF t1 0 (0 : Int64) 1) 1)) (fMi (fMi (9223372036854775807 : Int64) (gF t2 0 (gF t1 0 (0 : Int64) 1) 1)) (gF t2 1 (gF t1 1 (0 : Int64) 1) 1)) (fMa (fMa (0 : Int64) (gF t2 0 (gF t1 0 (0 : Int64) 1) 1)) (gF t2 1 (gF t1 1 (0 : Int64) 1) 1)))), .val (.int (fPn k4 k5 (fMa (0 : Int64) (gF f2 0 (gF f1 0 (0 : Int64) bt1.toInt64) bt2.toInt64)) (fMi (fMi (9223372036854775807 : Int64) (gF f2 0 (gF f1 0 (0 : Int64) bt1.toInt64) bt2.toInt64)) (gF f2 1 (gF f1 1 (0 : Int64) bt1.toInt64) bt2.toInt64)) (fMa (fMa (0 : Int64) (gF f2 0 (gF f1 0 (0 : Int64) bt1.toInt64) bt2.toInt64)) (gF f2 1 (gF f1 1 (0 : Int64) bt1.toInt64) bt2.toInt64))))] [(.int (fPn k0 k1 (fMa (0 : Int64) (gF f2 0 (gF f1 0 (0 : Int64) 1) 1)) (fMi (fMi (9223372036854775807 : Int64) (gF f2 0 (gF f1 0 (0 : Int64) 1) 1)) (gF f2 1 (gF f1 1 (0 : Int64) 1) 1)) (fMa (fMa (0 : Int64) (gF f2 0 (gF f1 0 (0 : Int64) 1) 1)) (gF f2 1 (gF f1 1 (0 : Int64) 1) 1))))]))
    have hd124 : ¬ ((fPn k0 k1 (fMa (0 : Int64) (gF f2 0 (gF f1 0 (0 : Int64) 1) 1)) (fMi (fMi (9223372036854775807 : Int64) (gF f2 0 (gF f1 0 (0 : Int64) 1) 1)) (gF f2 1 (gF f1 1 (0 : Int64) 1) 1)) (fMa (fMa (0 : Int64) (gF f2 0 (gF f1 0 (0 : Int64) 1) 1)) (gF f2 1 (gF f1 1 (0 : Int64) 1) 1))) = (0 : Int32)) := by rw [hk0, hk1, own_pin _ _ Bsent0 Bsent1]; decide
    refine Go.by (fun _ kont => XS.ifNo X123.here hx rfl (hb hby at_248) rfl ((if0 _ _).trans (feq hd124).1) kont) ?_
    show Go _ _ _ _ _ _ _ (T123.setTop (mkF m 251 #[.val (.int ids), .val (.int q1), .val (.int q2), .val (.int f1), .val (.int t1), .val (.int f2), .val (.int t2), .val (.int bt1), .val (.int bt2), .val (.ref b101), .val (.long k0), .second, .val (.long k1), .second, .val (.long k2), .second, .val (.long k3), .second, .val (.long k4), .second, .val (.long k5), .second, .val (.int (fPn k0 k1 (fMa (0 : Int64) (gF f2 0 (gF f1 0 (0 : Int64) 1) 1)) (fMi (fMi (9223372036854775807 : Int64) (gF f2 0 (gF f1 0 (0 : Int64) 1) 1)) (gF f2 1 (gF f1 1 (0 : Int64) 1) 1)) (fMa (fMa (0 : Int64) (gF f2 0 (gF f1 0 (0 : Int64) 1) 1)) (gF f2 1 (gF f1 1 (0 : Int64) 1) 1)))), .val (.int (fPn k2 k3 (fMa (0 : Int64) (gF t2 0 (gF t1 0 (0 : Int64) 1) 1)) (fMi (fMi (9223372036854775807 : Int64) (gF t2 0 (gF t1 0 (0 : Int64) 1) 1)) (gF t2 1 (gF t1 1 (0 : Int64) 1) 1)) (fMa (fMa (0 : Int64) (gF t2 0 (gF t1 0 (0 : Int64) 1) 1)) (gF t2 1 (gF t1 1 (0 : Int64) 1) 1)))), .val (.int (fPn k4 k5 (fMa (0 : Int64) (gF f2 0 (gF f1 0 (0 : Int64) bt1.toInt64) bt2.toInt64)) (fMi (fMi (9223372036854775807 : Int64) (gF f2 0 (gF f1 0 (0 : Int64) bt1.toInt64) bt2.toInt64)) (gF f2 1 (gF f1 1 (0 : Int64) bt1.toInt64) bt2.toInt64)) (fMa (fMa (0 : Int64) (gF f2 0 (gF f1 0 (0 : Int64) bt1.toInt64) bt2.toInt64)) (gF f2 1 (gF f1 1 (0 : Int64) bt1.toInt64) bt2.toInt64))))] []))
    refine Go.by (fun _ kont => XS.iload X123.here hx rfl (hb hby at_251) rfl kont) ?_
    show Go _ _ _ _ _ _ _ (T123.setTop (mkF m 253 #[.val (.int ids), .val (.int q1), .val (.int q2), .val (.int f1), .val (.int t1), .val (.int f2), .val (.int t2), .val (.int bt1), .val (.int bt2), .val (.ref b101), .val (.long k0), .second, .val (.long k1), .second, .val (.long k2), .second, .val (.long k3), .second, .val (.long k4), .second, .val (.long k5), .second, .val (.int (fPn k0 k1 (fMa (0 : Int64) (gF f2 0 (gF f1 0 (0 : Int64) 1) 1)) (fMi (fMi (9223372036854775807 : Int64) (gF f2 0 (gF f1 0 (0 : Int64) 1) 1)) (gF f2 1 (gF f1 1 (0 : Int64) 1) 1)) (fMa (fMa (0 : Int64) (gF f2 0 (gF f1 0 (0 : Int64) 1) 1)) (gF f2 1 (gF f1 1 (0 : Int64) 1) 1)))), .val (.int (fPn k2 k3 (fMa (0 : Int64) (gF t2 0 (gF t1 0 (0 : Int64) 1) 1)) (fMi (fMi (9223372036854775807 : Int64) (gF t2 0 (gF t1 0 (0 : Int64) 1) 1)) (gF t2 1 (gF t1 1 (0 : Int64) 1) 1)) (fMa (fMa (0 : Int64) (gF t2 0 (gF t1 0 (0 : Int64) 1) 1)) (gF t2 1 (gF t1 1 (0 : Int64) 1) 1)))), .val (.int (fPn k4 k5 (fMa (0 : Int64) (gF f2 0 (gF f1 0 (0 : Int64) bt1.toInt64) bt2.toInt64)) (fMi (fMi (9223372036854775807 : Int64) (gF f2 0 (gF f1 0 (0 : Int64) bt1.toInt64) bt2.toInt64)) (gF f2 1 (gF f1 1 (0 : Int64) bt1.toInt64) bt2.toInt64)) (fMa (fMa (0 : Int64) (gF f2 0 (gF f1 0 (0 : Int64) bt1.toInt64) bt2.toInt64)) (gF f2 1 (gF f1 1 (0 : Int64) bt1.toInt64) bt2.toInt64))))] [(.int (fPn k2 k3 (fMa (0 : Int64) (gF t2 0 (gF t1 0 (0 : Int64) 1) 1)) (fMi (fMi (9223372036854775807 : Int64) (gF t2 0 (gF t1 0 (0 : Int64) 1) 1)) (gF t2 1 (gF t1 1 (0 : Int64) 1) 1)) (fMa (fMa (0 : Int64) (gF t2 0 (gF t1 0 (0 : Int64) 1) 1)) (gF t2 1 (gF t1 1 (0 : Int64) 1) 1))))]))
    have hd125 : ¬ ((fPn k2 k3 (fMa (0 : Int64) (gF t2 0 (gF t1 0 (0 : Int64) 1) 1)) (fMi (fMi (9223372036854775807 : Int64) (gF t2 0 (gF t1 0 (0 : Int64) 1) 1)) (gF t2 1 (gF t1 1 (0 : Int64) 1) 1)) (fMa (fMa (0 : Int64) (gF t2 0 (gF t1 0 (0 : Int64) 1) 1)) (gF t2 1 (gF t1 1 (0 : Int64) 1) 1))) = (0 : Int32)) := by rw [hk2, hk3, own_pin _ _ Breceived0 Breceived1]; decide
    refine Go.by (fun _ kont => XS.ifNo X123.here hx rfl (hb hby at_253) rfl ((if0 _ _).trans (feq hd125).1) kont) ?_
    show Go _ _ _ _ _ _ _ (T123.setTop (mkF m 256 #[.val (.int ids), .val (.int q1), .val (.int q2), .val (.int f1), .val (.int t1), .val (.int f2), .val (.int t2), .val (.int bt1), .val (.int bt2), .val (.ref b101), .val (.long k0), .second, .val (.long k1), .second, .val (.long k2), .second, .val (.long k3), .second, .val (.long k4), .second, .val (.long k5), .second, .val (.int (fPn k0 k1 (fMa (0 : Int64) (gF f2 0 (gF f1 0 (0 : Int64) 1) 1)) (fMi (fMi (9223372036854775807 : Int64) (gF f2 0 (gF f1 0 (0 : Int64) 1) 1)) (gF f2 1 (gF f1 1 (0 : Int64) 1) 1)) (fMa (fMa (0 : Int64) (gF f2 0 (gF f1 0 (0 : Int64) 1) 1)) (gF f2 1 (gF f1 1 (0 : Int64) 1) 1)))), .val (.int (fPn k2 k3 (fMa (0 : Int64) (gF t2 0 (gF t1 0 (0 : Int64) 1) 1)) (fMi (fMi (9223372036854775807 : Int64) (gF t2 0 (gF t1 0 (0 : Int64) 1) 1)) (gF t2 1 (gF t1 1 (0 : Int64) 1) 1)) (fMa (fMa (0 : Int64) (gF t2 0 (gF t1 0 (0 : Int64) 1) 1)) (gF t2 1 (gF t1 1 (0 : Int64) 1) 1)))), .val (.int (fPn k4 k5 (fMa (0 : Int64) (gF f2 0 (gF f1 0 (0 : Int64) bt1.toInt64) bt2.toInt64)) (fMi (fMi (9223372036854775807 : Int64) (gF f2 0 (gF f1 0 (0 : Int64) bt1.toInt64) bt2.toInt64)) (gF f2 1 (gF f1 1 (0 : Int64) bt1.toInt64) bt2.toInt64)) (fMa (fMa (0 : Int64) (gF f2 0 (gF f1 0 (0 : Int64) bt1.toInt64) bt2.toInt64)) (gF f2 1 (gF f1 1 (0 : Int64) bt1.toInt64) bt2.toInt64))))] []))
    refine Go.by (fun _ kont => XS.iload X123.here hx rfl (hb hby at_256) rfl kont) ?_
    show Go _ _ _ _ _ _ _ (T123.setTop (mkF m 258 #[.val (.int ids), .val (.int q1), .val (.int q2), .val (.int f1), .val (.int t1), .val (.int f2), .val (.int t2), .val (.int bt1), .val (.int bt2), .val (.ref b101), .val (.long k0), .second, .val (.long k1), .second, .val (.long k2), .second, .val (.long k3), .second, .val (.long k4), .second, .val (.long k5), .second, .val (.int (fPn k0 k1 (fMa (0 : Int64) (gF f2 0 (gF f1 0 (0 : Int64) 1) 1)) (fMi (fMi (9223372036854775807 : Int64) (gF f2 0 (gF f1 0 (0 : Int64) 1) 1)) (gF f2 1 (gF f1 1 (0 : Int64) 1) 1)) (fMa (fMa (0 : Int64) (gF f2 0 (gF f1 0 (0 : Int64) 1) 1)) (gF f2 1 (gF f1 1 (0 : Int64) 1) 1)))), .val (.int (fPn k2 k3 (fMa (0 : Int64) (gF t2 0 (gF t1 0 (0 : Int64) 1) 1)) (fMi (fMi (9223372036854775807 : Int64) (gF t2 0 (gF t1 0 (0 : Int64) 1) 1)) (gF t2 1 (gF t1 1 (0 : Int64) 1) 1)) (fMa (fMa (0 : Int64) (gF t2 0 (gF t1 0 (0 : Int64) 1) 1)) (gF t2 1 (gF t1 1 (0 : Int64) 1) 1)))), .val (.int (fPn k4 k5 (fMa (0 : Int64) (gF f2 0 (gF f1 0 (0 : Int64) bt1.toInt64) bt2.toInt64)) (fMi (fMi (9223372036854775807 : Int64) (gF f2 0 (gF f1 0 (0 : Int64) bt1.toInt64) bt2.toInt64)) (gF f2 1 (gF f1 1 (0 : Int64) bt1.toInt64) bt2.toInt64)) (fMa (fMa (0 : Int64) (gF f2 0 (gF f1 0 (0 : Int64) bt1.toInt64) bt2.toInt64)) (gF f2 1 (gF f1 1 (0 : Int64) bt1.toInt64) bt2.toInt64))))] [(.int (fPn k4 k5 (fMa (0 : Int64) (gF f2 0 (gF f1 0 (0 : Int64) bt1.toInt64) bt2.toInt64)) (fMi (fMi (9223372036854775807 : Int64) (gF f2 0 (gF f1 0 (0 : Int64) bt1.toInt64) bt2.toInt64)) (gF f2 1 (gF f1 1 (0 : Int64) bt1.toInt64) bt2.toInt64)) (fMa (fMa (0 : Int64) (gF f2 0 (gF f1 0 (0 : Int64) bt1.toInt64) bt2.toInt64)) (gF f2 1 (gF f1 1 (0 : Int64) bt1.toInt64) bt2.toInt64))))]))
    have hd126 : ¬ ((fPn k4 k5 (fMa (0 : Int64) (gF f2 0 (gF f1 0 (0 : Int64) bt1.toInt64) bt2.toInt64)) (fMi (fMi (9223372036854775807 : Int64) (gF f2 0 (gF f1 0 (0 : Int64) bt1.toInt64) bt2.toInt64)) (gF f2 1 (gF f1 1 (0 : Int64) bt1.toInt64) bt2.toInt64)) (fMa (fMa (0 : Int64) (gF f2 0 (gF f1 0 (0 : Int64) bt1.toInt64) bt2.toInt64)) (gF f2 1 (gF f1 1 (0 : Int64) bt1.toInt64) bt2.toInt64))) = (0 : Int32)) := by rw [hk4, hk5, own_pin _ _ BbitsSent0 BbitsSent1]; decide
    refine Go.by (fun _ kont => XS.ifNo X123.here hx rfl (hb hby at_258) rfl ((if0 _ _).trans (feq hd126).1) kont) ?_
    show Go _ _ _ _ _ _ _ (T123.setTop (mkF m 261 #[.val (.int ids), .val (.int q1), .val (.int q2), .val (.int f1), .val (.int t1), .val (.int f2), .val (.int t2), .val (.int bt1), .val (.int bt2), .val (.ref b101), .val (.long k0), .second, .val (.long k1), .second, .val (.long k2), .second, .val (.long k3), .second, .val (.long k4), .second, .val (.long k5), .second, .val (.int (fPn k0 k1 (fMa (0 : Int64) (gF f2 0 (gF f1 0 (0 : Int64) 1) 1)) (fMi (fMi (9223372036854775807 : Int64) (gF f2 0 (gF f1 0 (0 : Int64) 1) 1)) (gF f2 1 (gF f1 1 (0 : Int64) 1) 1)) (fMa (fMa (0 : Int64) (gF f2 0 (gF f1 0 (0 : Int64) 1) 1)) (gF f2 1 (gF f1 1 (0 : Int64) 1) 1)))), .val (.int (fPn k2 k3 (fMa (0 : Int64) (gF t2 0 (gF t1 0 (0 : Int64) 1) 1)) (fMi (fMi (9223372036854775807 : Int64) (gF t2 0 (gF t1 0 (0 : Int64) 1) 1)) (gF t2 1 (gF t1 1 (0 : Int64) 1) 1)) (fMa (fMa (0 : Int64) (gF t2 0 (gF t1 0 (0 : Int64) 1) 1)) (gF t2 1 (gF t1 1 (0 : Int64) 1) 1)))), .val (.int (fPn k4 k5 (fMa (0 : Int64) (gF f2 0 (gF f1 0 (0 : Int64) bt1.toInt64) bt2.toInt64)) (fMi (fMi (9223372036854775807 : Int64) (gF f2 0 (gF f1 0 (0 : Int64) bt1.toInt64) bt2.toInt64)) (gF f2 1 (gF f1 1 (0 : Int64) bt1.toInt64) bt2.toInt64)) (fMa (fMa (0 : Int64) (gF f2 0 (gF f1 0 (0 : Int64) bt1.toInt64) bt2.toInt64)) (gF f2 1 (gF f1 1 (0 : Int64) bt1.toInt64) bt2.toInt64))))] []))
    refine Go.by (fun _ kont => XS.iconst X123.here hx rfl (hb hby at_261) (XS.goto X123.here hx rfl (pc0 := 262) (pc' := 266) rfl (hb hby at_262) (by decide) (by decide) kont)) ?_
    show Go _ _ _ _ _ _ _ (T123.setTop (mkF m 266 #[.val (.int ids), .val (.int q1), .val (.int q2), .val (.int f1), .val (.int t1), .val (.int f2), .val (.int t2), .val (.int bt1), .val (.int bt2), .val (.ref b101), .val (.long k0), .second, .val (.long k1), .second, .val (.long k2), .second, .val (.long k3), .second, .val (.long k4), .second, .val (.long k5), .second, .val (.int (fPn k0 k1 (fMa (0 : Int64) (gF f2 0 (gF f1 0 (0 : Int64) 1) 1)) (fMi (fMi (9223372036854775807 : Int64) (gF f2 0 (gF f1 0 (0 : Int64) 1) 1)) (gF f2 1 (gF f1 1 (0 : Int64) 1) 1)) (fMa (fMa (0 : Int64) (gF f2 0 (gF f1 0 (0 : Int64) 1) 1)) (gF f2 1 (gF f1 1 (0 : Int64) 1) 1)))), .val (.int (fPn k2 k3 (fMa (0 : Int64) (gF t2 0 (gF t1 0 (0 : Int64) 1) 1)) (fMi (fMi (9223372036854775807 : Int64) (gF t2 0 (gF t1 0 (0 : Int64) 1) 1)) (gF t2 1 (gF t1 1 (0 : Int64) 1) 1)) (fMa (fMa (0 : Int64) (gF t2 0 (gF t1 0 (0 : Int64) 1) 1)) (gF t2 1 (gF t1 1 (0 : Int64) 1) 1)))), .val (.int (fPn k4 k5 (fMa (0 : Int64) (gF f2 0 (gF f1 0 (0 : Int64) bt1.toInt64) bt2.toInt64)) (fMi (fMi (9223372036854775807 : Int64) (gF f2 0 (gF f1 0 (0 : Int64) bt1.toInt64) bt2.toInt64)) (gF f2 1 (gF f1 1 (0 : Int64) bt1.toInt64) bt2.toInt64)) (fMa (fMa (0 : Int64) (gF f2 0 (gF f1 0 (0 : Int64) bt1.toInt64) bt2.toInt64)) (gF f2 1 (gF f1 1 (0 : Int64) bt1.toInt64) bt2.toInt64))))] [(.int (1 : Int32))]))
    refine Go.retN X123 hx (t := .boolean) hret (by simp) hlk (hb hby at_266) ?_ (by decide) (by decide)
    show Q0 Z h0 n0 (some (.int (1 : Int32))) T123.heap _
    rw [eh123]
    exact ⟨rfl, N123⟩
  show Go _ _ _ _ _ _ _ (T107.setTop (mkF m 68 #[.val (.int ids), .val (.int q1), .val (.int q2), .val (.int f1), .val (.int t1), .val (.int f2), .val (.int t2), .val (.int bt1), .val (.int bt2), .val (.ref b101), .unset, .unset, .unset, .unset, .unset, .unset, .unset, .unset, .unset, .unset, .unset, .unset, .unset, .unset, .unset] []))
  refine Go.by (fun _ kont => XS.iloadN X107.here hx rfl (hb hby at_68) rfl kont) ?_
  show Go _ _ _ _ _ _ _ (T107.setTop (mkF m 69 #[.val (.int ids), .val (.int q1), .val (.int q2), .val (.int f1), .val (.int t1), .val (.int f2), .val (.int t2), .val (.int bt1), .val (.int bt2), .val (.ref b101), .unset, .unset, .unset, .unset, .unset, .unset, .unset, .unset, .unset, .unset, .unset, .unset, .unset, .unset, .unset] [(.int f1)]))
  by_cases hc127 : f1 = (0 : Int32)
  · refine Go.by (fun _ kont => XS.ifNo X107.here hx rfl (hb hby at_69) rfl ((if0 _ _).trans (teq hc127).2) kont) ?_
    show Go _ _ _ _ _ _ _ (T107.setTop (mkF m 72 #[.val (.int ids), .val (.int q1), .val (.int q2), .val (.int f1), .val (.int t1), .val (.int f2), .val (.int t2), .val (.int bt1), .val (.int bt2), .val (.ref b101), .unset, .unset, .unset, .unset, .unset, .unset, .unset, .unset, .unset, .unset, .unset, .unset, .unset, .unset, .unset] []))
    refine Go.by (fun _ kont => XS.lconst X107.here hx rfl (hb hby at_72) (XS.goto X107.here hx rfl (pc0 := 73) (pc' := 77) rfl (hb hby at_73) (by decide) (by decide) (XS.iload X107.here hx rfl (hb hby at_77) rfl kont))) ?_
    show Go _ _ _ _ _ _ _ (T107.setTop (mkF m 79 #[.val (.int ids), .val (.int q1), .val (.int q2), .val (.int f1), .val (.int t1), .val (.int f2), .val (.int t2), .val (.int bt1), .val (.int bt2), .val (.ref b101), .unset, .unset, .unset, .unset, .unset, .unset, .unset, .unset, .unset, .unset, .unset, .unset, .unset, .unset, .unset] [(.int f2), (.long (1 : Int64))]))
    by_cases hc128 : f2 = (0 : Int32)
    · refine Go.by (fun _ kont => XS.ifNo X107.here hx rfl (hb hby at_79) rfl ((if0 _ _).trans (teq hc128).2) kont) ?_
      show Go _ _ _ _ _ _ _ (T107.setTop (mkF m 82 #[.val (.int ids), .val (.int q1), .val (.int q2), .val (.int f1), .val (.int t1), .val (.int f2), .val (.int t2), .val (.int bt1), .val (.int bt2), .val (.ref b101), .unset, .unset, .unset, .unset, .unset, .unset, .unset, .unset, .unset, .unset, .unset, .unset, .unset, .unset, .unset] [(.long (1 : Int64))]))
      refine Go.by (fun _ kont => XS.lconst X107.here hx rfl (hb hby at_82) (XS.goto X107.here hx rfl (pc0 := 83) (pc' := 87) rfl (hb hby at_83) (by decide) (by decide) (XS.ladd X107.here hx rfl (hb hby at_87) rfl kont))) ?_
      show Go _ _ _ _ _ _ _ (T107.setTop (mkF m 88 #[.val (.int ids), .val (.int q1), .val (.int q2), .val (.int f1), .val (.int t1), .val (.int f2), .val (.int t2), .val (.int bt1), .val (.int bt2), .val (.ref b101), .unset, .unset, .unset, .unset, .unset, .unset, .unset, .unset, .unset, .unset, .unset, .unset, .unset, .unset, .unset] [(.long ((1 : Int64) + (1 : Int64)))]))
      rw [show ((1 : Int64) + (1 : Int64)) = (2 : Int64) from by decide]
      show Go _ _ _ _ _ _ _ (T107.setTop (mkF m 88 #[.val (.int ids), .val (.int q1), .val (.int q2), .val (.int f1), .val (.int t1), .val (.int f2), .val (.int t2), .val (.int bt1), .val (.int bt2), .val (.ref b101), .unset, .unset, .unset, .unset, .unset, .unset, .unset, .unset, .unset, .unset, .unset, .unset, .unset, .unset, .unset] [(.long (2 : Int64))]))
      refine Go.by (fun _ kont => XS.lstore X107.here hx rfl (hb hby at_88) rfl (l' := #[.val (.int ids), .val (.int q1), .val (.int q2), .val (.int f1), .val (.int t1), .val (.int f2), .val (.int t2), .val (.int bt1), .val (.int bt2), .val (.ref b101), .val (.long (2 : Int64)), .second, .unset, .unset, .unset, .unset, .unset, .unset, .unset, .unset, .unset, .unset, .unset, .unset, .unset]) rfl (X107.ldc2Long hx hown (mvT hZ (hw _ (List.mem_of_getElem? (i := 22) rfl))) (g := (mkF m 90 #[.val (.int ids), .val (.int q1), .val (.int q2), .val (.int f1), .val (.int t1), .val (.int f2), .val (.int t2), .val (.int bt1), .val (.int bt2), .val (.ref b101), .val (.long (2 : Int64)), .second, .unset, .unset, .unset, .unset, .unset, .unset, .unset, .unset, .unset, .unset, .unset, .unset, .unset] [])) rfl (hb hby at_90) _ (XS.lload X107.here hx rfl (hb hby at_93) rfl (XS.lsub X107.here hx rfl (hb hby at_95) rfl kont)))) ?_
      show Go _ _ _ _ _ _ _ (T107.setTop (mkF m 96 #[.val (.int ids), .val (.int q1), .val (.int q2), .val (.int f1), .val (.int t1), .val (.int f2), .val (.int t2), .val (.int bt1), .val (.int bt2), .val (.ref b101), .val (.long (2 : Int64)), .second, .unset, .unset, .unset, .unset, .unset, .unset, .unset, .unset, .unset, .unset, .unset, .unset, .unset] [(.long ((2 : Int64) - (2 : Int64)))]))
      rw [show ((2 : Int64) - (2 : Int64)) = (0 : Int64) from by decide]
      show Go _ _ _ _ _ _ _ (T107.setTop (mkF m 96 #[.val (.int ids), .val (.int q1), .val (.int q2), .val (.int f1), .val (.int t1), .val (.int f2), .val (.int t2), .val (.int bt1), .val (.int bt2), .val (.ref b101), .val (.long (2 : Int64)), .second, .unset, .unset, .unset, .unset, .unset, .unset, .unset, .unset, .unset, .unset, .unset, .unset, .unset] [(.long (0 : Int64))]))
      refine Go.by (fun _ kont => XS.lstore X107.here hx rfl (hb hby at_96) rfl (l' := #[.val (.int ids), .val (.int q1), .val (.int q2), .val (.int f1), .val (.int t1), .val (.int f2), .val (.int t2), .val (.int bt1), .val (.int bt2), .val (.ref b101), .val (.long (2 : Int64)), .second, .val (.long (0 : Int64)), .second, .unset, .unset, .unset, .unset, .unset, .unset, .unset, .unset, .unset, .unset, .unset]) rfl (XS.iload X107.here hx rfl (hb hby at_98) rfl kont)) ?_
      show Go _ _ _ _ _ _ _ (T107.setTop (mkF m 100 #[.val (.int ids), .val (.int q1), .val (.int q2), .val (.int f1), .val (.int t1), .val (.int f2), .val (.int t2), .val (.int bt1), .val (.int bt2), .val (.ref b101), .val (.long (2 : Int64)), .second, .val (.long (0 : Int64)), .second, .unset, .unset, .unset, .unset, .unset, .unset, .unset, .unset, .unset, .unset, .unset] [(.int t1)]))
      by_cases hc129 : t1 = (0 : Int32)
      · refine Go.by (fun _ kont => XS.ifNo X107.here hx rfl (hb hby at_100) rfl ((if0 _ _).trans (teq hc129).2) kont) ?_
        show Go _ _ _ _ _ _ _ (T107.setTop (mkF m 103 #[.val (.int ids), .val (.int q1), .val (.int q2), .val (.int f1), .val (.int t1), .val (.int f2), .val (.int t2), .val (.int bt1), .val (.int bt2), .val (.ref b101), .val (.long (2 : Int64)), .second, .val (.long (0 : Int64)), .second, .unset, .unset, .unset, .unset, .unset, .unset, .unset, .unset, .unset, .unset, .unset] []))
        refine Go.by (fun _ kont => XS.lconst X107.here hx rfl (hb hby at_103) (XS.goto X107.here hx rfl (pc0 := 104) (pc' := 108) rfl (hb hby at_104) (by decide) (by decide) (XS.iload X107.here hx rfl (hb hby at_108) rfl kont))) ?_
        show Go _ _ _ _ _ _ _ (T107.setTop (mkF m 110 #[.val (.int ids), .val (.int q1), .val (.int q2), .val (.int f1), .val (.int t1), .val (.int f2), .val (.int t2), .val (.int bt1), .val (.int bt2), .val (.ref b101), .val (.long (2 : Int64)), .second, .val (.long (0 : Int64)), .second, .unset, .unset, .unset, .unset, .unset, .unset, .unset, .unset, .unset, .unset, .unset] [(.int t2), (.long (1 : Int64))]))
        by_cases hc130 : t2 = (0 : Int32)
        · refine Go.by (fun _ kont => XS.ifNo X107.here hx rfl (hb hby at_110) rfl ((if0 _ _).trans (teq hc130).2) kont) ?_
          show Go _ _ _ _ _ _ _ (T107.setTop (mkF m 113 #[.val (.int ids), .val (.int q1), .val (.int q2), .val (.int f1), .val (.int t1), .val (.int f2), .val (.int t2), .val (.int bt1), .val (.int bt2), .val (.ref b101), .val (.long (2 : Int64)), .second, .val (.long (0 : Int64)), .second, .unset, .unset, .unset, .unset, .unset, .unset, .unset, .unset, .unset, .unset, .unset] [(.long (1 : Int64))]))
          refine Go.by (fun _ kont => XS.lconst X107.here hx rfl (hb hby at_113) (XS.goto X107.here hx rfl (pc0 := 114) (pc' := 118) rfl (hb hby at_114) (by decide) (by decide) (XS.ladd X107.here hx rfl (hb hby at_118) rfl kont))) ?_
          show Go _ _ _ _ _ _ _ (T107.setTop (mkF m 119 #[.val (.int ids), .val (.int q1), .val (.int q2), .val (.int f1), .val (.int t1), .val (.int f2), .val (.int t2), .val (.int bt1), .val (.int bt2), .val (.ref b101), .val (.long (2 : Int64)), .second, .val (.long (0 : Int64)), .second, .unset, .unset, .unset, .unset, .unset, .unset, .unset, .unset, .unset, .unset, .unset] [(.long ((1 : Int64) + (1 : Int64)))]))
          rw [show ((1 : Int64) + (1 : Int64)) = (2 : Int64) from by decide]
          show Go _ _ _ _ _ _ _ (T107.setTop (mkF m 119 #[.val (.int ids), .val (.int q1), .val (.int q2), .val (.int f1), .val (.int t1), .val (.int f2), .val (.int t2), .val (.int bt1), .val (.int bt2), .val (.ref b101), .val (.long (2 : Int64)), .second, .val (.long (0 : Int64)), .second, .unset, .unset, .unset, .unset, .unset, .unset, .unset, .unset, .unset, .unset, .unset] [(.long (2 : Int64))]))
          refine Go.by (fun _ kont => XS.lstore X107.here hx rfl (hb hby at_119) rfl (l' := #[.val (.int ids), .val (.int q1), .val (.int q2), .val (.int f1), .val (.int t1), .val (.int f2), .val (.int t2), .val (.int bt1), .val (.int bt2), .val (.ref b101), .val (.long (2 : Int64)), .second, .val (.long (0 : Int64)), .second, .val (.long (2 : Int64)), .second, .unset, .unset, .unset, .unset, .unset, .unset, .unset, .unset, .unset]) rfl (X107.ldc2Long hx hown (mvT hZ (hw _ (List.mem_of_getElem? (i := 22) rfl))) (g := (mkF m 121 #[.val (.int ids), .val (.int q1), .val (.int q2), .val (.int f1), .val (.int t1), .val (.int f2), .val (.int t2), .val (.int bt1), .val (.int bt2), .val (.ref b101), .val (.long (2 : Int64)), .second, .val (.long (0 : Int64)), .second, .val (.long (2 : Int64)), .second, .unset, .unset, .unset, .unset, .unset, .unset, .unset, .unset, .unset] [])) rfl (hb hby at_121) _ (XS.lload X107.here hx rfl (hb hby at_124) rfl (XS.lsub X107.here hx rfl (hb hby at_126) rfl kont)))) ?_
          show Go _ _ _ _ _ _ _ (T107.setTop (mkF m 127 #[.val (.int ids), .val (.int q1), .val (.int q2), .val (.int f1), .val (.int t1), .val (.int f2), .val (.int t2), .val (.int bt1), .val (.int bt2), .val (.ref b101), .val (.long (2 : Int64)), .second, .val (.long (0 : Int64)), .second, .val (.long (2 : Int64)), .second, .unset, .unset, .unset, .unset, .unset, .unset, .unset, .unset, .unset] [(.long ((2 : Int64) - (2 : Int64)))]))
          rw [show ((2 : Int64) - (2 : Int64)) = (0 : Int64) from by decide]
          show Go _ _ _ _ _ _ _ (T107.setTop (mkF m 127 #[.val (.int ids), .val (.int q1), .val (.int q2), .val (.int f1), .val (.int t1), .val (.int f2), .val (.int t2), .val (.int bt1), .val (.int bt2), .val (.ref b101), .val (.long (2 : Int64)), .second, .val (.long (0 : Int64)), .second, .val (.long (2 : Int64)), .second, .unset, .unset, .unset, .unset, .unset, .unset, .unset, .unset, .unset] [(.long (0 : Int64))]))
          refine Go.by (fun _ kont => XS.lstore X107.here hx rfl (hb hby at_127) rfl (l' := #[.val (.int ids), .val (.int q1), .val (.int q2), .val (.int f1), .val (.int t1), .val (.int f2), .val (.int t2), .val (.int bt1), .val (.int bt2), .val (.ref b101), .val (.long (2 : Int64)), .second, .val (.long (0 : Int64)), .second, .val (.long (2 : Int64)), .second, .val (.long (0 : Int64)), .second, .unset, .unset, .unset, .unset, .unset, .unset, .unset]) rfl (XS.iloadN X107.here hx rfl (hb hby at_129) rfl kont)) ?_
          show Go _ _ _ _ _ _ _ (T107.setTop (mkF m 130 #[.val (.int ids), .val (.int q1), .val (.int q2), .val (.int f1), .val (.int t1), .val (.int f2), .val (.int t2), .val (.int bt1), .val (.int bt2), .val (.ref b101), .val (.long (2 : Int64)), .second, .val (.long (0 : Int64)), .second, .val (.long (2 : Int64)), .second, .val (.long (0 : Int64)), .second, .unset, .unset, .unset, .unset, .unset, .unset, .unset] [(.int f1)]))
          refine Go.by (fun _ kont => XS.ifNo X107.here hx rfl (hb hby at_130) rfl ((if0 _ _).trans (teq hc127).2) kont) ?_
          show Go _ _ _ _ _ _ _ (T107.setTop (mkF m 133 #[.val (.int ids), .val (.int q1), .val (.int q2), .val (.int f1), .val (.int t1), .val (.int f2), .val (.int t2), .val (.int bt1), .val (.int bt2), .val (.ref b101), .val (.long (2 : Int64)), .second, .val (.long (0 : Int64)), .second, .val (.long (2 : Int64)), .second, .val (.long (0 : Int64)), .second, .unset, .unset, .unset, .unset, .unset, .unset, .unset] []))
          refine Go.by (fun _ kont => XS.iload X107.here hx rfl (hb hby at_133) rfl (XS.i2l X107.here hx rfl (hb hby at_135) rfl (XS.goto X107.here hx rfl (pc0 := 136) (pc' := 140) rfl (hb hby at_136) (by decide) (by decide) (XS.iload X107.here hx rfl (hb hby at_140) rfl kont)))) ?_
          show Go _ _ _ _ _ _ _ (T107.setTop (mkF m 142 #[.val (.int ids), .val (.int q1), .val (.int q2), .val (.int f1), .val (.int t1), .val (.int f2), .val (.int t2), .val (.int bt1), .val (.int bt2), .val (.ref b101), .val (.long (2 : Int64)), .second, .val (.long (0 : Int64)), .second, .val (.long (2 : Int64)), .second, .val (.long (0 : Int64)), .second, .unset, .unset, .unset, .unset, .unset, .unset, .unset] [(.int f2), (.long (bt1.toInt64))]))
          refine Go.by (fun _ kont => XS.ifNo X107.here hx rfl (hb hby at_142) rfl ((if0 _ _).trans (teq hc128).2) kont) ?_
          show Go _ _ _ _ _ _ _ (T107.setTop (mkF m 145 #[.val (.int ids), .val (.int q1), .val (.int q2), .val (.int f1), .val (.int t1), .val (.int f2), .val (.int t2), .val (.int bt1), .val (.int bt2), .val (.ref b101), .val (.long (2 : Int64)), .second, .val (.long (0 : Int64)), .second, .val (.long (2 : Int64)), .second, .val (.long (0 : Int64)), .second, .unset, .unset, .unset, .unset, .unset, .unset, .unset] [(.long (bt1.toInt64))]))
          refine Go.by (fun _ kont => XS.iload X107.here hx rfl (hb hby at_145) rfl (XS.i2l X107.here hx rfl (hb hby at_147) rfl (XS.goto X107.here hx rfl (pc0 := 148) (pc' := 152) rfl (hb hby at_148) (by decide) (by decide) (XS.ladd X107.here hx rfl (hb hby at_152) rfl (XS.lstore X107.here hx rfl (hb hby at_153) rfl (l' := #[.val (.int ids), .val (.int q1), .val (.int q2), .val (.int f1), .val (.int t1), .val (.int f2), .val (.int t2), .val (.int bt1), .val (.int bt2), .val (.ref b101), .val (.long (2 : Int64)), .second, .val (.long (0 : Int64)), .second, .val (.long (2 : Int64)), .second, .val (.long (0 : Int64)), .second, .val (.long ((bt1.toInt64) + (bt2.toInt64))), .second, .unset, .unset, .unset, .unset, .unset]) rfl (XS.iloadN X107.here hx rfl (hb hby at_155) rfl kont)))))) ?_
          show Go _ _ _ _ _ _ _ (T107.setTop (mkF m 156 #[.val (.int ids), .val (.int q1), .val (.int q2), .val (.int f1), .val (.int t1), .val (.int f2), .val (.int t2), .val (.int bt1), .val (.int bt2), .val (.ref b101), .val (.long (2 : Int64)), .second, .val (.long (0 : Int64)), .second, .val (.long (2 : Int64)), .second, .val (.long (0 : Int64)), .second, .val (.long ((bt1.toInt64) + (bt2.toInt64))), .second, .unset, .unset, .unset, .unset, .unset] [(.int f1)]))
          refine Go.by (fun _ kont => XS.iconst X107.here hx rfl (hb hby at_156) kont) ?_
          show Go _ _ _ _ _ _ _ (T107.setTop (mkF m 157 #[.val (.int ids), .val (.int q1), .val (.int q2), .val (.int f1), .val (.int t1), .val (.int f2), .val (.int t2), .val (.int bt1), .val (.int bt2), .val (.ref b101), .val (.long (2 : Int64)), .second, .val (.long (0 : Int64)), .second, .val (.long (2 : Int64)), .second, .val (.long (0 : Int64)), .second, .val (.long ((bt1.toInt64) + (bt2.toInt64))), .second, .unset, .unset, .unset, .unset, .unset] [(.int (1 : Int32)), (.int f1)]))
          have hd131 : ¬ (f1 = (1 : Int32)) := by rw [hc127]; decide
          refine Go.by (fun _ kont => XS.icmpYes X107.here hx rfl (pc0 := 157) (pc' := 166) rfl (hb hby at_157) rfl (feq hd131).2 (by decide) (by decide) kont) ?_
          show Go _ _ _ _ _ _ _ (T107.setTop (mkF m 166 #[.val (.int ids), .val (.int q1), .val (.int q2), .val (.int f1), .val (.int t1), .val (.int f2), .val (.int t2), .val (.int bt1), .val (.int bt2), .val (.ref b101), .val (.long (2 : Int64)), .second, .val (.long (0 : Int64)), .second, .val (.long (2 : Int64)), .second, .val (.long (0 : Int64)), .second, .val (.long ((bt1.toInt64) + (bt2.toInt64))), .second, .unset, .unset, .unset, .unset, .unset] []))
          refine Go.by (fun _ kont => XS.lconst X107.here hx rfl (hb hby at_166) (XS.iload X107.here hx rfl (hb hby at_167) rfl (XS.iconst X107.here hx rfl (hb hby at_169) kont))) ?_
          show Go _ _ _ _ _ _ _ (T107.setTop (mkF m 170 #[.val (.int ids), .val (.int q1), .val (.int q2), .val (.int f1), .val (.int t1), .val (.int f2), .val (.int t2), .val (.int bt1), .val (.int bt2), .val (.ref b101), .val (.long (2 : Int64)), .second, .val (.long (0 : Int64)), .second, .val (.long (2 : Int64)), .second, .val (.long (0 : Int64)), .second, .val (.long ((bt1.toInt64) + (bt2.toInt64))), .second, .unset, .unset, .unset, .unset, .unset] [(.int (1 : Int32)), (.int f2), (.long (0 : Int64))]))
          have hd132 : ¬ (f2 = (1 : Int32)) := by rw [hc128]; decide
          refine Go.by (fun _ kont => XS.icmpYes X107.here hx rfl (pc0 := 170) (pc' := 179) rfl (hb hby at_170) rfl (feq hd132).2 (by decide) (by decide) kont) ?_
          show Go _ _ _ _ _ _ _ (T107.setTop (mkF m 179 #[.val (.int ids), .val (.int q1), .val (.int q2), .val (.int f1), .val (.int t1), .val (.int f2), .val (.int t2), .val (.int bt1), .val (.int bt2), .val (.ref b101), .val (.long (2 : Int64)), .second, .val (.long (0 : Int64)), .second, .val (.long (2 : Int64)), .second, .val (.long (0 : Int64)), .second, .val (.long ((bt1.toInt64) + (bt2.toInt64))), .second, .unset, .unset, .unset, .unset, .unset] [(.long (0 : Int64))]))
          refine Go.by (fun _ kont => XS.lconst X107.here hx rfl (hb hby at_179) (XS.ladd X107.here hx rfl (hb hby at_180) rfl kont)) ?_
          show Go _ _ _ _ _ _ _ (T107.setTop (mkF m 181 #[.val (.int ids), .val (.int q1), .val (.int q2), .val (.int f1), .val (.int t1), .val (.int f2), .val (.int t2), .val (.int bt1), .val (.int bt2), .val (.ref b101), .val (.long (2 : Int64)), .second, .val (.long (0 : Int64)), .second, .val (.long (2 : Int64)), .second, .val (.long (0 : Int64)), .second, .val (.long ((bt1.toInt64) + (bt2.toInt64))), .second, .unset, .unset, .unset, .unset, .unset] [(.long ((0 : Int64) + (0 : Int64)))]))
          rw [show ((0 : Int64) + (0 : Int64)) = (0 : Int64) from by decide]
          show Go _ _ _ _ _ _ _ (T107.setTop (mkF m 181 #[.val (.int ids), .val (.int q1), .val (.int q2), .val (.int f1), .val (.int t1), .val (.int f2), .val (.int t2), .val (.int bt1), .val (.int bt2), .val (.ref b101), .val (.long (2 : Int64)), .second, .val (.long (0 : Int64)), .second, .val (.long (2 : Int64)), .second, .val (.long (0 : Int64)), .second, .val (.long ((bt1.toInt64) + (bt2.toInt64))), .second, .unset, .unset, .unset, .unset, .unset] [(.long (0 : Int64))]))
          refine Go.by (fun _ kont => XS.lstore X107.here hx rfl (hb hby at_181) rfl (l' := #[.val (.int ids), .val (.int q1), .val (.int q2), .val (.int f1), .val (.int t1), .val (.int f2), .val (.int t2), .val (.int bt1), .val (.int bt2), .val (.ref b101), .val (.long (2 : Int64)), .second, .val (.long (0 : Int64)), .second, .val (.long (2 : Int64)), .second, .val (.long (0 : Int64)), .second, .val (.long ((bt1.toInt64) + (bt2.toInt64))), .second, .val (.long (0 : Int64)), .second, .unset, .unset, .unset]) rfl kont) ?_
          show Go _ _ _ _ _ _ _ (T107.setTop (mkF m 183 #[.val (.int ids), .val (.int q1), .val (.int q2), .val (.int f1), .val (.int t1), .val (.int f2), .val (.int t2), .val (.int bt1), .val (.int bt2), .val (.ref b101), .val (.long (2 : Int64)), .second, .val (.long (0 : Int64)), .second, .val (.long (2 : Int64)), .second, .val (.long (0 : Int64)), .second, .val (.long ((bt1.toInt64) + (bt2.toInt64))), .second, .val (.long (0 : Int64)), .second, .unset, .unset, .unset] []))
          refine cut183 (2 : Int64) (0 : Int64) (2 : Int64) (0 : Int64) ((bt1.toInt64) + (bt2.toInt64)) (0 : Int64) ?_ ?_ ?_ ?_ ?_ ?_
          all_goals (unfold gF)
          all_goals (first | rfl | (simp [hc127, hc128, hc129, hc130, hd131, hd132]) | (simp [hc127, hc128, hc129, hc130, hd131, hd132] <;> decide))
        · refine Go.by (fun _ kont => XS.ifYes X107.here hx rfl (pc0 := 110) (pc' := 117) rfl (hb hby at_110) rfl ((if0 _ _).trans (feq hc130).2) (by decide) (by decide) kont) ?_
          show Go _ _ _ _ _ _ _ (T107.setTop (mkF m 117 #[.val (.int ids), .val (.int q1), .val (.int q2), .val (.int f1), .val (.int t1), .val (.int f2), .val (.int t2), .val (.int bt1), .val (.int bt2), .val (.ref b101), .val (.long (2 : Int64)), .second, .val (.long (0 : Int64)), .second, .unset, .unset, .unset, .unset, .unset, .unset, .unset, .unset, .unset, .unset, .unset] [(.long (1 : Int64))]))
          refine Go.by (fun _ kont => XS.lconst X107.here hx rfl (hb hby at_117) (XS.ladd X107.here hx rfl (hb hby at_118) rfl kont)) ?_
          show Go _ _ _ _ _ _ _ (T107.setTop (mkF m 119 #[.val (.int ids), .val (.int q1), .val (.int q2), .val (.int f1), .val (.int t1), .val (.int f2), .val (.int t2), .val (.int bt1), .val (.int bt2), .val (.ref b101), .val (.long (2 : Int64)), .second, .val (.long (0 : Int64)), .second, .unset, .unset, .unset, .unset, .unset, .unset, .unset, .unset, .unset, .unset, .unset] [(.long ((1 : Int64) + (0 : Int64)))]))
          rw [show ((1 : Int64) + (0 : Int64)) = (1 : Int64) from by decide]
          show Go _ _ _ _ _ _ _ (T107.setTop (mkF m 119 #[.val (.int ids), .val (.int q1), .val (.int q2), .val (.int f1), .val (.int t1), .val (.int f2), .val (.int t2), .val (.int bt1), .val (.int bt2), .val (.ref b101), .val (.long (2 : Int64)), .second, .val (.long (0 : Int64)), .second, .unset, .unset, .unset, .unset, .unset, .unset, .unset, .unset, .unset, .unset, .unset] [(.long (1 : Int64))]))
          refine Go.by (fun _ kont => XS.lstore X107.here hx rfl (hb hby at_119) rfl (l' := #[.val (.int ids), .val (.int q1), .val (.int q2), .val (.int f1), .val (.int t1), .val (.int f2), .val (.int t2), .val (.int bt1), .val (.int bt2), .val (.ref b101), .val (.long (2 : Int64)), .second, .val (.long (0 : Int64)), .second, .val (.long (1 : Int64)), .second, .unset, .unset, .unset, .unset, .unset, .unset, .unset, .unset, .unset]) rfl (X107.ldc2Long hx hown (mvT hZ (hw _ (List.mem_of_getElem? (i := 22) rfl))) (g := (mkF m 121 #[.val (.int ids), .val (.int q1), .val (.int q2), .val (.int f1), .val (.int t1), .val (.int f2), .val (.int t2), .val (.int bt1), .val (.int bt2), .val (.ref b101), .val (.long (2 : Int64)), .second, .val (.long (0 : Int64)), .second, .val (.long (1 : Int64)), .second, .unset, .unset, .unset, .unset, .unset, .unset, .unset, .unset, .unset] [])) rfl (hb hby at_121) _ (XS.lload X107.here hx rfl (hb hby at_124) rfl (XS.lsub X107.here hx rfl (hb hby at_126) rfl kont)))) ?_
          show Go _ _ _ _ _ _ _ (T107.setTop (mkF m 127 #[.val (.int ids), .val (.int q1), .val (.int q2), .val (.int f1), .val (.int t1), .val (.int f2), .val (.int t2), .val (.int bt1), .val (.int bt2), .val (.ref b101), .val (.long (2 : Int64)), .second, .val (.long (0 : Int64)), .second, .val (.long (1 : Int64)), .second, .unset, .unset, .unset, .unset, .unset, .unset, .unset, .unset, .unset] [(.long ((2 : Int64) - (1 : Int64)))]))
          rw [show ((2 : Int64) - (1 : Int64)) = (1 : Int64) from by decide]
          show Go _ _ _ _ _ _ _ (T107.setTop (mkF m 127 #[.val (.int ids), .val (.int q1), .val (.int q2), .val (.int f1), .val (.int t1), .val (.int f2), .val (.int t2), .val (.int bt1), .val (.int bt2), .val (.ref b101), .val (.long (2 : Int64)), .second, .val (.long (0 : Int64)), .second, .val (.long (1 : Int64)), .second, .unset, .unset, .unset, .unset, .unset, .unset, .unset, .unset, .unset] [(.long (1 : Int64))]))
          refine Go.by (fun _ kont => XS.lstore X107.here hx rfl (hb hby at_127) rfl (l' := #[.val (.int ids), .val (.int q1), .val (.int q2), .val (.int f1), .val (.int t1), .val (.int f2), .val (.int t2), .val (.int bt1), .val (.int bt2), .val (.ref b101), .val (.long (2 : Int64)), .second, .val (.long (0 : Int64)), .second, .val (.long (1 : Int64)), .second, .val (.long (1 : Int64)), .second, .unset, .unset, .unset, .unset, .unset, .unset, .unset]) rfl (XS.iloadN X107.here hx rfl (hb hby at_129) rfl kont)) ?_
          show Go _ _ _ _ _ _ _ (T107.setTop (mkF m 130 #[.val (.int ids), .val (.int q1), .val (.int q2), .val (.int f1), .val (.int t1), .val (.int f2), .val (.int t2), .val (.int bt1), .val (.int bt2), .val (.ref b101), .val (.long (2 : Int64)), .second, .val (.long (0 : Int64)), .second, .val (.long (1 : Int64)), .second, .val (.long (1 : Int64)), .second, .unset, .unset, .unset, .unset, .unset, .unset, .unset] [(.int f1)]))
          refine Go.by (fun _ kont => XS.ifNo X107.here hx rfl (hb hby at_130) rfl ((if0 _ _).trans (teq hc127).2) kont) ?_
          show Go _ _ _ _ _ _ _ (T107.setTop (mkF m 133 #[.val (.int ids), .val (.int q1), .val (.int q2), .val (.int f1), .val (.int t1), .val (.int f2), .val (.int t2), .val (.int bt1), .val (.int bt2), .val (.ref b101), .val (.long (2 : Int64)), .second, .val (.long (0 : Int64)), .second, .val (.long (1 : Int64)), .second, .val (.long (1 : Int64)), .second, .unset, .unset, .unset, .unset, .unset, .unset, .unset] []))
          refine Go.by (fun _ kont => XS.iload X107.here hx rfl (hb hby at_133) rfl (XS.i2l X107.here hx rfl (hb hby at_135) rfl (XS.goto X107.here hx rfl (pc0 := 136) (pc' := 140) rfl (hb hby at_136) (by decide) (by decide) (XS.iload X107.here hx rfl (hb hby at_140) rfl kont)))) ?_
          show Go _ _ _ _ _ _ _ (T107.setTop (mkF m 142 #[.val (.int ids), .val (.int q1), .val (.int q2), .val (.int f1), .val (.int t1), .val (.int f2), .val (.int t2), .val (.int bt1), .val (.int bt2), .val (.ref b101), .val (.long (2 : Int64)), .second, .val (.long (0 : Int64)), .second, .val (.long (1 : Int64)), .second, .val (.long (1 : Int64)), .second, .unset, .unset, .unset, .unset, .unset, .unset, .unset] [(.int f2), (.long (bt1.toInt64))]))
          refine Go.by (fun _ kont => XS.ifNo X107.here hx rfl (hb hby at_142) rfl ((if0 _ _).trans (teq hc128).2) kont) ?_
          show Go _ _ _ _ _ _ _ (T107.setTop (mkF m 145 #[.val (.int ids), .val (.int q1), .val (.int q2), .val (.int f1), .val (.int t1), .val (.int f2), .val (.int t2), .val (.int bt1), .val (.int bt2), .val (.ref b101), .val (.long (2 : Int64)), .second, .val (.long (0 : Int64)), .second, .val (.long (1 : Int64)), .second, .val (.long (1 : Int64)), .second, .unset, .unset, .unset, .unset, .unset, .unset, .unset] [(.long (bt1.toInt64))]))
          refine Go.by (fun _ kont => XS.iload X107.here hx rfl (hb hby at_145) rfl (XS.i2l X107.here hx rfl (hb hby at_147) rfl (XS.goto X107.here hx rfl (pc0 := 148) (pc' := 152) rfl (hb hby at_148) (by decide) (by decide) (XS.ladd X107.here hx rfl (hb hby at_152) rfl (XS.lstore X107.here hx rfl (hb hby at_153) rfl (l' := #[.val (.int ids), .val (.int q1), .val (.int q2), .val (.int f1), .val (.int t1), .val (.int f2), .val (.int t2), .val (.int bt1), .val (.int bt2), .val (.ref b101), .val (.long (2 : Int64)), .second, .val (.long (0 : Int64)), .second, .val (.long (1 : Int64)), .second, .val (.long (1 : Int64)), .second, .val (.long ((bt1.toInt64) + (bt2.toInt64))), .second, .unset, .unset, .unset, .unset, .unset]) rfl (XS.iloadN X107.here hx rfl (hb hby at_155) rfl kont)))))) ?_
          show Go _ _ _ _ _ _ _ (T107.setTop (mkF m 156 #[.val (.int ids), .val (.int q1), .val (.int q2), .val (.int f1), .val (.int t1), .val (.int f2), .val (.int t2), .val (.int bt1), .val (.int bt2), .val (.ref b101), .val (.long (2 : Int64)), .second, .val (.long (0 : Int64)), .second, .val (.long (1 : Int64)), .second, .val (.long (1 : Int64)), .second, .val (.long ((bt1.toInt64) + (bt2.toInt64))), .second, .unset, .unset, .unset, .unset, .unset] [(.int f1)]))
          refine Go.by (fun _ kont => XS.iconst X107.here hx rfl (hb hby at_156) kont) ?_
          show Go _ _ _ _ _ _ _ (T107.setTop (mkF m 157 #[.val (.int ids), .val (.int q1), .val (.int q2), .val (.int f1), .val (.int t1), .val (.int f2), .val (.int t2), .val (.int bt1), .val (.int bt2), .val (.ref b101), .val (.long (2 : Int64)), .second, .val (.long (0 : Int64)), .second, .val (.long (1 : Int64)), .second, .val (.long (1 : Int64)), .second, .val (.long ((bt1.toInt64) + (bt2.toInt64))), .second, .unset, .unset, .unset, .unset, .unset] [(.int (1 : Int32)), (.int f1)]))
          have hd133 : ¬ (f1 = (1 : Int32)) := by rw [hc127]; decide
          refine Go.by (fun _ kont => XS.icmpYes X107.here hx rfl (pc0 := 157) (pc' := 166) rfl (hb hby at_157) rfl (feq hd133).2 (by decide) (by decide) kont) ?_
          show Go _ _ _ _ _ _ _ (T107.setTop (mkF m 166 #[.val (.int ids), .val (.int q1), .val (.int q2), .val (.int f1), .val (.int t1), .val (.int f2), .val (.int t2), .val (.int bt1), .val (.int bt2), .val (.ref b101), .val (.long (2 : Int64)), .second, .val (.long (0 : Int64)), .second, .val (.long (1 : Int64)), .second, .val (.long (1 : Int64)), .second, .val (.long ((bt1.toInt64) + (bt2.toInt64))), .second, .unset, .unset, .unset, .unset, .unset] []))
          refine Go.by (fun _ kont => XS.lconst X107.here hx rfl (hb hby at_166) (XS.iload X107.here hx rfl (hb hby at_167) rfl (XS.iconst X107.here hx rfl (hb hby at_169) kont))) ?_
          show Go _ _ _ _ _ _ _ (T107.setTop (mkF m 170 #[.val (.int ids), .val (.int q1), .val (.int q2), .val (.int f1), .val (.int t1), .val (.int f2), .val (.int t2), .val (.int bt1), .val (.int bt2), .val (.ref b101), .val (.long (2 : Int64)), .second, .val (.long (0 : Int64)), .second, .val (.long (1 : Int64)), .second, .val (.long (1 : Int64)), .second, .val (.long ((bt1.toInt64) + (bt2.toInt64))), .second, .unset, .unset, .unset, .unset, .unset] [(.int (1 : Int32)), (.int f2), (.long (0 : Int64))]))
          have hd134 : ¬ (f2 = (1 : Int32)) := by rw [hc128]; decide
          refine Go.by (fun _ kont => XS.icmpYes X107.here hx rfl (pc0 := 170) (pc' := 179) rfl (hb hby at_170) rfl (feq hd134).2 (by decide) (by decide) kont) ?_
          show Go _ _ _ _ _ _ _ (T107.setTop (mkF m 179 #[.val (.int ids), .val (.int q1), .val (.int q2), .val (.int f1), .val (.int t1), .val (.int f2), .val (.int t2), .val (.int bt1), .val (.int bt2), .val (.ref b101), .val (.long (2 : Int64)), .second, .val (.long (0 : Int64)), .second, .val (.long (1 : Int64)), .second, .val (.long (1 : Int64)), .second, .val (.long ((bt1.toInt64) + (bt2.toInt64))), .second, .unset, .unset, .unset, .unset, .unset] [(.long (0 : Int64))]))
          refine Go.by (fun _ kont => XS.lconst X107.here hx rfl (hb hby at_179) (XS.ladd X107.here hx rfl (hb hby at_180) rfl kont)) ?_
          show Go _ _ _ _ _ _ _ (T107.setTop (mkF m 181 #[.val (.int ids), .val (.int q1), .val (.int q2), .val (.int f1), .val (.int t1), .val (.int f2), .val (.int t2), .val (.int bt1), .val (.int bt2), .val (.ref b101), .val (.long (2 : Int64)), .second, .val (.long (0 : Int64)), .second, .val (.long (1 : Int64)), .second, .val (.long (1 : Int64)), .second, .val (.long ((bt1.toInt64) + (bt2.toInt64))), .second, .unset, .unset, .unset, .unset, .unset] [(.long ((0 : Int64) + (0 : Int64)))]))
          rw [show ((0 : Int64) + (0 : Int64)) = (0 : Int64) from by decide]
          show Go _ _ _ _ _ _ _ (T107.setTop (mkF m 181 #[.val (.int ids), .val (.int q1), .val (.int q2), .val (.int f1), .val (.int t1), .val (.int f2), .val (.int t2), .val (.int bt1), .val (.int bt2), .val (.ref b101), .val (.long (2 : Int64)), .second, .val (.long (0 : Int64)), .second, .val (.long (1 : Int64)), .second, .val (.long (1 : Int64)), .second, .val (.long ((bt1.toInt64) + (bt2.toInt64))), .second, .unset, .unset, .unset, .unset, .unset] [(.long (0 : Int64))]))
          refine Go.by (fun _ kont => XS.lstore X107.here hx rfl (hb hby at_181) rfl (l' := #[.val (.int ids), .val (.int q1), .val (.int q2), .val (.int f1), .val (.int t1), .val (.int f2), .val (.int t2), .val (.int bt1), .val (.int bt2), .val (.ref b101), .val (.long (2 : Int64)), .second, .val (.long (0 : Int64)), .second, .val (.long (1 : Int64)), .second, .val (.long (1 : Int64)), .second, .val (.long ((bt1.toInt64) + (bt2.toInt64))), .second, .val (.long (0 : Int64)), .second, .unset, .unset, .unset]) rfl kont) ?_
          show Go _ _ _ _ _ _ _ (T107.setTop (mkF m 183 #[.val (.int ids), .val (.int q1), .val (.int q2), .val (.int f1), .val (.int t1), .val (.int f2), .val (.int t2), .val (.int bt1), .val (.int bt2), .val (.ref b101), .val (.long (2 : Int64)), .second, .val (.long (0 : Int64)), .second, .val (.long (1 : Int64)), .second, .val (.long (1 : Int64)), .second, .val (.long ((bt1.toInt64) + (bt2.toInt64))), .second, .val (.long (0 : Int64)), .second, .unset, .unset, .unset] []))
          have o_t2 := Ht2.resolve_left hc130
          refine cut183 (2 : Int64) (0 : Int64) (1 : Int64) (1 : Int64) ((bt1.toInt64) + (bt2.toInt64)) (0 : Int64) ?_ ?_ ?_ ?_ ?_ ?_
          all_goals (unfold gF)
          all_goals (first | rfl | (simp [hc127, hc128, hc129, hc130, hd133, hd134, o_t2]) | (simp [hc127, hc128, hc129, hc130, hd133, hd134, o_t2] <;> decide))
      · refine Go.by (fun _ kont => XS.ifYes X107.here hx rfl (pc0 := 100) (pc' := 107) rfl (hb hby at_100) rfl ((if0 _ _).trans (feq hc129).2) (by decide) (by decide) kont) ?_
        show Go _ _ _ _ _ _ _ (T107.setTop (mkF m 107 #[.val (.int ids), .val (.int q1), .val (.int q2), .val (.int f1), .val (.int t1), .val (.int f2), .val (.int t2), .val (.int bt1), .val (.int bt2), .val (.ref b101), .val (.long (2 : Int64)), .second, .val (.long (0 : Int64)), .second, .unset, .unset, .unset, .unset, .unset, .unset, .unset, .unset, .unset, .unset, .unset] []))
        refine Go.by (fun _ kont => XS.lconst X107.here hx rfl (hb hby at_107) (XS.iload X107.here hx rfl (hb hby at_108) rfl kont)) ?_
        show Go _ _ _ _ _ _ _ (T107.setTop (mkF m 110 #[.val (.int ids), .val (.int q1), .val (.int q2), .val (.int f1), .val (.int t1), .val (.int f2), .val (.int t2), .val (.int bt1), .val (.int bt2), .val (.ref b101), .val (.long (2 : Int64)), .second, .val (.long (0 : Int64)), .second, .unset, .unset, .unset, .unset, .unset, .unset, .unset, .unset, .unset, .unset, .unset] [(.int t2), (.long (0 : Int64))]))
        by_cases hc135 : t2 = (0 : Int32)
        · refine Go.by (fun _ kont => XS.ifNo X107.here hx rfl (hb hby at_110) rfl ((if0 _ _).trans (teq hc135).2) kont) ?_
          show Go _ _ _ _ _ _ _ (T107.setTop (mkF m 113 #[.val (.int ids), .val (.int q1), .val (.int q2), .val (.int f1), .val (.int t1), .val (.int f2), .val (.int t2), .val (.int bt1), .val (.int bt2), .val (.ref b101), .val (.long (2 : Int64)), .second, .val (.long (0 : Int64)), .second, .unset, .unset, .unset, .unset, .unset, .unset, .unset, .unset, .unset, .unset, .unset] [(.long (0 : Int64))]))
          refine Go.by (fun _ kont => XS.lconst X107.here hx rfl (hb hby at_113) (XS.goto X107.here hx rfl (pc0 := 114) (pc' := 118) rfl (hb hby at_114) (by decide) (by decide) (XS.ladd X107.here hx rfl (hb hby at_118) rfl kont))) ?_
          show Go _ _ _ _ _ _ _ (T107.setTop (mkF m 119 #[.val (.int ids), .val (.int q1), .val (.int q2), .val (.int f1), .val (.int t1), .val (.int f2), .val (.int t2), .val (.int bt1), .val (.int bt2), .val (.ref b101), .val (.long (2 : Int64)), .second, .val (.long (0 : Int64)), .second, .unset, .unset, .unset, .unset, .unset, .unset, .unset, .unset, .unset, .unset, .unset] [(.long ((0 : Int64) + (1 : Int64)))]))
          rw [show ((0 : Int64) + (1 : Int64)) = (1 : Int64) from by decide]
          show Go _ _ _ _ _ _ _ (T107.setTop (mkF m 119 #[.val (.int ids), .val (.int q1), .val (.int q2), .val (.int f1), .val (.int t1), .val (.int f2), .val (.int t2), .val (.int bt1), .val (.int bt2), .val (.ref b101), .val (.long (2 : Int64)), .second, .val (.long (0 : Int64)), .second, .unset, .unset, .unset, .unset, .unset, .unset, .unset, .unset, .unset, .unset, .unset] [(.long (1 : Int64))]))
          refine Go.by (fun _ kont => XS.lstore X107.here hx rfl (hb hby at_119) rfl (l' := #[.val (.int ids), .val (.int q1), .val (.int q2), .val (.int f1), .val (.int t1), .val (.int f2), .val (.int t2), .val (.int bt1), .val (.int bt2), .val (.ref b101), .val (.long (2 : Int64)), .second, .val (.long (0 : Int64)), .second, .val (.long (1 : Int64)), .second, .unset, .unset, .unset, .unset, .unset, .unset, .unset, .unset, .unset]) rfl (X107.ldc2Long hx hown (mvT hZ (hw _ (List.mem_of_getElem? (i := 22) rfl))) (g := (mkF m 121 #[.val (.int ids), .val (.int q1), .val (.int q2), .val (.int f1), .val (.int t1), .val (.int f2), .val (.int t2), .val (.int bt1), .val (.int bt2), .val (.ref b101), .val (.long (2 : Int64)), .second, .val (.long (0 : Int64)), .second, .val (.long (1 : Int64)), .second, .unset, .unset, .unset, .unset, .unset, .unset, .unset, .unset, .unset] [])) rfl (hb hby at_121) _ (XS.lload X107.here hx rfl (hb hby at_124) rfl (XS.lsub X107.here hx rfl (hb hby at_126) rfl kont)))) ?_
          show Go _ _ _ _ _ _ _ (T107.setTop (mkF m 127 #[.val (.int ids), .val (.int q1), .val (.int q2), .val (.int f1), .val (.int t1), .val (.int f2), .val (.int t2), .val (.int bt1), .val (.int bt2), .val (.ref b101), .val (.long (2 : Int64)), .second, .val (.long (0 : Int64)), .second, .val (.long (1 : Int64)), .second, .unset, .unset, .unset, .unset, .unset, .unset, .unset, .unset, .unset] [(.long ((2 : Int64) - (1 : Int64)))]))
          rw [show ((2 : Int64) - (1 : Int64)) = (1 : Int64) from by decide]
          show Go _ _ _ _ _ _ _ (T107.setTop (mkF m 127 #[.val (.int ids), .val (.int q1), .val (.int q2), .val (.int f1), .val (.int t1), .val (.int f2), .val (.int t2), .val (.int bt1), .val (.int bt2), .val (.ref b101), .val (.long (2 : Int64)), .second, .val (.long (0 : Int64)), .second, .val (.long (1 : Int64)), .second, .unset, .unset, .unset, .unset, .unset, .unset, .unset, .unset, .unset] [(.long (1 : Int64))]))
          refine Go.by (fun _ kont => XS.lstore X107.here hx rfl (hb hby at_127) rfl (l' := #[.val (.int ids), .val (.int q1), .val (.int q2), .val (.int f1), .val (.int t1), .val (.int f2), .val (.int t2), .val (.int bt1), .val (.int bt2), .val (.ref b101), .val (.long (2 : Int64)), .second, .val (.long (0 : Int64)), .second, .val (.long (1 : Int64)), .second, .val (.long (1 : Int64)), .second, .unset, .unset, .unset, .unset, .unset, .unset, .unset]) rfl (XS.iloadN X107.here hx rfl (hb hby at_129) rfl kont)) ?_
          show Go _ _ _ _ _ _ _ (T107.setTop (mkF m 130 #[.val (.int ids), .val (.int q1), .val (.int q2), .val (.int f1), .val (.int t1), .val (.int f2), .val (.int t2), .val (.int bt1), .val (.int bt2), .val (.ref b101), .val (.long (2 : Int64)), .second, .val (.long (0 : Int64)), .second, .val (.long (1 : Int64)), .second, .val (.long (1 : Int64)), .second, .unset, .unset, .unset, .unset, .unset, .unset, .unset] [(.int f1)]))
          refine Go.by (fun _ kont => XS.ifNo X107.here hx rfl (hb hby at_130) rfl ((if0 _ _).trans (teq hc127).2) kont) ?_
          show Go _ _ _ _ _ _ _ (T107.setTop (mkF m 133 #[.val (.int ids), .val (.int q1), .val (.int q2), .val (.int f1), .val (.int t1), .val (.int f2), .val (.int t2), .val (.int bt1), .val (.int bt2), .val (.ref b101), .val (.long (2 : Int64)), .second, .val (.long (0 : Int64)), .second, .val (.long (1 : Int64)), .second, .val (.long (1 : Int64)), .second, .unset, .unset, .unset, .unset, .unset, .unset, .unset] []))
          refine Go.by (fun _ kont => XS.iload X107.here hx rfl (hb hby at_133) rfl (XS.i2l X107.here hx rfl (hb hby at_135) rfl (XS.goto X107.here hx rfl (pc0 := 136) (pc' := 140) rfl (hb hby at_136) (by decide) (by decide) (XS.iload X107.here hx rfl (hb hby at_140) rfl kont)))) ?_
          show Go _ _ _ _ _ _ _ (T107.setTop (mkF m 142 #[.val (.int ids), .val (.int q1), .val (.int q2), .val (.int f1), .val (.int t1), .val (.int f2), .val (.int t2), .val (.int bt1), .val (.int bt2), .val (.ref b101), .val (.long (2 : Int64)), .second, .val (.long (0 : Int64)), .second, .val (.long (1 : Int64)), .second, .val (.long (1 : Int64)), .second, .unset, .unset, .unset, .unset, .unset, .unset, .unset] [(.int f2), (.long (bt1.toInt64))]))
          refine Go.by (fun _ kont => XS.ifNo X107.here hx rfl (hb hby at_142) rfl ((if0 _ _).trans (teq hc128).2) kont) ?_
          show Go _ _ _ _ _ _ _ (T107.setTop (mkF m 145 #[.val (.int ids), .val (.int q1), .val (.int q2), .val (.int f1), .val (.int t1), .val (.int f2), .val (.int t2), .val (.int bt1), .val (.int bt2), .val (.ref b101), .val (.long (2 : Int64)), .second, .val (.long (0 : Int64)), .second, .val (.long (1 : Int64)), .second, .val (.long (1 : Int64)), .second, .unset, .unset, .unset, .unset, .unset, .unset, .unset] [(.long (bt1.toInt64))]))
          refine Go.by (fun _ kont => XS.iload X107.here hx rfl (hb hby at_145) rfl (XS.i2l X107.here hx rfl (hb hby at_147) rfl (XS.goto X107.here hx rfl (pc0 := 148) (pc' := 152) rfl (hb hby at_148) (by decide) (by decide) (XS.ladd X107.here hx rfl (hb hby at_152) rfl (XS.lstore X107.here hx rfl (hb hby at_153) rfl (l' := #[.val (.int ids), .val (.int q1), .val (.int q2), .val (.int f1), .val (.int t1), .val (.int f2), .val (.int t2), .val (.int bt1), .val (.int bt2), .val (.ref b101), .val (.long (2 : Int64)), .second, .val (.long (0 : Int64)), .second, .val (.long (1 : Int64)), .second, .val (.long (1 : Int64)), .second, .val (.long ((bt1.toInt64) + (bt2.toInt64))), .second, .unset, .unset, .unset, .unset, .unset]) rfl (XS.iloadN X107.here hx rfl (hb hby at_155) rfl kont)))))) ?_
          show Go _ _ _ _ _ _ _ (T107.setTop (mkF m 156 #[.val (.int ids), .val (.int q1), .val (.int q2), .val (.int f1), .val (.int t1), .val (.int f2), .val (.int t2), .val (.int bt1), .val (.int bt2), .val (.ref b101), .val (.long (2 : Int64)), .second, .val (.long (0 : Int64)), .second, .val (.long (1 : Int64)), .second, .val (.long (1 : Int64)), .second, .val (.long ((bt1.toInt64) + (bt2.toInt64))), .second, .unset, .unset, .unset, .unset, .unset] [(.int f1)]))
          refine Go.by (fun _ kont => XS.iconst X107.here hx rfl (hb hby at_156) kont) ?_
          show Go _ _ _ _ _ _ _ (T107.setTop (mkF m 157 #[.val (.int ids), .val (.int q1), .val (.int q2), .val (.int f1), .val (.int t1), .val (.int f2), .val (.int t2), .val (.int bt1), .val (.int bt2), .val (.ref b101), .val (.long (2 : Int64)), .second, .val (.long (0 : Int64)), .second, .val (.long (1 : Int64)), .second, .val (.long (1 : Int64)), .second, .val (.long ((bt1.toInt64) + (bt2.toInt64))), .second, .unset, .unset, .unset, .unset, .unset] [(.int (1 : Int32)), (.int f1)]))
          have hd136 : ¬ (f1 = (1 : Int32)) := by rw [hc127]; decide
          refine Go.by (fun _ kont => XS.icmpYes X107.here hx rfl (pc0 := 157) (pc' := 166) rfl (hb hby at_157) rfl (feq hd136).2 (by decide) (by decide) kont) ?_
          show Go _ _ _ _ _ _ _ (T107.setTop (mkF m 166 #[.val (.int ids), .val (.int q1), .val (.int q2), .val (.int f1), .val (.int t1), .val (.int f2), .val (.int t2), .val (.int bt1), .val (.int bt2), .val (.ref b101), .val (.long (2 : Int64)), .second, .val (.long (0 : Int64)), .second, .val (.long (1 : Int64)), .second, .val (.long (1 : Int64)), .second, .val (.long ((bt1.toInt64) + (bt2.toInt64))), .second, .unset, .unset, .unset, .unset, .unset] []))
          refine Go.by (fun _ kont => XS.lconst X107.here hx rfl (hb hby at_166) (XS.iload X107.here hx rfl (hb hby at_167) rfl (XS.iconst X107.here hx rfl (hb hby at_169) kont))) ?_
          show Go _ _ _ _ _ _ _ (T107.setTop (mkF m 170 #[.val (.int ids), .val (.int q1), .val (.int q2), .val (.int f1), .val (.int t1), .val (.int f2), .val (.int t2), .val (.int bt1), .val (.int bt2), .val (.ref b101), .val (.long (2 : Int64)), .second, .val (.long (0 : Int64)), .second, .val (.long (1 : Int64)), .second, .val (.long (1 : Int64)), .second, .val (.long ((bt1.toInt64) + (bt2.toInt64))), .second, .unset, .unset, .unset, .unset, .unset] [(.int (1 : Int32)), (.int f2), (.long (0 : Int64))]))
          have hd137 : ¬ (f2 = (1 : Int32)) := by rw [hc128]; decide
          refine Go.by (fun _ kont => XS.icmpYes X107.here hx rfl (pc0 := 170) (pc' := 179) rfl (hb hby at_170) rfl (feq hd137).2 (by decide) (by decide) kont) ?_
          show Go _ _ _ _ _ _ _ (T107.setTop (mkF m 179 #[.val (.int ids), .val (.int q1), .val (.int q2), .val (.int f1), .val (.int t1), .val (.int f2), .val (.int t2), .val (.int bt1), .val (.int bt2), .val (.ref b101), .val (.long (2 : Int64)), .second, .val (.long (0 : Int64)), .second, .val (.long (1 : Int64)), .second, .val (.long (1 : Int64)), .second, .val (.long ((bt1.toInt64) + (bt2.toInt64))), .second, .unset, .unset, .unset, .unset, .unset] [(.long (0 : Int64))]))
          refine Go.by (fun _ kont => XS.lconst X107.here hx rfl (hb hby at_179) (XS.ladd X107.here hx rfl (hb hby at_180) rfl kont)) ?_
          show Go _ _ _ _ _ _ _ (T107.setTop (mkF m 181 #[.val (.int ids), .val (.int q1), .val (.int q2), .val (.int f1), .val (.int t1), .val (.int f2), .val (.int t2), .val (.int bt1), .val (.int bt2), .val (.ref b101), .val (.long (2 : Int64)), .second, .val (.long (0 : Int64)), .second, .val (.long (1 : Int64)), .second, .val (.long (1 : Int64)), .second, .val (.long ((bt1.toInt64) + (bt2.toInt64))), .second, .unset, .unset, .unset, .unset, .unset] [(.long ((0 : Int64) + (0 : Int64)))]))
          rw [show ((0 : Int64) + (0 : Int64)) = (0 : Int64) from by decide]
          show Go _ _ _ _ _ _ _ (T107.setTop (mkF m 181 #[.val (.int ids), .val (.int q1), .val (.int q2), .val (.int f1), .val (.int t1), .val (.int f2), .val (.int t2), .val (.int bt1), .val (.int bt2), .val (.ref b101), .val (.long (2 : Int64)), .second, .val (.long (0 : Int64)), .second, .val (.long (1 : Int64)), .second, .val (.long (1 : Int64)), .second, .val (.long ((bt1.toInt64) + (bt2.toInt64))), .second, .unset, .unset, .unset, .unset, .unset] [(.long (0 : Int64))]))
          refine Go.by (fun _ kont => XS.lstore X107.here hx rfl (hb hby at_181) rfl (l' := #[.val (.int ids), .val (.int q1), .val (.int q2), .val (.int f1), .val (.int t1), .val (.int f2), .val (.int t2), .val (.int bt1), .val (.int bt2), .val (.ref b101), .val (.long (2 : Int64)), .second, .val (.long (0 : Int64)), .second, .val (.long (1 : Int64)), .second, .val (.long (1 : Int64)), .second, .val (.long ((bt1.toInt64) + (bt2.toInt64))), .second, .val (.long (0 : Int64)), .second, .unset, .unset, .unset]) rfl kont) ?_
          show Go _ _ _ _ _ _ _ (T107.setTop (mkF m 183 #[.val (.int ids), .val (.int q1), .val (.int q2), .val (.int f1), .val (.int t1), .val (.int f2), .val (.int t2), .val (.int bt1), .val (.int bt2), .val (.ref b101), .val (.long (2 : Int64)), .second, .val (.long (0 : Int64)), .second, .val (.long (1 : Int64)), .second, .val (.long (1 : Int64)), .second, .val (.long ((bt1.toInt64) + (bt2.toInt64))), .second, .val (.long (0 : Int64)), .second, .unset, .unset, .unset] []))
          have o_t1 := Ht1.resolve_left hc129
          refine cut183 (2 : Int64) (0 : Int64) (1 : Int64) (1 : Int64) ((bt1.toInt64) + (bt2.toInt64)) (0 : Int64) ?_ ?_ ?_ ?_ ?_ ?_
          all_goals (unfold gF)
          all_goals (first | rfl | (simp [hc127, hc128, hc129, hc135, hd136, hd137, o_t1]) | (simp [hc127, hc128, hc129, hc135, hd136, hd137, o_t1] <;> decide))
        · refine Go.by (fun _ kont => XS.ifYes X107.here hx rfl (pc0 := 110) (pc' := 117) rfl (hb hby at_110) rfl ((if0 _ _).trans (feq hc135).2) (by decide) (by decide) kont) ?_
          show Go _ _ _ _ _ _ _ (T107.setTop (mkF m 117 #[.val (.int ids), .val (.int q1), .val (.int q2), .val (.int f1), .val (.int t1), .val (.int f2), .val (.int t2), .val (.int bt1), .val (.int bt2), .val (.ref b101), .val (.long (2 : Int64)), .second, .val (.long (0 : Int64)), .second, .unset, .unset, .unset, .unset, .unset, .unset, .unset, .unset, .unset, .unset, .unset] [(.long (0 : Int64))]))
          refine Go.by (fun _ kont => XS.lconst X107.here hx rfl (hb hby at_117) (XS.ladd X107.here hx rfl (hb hby at_118) rfl kont)) ?_
          show Go _ _ _ _ _ _ _ (T107.setTop (mkF m 119 #[.val (.int ids), .val (.int q1), .val (.int q2), .val (.int f1), .val (.int t1), .val (.int f2), .val (.int t2), .val (.int bt1), .val (.int bt2), .val (.ref b101), .val (.long (2 : Int64)), .second, .val (.long (0 : Int64)), .second, .unset, .unset, .unset, .unset, .unset, .unset, .unset, .unset, .unset, .unset, .unset] [(.long ((0 : Int64) + (0 : Int64)))]))
          rw [show ((0 : Int64) + (0 : Int64)) = (0 : Int64) from by decide]
          show Go _ _ _ _ _ _ _ (T107.setTop (mkF m 119 #[.val (.int ids), .val (.int q1), .val (.int q2), .val (.int f1), .val (.int t1), .val (.int f2), .val (.int t2), .val (.int bt1), .val (.int bt2), .val (.ref b101), .val (.long (2 : Int64)), .second, .val (.long (0 : Int64)), .second, .unset, .unset, .unset, .unset, .unset, .unset, .unset, .unset, .unset, .unset, .unset] [(.long (0 : Int64))]))
          refine Go.by (fun _ kont => XS.lstore X107.here hx rfl (hb hby at_119) rfl (l' := #[.val (.int ids), .val (.int q1), .val (.int q2), .val (.int f1), .val (.int t1), .val (.int f2), .val (.int t2), .val (.int bt1), .val (.int bt2), .val (.ref b101), .val (.long (2 : Int64)), .second, .val (.long (0 : Int64)), .second, .val (.long (0 : Int64)), .second, .unset, .unset, .unset, .unset, .unset, .unset, .unset, .unset, .unset]) rfl (X107.ldc2Long hx hown (mvT hZ (hw _ (List.mem_of_getElem? (i := 22) rfl))) (g := (mkF m 121 #[.val (.int ids), .val (.int q1), .val (.int q2), .val (.int f1), .val (.int t1), .val (.int f2), .val (.int t2), .val (.int bt1), .val (.int bt2), .val (.ref b101), .val (.long (2 : Int64)), .second, .val (.long (0 : Int64)), .second, .val (.long (0 : Int64)), .second, .unset, .unset, .unset, .unset, .unset, .unset, .unset, .unset, .unset] [])) rfl (hb hby at_121) _ (XS.lload X107.here hx rfl (hb hby at_124) rfl (XS.lsub X107.here hx rfl (hb hby at_126) rfl kont)))) ?_
          show Go _ _ _ _ _ _ _ (T107.setTop (mkF m 127 #[.val (.int ids), .val (.int q1), .val (.int q2), .val (.int f1), .val (.int t1), .val (.int f2), .val (.int t2), .val (.int bt1), .val (.int bt2), .val (.ref b101), .val (.long (2 : Int64)), .second, .val (.long (0 : Int64)), .second, .val (.long (0 : Int64)), .second, .unset, .unset, .unset, .unset, .unset, .unset, .unset, .unset, .unset] [(.long ((2 : Int64) - (0 : Int64)))]))
          rw [show ((2 : Int64) - (0 : Int64)) = (2 : Int64) from by decide]
          show Go _ _ _ _ _ _ _ (T107.setTop (mkF m 127 #[.val (.int ids), .val (.int q1), .val (.int q2), .val (.int f1), .val (.int t1), .val (.int f2), .val (.int t2), .val (.int bt1), .val (.int bt2), .val (.ref b101), .val (.long (2 : Int64)), .second, .val (.long (0 : Int64)), .second, .val (.long (0 : Int64)), .second, .unset, .unset, .unset, .unset, .unset, .unset, .unset, .unset, .unset] [(.long (2 : Int64))]))
          refine Go.by (fun _ kont => XS.lstore X107.here hx rfl (hb hby at_127) rfl (l' := #[.val (.int ids), .val (.int q1), .val (.int q2), .val (.int f1), .val (.int t1), .val (.int f2), .val (.int t2), .val (.int bt1), .val (.int bt2), .val (.ref b101), .val (.long (2 : Int64)), .second, .val (.long (0 : Int64)), .second, .val (.long (0 : Int64)), .second, .val (.long (2 : Int64)), .second, .unset, .unset, .unset, .unset, .unset, .unset, .unset]) rfl (XS.iloadN X107.here hx rfl (hb hby at_129) rfl kont)) ?_
          show Go _ _ _ _ _ _ _ (T107.setTop (mkF m 130 #[.val (.int ids), .val (.int q1), .val (.int q2), .val (.int f1), .val (.int t1), .val (.int f2), .val (.int t2), .val (.int bt1), .val (.int bt2), .val (.ref b101), .val (.long (2 : Int64)), .second, .val (.long (0 : Int64)), .second, .val (.long (0 : Int64)), .second, .val (.long (2 : Int64)), .second, .unset, .unset, .unset, .unset, .unset, .unset, .unset] [(.int f1)]))
          refine Go.by (fun _ kont => XS.ifNo X107.here hx rfl (hb hby at_130) rfl ((if0 _ _).trans (teq hc127).2) kont) ?_
          show Go _ _ _ _ _ _ _ (T107.setTop (mkF m 133 #[.val (.int ids), .val (.int q1), .val (.int q2), .val (.int f1), .val (.int t1), .val (.int f2), .val (.int t2), .val (.int bt1), .val (.int bt2), .val (.ref b101), .val (.long (2 : Int64)), .second, .val (.long (0 : Int64)), .second, .val (.long (0 : Int64)), .second, .val (.long (2 : Int64)), .second, .unset, .unset, .unset, .unset, .unset, .unset, .unset] []))
          refine Go.by (fun _ kont => XS.iload X107.here hx rfl (hb hby at_133) rfl (XS.i2l X107.here hx rfl (hb hby at_135) rfl (XS.goto X107.here hx rfl (pc0 := 136) (pc' := 140) rfl (hb hby at_136) (by decide) (by decide) (XS.iload X107.here hx rfl (hb hby at_140) rfl kont)))) ?_
          show Go _ _ _ _ _ _ _ (T107.setTop (mkF m 142 #[.val (.int ids), .val (.int q1), .val (.int q2), .val (.int f1), .val (.int t1), .val (.int f2), .val (.int t2), .val (.int bt1), .val (.int bt2), .val (.ref b101), .val (.long (2 : Int64)), .second, .val (.long (0 : Int64)), .second, .val (.long (0 : Int64)), .second, .val (.long (2 : Int64)), .second, .unset, .unset, .unset, .unset, .unset, .unset, .unset] [(.int f2), (.long (bt1.toInt64))]))
          refine Go.by (fun _ kont => XS.ifNo X107.here hx rfl (hb hby at_142) rfl ((if0 _ _).trans (teq hc128).2) kont) ?_
          show Go _ _ _ _ _ _ _ (T107.setTop (mkF m 145 #[.val (.int ids), .val (.int q1), .val (.int q2), .val (.int f1), .val (.int t1), .val (.int f2), .val (.int t2), .val (.int bt1), .val (.int bt2), .val (.ref b101), .val (.long (2 : Int64)), .second, .val (.long (0 : Int64)), .second, .val (.long (0 : Int64)), .second, .val (.long (2 : Int64)), .second, .unset, .unset, .unset, .unset, .unset, .unset, .unset] [(.long (bt1.toInt64))]))
          refine Go.by (fun _ kont => XS.iload X107.here hx rfl (hb hby at_145) rfl (XS.i2l X107.here hx rfl (hb hby at_147) rfl (XS.goto X107.here hx rfl (pc0 := 148) (pc' := 152) rfl (hb hby at_148) (by decide) (by decide) (XS.ladd X107.here hx rfl (hb hby at_152) rfl (XS.lstore X107.here hx rfl (hb hby at_153) rfl (l' := #[.val (.int ids), .val (.int q1), .val (.int q2), .val (.int f1), .val (.int t1), .val (.int f2), .val (.int t2), .val (.int bt1), .val (.int bt2), .val (.ref b101), .val (.long (2 : Int64)), .second, .val (.long (0 : Int64)), .second, .val (.long (0 : Int64)), .second, .val (.long (2 : Int64)), .second, .val (.long ((bt1.toInt64) + (bt2.toInt64))), .second, .unset, .unset, .unset, .unset, .unset]) rfl (XS.iloadN X107.here hx rfl (hb hby at_155) rfl kont)))))) ?_
          show Go _ _ _ _ _ _ _ (T107.setTop (mkF m 156 #[.val (.int ids), .val (.int q1), .val (.int q2), .val (.int f1), .val (.int t1), .val (.int f2), .val (.int t2), .val (.int bt1), .val (.int bt2), .val (.ref b101), .val (.long (2 : Int64)), .second, .val (.long (0 : Int64)), .second, .val (.long (0 : Int64)), .second, .val (.long (2 : Int64)), .second, .val (.long ((bt1.toInt64) + (bt2.toInt64))), .second, .unset, .unset, .unset, .unset, .unset] [(.int f1)]))
          refine Go.by (fun _ kont => XS.iconst X107.here hx rfl (hb hby at_156) kont) ?_
          show Go _ _ _ _ _ _ _ (T107.setTop (mkF m 157 #[.val (.int ids), .val (.int q1), .val (.int q2), .val (.int f1), .val (.int t1), .val (.int f2), .val (.int t2), .val (.int bt1), .val (.int bt2), .val (.ref b101), .val (.long (2 : Int64)), .second, .val (.long (0 : Int64)), .second, .val (.long (0 : Int64)), .second, .val (.long (2 : Int64)), .second, .val (.long ((bt1.toInt64) + (bt2.toInt64))), .second, .unset, .unset, .unset, .unset, .unset] [(.int (1 : Int32)), (.int f1)]))
          have hd138 : ¬ (f1 = (1 : Int32)) := by rw [hc127]; decide
          refine Go.by (fun _ kont => XS.icmpYes X107.here hx rfl (pc0 := 157) (pc' := 166) rfl (hb hby at_157) rfl (feq hd138).2 (by decide) (by decide) kont) ?_
          show Go _ _ _ _ _ _ _ (T107.setTop (mkF m 166 #[.val (.int ids), .val (.int q1), .val (.int q2), .val (.int f1), .val (.int t1), .val (.int f2), .val (.int t2), .val (.int bt1), .val (.int bt2), .val (.ref b101), .val (.long (2 : Int64)), .second, .val (.long (0 : Int64)), .second, .val (.long (0 : Int64)), .second, .val (.long (2 : Int64)), .second, .val (.long ((bt1.toInt64) + (bt2.toInt64))), .second, .unset, .unset, .unset, .unset, .unset] []))
          refine Go.by (fun _ kont => XS.lconst X107.here hx rfl (hb hby at_166) (XS.iload X107.here hx rfl (hb hby at_167) rfl (XS.iconst X107.here hx rfl (hb hby at_169) kont))) ?_
          show Go _ _ _ _ _ _ _ (T107.setTop (mkF m 170 #[.val (.int ids), .val (.int q1), .val (.int q2), .val (.int f1), .val (.int t1), .val (.int f2), .val (.int t2), .val (.int bt1), .val (.int bt2), .val (.ref b101), .val (.long (2 : Int64)), .second, .val (.long (0 : Int64)), .second, .val (.long (0 : Int64)), .second, .val (.long (2 : Int64)), .second, .val (.long ((bt1.toInt64) + (bt2.toInt64))), .second, .unset, .unset, .unset, .unset, .unset] [(.int (1 : Int32)), (.int f2), (.long (0 : Int64))]))
          have hd139 : ¬ (f2 = (1 : Int32)) := by rw [hc128]; decide
          refine Go.by (fun _ kont => XS.icmpYes X107.here hx rfl (pc0 := 170) (pc' := 179) rfl (hb hby at_170) rfl (feq hd139).2 (by decide) (by decide) kont) ?_
          show Go _ _ _ _ _ _ _ (T107.setTop (mkF m 179 #[.val (.int ids), .val (.int q1), .val (.int q2), .val (.int f1), .val (.int t1), .val (.int f2), .val (.int t2), .val (.int bt1), .val (.int bt2), .val (.ref b101), .val (.long (2 : Int64)), .second, .val (.long (0 : Int64)), .second, .val (.long (0 : Int64)), .second, .val (.long (2 : Int64)), .second, .val (.long ((bt1.toInt64) + (bt2.toInt64))), .second, .unset, .unset, .unset, .unset, .unset] [(.long (0 : Int64))]))
          refine Go.by (fun _ kont => XS.lconst X107.here hx rfl (hb hby at_179) (XS.ladd X107.here hx rfl (hb hby at_180) rfl kont)) ?_
          show Go _ _ _ _ _ _ _ (T107.setTop (mkF m 181 #[.val (.int ids), .val (.int q1), .val (.int q2), .val (.int f1), .val (.int t1), .val (.int f2), .val (.int t2), .val (.int bt1), .val (.int bt2), .val (.ref b101), .val (.long (2 : Int64)), .second, .val (.long (0 : Int64)), .second, .val (.long (0 : Int64)), .second, .val (.long (2 : Int64)), .second, .val (.long ((bt1.toInt64) + (bt2.toInt64))), .second, .unset, .unset, .unset, .unset, .unset] [(.long ((0 : Int64) + (0 : Int64)))]))
          rw [show ((0 : Int64) + (0 : Int64)) = (0 : Int64) from by decide]
          show Go _ _ _ _ _ _ _ (T107.setTop (mkF m 181 #[.val (.int ids), .val (.int q1), .val (.int q2), .val (.int f1), .val (.int t1), .val (.int f2), .val (.int t2), .val (.int bt1), .val (.int bt2), .val (.ref b101), .val (.long (2 : Int64)), .second, .val (.long (0 : Int64)), .second, .val (.long (0 : Int64)), .second, .val (.long (2 : Int64)), .second, .val (.long ((bt1.toInt64) + (bt2.toInt64))), .second, .unset, .unset, .unset, .unset, .unset] [(.long (0 : Int64))]))
          refine Go.by (fun _ kont => XS.lstore X107.here hx rfl (hb hby at_181) rfl (l' := #[.val (.int ids), .val (.int q1), .val (.int q2), .val (.int f1), .val (.int t1), .val (.int f2), .val (.int t2), .val (.int bt1), .val (.int bt2), .val (.ref b101), .val (.long (2 : Int64)), .second, .val (.long (0 : Int64)), .second, .val (.long (0 : Int64)), .second, .val (.long (2 : Int64)), .second, .val (.long ((bt1.toInt64) + (bt2.toInt64))), .second, .val (.long (0 : Int64)), .second, .unset, .unset, .unset]) rfl kont) ?_
          show Go _ _ _ _ _ _ _ (T107.setTop (mkF m 183 #[.val (.int ids), .val (.int q1), .val (.int q2), .val (.int f1), .val (.int t1), .val (.int f2), .val (.int t2), .val (.int bt1), .val (.int bt2), .val (.ref b101), .val (.long (2 : Int64)), .second, .val (.long (0 : Int64)), .second, .val (.long (0 : Int64)), .second, .val (.long (2 : Int64)), .second, .val (.long ((bt1.toInt64) + (bt2.toInt64))), .second, .val (.long (0 : Int64)), .second, .unset, .unset, .unset] []))
          have o_t1 := Ht1.resolve_left hc129
          have o_t2 := Ht2.resolve_left hc135
          refine cut183 (2 : Int64) (0 : Int64) (0 : Int64) (2 : Int64) ((bt1.toInt64) + (bt2.toInt64)) (0 : Int64) ?_ ?_ ?_ ?_ ?_ ?_
          all_goals (unfold gF)
          all_goals (first | rfl | (simp [hc127, hc128, hc129, hc135, hd138, hd139, o_t1, o_t2]) | (simp [hc127, hc128, hc129, hc135, hd138, hd139, o_t1, o_t2] <;> decide))
    · refine Go.by (fun _ kont => XS.ifYes X107.here hx rfl (pc0 := 79) (pc' := 86) rfl (hb hby at_79) rfl ((if0 _ _).trans (feq hc128).2) (by decide) (by decide) kont) ?_
      show Go _ _ _ _ _ _ _ (T107.setTop (mkF m 86 #[.val (.int ids), .val (.int q1), .val (.int q2), .val (.int f1), .val (.int t1), .val (.int f2), .val (.int t2), .val (.int bt1), .val (.int bt2), .val (.ref b101), .unset, .unset, .unset, .unset, .unset, .unset, .unset, .unset, .unset, .unset, .unset, .unset, .unset, .unset, .unset] [(.long (1 : Int64))]))
      refine Go.by (fun _ kont => XS.lconst X107.here hx rfl (hb hby at_86) (XS.ladd X107.here hx rfl (hb hby at_87) rfl kont)) ?_
      show Go _ _ _ _ _ _ _ (T107.setTop (mkF m 88 #[.val (.int ids), .val (.int q1), .val (.int q2), .val (.int f1), .val (.int t1), .val (.int f2), .val (.int t2), .val (.int bt1), .val (.int bt2), .val (.ref b101), .unset, .unset, .unset, .unset, .unset, .unset, .unset, .unset, .unset, .unset, .unset, .unset, .unset, .unset, .unset] [(.long ((1 : Int64) + (0 : Int64)))]))
      rw [show ((1 : Int64) + (0 : Int64)) = (1 : Int64) from by decide]
      show Go _ _ _ _ _ _ _ (T107.setTop (mkF m 88 #[.val (.int ids), .val (.int q1), .val (.int q2), .val (.int f1), .val (.int t1), .val (.int f2), .val (.int t2), .val (.int bt1), .val (.int bt2), .val (.ref b101), .unset, .unset, .unset, .unset, .unset, .unset, .unset, .unset, .unset, .unset, .unset, .unset, .unset, .unset, .unset] [(.long (1 : Int64))]))
      refine Go.by (fun _ kont => XS.lstore X107.here hx rfl (hb hby at_88) rfl (l' := #[.val (.int ids), .val (.int q1), .val (.int q2), .val (.int f1), .val (.int t1), .val (.int f2), .val (.int t2), .val (.int bt1), .val (.int bt2), .val (.ref b101), .val (.long (1 : Int64)), .second, .unset, .unset, .unset, .unset, .unset, .unset, .unset, .unset, .unset, .unset, .unset, .unset, .unset]) rfl (X107.ldc2Long hx hown (mvT hZ (hw _ (List.mem_of_getElem? (i := 22) rfl))) (g := (mkF m 90 #[.val (.int ids), .val (.int q1), .val (.int q2), .val (.int f1), .val (.int t1), .val (.int f2), .val (.int t2), .val (.int bt1), .val (.int bt2), .val (.ref b101), .val (.long (1 : Int64)), .second, .unset, .unset, .unset, .unset, .unset, .unset, .unset, .unset, .unset, .unset, .unset, .unset, .unset] [])) rfl (hb hby at_90) _ (XS.lload X107.here hx rfl (hb hby at_93) rfl (XS.lsub X107.here hx rfl (hb hby at_95) rfl kont)))) ?_
      show Go _ _ _ _ _ _ _ (T107.setTop (mkF m 96 #[.val (.int ids), .val (.int q1), .val (.int q2), .val (.int f1), .val (.int t1), .val (.int f2), .val (.int t2), .val (.int bt1), .val (.int bt2), .val (.ref b101), .val (.long (1 : Int64)), .second, .unset, .unset, .unset, .unset, .unset, .unset, .unset, .unset, .unset, .unset, .unset, .unset, .unset] [(.long ((2 : Int64) - (1 : Int64)))]))
      rw [show ((2 : Int64) - (1 : Int64)) = (1 : Int64) from by decide]
      show Go _ _ _ _ _ _ _ (T107.setTop (mkF m 96 #[.val (.int ids), .val (.int q1), .val (.int q2), .val (.int f1), .val (.int t1), .val (.int f2), .val (.int t2), .val (.int bt1), .val (.int bt2), .val (.ref b101), .val (.long (1 : Int64)), .second, .unset, .unset, .unset, .unset, .unset, .unset, .unset, .unset, .unset, .unset, .unset, .unset, .unset] [(.long (1 : Int64))]))
      refine Go.by (fun _ kont => XS.lstore X107.here hx rfl (hb hby at_96) rfl (l' := #[.val (.int ids), .val (.int q1), .val (.int q2), .val (.int f1), .val (.int t1), .val (.int f2), .val (.int t2), .val (.int bt1), .val (.int bt2), .val (.ref b101), .val (.long (1 : Int64)), .second, .val (.long (1 : Int64)), .second, .unset, .unset, .unset, .unset, .unset, .unset, .unset, .unset, .unset, .unset, .unset]) rfl (XS.iload X107.here hx rfl (hb hby at_98) rfl kont)) ?_
      show Go _ _ _ _ _ _ _ (T107.setTop (mkF m 100 #[.val (.int ids), .val (.int q1), .val (.int q2), .val (.int f1), .val (.int t1), .val (.int f2), .val (.int t2), .val (.int bt1), .val (.int bt2), .val (.ref b101), .val (.long (1 : Int64)), .second, .val (.long (1 : Int64)), .second, .unset, .unset, .unset, .unset, .unset, .unset, .unset, .unset, .unset, .unset, .unset] [(.int t1)]))
      by_cases hc140 : t1 = (0 : Int32)
      · refine Go.by (fun _ kont => XS.ifNo X107.here hx rfl (hb hby at_100) rfl ((if0 _ _).trans (teq hc140).2) kont) ?_
        show Go _ _ _ _ _ _ _ (T107.setTop (mkF m 103 #[.val (.int ids), .val (.int q1), .val (.int q2), .val (.int f1), .val (.int t1), .val (.int f2), .val (.int t2), .val (.int bt1), .val (.int bt2), .val (.ref b101), .val (.long (1 : Int64)), .second, .val (.long (1 : Int64)), .second, .unset, .unset, .unset, .unset, .unset, .unset, .unset, .unset, .unset, .unset, .unset] []))
        refine Go.by (fun _ kont => XS.lconst X107.here hx rfl (hb hby at_103) (XS.goto X107.here hx rfl (pc0 := 104) (pc' := 108) rfl (hb hby at_104) (by decide) (by decide) (XS.iload X107.here hx rfl (hb hby at_108) rfl kont))) ?_
        show Go _ _ _ _ _ _ _ (T107.setTop (mkF m 110 #[.val (.int ids), .val (.int q1), .val (.int q2), .val (.int f1), .val (.int t1), .val (.int f2), .val (.int t2), .val (.int bt1), .val (.int bt2), .val (.ref b101), .val (.long (1 : Int64)), .second, .val (.long (1 : Int64)), .second, .unset, .unset, .unset, .unset, .unset, .unset, .unset, .unset, .unset, .unset, .unset] [(.int t2), (.long (1 : Int64))]))
        by_cases hc141 : t2 = (0 : Int32)
        · refine Go.by (fun _ kont => XS.ifNo X107.here hx rfl (hb hby at_110) rfl ((if0 _ _).trans (teq hc141).2) kont) ?_
          show Go _ _ _ _ _ _ _ (T107.setTop (mkF m 113 #[.val (.int ids), .val (.int q1), .val (.int q2), .val (.int f1), .val (.int t1), .val (.int f2), .val (.int t2), .val (.int bt1), .val (.int bt2), .val (.ref b101), .val (.long (1 : Int64)), .second, .val (.long (1 : Int64)), .second, .unset, .unset, .unset, .unset, .unset, .unset, .unset, .unset, .unset, .unset, .unset] [(.long (1 : Int64))]))
          refine Go.by (fun _ kont => XS.lconst X107.here hx rfl (hb hby at_113) (XS.goto X107.here hx rfl (pc0 := 114) (pc' := 118) rfl (hb hby at_114) (by decide) (by decide) (XS.ladd X107.here hx rfl (hb hby at_118) rfl kont))) ?_
          show Go _ _ _ _ _ _ _ (T107.setTop (mkF m 119 #[.val (.int ids), .val (.int q1), .val (.int q2), .val (.int f1), .val (.int t1), .val (.int f2), .val (.int t2), .val (.int bt1), .val (.int bt2), .val (.ref b101), .val (.long (1 : Int64)), .second, .val (.long (1 : Int64)), .second, .unset, .unset, .unset, .unset, .unset, .unset, .unset, .unset, .unset, .unset, .unset] [(.long ((1 : Int64) + (1 : Int64)))]))
          rw [show ((1 : Int64) + (1 : Int64)) = (2 : Int64) from by decide]
          show Go _ _ _ _ _ _ _ (T107.setTop (mkF m 119 #[.val (.int ids), .val (.int q1), .val (.int q2), .val (.int f1), .val (.int t1), .val (.int f2), .val (.int t2), .val (.int bt1), .val (.int bt2), .val (.ref b101), .val (.long (1 : Int64)), .second, .val (.long (1 : Int64)), .second, .unset, .unset, .unset, .unset, .unset, .unset, .unset, .unset, .unset, .unset, .unset] [(.long (2 : Int64))]))
          refine Go.by (fun _ kont => XS.lstore X107.here hx rfl (hb hby at_119) rfl (l' := #[.val (.int ids), .val (.int q1), .val (.int q2), .val (.int f1), .val (.int t1), .val (.int f2), .val (.int t2), .val (.int bt1), .val (.int bt2), .val (.ref b101), .val (.long (1 : Int64)), .second, .val (.long (1 : Int64)), .second, .val (.long (2 : Int64)), .second, .unset, .unset, .unset, .unset, .unset, .unset, .unset, .unset, .unset]) rfl (X107.ldc2Long hx hown (mvT hZ (hw _ (List.mem_of_getElem? (i := 22) rfl))) (g := (mkF m 121 #[.val (.int ids), .val (.int q1), .val (.int q2), .val (.int f1), .val (.int t1), .val (.int f2), .val (.int t2), .val (.int bt1), .val (.int bt2), .val (.ref b101), .val (.long (1 : Int64)), .second, .val (.long (1 : Int64)), .second, .val (.long (2 : Int64)), .second, .unset, .unset, .unset, .unset, .unset, .unset, .unset, .unset, .unset] [])) rfl (hb hby at_121) _ (XS.lload X107.here hx rfl (hb hby at_124) rfl (XS.lsub X107.here hx rfl (hb hby at_126) rfl kont)))) ?_
          show Go _ _ _ _ _ _ _ (T107.setTop (mkF m 127 #[.val (.int ids), .val (.int q1), .val (.int q2), .val (.int f1), .val (.int t1), .val (.int f2), .val (.int t2), .val (.int bt1), .val (.int bt2), .val (.ref b101), .val (.long (1 : Int64)), .second, .val (.long (1 : Int64)), .second, .val (.long (2 : Int64)), .second, .unset, .unset, .unset, .unset, .unset, .unset, .unset, .unset, .unset] [(.long ((2 : Int64) - (2 : Int64)))]))
          rw [show ((2 : Int64) - (2 : Int64)) = (0 : Int64) from by decide]
          show Go _ _ _ _ _ _ _ (T107.setTop (mkF m 127 #[.val (.int ids), .val (.int q1), .val (.int q2), .val (.int f1), .val (.int t1), .val (.int f2), .val (.int t2), .val (.int bt1), .val (.int bt2), .val (.ref b101), .val (.long (1 : Int64)), .second, .val (.long (1 : Int64)), .second, .val (.long (2 : Int64)), .second, .unset, .unset, .unset, .unset, .unset, .unset, .unset, .unset, .unset] [(.long (0 : Int64))]))
          refine Go.by (fun _ kont => XS.lstore X107.here hx rfl (hb hby at_127) rfl (l' := #[.val (.int ids), .val (.int q1), .val (.int q2), .val (.int f1), .val (.int t1), .val (.int f2), .val (.int t2), .val (.int bt1), .val (.int bt2), .val (.ref b101), .val (.long (1 : Int64)), .second, .val (.long (1 : Int64)), .second, .val (.long (2 : Int64)), .second, .val (.long (0 : Int64)), .second, .unset, .unset, .unset, .unset, .unset, .unset, .unset]) rfl (XS.iloadN X107.here hx rfl (hb hby at_129) rfl kont)) ?_
          show Go _ _ _ _ _ _ _ (T107.setTop (mkF m 130 #[.val (.int ids), .val (.int q1), .val (.int q2), .val (.int f1), .val (.int t1), .val (.int f2), .val (.int t2), .val (.int bt1), .val (.int bt2), .val (.ref b101), .val (.long (1 : Int64)), .second, .val (.long (1 : Int64)), .second, .val (.long (2 : Int64)), .second, .val (.long (0 : Int64)), .second, .unset, .unset, .unset, .unset, .unset, .unset, .unset] [(.int f1)]))
          refine Go.by (fun _ kont => XS.ifNo X107.here hx rfl (hb hby at_130) rfl ((if0 _ _).trans (teq hc127).2) kont) ?_
          show Go _ _ _ _ _ _ _ (T107.setTop (mkF m 133 #[.val (.int ids), .val (.int q1), .val (.int q2), .val (.int f1), .val (.int t1), .val (.int f2), .val (.int t2), .val (.int bt1), .val (.int bt2), .val (.ref b101), .val (.long (1 : Int64)), .second, .val (.long (1 : Int64)), .second, .val (.long (2 : Int64)), .second, .val (.long (0 : Int64)), .second, .unset, .unset, .unset, .unset, .unset, .unset, .unset] []))
          refine Go.by (fun _ kont => XS.iload X107.here hx rfl (hb hby at_133) rfl (XS.i2l X107.here hx rfl (hb hby at_135) rfl (XS.goto X107.here hx rfl (pc0 := 136) (pc' := 140) rfl (hb hby at_136) (by decide) (by decide) (XS.iload X107.here hx rfl (hb hby at_140) rfl kont)))) ?_
          show Go _ _ _ _ _ _ _ (T107.setTop (mkF m 142 #[.val (.int ids), .val (.int q1), .val (.int q2), .val (.int f1), .val (.int t1), .val (.int f2), .val (.int t2), .val (.int bt1), .val (.int bt2), .val (.ref b101), .val (.long (1 : Int64)), .second, .val (.long (1 : Int64)), .second, .val (.long (2 : Int64)), .second, .val (.long (0 : Int64)), .second, .unset, .unset, .unset, .unset, .unset, .unset, .unset] [(.int f2), (.long (bt1.toInt64))]))
          refine Go.by (fun _ kont => XS.ifYes X107.here hx rfl (pc0 := 142) (pc' := 151) rfl (hb hby at_142) rfl ((if0 _ _).trans (feq hc128).2) (by decide) (by decide) kont) ?_
          show Go _ _ _ _ _ _ _ (T107.setTop (mkF m 151 #[.val (.int ids), .val (.int q1), .val (.int q2), .val (.int f1), .val (.int t1), .val (.int f2), .val (.int t2), .val (.int bt1), .val (.int bt2), .val (.ref b101), .val (.long (1 : Int64)), .second, .val (.long (1 : Int64)), .second, .val (.long (2 : Int64)), .second, .val (.long (0 : Int64)), .second, .unset, .unset, .unset, .unset, .unset, .unset, .unset] [(.long (bt1.toInt64))]))
          refine Go.by (fun _ kont => XS.lconst X107.here hx rfl (hb hby at_151) (XS.ladd X107.here hx rfl (hb hby at_152) rfl (XS.lstore X107.here hx rfl (hb hby at_153) rfl (l' := #[.val (.int ids), .val (.int q1), .val (.int q2), .val (.int f1), .val (.int t1), .val (.int f2), .val (.int t2), .val (.int bt1), .val (.int bt2), .val (.ref b101), .val (.long (1 : Int64)), .second, .val (.long (1 : Int64)), .second, .val (.long (2 : Int64)), .second, .val (.long (0 : Int64)), .second, .val (.long ((bt1.toInt64) + (0 : Int64))), .second, .unset, .unset, .unset, .unset, .unset]) rfl (XS.iloadN X107.here hx rfl (hb hby at_155) rfl (XS.iconst X107.here hx rfl (hb hby at_156) kont))))) ?_
          show Go _ _ _ _ _ _ _ (T107.setTop (mkF m 157 #[.val (.int ids), .val (.int q1), .val (.int q2), .val (.int f1), .val (.int t1), .val (.int f2), .val (.int t2), .val (.int bt1), .val (.int bt2), .val (.ref b101), .val (.long (1 : Int64)), .second, .val (.long (1 : Int64)), .second, .val (.long (2 : Int64)), .second, .val (.long (0 : Int64)), .second, .val (.long ((bt1.toInt64) + (0 : Int64))), .second, .unset, .unset, .unset, .unset, .unset] [(.int (1 : Int32)), (.int f1)]))
          have hd142 : ¬ (f1 = (1 : Int32)) := by rw [hc127]; decide
          refine Go.by (fun _ kont => XS.icmpYes X107.here hx rfl (pc0 := 157) (pc' := 166) rfl (hb hby at_157) rfl (feq hd142).2 (by decide) (by decide) kont) ?_
          show Go _ _ _ _ _ _ _ (T107.setTop (mkF m 166 #[.val (.int ids), .val (.int q1), .val (.int q2), .val (.int f1), .val (.int t1), .val (.int f2), .val (.int t2), .val (.int bt1), .val (.int bt2), .val (.ref b101), .val (.long (1 : Int64)), .second, .val (.long (1 : Int64)), .second, .val (.long (2 : Int64)), .second, .val (.long (0 : Int64)), .second, .val (.long ((bt1.toInt64) + (0 : Int64))), .second, .unset, .unset, .unset, .unset, .unset] []))
          refine Go.by (fun _ kont => XS.lconst X107.here hx rfl (hb hby at_166) (XS.iload X107.here hx rfl (hb hby at_167) rfl (XS.iconst X107.here hx rfl (hb hby at_169) kont))) ?_
          show Go _ _ _ _ _ _ _ (T107.setTop (mkF m 170 #[.val (.int ids), .val (.int q1), .val (.int q2), .val (.int f1), .val (.int t1), .val (.int f2), .val (.int t2), .val (.int bt1), .val (.int bt2), .val (.ref b101), .val (.long (1 : Int64)), .second, .val (.long (1 : Int64)), .second, .val (.long (2 : Int64)), .second, .val (.long (0 : Int64)), .second, .val (.long ((bt1.toInt64) + (0 : Int64))), .second, .unset, .unset, .unset, .unset, .unset] [(.int (1 : Int32)), (.int f2), (.long (0 : Int64))]))
          have hd143 : f2 = (1 : Int32) := Hf2.resolve_left hc128
          refine Go.by (fun _ kont => XS.icmpNo X107.here hx rfl (hb hby at_170) rfl (teq hd143).2 kont) ?_
          show Go _ _ _ _ _ _ _ (T107.setTop (mkF m 173 #[.val (.int ids), .val (.int q1), .val (.int q2), .val (.int f1), .val (.int t1), .val (.int f2), .val (.int t2), .val (.int bt1), .val (.int bt2), .val (.ref b101), .val (.long (1 : Int64)), .second, .val (.long (1 : Int64)), .second, .val (.long (2 : Int64)), .second, .val (.long (0 : Int64)), .second, .val (.long ((bt1.toInt64) + (0 : Int64))), .second, .unset, .unset, .unset, .unset, .unset] [(.long (0 : Int64))]))
          refine Go.by (fun _ kont => XS.iload X107.here hx rfl (hb hby at_173) rfl (XS.i2l X107.here hx rfl (hb hby at_175) rfl (XS.goto X107.here hx rfl (pc0 := 176) (pc' := 180) rfl (hb hby at_176) (by decide) (by decide) (XS.ladd X107.here hx rfl (hb hby at_180) rfl (XS.lstore X107.here hx rfl (hb hby at_181) rfl (l' := #[.val (.int ids), .val (.int q1), .val (.int q2), .val (.int f1), .val (.int t1), .val (.int f2), .val (.int t2), .val (.int bt1), .val (.int bt2), .val (.ref b101), .val (.long (1 : Int64)), .second, .val (.long (1 : Int64)), .second, .val (.long (2 : Int64)), .second, .val (.long (0 : Int64)), .second, .val (.long ((bt1.toInt64) + (0 : Int64))), .second, .val (.long ((0 : Int64) + (bt2.toInt64))), .second, .unset, .unset, .unset]) rfl kont))))) ?_
          show Go _ _ _ _ _ _ _ (T107.setTop (mkF m 183 #[.val (.int ids), .val (.int q1), .val (.int q2), .val (.int f1), .val (.int t1), .val (.int f2), .val (.int t2), .val (.int bt1), .val (.int bt2), .val (.ref b101), .val (.long (1 : Int64)), .second, .val (.long (1 : Int64)), .second, .val (.long (2 : Int64)), .second, .val (.long (0 : Int64)), .second, .val (.long ((bt1.toInt64) + (0 : Int64))), .second, .val (.long ((0 : Int64) + (bt2.toInt64))), .second, .unset, .unset, .unset] []))
          have o_f2 := Hf2.resolve_left hc128
          refine cut183 (1 : Int64) (1 : Int64) (2 : Int64) (0 : Int64) ((bt1.toInt64) + (0 : Int64)) ((0 : Int64) + (bt2.toInt64)) ?_ ?_ ?_ ?_ ?_ ?_
          all_goals (unfold gF)
          all_goals (first | rfl | (simp [hc127, hc128, hc140, hc141, hd142, hd143, o_f2]) | (simp [hc127, hc128, hc140, hc141, hd142, hd143, o_f2] <;> decide))
        · refine Go.by (fun _ kont => XS.ifYes X107.here hx rfl (pc0 := 110) (pc' := 117) rfl (hb hby at_110) rfl ((if0 _ _).trans (feq hc141).2) (by decide) (by decide) kont) ?_
          show Go _ _ _ _ _ _ _ (T107.setTop (mkF m 117 #[.val (.int ids), .val (.int q1), .val (.int q2), .val (.int f1), .val (.int t1), .val (.int f2), .val (.int t2), .val (.int bt1), .val (.int bt2), .val (.ref b101), .val (.long (1 : Int64)), .second, .val (.long (1 : Int64)), .second, .unset, .unset, .unset, .unset, .unset, .unset, .unset, .unset, .unset, .unset, .unset] [(.long (1 : Int64))]))
          refine Go.by (fun _ kont => XS.lconst X107.here hx rfl (hb hby at_117) (XS.ladd X107.here hx rfl (hb hby at_118) rfl kont)) ?_
          show Go _ _ _ _ _ _ _ (T107.setTop (mkF m 119 #[.val (.int ids), .val (.int q1), .val (.int q2), .val (.int f1), .val (.int t1), .val (.int f2), .val (.int t2), .val (.int bt1), .val (.int bt2), .val (.ref b101), .val (.long (1 : Int64)), .second, .val (.long (1 : Int64)), .second, .unset, .unset, .unset, .unset, .unset, .unset, .unset, .unset, .unset, .unset, .unset] [(.long ((1 : Int64) + (0 : Int64)))]))
          rw [show ((1 : Int64) + (0 : Int64)) = (1 : Int64) from by decide]
          show Go _ _ _ _ _ _ _ (T107.setTop (mkF m 119 #[.val (.int ids), .val (.int q1), .val (.int q2), .val (.int f1), .val (.int t1), .val (.int f2), .val (.int t2), .val (.int bt1), .val (.int bt2), .val (.ref b101), .val (.long (1 : Int64)), .second, .val (.long (1 : Int64)), .second, .unset, .unset, .unset, .unset, .unset, .unset, .unset, .unset, .unset, .unset, .unset] [(.long (1 : Int64))]))
          refine Go.by (fun _ kont => XS.lstore X107.here hx rfl (hb hby at_119) rfl (l' := #[.val (.int ids), .val (.int q1), .val (.int q2), .val (.int f1), .val (.int t1), .val (.int f2), .val (.int t2), .val (.int bt1), .val (.int bt2), .val (.ref b101), .val (.long (1 : Int64)), .second, .val (.long (1 : Int64)), .second, .val (.long (1 : Int64)), .second, .unset, .unset, .unset, .unset, .unset, .unset, .unset, .unset, .unset]) rfl (X107.ldc2Long hx hown (mvT hZ (hw _ (List.mem_of_getElem? (i := 22) rfl))) (g := (mkF m 121 #[.val (.int ids), .val (.int q1), .val (.int q2), .val (.int f1), .val (.int t1), .val (.int f2), .val (.int t2), .val (.int bt1), .val (.int bt2), .val (.ref b101), .val (.long (1 : Int64)), .second, .val (.long (1 : Int64)), .second, .val (.long (1 : Int64)), .second, .unset, .unset, .unset, .unset, .unset, .unset, .unset, .unset, .unset] [])) rfl (hb hby at_121) _ (XS.lload X107.here hx rfl (hb hby at_124) rfl (XS.lsub X107.here hx rfl (hb hby at_126) rfl kont)))) ?_
          show Go _ _ _ _ _ _ _ (T107.setTop (mkF m 127 #[.val (.int ids), .val (.int q1), .val (.int q2), .val (.int f1), .val (.int t1), .val (.int f2), .val (.int t2), .val (.int bt1), .val (.int bt2), .val (.ref b101), .val (.long (1 : Int64)), .second, .val (.long (1 : Int64)), .second, .val (.long (1 : Int64)), .second, .unset, .unset, .unset, .unset, .unset, .unset, .unset, .unset, .unset] [(.long ((2 : Int64) - (1 : Int64)))]))
          rw [show ((2 : Int64) - (1 : Int64)) = (1 : Int64) from by decide]
          show Go _ _ _ _ _ _ _ (T107.setTop (mkF m 127 #[.val (.int ids), .val (.int q1), .val (.int q2), .val (.int f1), .val (.int t1), .val (.int f2), .val (.int t2), .val (.int bt1), .val (.int bt2), .val (.ref b101), .val (.long (1 : Int64)), .second, .val (.long (1 : Int64)), .second, .val (.long (1 : Int64)), .second, .unset, .unset, .unset, .unset, .unset, .unset, .unset, .unset, .unset] [(.long (1 : Int64))]))
          refine Go.by (fun _ kont => XS.lstore X107.here hx rfl (hb hby at_127) rfl (l' := #[.val (.int ids), .val (.int q1), .val (.int q2), .val (.int f1), .val (.int t1), .val (.int f2), .val (.int t2), .val (.int bt1), .val (.int bt2), .val (.ref b101), .val (.long (1 : Int64)), .second, .val (.long (1 : Int64)), .second, .val (.long (1 : Int64)), .second, .val (.long (1 : Int64)), .second, .unset, .unset, .unset, .unset, .unset, .unset, .unset]) rfl (XS.iloadN X107.here hx rfl (hb hby at_129) rfl kont)) ?_
          show Go _ _ _ _ _ _ _ (T107.setTop (mkF m 130 #[.val (.int ids), .val (.int q1), .val (.int q2), .val (.int f1), .val (.int t1), .val (.int f2), .val (.int t2), .val (.int bt1), .val (.int bt2), .val (.ref b101), .val (.long (1 : Int64)), .second, .val (.long (1 : Int64)), .second, .val (.long (1 : Int64)), .second, .val (.long (1 : Int64)), .second, .unset, .unset, .unset, .unset, .unset, .unset, .unset] [(.int f1)]))
          refine Go.by (fun _ kont => XS.ifNo X107.here hx rfl (hb hby at_130) rfl ((if0 _ _).trans (teq hc127).2) kont) ?_
          show Go _ _ _ _ _ _ _ (T107.setTop (mkF m 133 #[.val (.int ids), .val (.int q1), .val (.int q2), .val (.int f1), .val (.int t1), .val (.int f2), .val (.int t2), .val (.int bt1), .val (.int bt2), .val (.ref b101), .val (.long (1 : Int64)), .second, .val (.long (1 : Int64)), .second, .val (.long (1 : Int64)), .second, .val (.long (1 : Int64)), .second, .unset, .unset, .unset, .unset, .unset, .unset, .unset] []))
          refine Go.by (fun _ kont => XS.iload X107.here hx rfl (hb hby at_133) rfl (XS.i2l X107.here hx rfl (hb hby at_135) rfl (XS.goto X107.here hx rfl (pc0 := 136) (pc' := 140) rfl (hb hby at_136) (by decide) (by decide) (XS.iload X107.here hx rfl (hb hby at_140) rfl kont)))) ?_
          show Go _ _ _ _ _ _ _ (T107.setTop (mkF m 142 #[.val (.int ids), .val (.int q1), .val (.int q2), .val (.int f1), .val (.int t1), .val (.int f2), .val (.int t2), .val (.int bt1), .val (.int bt2), .val (.ref b101), .val (.long (1 : Int64)), .second, .val (.long (1 : Int64)), .second, .val (.long (1 : Int64)), .second, .val (.long (1 : Int64)), .second, .unset, .unset, .unset, .unset, .unset, .unset, .unset] [(.int f2), (.long (bt1.toInt64))]))
          refine Go.by (fun _ kont => XS.ifYes X107.here hx rfl (pc0 := 142) (pc' := 151) rfl (hb hby at_142) rfl ((if0 _ _).trans (feq hc128).2) (by decide) (by decide) kont) ?_
          show Go _ _ _ _ _ _ _ (T107.setTop (mkF m 151 #[.val (.int ids), .val (.int q1), .val (.int q2), .val (.int f1), .val (.int t1), .val (.int f2), .val (.int t2), .val (.int bt1), .val (.int bt2), .val (.ref b101), .val (.long (1 : Int64)), .second, .val (.long (1 : Int64)), .second, .val (.long (1 : Int64)), .second, .val (.long (1 : Int64)), .second, .unset, .unset, .unset, .unset, .unset, .unset, .unset] [(.long (bt1.toInt64))]))
          refine Go.by (fun _ kont => XS.lconst X107.here hx rfl (hb hby at_151) (XS.ladd X107.here hx rfl (hb hby at_152) rfl (XS.lstore X107.here hx rfl (hb hby at_153) rfl (l' := #[.val (.int ids), .val (.int q1), .val (.int q2), .val (.int f1), .val (.int t1), .val (.int f2), .val (.int t2), .val (.int bt1), .val (.int bt2), .val (.ref b101), .val (.long (1 : Int64)), .second, .val (.long (1 : Int64)), .second, .val (.long (1 : Int64)), .second, .val (.long (1 : Int64)), .second, .val (.long ((bt1.toInt64) + (0 : Int64))), .second, .unset, .unset, .unset, .unset, .unset]) rfl (XS.iloadN X107.here hx rfl (hb hby at_155) rfl (XS.iconst X107.here hx rfl (hb hby at_156) kont))))) ?_
          show Go _ _ _ _ _ _ _ (T107.setTop (mkF m 157 #[.val (.int ids), .val (.int q1), .val (.int q2), .val (.int f1), .val (.int t1), .val (.int f2), .val (.int t2), .val (.int bt1), .val (.int bt2), .val (.ref b101), .val (.long (1 : Int64)), .second, .val (.long (1 : Int64)), .second, .val (.long (1 : Int64)), .second, .val (.long (1 : Int64)), .second, .val (.long ((bt1.toInt64) + (0 : Int64))), .second, .unset, .unset, .unset, .unset, .unset] [(.int (1 : Int32)), (.int f1)]))
          have hd144 : ¬ (f1 = (1 : Int32)) := by rw [hc127]; decide
          refine Go.by (fun _ kont => XS.icmpYes X107.here hx rfl (pc0 := 157) (pc' := 166) rfl (hb hby at_157) rfl (feq hd144).2 (by decide) (by decide) kont) ?_
          show Go _ _ _ _ _ _ _ (T107.setTop (mkF m 166 #[.val (.int ids), .val (.int q1), .val (.int q2), .val (.int f1), .val (.int t1), .val (.int f2), .val (.int t2), .val (.int bt1), .val (.int bt2), .val (.ref b101), .val (.long (1 : Int64)), .second, .val (.long (1 : Int64)), .second, .val (.long (1 : Int64)), .second, .val (.long (1 : Int64)), .second, .val (.long ((bt1.toInt64) + (0 : Int64))), .second, .unset, .unset, .unset, .unset, .unset] []))
          refine Go.by (fun _ kont => XS.lconst X107.here hx rfl (hb hby at_166) (XS.iload X107.here hx rfl (hb hby at_167) rfl (XS.iconst X107.here hx rfl (hb hby at_169) kont))) ?_
          show Go _ _ _ _ _ _ _ (T107.setTop (mkF m 170 #[.val (.int ids), .val (.int q1), .val (.int q2), .val (.int f1), .val (.int t1), .val (.int f2), .val (.int t2), .val (.int bt1), .val (.int bt2), .val (.ref b101), .val (.long (1 : Int64)), .second, .val (.long (1 : Int64)), .second, .val (.long (1 : Int64)), .second, .val (.long (1 : Int64)), .second, .val (.long ((bt1.toInt64) + (0 : Int64))), .second, .unset, .unset, .unset, .unset, .unset] [(.int (1 : Int32)), (.int f2), (.long (0 : Int64))]))
          have hd145 : f2 = (1 : Int32) := Hf2.resolve_left hc128
          refine Go.by (fun _ kont => XS.icmpNo X107.here hx rfl (hb hby at_170) rfl (teq hd145).2 kont) ?_
          show Go _ _ _ _ _ _ _ (T107.setTop (mkF m 173 #[.val (.int ids), .val (.int q1), .val (.int q2), .val (.int f1), .val (.int t1), .val (.int f2), .val (.int t2), .val (.int bt1), .val (.int bt2), .val (.ref b101), .val (.long (1 : Int64)), .second, .val (.long (1 : Int64)), .second, .val (.long (1 : Int64)), .second, .val (.long (1 : Int64)), .second, .val (.long ((bt1.toInt64) + (0 : Int64))), .second, .unset, .unset, .unset, .unset, .unset] [(.long (0 : Int64))]))
          refine Go.by (fun _ kont => XS.iload X107.here hx rfl (hb hby at_173) rfl (XS.i2l X107.here hx rfl (hb hby at_175) rfl (XS.goto X107.here hx rfl (pc0 := 176) (pc' := 180) rfl (hb hby at_176) (by decide) (by decide) (XS.ladd X107.here hx rfl (hb hby at_180) rfl (XS.lstore X107.here hx rfl (hb hby at_181) rfl (l' := #[.val (.int ids), .val (.int q1), .val (.int q2), .val (.int f1), .val (.int t1), .val (.int f2), .val (.int t2), .val (.int bt1), .val (.int bt2), .val (.ref b101), .val (.long (1 : Int64)), .second, .val (.long (1 : Int64)), .second, .val (.long (1 : Int64)), .second, .val (.long (1 : Int64)), .second, .val (.long ((bt1.toInt64) + (0 : Int64))), .second, .val (.long ((0 : Int64) + (bt2.toInt64))), .second, .unset, .unset, .unset]) rfl kont))))) ?_
          show Go _ _ _ _ _ _ _ (T107.setTop (mkF m 183 #[.val (.int ids), .val (.int q1), .val (.int q2), .val (.int f1), .val (.int t1), .val (.int f2), .val (.int t2), .val (.int bt1), .val (.int bt2), .val (.ref b101), .val (.long (1 : Int64)), .second, .val (.long (1 : Int64)), .second, .val (.long (1 : Int64)), .second, .val (.long (1 : Int64)), .second, .val (.long ((bt1.toInt64) + (0 : Int64))), .second, .val (.long ((0 : Int64) + (bt2.toInt64))), .second, .unset, .unset, .unset] []))
          have o_f2 := Hf2.resolve_left hc128
          have o_t2 := Ht2.resolve_left hc141
          refine cut183 (1 : Int64) (1 : Int64) (1 : Int64) (1 : Int64) ((bt1.toInt64) + (0 : Int64)) ((0 : Int64) + (bt2.toInt64)) ?_ ?_ ?_ ?_ ?_ ?_
          all_goals (unfold gF)
          all_goals (first | rfl | (simp [hc127, hc128, hc140, hc141, hd144, hd145, o_f2, o_t2]) | (simp [hc127, hc128, hc140, hc141, hd144, hd145, o_f2, o_t2] <;> decide))
      · refine Go.by (fun _ kont => XS.ifYes X107.here hx rfl (pc0 := 100) (pc' := 107) rfl (hb hby at_100) rfl ((if0 _ _).trans (feq hc140).2) (by decide) (by decide) kont) ?_
        show Go _ _ _ _ _ _ _ (T107.setTop (mkF m 107 #[.val (.int ids), .val (.int q1), .val (.int q2), .val (.int f1), .val (.int t1), .val (.int f2), .val (.int t2), .val (.int bt1), .val (.int bt2), .val (.ref b101), .val (.long (1 : Int64)), .second, .val (.long (1 : Int64)), .second, .unset, .unset, .unset, .unset, .unset, .unset, .unset, .unset, .unset, .unset, .unset] []))
        refine Go.by (fun _ kont => XS.lconst X107.here hx rfl (hb hby at_107) (XS.iload X107.here hx rfl (hb hby at_108) rfl kont)) ?_
        show Go _ _ _ _ _ _ _ (T107.setTop (mkF m 110 #[.val (.int ids), .val (.int q1), .val (.int q2), .val (.int f1), .val (.int t1), .val (.int f2), .val (.int t2), .val (.int bt1), .val (.int bt2), .val (.ref b101), .val (.long (1 : Int64)), .second, .val (.long (1 : Int64)), .second, .unset, .unset, .unset, .unset, .unset, .unset, .unset, .unset, .unset, .unset, .unset] [(.int t2), (.long (0 : Int64))]))
        by_cases hc146 : t2 = (0 : Int32)
        · refine Go.by (fun _ kont => XS.ifNo X107.here hx rfl (hb hby at_110) rfl ((if0 _ _).trans (teq hc146).2) kont) ?_
          show Go _ _ _ _ _ _ _ (T107.setTop (mkF m 113 #[.val (.int ids), .val (.int q1), .val (.int q2), .val (.int f1), .val (.int t1), .val (.int f2), .val (.int t2), .val (.int bt1), .val (.int bt2), .val (.ref b101), .val (.long (1 : Int64)), .second, .val (.long (1 : Int64)), .second, .unset, .unset, .unset, .unset, .unset, .unset, .unset, .unset, .unset, .unset, .unset] [(.long (0 : Int64))]))
          refine Go.by (fun _ kont => XS.lconst X107.here hx rfl (hb hby at_113) (XS.goto X107.here hx rfl (pc0 := 114) (pc' := 118) rfl (hb hby at_114) (by decide) (by decide) (XS.ladd X107.here hx rfl (hb hby at_118) rfl kont))) ?_
          show Go _ _ _ _ _ _ _ (T107.setTop (mkF m 119 #[.val (.int ids), .val (.int q1), .val (.int q2), .val (.int f1), .val (.int t1), .val (.int f2), .val (.int t2), .val (.int bt1), .val (.int bt2), .val (.ref b101), .val (.long (1 : Int64)), .second, .val (.long (1 : Int64)), .second, .unset, .unset, .unset, .unset, .unset, .unset, .unset, .unset, .unset, .unset, .unset] [(.long ((0 : Int64) + (1 : Int64)))]))
          rw [show ((0 : Int64) + (1 : Int64)) = (1 : Int64) from by decide]
          show Go _ _ _ _ _ _ _ (T107.setTop (mkF m 119 #[.val (.int ids), .val (.int q1), .val (.int q2), .val (.int f1), .val (.int t1), .val (.int f2), .val (.int t2), .val (.int bt1), .val (.int bt2), .val (.ref b101), .val (.long (1 : Int64)), .second, .val (.long (1 : Int64)), .second, .unset, .unset, .unset, .unset, .unset, .unset, .unset, .unset, .unset, .unset, .unset] [(.long (1 : Int64))]))
          refine Go.by (fun _ kont => XS.lstore X107.here hx rfl (hb hby at_119) rfl (l' := #[.val (.int ids), .val (.int q1), .val (.int q2), .val (.int f1), .val (.int t1), .val (.int f2), .val (.int t2), .val (.int bt1), .val (.int bt2), .val (.ref b101), .val (.long (1 : Int64)), .second, .val (.long (1 : Int64)), .second, .val (.long (1 : Int64)), .second, .unset, .unset, .unset, .unset, .unset, .unset, .unset, .unset, .unset]) rfl (X107.ldc2Long hx hown (mvT hZ (hw _ (List.mem_of_getElem? (i := 22) rfl))) (g := (mkF m 121 #[.val (.int ids), .val (.int q1), .val (.int q2), .val (.int f1), .val (.int t1), .val (.int f2), .val (.int t2), .val (.int bt1), .val (.int bt2), .val (.ref b101), .val (.long (1 : Int64)), .second, .val (.long (1 : Int64)), .second, .val (.long (1 : Int64)), .second, .unset, .unset, .unset, .unset, .unset, .unset, .unset, .unset, .unset] [])) rfl (hb hby at_121) _ (XS.lload X107.here hx rfl (hb hby at_124) rfl (XS.lsub X107.here hx rfl (hb hby at_126) rfl kont)))) ?_
          show Go _ _ _ _ _ _ _ (T107.setTop (mkF m 127 #[.val (.int ids), .val (.int q1), .val (.int q2), .val (.int f1), .val (.int t1), .val (.int f2), .val (.int t2), .val (.int bt1), .val (.int bt2), .val (.ref b101), .val (.long (1 : Int64)), .second, .val (.long (1 : Int64)), .second, .val (.long (1 : Int64)), .second, .unset, .unset, .unset, .unset, .unset, .unset, .unset, .unset, .unset] [(.long ((2 : Int64) - (1 : Int64)))]))
          rw [show ((2 : Int64) - (1 : Int64)) = (1 : Int64) from by decide]
          show Go _ _ _ _ _ _ _ (T107.setTop (mkF m 127 #[.val (.int ids), .val (.int q1), .val (.int q2), .val (.int f1), .val (.int t1), .val (.int f2), .val (.int t2), .val (.int bt1), .val (.int bt2), .val (.ref b101), .val (.long (1 : Int64)), .second, .val (.long (1 : Int64)), .second, .val (.long (1 : Int64)), .second, .unset, .unset, .unset, .unset, .unset, .unset, .unset, .unset, .unset] [(.long (1 : Int64))]))
          refine Go.by (fun _ kont => XS.lstore X107.here hx rfl (hb hby at_127) rfl (l' := #[.val (.int ids), .val (.int q1), .val (.int q2), .val (.int f1), .val (.int t1), .val (.int f2), .val (.int t2), .val (.int bt1), .val (.int bt2), .val (.ref b101), .val (.long (1 : Int64)), .second, .val (.long (1 : Int64)), .second, .val (.long (1 : Int64)), .second, .val (.long (1 : Int64)), .second, .unset, .unset, .unset, .unset, .unset, .unset, .unset]) rfl (XS.iloadN X107.here hx rfl (hb hby at_129) rfl kont)) ?_
          show Go _ _ _ _ _ _ _ (T107.setTop (mkF m 130 #[.val (.int ids), .val (.int q1), .val (.int q2), .val (.int f1), .val (.int t1), .val (.int f2), .val (.int t2), .val (.int bt1), .val (.int bt2), .val (.ref b101), .val (.long (1 : Int64)), .second, .val (.long (1 : Int64)), .second, .val (.long (1 : Int64)), .second, .val (.long (1 : Int64)), .second, .unset, .unset, .unset, .unset, .unset, .unset, .unset] [(.int f1)]))
          refine Go.by (fun _ kont => XS.ifNo X107.here hx rfl (hb hby at_130) rfl ((if0 _ _).trans (teq hc127).2) kont) ?_
          show Go _ _ _ _ _ _ _ (T107.setTop (mkF m 133 #[.val (.int ids), .val (.int q1), .val (.int q2), .val (.int f1), .val (.int t1), .val (.int f2), .val (.int t2), .val (.int bt1), .val (.int bt2), .val (.ref b101), .val (.long (1 : Int64)), .second, .val (.long (1 : Int64)), .second, .val (.long (1 : Int64)), .second, .val (.long (1 : Int64)), .second, .unset, .unset, .unset, .unset, .unset, .unset, .unset] []))
          refine Go.by (fun _ kont => XS.iload X107.here hx rfl (hb hby at_133) rfl (XS.i2l X107.here hx rfl (hb hby at_135) rfl (XS.goto X107.here hx rfl (pc0 := 136) (pc' := 140) rfl (hb hby at_136) (by decide) (by decide) (XS.iload X107.here hx rfl (hb hby at_140) rfl kont)))) ?_
          show Go _ _ _ _ _ _ _ (T107.setTop (mkF m 142 #[.val (.int ids), .val (.int q1), .val (.int q2), .val (.int f1), .val (.int t1), .val (.int f2), .val (.int t2), .val (.int bt1), .val (.int bt2), .val (.ref b101), .val (.long (1 : Int64)), .second, .val (.long (1 : Int64)), .second, .val (.long (1 : Int64)), .second, .val (.long (1 : Int64)), .second, .unset, .unset, .unset, .unset, .unset, .unset, .unset] [(.int f2), (.long (bt1.toInt64))]))
          refine Go.by (fun _ kont => XS.ifYes X107.here hx rfl (pc0 := 142) (pc' := 151) rfl (hb hby at_142) rfl ((if0 _ _).trans (feq hc128).2) (by decide) (by decide) kont) ?_
          show Go _ _ _ _ _ _ _ (T107.setTop (mkF m 151 #[.val (.int ids), .val (.int q1), .val (.int q2), .val (.int f1), .val (.int t1), .val (.int f2), .val (.int t2), .val (.int bt1), .val (.int bt2), .val (.ref b101), .val (.long (1 : Int64)), .second, .val (.long (1 : Int64)), .second, .val (.long (1 : Int64)), .second, .val (.long (1 : Int64)), .second, .unset, .unset, .unset, .unset, .unset, .unset, .unset] [(.long (bt1.toInt64))]))
          refine Go.by (fun _ kont => XS.lconst X107.here hx rfl (hb hby at_151) (XS.ladd X107.here hx rfl (hb hby at_152) rfl (XS.lstore X107.here hx rfl (hb hby at_153) rfl (l' := #[.val (.int ids), .val (.int q1), .val (.int q2), .val (.int f1), .val (.int t1), .val (.int f2), .val (.int t2), .val (.int bt1), .val (.int bt2), .val (.ref b101), .val (.long (1 : Int64)), .second, .val (.long (1 : Int64)), .second, .val (.long (1 : Int64)), .second, .val (.long (1 : Int64)), .second, .val (.long ((bt1.toInt64) + (0 : Int64))), .second, .unset, .unset, .unset, .unset, .unset]) rfl (XS.iloadN X107.here hx rfl (hb hby at_155) rfl (XS.iconst X107.here hx rfl (hb hby at_156) kont))))) ?_
          show Go _ _ _ _ _ _ _ (T107.setTop (mkF m 157 #[.val (.int ids), .val (.int q1), .val (.int q2), .val (.int f1), .val (.int t1), .val (.int f2), .val (.int t2), .val (.int bt1), .val (.int bt2), .val (.ref b101), .val (.long (1 : Int64)), .second, .val (.long (1 : Int64)), .second, .val (.long (1 : Int64)), .second, .val (.long (1 : Int64)), .second, .val (.long ((bt1.toInt64) + (0 : Int64))), .second, .unset, .unset, .unset, .unset, .unset] [(.int (1 : Int32)), (.int f1)]))
          have hd147 : ¬ (f1 = (1 : Int32)) := by rw [hc127]; decide
          refine Go.by (fun _ kont => XS.icmpYes X107.here hx rfl (pc0 := 157) (pc' := 166) rfl (hb hby at_157) rfl (feq hd147).2 (by decide) (by decide) kont) ?_
          show Go _ _ _ _ _ _ _ (T107.setTop (mkF m 166 #[.val (.int ids), .val (.int q1), .val (.int q2), .val (.int f1), .val (.int t1), .val (.int f2), .val (.int t2), .val (.int bt1), .val (.int bt2), .val (.ref b101), .val (.long (1 : Int64)), .second, .val (.long (1 : Int64)), .second, .val (.long (1 : Int64)), .second, .val (.long (1 : Int64)), .second, .val (.long ((bt1.toInt64) + (0 : Int64))), .second, .unset, .unset, .unset, .unset, .unset] []))
          refine Go.by (fun _ kont => XS.lconst X107.here hx rfl (hb hby at_166) (XS.iload X107.here hx rfl (hb hby at_167) rfl (XS.iconst X107.here hx rfl (hb hby at_169) kont))) ?_
          show Go _ _ _ _ _ _ _ (T107.setTop (mkF m 170 #[.val (.int ids), .val (.int q1), .val (.int q2), .val (.int f1), .val (.int t1), .val (.int f2), .val (.int t2), .val (.int bt1), .val (.int bt2), .val (.ref b101), .val (.long (1 : Int64)), .second, .val (.long (1 : Int64)), .second, .val (.long (1 : Int64)), .second, .val (.long (1 : Int64)), .second, .val (.long ((bt1.toInt64) + (0 : Int64))), .second, .unset, .unset, .unset, .unset, .unset] [(.int (1 : Int32)), (.int f2), (.long (0 : Int64))]))
          have hd148 : f2 = (1 : Int32) := Hf2.resolve_left hc128
          refine Go.by (fun _ kont => XS.icmpNo X107.here hx rfl (hb hby at_170) rfl (teq hd148).2 kont) ?_
          show Go _ _ _ _ _ _ _ (T107.setTop (mkF m 173 #[.val (.int ids), .val (.int q1), .val (.int q2), .val (.int f1), .val (.int t1), .val (.int f2), .val (.int t2), .val (.int bt1), .val (.int bt2), .val (.ref b101), .val (.long (1 : Int64)), .second, .val (.long (1 : Int64)), .second, .val (.long (1 : Int64)), .second, .val (.long (1 : Int64)), .second, .val (.long ((bt1.toInt64) + (0 : Int64))), .second, .unset, .unset, .unset, .unset, .unset] [(.long (0 : Int64))]))
          refine Go.by (fun _ kont => XS.iload X107.here hx rfl (hb hby at_173) rfl (XS.i2l X107.here hx rfl (hb hby at_175) rfl (XS.goto X107.here hx rfl (pc0 := 176) (pc' := 180) rfl (hb hby at_176) (by decide) (by decide) (XS.ladd X107.here hx rfl (hb hby at_180) rfl (XS.lstore X107.here hx rfl (hb hby at_181) rfl (l' := #[.val (.int ids), .val (.int q1), .val (.int q2), .val (.int f1), .val (.int t1), .val (.int f2), .val (.int t2), .val (.int bt1), .val (.int bt2), .val (.ref b101), .val (.long (1 : Int64)), .second, .val (.long (1 : Int64)), .second, .val (.long (1 : Int64)), .second, .val (.long (1 : Int64)), .second, .val (.long ((bt1.toInt64) + (0 : Int64))), .second, .val (.long ((0 : Int64) + (bt2.toInt64))), .second, .unset, .unset, .unset]) rfl kont))))) ?_
          show Go _ _ _ _ _ _ _ (T107.setTop (mkF m 183 #[.val (.int ids), .val (.int q1), .val (.int q2), .val (.int f1), .val (.int t1), .val (.int f2), .val (.int t2), .val (.int bt1), .val (.int bt2), .val (.ref b101), .val (.long (1 : Int64)), .second, .val (.long (1 : Int64)), .second, .val (.long (1 : Int64)), .second, .val (.long (1 : Int64)), .second, .val (.long ((bt1.toInt64) + (0 : Int64))), .second, .val (.long ((0 : Int64) + (bt2.toInt64))), .second, .unset, .unset, .unset] []))
          have o_f2 := Hf2.resolve_left hc128
          have o_t1 := Ht1.resolve_left hc140
          refine cut183 (1 : Int64) (1 : Int64) (1 : Int64) (1 : Int64) ((bt1.toInt64) + (0 : Int64)) ((0 : Int64) + (bt2.toInt64)) ?_ ?_ ?_ ?_ ?_ ?_
          all_goals (unfold gF)
          all_goals (first | rfl | (simp [hc127, hc128, hc140, hc146, hd147, hd148, o_f2, o_t1]) | (simp [hc127, hc128, hc140, hc146, hd147, hd148, o_f2, o_t1] <;> decide))
        · refine Go.by (fun _ kont => XS.ifYes X107.here hx rfl (pc0 := 110) (pc' := 117) rfl (hb hby at_110) rfl ((if0 _ _).trans (feq hc146).2) (by decide) (by decide) kont) ?_
          show Go _ _ _ _ _ _ _ (T107.setTop (mkF m 117 #[.val (.int ids), .val (.int q1), .val (.int q2), .val (.int f1), .val (.int t1), .val (.int f2), .val (.int t2), .val (.int bt1), .val (.int bt2), .val (.ref b101), .val (.long (1 : Int64)), .second, .val (.long (1 : Int64)), .second, .unset, .unset, .unset, .unset, .unset, .unset, .unset, .unset, .unset, .unset, .unset] [(.long (0 : Int64))]))
          refine Go.by (fun _ kont => XS.lconst X107.here hx rfl (hb hby at_117) (XS.ladd X107.here hx rfl (hb hby at_118) rfl kont)) ?_
          show Go _ _ _ _ _ _ _ (T107.setTop (mkF m 119 #[.val (.int ids), .val (.int q1), .val (.int q2), .val (.int f1), .val (.int t1), .val (.int f2), .val (.int t2), .val (.int bt1), .val (.int bt2), .val (.ref b101), .val (.long (1 : Int64)), .second, .val (.long (1 : Int64)), .second, .unset, .unset, .unset, .unset, .unset, .unset, .unset, .unset, .unset, .unset, .unset] [(.long ((0 : Int64) + (0 : Int64)))]))
          rw [show ((0 : Int64) + (0 : Int64)) = (0 : Int64) from by decide]
          show Go _ _ _ _ _ _ _ (T107.setTop (mkF m 119 #[.val (.int ids), .val (.int q1), .val (.int q2), .val (.int f1), .val (.int t1), .val (.int f2), .val (.int t2), .val (.int bt1), .val (.int bt2), .val (.ref b101), .val (.long (1 : Int64)), .second, .val (.long (1 : Int64)), .second, .unset, .unset, .unset, .unset, .unset, .unset, .unset, .unset, .unset, .unset, .unset] [(.long (0 : Int64))]))
          refine Go.by (fun _ kont => XS.lstore X107.here hx rfl (hb hby at_119) rfl (l' := #[.val (.int ids), .val (.int q1), .val (.int q2), .val (.int f1), .val (.int t1), .val (.int f2), .val (.int t2), .val (.int bt1), .val (.int bt2), .val (.ref b101), .val (.long (1 : Int64)), .second, .val (.long (1 : Int64)), .second, .val (.long (0 : Int64)), .second, .unset, .unset, .unset, .unset, .unset, .unset, .unset, .unset, .unset]) rfl (X107.ldc2Long hx hown (mvT hZ (hw _ (List.mem_of_getElem? (i := 22) rfl))) (g := (mkF m 121 #[.val (.int ids), .val (.int q1), .val (.int q2), .val (.int f1), .val (.int t1), .val (.int f2), .val (.int t2), .val (.int bt1), .val (.int bt2), .val (.ref b101), .val (.long (1 : Int64)), .second, .val (.long (1 : Int64)), .second, .val (.long (0 : Int64)), .second, .unset, .unset, .unset, .unset, .unset, .unset, .unset, .unset, .unset] [])) rfl (hb hby at_121) _ (XS.lload X107.here hx rfl (hb hby at_124) rfl (XS.lsub X107.here hx rfl (hb hby at_126) rfl kont)))) ?_
          show Go _ _ _ _ _ _ _ (T107.setTop (mkF m 127 #[.val (.int ids), .val (.int q1), .val (.int q2), .val (.int f1), .val (.int t1), .val (.int f2), .val (.int t2), .val (.int bt1), .val (.int bt2), .val (.ref b101), .val (.long (1 : Int64)), .second, .val (.long (1 : Int64)), .second, .val (.long (0 : Int64)), .second, .unset, .unset, .unset, .unset, .unset, .unset, .unset, .unset, .unset] [(.long ((2 : Int64) - (0 : Int64)))]))
          rw [show ((2 : Int64) - (0 : Int64)) = (2 : Int64) from by decide]
          show Go _ _ _ _ _ _ _ (T107.setTop (mkF m 127 #[.val (.int ids), .val (.int q1), .val (.int q2), .val (.int f1), .val (.int t1), .val (.int f2), .val (.int t2), .val (.int bt1), .val (.int bt2), .val (.ref b101), .val (.long (1 : Int64)), .second, .val (.long (1 : Int64)), .second, .val (.long (0 : Int64)), .second, .unset, .unset, .unset, .unset, .unset, .unset, .unset, .unset, .unset] [(.long (2 : Int64))]))
          refine Go.by (fun _ kont => XS.lstore X107.here hx rfl (hb hby at_127) rfl (l' := #[.val (.int ids), .val (.int q1), .val (.int q2), .val (.int f1), .val (.int t1), .val (.int f2), .val (.int t2), .val (.int bt1), .val (.int bt2), .val (.ref b101), .val (.long (1 : Int64)), .second, .val (.long (1 : Int64)), .second, .val (.long (0 : Int64)), .second, .val (.long (2 : Int64)), .second, .unset, .unset, .unset, .unset, .unset, .unset, .unset]) rfl (XS.iloadN X107.here hx rfl (hb hby at_129) rfl kont)) ?_
          show Go _ _ _ _ _ _ _ (T107.setTop (mkF m 130 #[.val (.int ids), .val (.int q1), .val (.int q2), .val (.int f1), .val (.int t1), .val (.int f2), .val (.int t2), .val (.int bt1), .val (.int bt2), .val (.ref b101), .val (.long (1 : Int64)), .second, .val (.long (1 : Int64)), .second, .val (.long (0 : Int64)), .second, .val (.long (2 : Int64)), .second, .unset, .unset, .unset, .unset, .unset, .unset, .unset] [(.int f1)]))
          refine Go.by (fun _ kont => XS.ifNo X107.here hx rfl (hb hby at_130) rfl ((if0 _ _).trans (teq hc127).2) kont) ?_
          show Go _ _ _ _ _ _ _ (T107.setTop (mkF m 133 #[.val (.int ids), .val (.int q1), .val (.int q2), .val (.int f1), .val (.int t1), .val (.int f2), .val (.int t2), .val (.int bt1), .val (.int bt2), .val (.ref b101), .val (.long (1 : Int64)), .second, .val (.long (1 : Int64)), .second, .val (.long (0 : Int64)), .second, .val (.long (2 : Int64)), .second, .unset, .unset, .unset, .unset, .unset, .unset, .unset] []))
          refine Go.by (fun _ kont => XS.iload X107.here hx rfl (hb hby at_133) rfl (XS.i2l X107.here hx rfl (hb hby at_135) rfl (XS.goto X107.here hx rfl (pc0 := 136) (pc' := 140) rfl (hb hby at_136) (by decide) (by decide) (XS.iload X107.here hx rfl (hb hby at_140) rfl kont)))) ?_
          show Go _ _ _ _ _ _ _ (T107.setTop (mkF m 142 #[.val (.int ids), .val (.int q1), .val (.int q2), .val (.int f1), .val (.int t1), .val (.int f2), .val (.int t2), .val (.int bt1), .val (.int bt2), .val (.ref b101), .val (.long (1 : Int64)), .second, .val (.long (1 : Int64)), .second, .val (.long (0 : Int64)), .second, .val (.long (2 : Int64)), .second, .unset, .unset, .unset, .unset, .unset, .unset, .unset] [(.int f2), (.long (bt1.toInt64))]))
          refine Go.by (fun _ kont => XS.ifYes X107.here hx rfl (pc0 := 142) (pc' := 151) rfl (hb hby at_142) rfl ((if0 _ _).trans (feq hc128).2) (by decide) (by decide) kont) ?_
          show Go _ _ _ _ _ _ _ (T107.setTop (mkF m 151 #[.val (.int ids), .val (.int q1), .val (.int q2), .val (.int f1), .val (.int t1), .val (.int f2), .val (.int t2), .val (.int bt1), .val (.int bt2), .val (.ref b101), .val (.long (1 : Int64)), .second, .val (.long (1 : Int64)), .second, .val (.long (0 : Int64)), .second, .val (.long (2 : Int64)), .second, .unset, .unset, .unset, .unset, .unset, .unset, .unset] [(.long (bt1.toInt64))]))
          refine Go.by (fun _ kont => XS.lconst X107.here hx rfl (hb hby at_151) (XS.ladd X107.here hx rfl (hb hby at_152) rfl (XS.lstore X107.here hx rfl (hb hby at_153) rfl (l' := #[.val (.int ids), .val (.int q1), .val (.int q2), .val (.int f1), .val (.int t1), .val (.int f2), .val (.int t2), .val (.int bt1), .val (.int bt2), .val (.ref b101), .val (.long (1 : Int64)), .second, .val (.long (1 : Int64)), .second, .val (.long (0 : Int64)), .second, .val (.long (2 : Int64)), .second, .val (.long ((bt1.toInt64) + (0 : Int64))), .second, .unset, .unset, .unset, .unset, .unset]) rfl (XS.iloadN X107.here hx rfl (hb hby at_155) rfl (XS.iconst X107.here hx rfl (hb hby at_156) kont))))) ?_
          show Go _ _ _ _ _ _ _ (T107.setTop (mkF m 157 #[.val (.int ids), .val (.int q1), .val (.int q2), .val (.int f1), .val (.int t1), .val (.int f2), .val (.int t2), .val (.int bt1), .val (.int bt2), .val (.ref b101), .val (.long (1 : Int64)), .second, .val (.long (1 : Int64)), .second, .val (.long (0 : Int64)), .second, .val (.long (2 : Int64)), .second, .val (.long ((bt1.toInt64) + (0 : Int64))), .second, .unset, .unset, .unset, .unset, .unset] [(.int (1 : Int32)), (.int f1)]))
          have hd149 : ¬ (f1 = (1 : Int32)) := by rw [hc127]; decide
          refine Go.by (fun _ kont => XS.icmpYes X107.here hx rfl (pc0 := 157) (pc' := 166) rfl (hb hby at_157) rfl (feq hd149).2 (by decide) (by decide) kont) ?_
          show Go _ _ _ _ _ _ _ (T107.setTop (mkF m 166 #[.val (.int ids), .val (.int q1), .val (.int q2), .val (.int f1), .val (.int t1), .val (.int f2), .val (.int t2), .val (.int bt1), .val (.int bt2), .val (.ref b101), .val (.long (1 : Int64)), .second, .val (.long (1 : Int64)), .second, .val (.long (0 : Int64)), .second, .val (.long (2 : Int64)), .second, .val (.long ((bt1.toInt64) + (0 : Int64))), .second, .unset, .unset, .unset, .unset, .unset] []))
          refine Go.by (fun _ kont => XS.lconst X107.here hx rfl (hb hby at_166) (XS.iload X107.here hx rfl (hb hby at_167) rfl (XS.iconst X107.here hx rfl (hb hby at_169) kont))) ?_
          show Go _ _ _ _ _ _ _ (T107.setTop (mkF m 170 #[.val (.int ids), .val (.int q1), .val (.int q2), .val (.int f1), .val (.int t1), .val (.int f2), .val (.int t2), .val (.int bt1), .val (.int bt2), .val (.ref b101), .val (.long (1 : Int64)), .second, .val (.long (1 : Int64)), .second, .val (.long (0 : Int64)), .second, .val (.long (2 : Int64)), .second, .val (.long ((bt1.toInt64) + (0 : Int64))), .second, .unset, .unset, .unset, .unset, .unset] [(.int (1 : Int32)), (.int f2), (.long (0 : Int64))]))
          have hd150 : f2 = (1 : Int32) := Hf2.resolve_left hc128
          refine Go.by (fun _ kont => XS.icmpNo X107.here hx rfl (hb hby at_170) rfl (teq hd150).2 kont) ?_
          show Go _ _ _ _ _ _ _ (T107.setTop (mkF m 173 #[.val (.int ids), .val (.int q1), .val (.int q2), .val (.int f1), .val (.int t1), .val (.int f2), .val (.int t2), .val (.int bt1), .val (.int bt2), .val (.ref b101), .val (.long (1 : Int64)), .second, .val (.long (1 : Int64)), .second, .val (.long (0 : Int64)), .second, .val (.long (2 : Int64)), .second, .val (.long ((bt1.toInt64) + (0 : Int64))), .second, .unset, .unset, .unset, .unset, .unset] [(.long (0 : Int64))]))
          refine Go.by (fun _ kont => XS.iload X107.here hx rfl (hb hby at_173) rfl (XS.i2l X107.here hx rfl (hb hby at_175) rfl (XS.goto X107.here hx rfl (pc0 := 176) (pc' := 180) rfl (hb hby at_176) (by decide) (by decide) (XS.ladd X107.here hx rfl (hb hby at_180) rfl (XS.lstore X107.here hx rfl (hb hby at_181) rfl (l' := #[.val (.int ids), .val (.int q1), .val (.int q2), .val (.int f1), .val (.int t1), .val (.int f2), .val (.int t2), .val (.int bt1), .val (.int bt2), .val (.ref b101), .val (.long (1 : Int64)), .second, .val (.long (1 : Int64)), .second, .val (.long (0 : Int64)), .second, .val (.long (2 : Int64)), .second, .val (.long ((bt1.toInt64) + (0 : Int64))), .second, .val (.long ((0 : Int64) + (bt2.toInt64))), .second, .unset, .unset, .unset]) rfl kont))))) ?_
          show Go _ _ _ _ _ _ _ (T107.setTop (mkF m 183 #[.val (.int ids), .val (.int q1), .val (.int q2), .val (.int f1), .val (.int t1), .val (.int f2), .val (.int t2), .val (.int bt1), .val (.int bt2), .val (.ref b101), .val (.long (1 : Int64)), .second, .val (.long (1 : Int64)), .second, .val (.long (0 : Int64)), .second, .val (.long (2 : Int64)), .second, .val (.long ((bt1.toInt64) + (0 : Int64))), .second, .val (.long ((0 : Int64) + (bt2.toInt64))), .second, .unset, .unset, .unset] []))
          have o_f2 := Hf2.resolve_left hc128
          have o_t1 := Ht1.resolve_left hc140
          have o_t2 := Ht2.resolve_left hc146
          refine cut183 (1 : Int64) (1 : Int64) (0 : Int64) (2 : Int64) ((bt1.toInt64) + (0 : Int64)) ((0 : Int64) + (bt2.toInt64)) ?_ ?_ ?_ ?_ ?_ ?_
          all_goals (unfold gF)
          all_goals (first | rfl | (simp [hc127, hc128, hc140, hc146, hd149, hd150, o_f2, o_t1, o_t2]) | (simp [hc127, hc128, hc140, hc146, hd149, hd150, o_f2, o_t1, o_t2] <;> decide))
  · refine Go.by (fun _ kont => XS.ifYes X107.here hx rfl (pc0 := 69) (pc' := 76) rfl (hb hby at_69) rfl ((if0 _ _).trans (feq hc127).2) (by decide) (by decide) kont) ?_
    show Go _ _ _ _ _ _ _ (T107.setTop (mkF m 76 #[.val (.int ids), .val (.int q1), .val (.int q2), .val (.int f1), .val (.int t1), .val (.int f2), .val (.int t2), .val (.int bt1), .val (.int bt2), .val (.ref b101), .unset, .unset, .unset, .unset, .unset, .unset, .unset, .unset, .unset, .unset, .unset, .unset, .unset, .unset, .unset] []))
    refine Go.by (fun _ kont => XS.lconst X107.here hx rfl (hb hby at_76) (XS.iload X107.here hx rfl (hb hby at_77) rfl kont)) ?_
    show Go _ _ _ _ _ _ _ (T107.setTop (mkF m 79 #[.val (.int ids), .val (.int q1), .val (.int q2), .val (.int f1), .val (.int t1), .val (.int f2), .val (.int t2), .val (.int bt1), .val (.int bt2), .val (.ref b101), .unset, .unset, .unset, .unset, .unset, .unset, .unset, .unset, .unset, .unset, .unset, .unset, .unset, .unset, .unset] [(.int f2), (.long (0 : Int64))]))
    by_cases hc151 : f2 = (0 : Int32)
    · refine Go.by (fun _ kont => XS.ifNo X107.here hx rfl (hb hby at_79) rfl ((if0 _ _).trans (teq hc151).2) kont) ?_
      show Go _ _ _ _ _ _ _ (T107.setTop (mkF m 82 #[.val (.int ids), .val (.int q1), .val (.int q2), .val (.int f1), .val (.int t1), .val (.int f2), .val (.int t2), .val (.int bt1), .val (.int bt2), .val (.ref b101), .unset, .unset, .unset, .unset, .unset, .unset, .unset, .unset, .unset, .unset, .unset, .unset, .unset, .unset, .unset] [(.long (0 : Int64))]))
      refine Go.by (fun _ kont => XS.lconst X107.here hx rfl (hb hby at_82) (XS.goto X107.here hx rfl (pc0 := 83) (pc' := 87) rfl (hb hby at_83) (by decide) (by decide) (XS.ladd X107.here hx rfl (hb hby at_87) rfl kont))) ?_
      show Go _ _ _ _ _ _ _ (T107.setTop (mkF m 88 #[.val (.int ids), .val (.int q1), .val (.int q2), .val (.int f1), .val (.int t1), .val (.int f2), .val (.int t2), .val (.int bt1), .val (.int bt2), .val (.ref b101), .unset, .unset, .unset, .unset, .unset, .unset, .unset, .unset, .unset, .unset, .unset, .unset, .unset, .unset, .unset] [(.long ((0 : Int64) + (1 : Int64)))]))
      rw [show ((0 : Int64) + (1 : Int64)) = (1 : Int64) from by decide]
      show Go _ _ _ _ _ _ _ (T107.setTop (mkF m 88 #[.val (.int ids), .val (.int q1), .val (.int q2), .val (.int f1), .val (.int t1), .val (.int f2), .val (.int t2), .val (.int bt1), .val (.int bt2), .val (.ref b101), .unset, .unset, .unset, .unset, .unset, .unset, .unset, .unset, .unset, .unset, .unset, .unset, .unset, .unset, .unset] [(.long (1 : Int64))]))
      refine Go.by (fun _ kont => XS.lstore X107.here hx rfl (hb hby at_88) rfl (l' := #[.val (.int ids), .val (.int q1), .val (.int q2), .val (.int f1), .val (.int t1), .val (.int f2), .val (.int t2), .val (.int bt1), .val (.int bt2), .val (.ref b101), .val (.long (1 : Int64)), .second, .unset, .unset, .unset, .unset, .unset, .unset, .unset, .unset, .unset, .unset, .unset, .unset, .unset]) rfl (X107.ldc2Long hx hown (mvT hZ (hw _ (List.mem_of_getElem? (i := 22) rfl))) (g := (mkF m 90 #[.val (.int ids), .val (.int q1), .val (.int q2), .val (.int f1), .val (.int t1), .val (.int f2), .val (.int t2), .val (.int bt1), .val (.int bt2), .val (.ref b101), .val (.long (1 : Int64)), .second, .unset, .unset, .unset, .unset, .unset, .unset, .unset, .unset, .unset, .unset, .unset, .unset, .unset] [])) rfl (hb hby at_90) _ (XS.lload X107.here hx rfl (hb hby at_93) rfl (XS.lsub X107.here hx rfl (hb hby at_95) rfl kont)))) ?_
      show Go _ _ _ _ _ _ _ (T107.setTop (mkF m 96 #[.val (.int ids), .val (.int q1), .val (.int q2), .val (.int f1), .val (.int t1), .val (.int f2), .val (.int t2), .val (.int bt1), .val (.int bt2), .val (.ref b101), .val (.long (1 : Int64)), .second, .unset, .unset, .unset, .unset, .unset, .unset, .unset, .unset, .unset, .unset, .unset, .unset, .unset] [(.long ((2 : Int64) - (1 : Int64)))]))
      rw [show ((2 : Int64) - (1 : Int64)) = (1 : Int64) from by decide]
      show Go _ _ _ _ _ _ _ (T107.setTop (mkF m 96 #[.val (.int ids), .val (.int q1), .val (.int q2), .val (.int f1), .val (.int t1), .val (.int f2), .val (.int t2), .val (.int bt1), .val (.int bt2), .val (.ref b101), .val (.long (1 : Int64)), .second, .unset, .unset, .unset, .unset, .unset, .unset, .unset, .unset, .unset, .unset, .unset, .unset, .unset] [(.long (1 : Int64))]))
      refine Go.by (fun _ kont => XS.lstore X107.here hx rfl (hb hby at_96) rfl (l' := #[.val (.int ids), .val (.int q1), .val (.int q2), .val (.int f1), .val (.int t1), .val (.int f2), .val (.int t2), .val (.int bt1), .val (.int bt2), .val (.ref b101), .val (.long (1 : Int64)), .second, .val (.long (1 : Int64)), .second, .unset, .unset, .unset, .unset, .unset, .unset, .unset, .unset, .unset, .unset, .unset]) rfl (XS.iload X107.here hx rfl (hb hby at_98) rfl kont)) ?_
      show Go _ _ _ _ _ _ _ (T107.setTop (mkF m 100 #[.val (.int ids), .val (.int q1), .val (.int q2), .val (.int f1), .val (.int t1), .val (.int f2), .val (.int t2), .val (.int bt1), .val (.int bt2), .val (.ref b101), .val (.long (1 : Int64)), .second, .val (.long (1 : Int64)), .second, .unset, .unset, .unset, .unset, .unset, .unset, .unset, .unset, .unset, .unset, .unset] [(.int t1)]))
      by_cases hc152 : t1 = (0 : Int32)
      · refine Go.by (fun _ kont => XS.ifNo X107.here hx rfl (hb hby at_100) rfl ((if0 _ _).trans (teq hc152).2) kont) ?_
        show Go _ _ _ _ _ _ _ (T107.setTop (mkF m 103 #[.val (.int ids), .val (.int q1), .val (.int q2), .val (.int f1), .val (.int t1), .val (.int f2), .val (.int t2), .val (.int bt1), .val (.int bt2), .val (.ref b101), .val (.long (1 : Int64)), .second, .val (.long (1 : Int64)), .second, .unset, .unset, .unset, .unset, .unset, .unset, .unset, .unset, .unset, .unset, .unset] []))
        refine Go.by (fun _ kont => XS.lconst X107.here hx rfl (hb hby at_103) (XS.goto X107.here hx rfl (pc0 := 104) (pc' := 108) rfl (hb hby at_104) (by decide) (by decide) (XS.iload X107.here hx rfl (hb hby at_108) rfl kont))) ?_
        show Go _ _ _ _ _ _ _ (T107.setTop (mkF m 110 #[.val (.int ids), .val (.int q1), .val (.int q2), .val (.int f1), .val (.int t1), .val (.int f2), .val (.int t2), .val (.int bt1), .val (.int bt2), .val (.ref b101), .val (.long (1 : Int64)), .second, .val (.long (1 : Int64)), .second, .unset, .unset, .unset, .unset, .unset, .unset, .unset, .unset, .unset, .unset, .unset] [(.int t2), (.long (1 : Int64))]))
        by_cases hc153 : t2 = (0 : Int32)
        · refine Go.by (fun _ kont => XS.ifNo X107.here hx rfl (hb hby at_110) rfl ((if0 _ _).trans (teq hc153).2) kont) ?_
          show Go _ _ _ _ _ _ _ (T107.setTop (mkF m 113 #[.val (.int ids), .val (.int q1), .val (.int q2), .val (.int f1), .val (.int t1), .val (.int f2), .val (.int t2), .val (.int bt1), .val (.int bt2), .val (.ref b101), .val (.long (1 : Int64)), .second, .val (.long (1 : Int64)), .second, .unset, .unset, .unset, .unset, .unset, .unset, .unset, .unset, .unset, .unset, .unset] [(.long (1 : Int64))]))
          refine Go.by (fun _ kont => XS.lconst X107.here hx rfl (hb hby at_113) (XS.goto X107.here hx rfl (pc0 := 114) (pc' := 118) rfl (hb hby at_114) (by decide) (by decide) (XS.ladd X107.here hx rfl (hb hby at_118) rfl kont))) ?_
          show Go _ _ _ _ _ _ _ (T107.setTop (mkF m 119 #[.val (.int ids), .val (.int q1), .val (.int q2), .val (.int f1), .val (.int t1), .val (.int f2), .val (.int t2), .val (.int bt1), .val (.int bt2), .val (.ref b101), .val (.long (1 : Int64)), .second, .val (.long (1 : Int64)), .second, .unset, .unset, .unset, .unset, .unset, .unset, .unset, .unset, .unset, .unset, .unset] [(.long ((1 : Int64) + (1 : Int64)))]))
          rw [show ((1 : Int64) + (1 : Int64)) = (2 : Int64) from by decide]
          show Go _ _ _ _ _ _ _ (T107.setTop (mkF m 119 #[.val (.int ids), .val (.int q1), .val (.int q2), .val (.int f1), .val (.int t1), .val (.int f2), .val (.int t2), .val (.int bt1), .val (.int bt2), .val (.ref b101), .val (.long (1 : Int64)), .second, .val (.long (1 : Int64)), .second, .unset, .unset, .unset, .unset, .unset, .unset, .unset, .unset, .unset, .unset, .unset] [(.long (2 : Int64))]))
          refine Go.by (fun _ kont => XS.lstore X107.here hx rfl (hb hby at_119) rfl (l' := #[.val (.int ids), .val (.int q1), .val (.int q2), .val (.int f1), .val (.int t1), .val (.int f2), .val (.int t2), .val (.int bt1), .val (.int bt2), .val (.ref b101), .val (.long (1 : Int64)), .second, .val (.long (1 : Int64)), .second, .val (.long (2 : Int64)), .second, .unset, .unset, .unset, .unset, .unset, .unset, .unset, .unset, .unset]) rfl (X107.ldc2Long hx hown (mvT hZ (hw _ (List.mem_of_getElem? (i := 22) rfl))) (g := (mkF m 121 #[.val (.int ids), .val (.int q1), .val (.int q2), .val (.int f1), .val (.int t1), .val (.int f2), .val (.int t2), .val (.int bt1), .val (.int bt2), .val (.ref b101), .val (.long (1 : Int64)), .second, .val (.long (1 : Int64)), .second, .val (.long (2 : Int64)), .second, .unset, .unset, .unset, .unset, .unset, .unset, .unset, .unset, .unset] [])) rfl (hb hby at_121) _ (XS.lload X107.here hx rfl (hb hby at_124) rfl (XS.lsub X107.here hx rfl (hb hby at_126) rfl kont)))) ?_
          show Go _ _ _ _ _ _ _ (T107.setTop (mkF m 127 #[.val (.int ids), .val (.int q1), .val (.int q2), .val (.int f1), .val (.int t1), .val (.int f2), .val (.int t2), .val (.int bt1), .val (.int bt2), .val (.ref b101), .val (.long (1 : Int64)), .second, .val (.long (1 : Int64)), .second, .val (.long (2 : Int64)), .second, .unset, .unset, .unset, .unset, .unset, .unset, .unset, .unset, .unset] [(.long ((2 : Int64) - (2 : Int64)))]))
          rw [show ((2 : Int64) - (2 : Int64)) = (0 : Int64) from by decide]
          show Go _ _ _ _ _ _ _ (T107.setTop (mkF m 127 #[.val (.int ids), .val (.int q1), .val (.int q2), .val (.int f1), .val (.int t1), .val (.int f2), .val (.int t2), .val (.int bt1), .val (.int bt2), .val (.ref b101), .val (.long (1 : Int64)), .second, .val (.long (1 : Int64)), .second, .val (.long (2 : Int64)), .second, .unset, .unset, .unset, .unset, .unset, .unset, .unset, .unset, .unset] [(.long (0 : Int64))]))
          refine Go.by (fun _ kont => XS.lstore X107.here hx rfl (hb hby at_127) rfl (l' := #[.val (.int ids), .val (.int q1), .val (.int q2), .val (.int f1), .val (.int t1), .val (.int f2), .val (.int t2), .val (.int bt1), .val (.int bt2), .val (.ref b101), .val (.long (1 : Int64)), .second, .val (.long (1 : Int64)), .second, .val (.long (2 : Int64)), .second, .val (.long (0 : Int64)), .second, .unset, .unset, .unset, .unset, .unset, .unset, .unset]) rfl (XS.iloadN X107.here hx rfl (hb hby at_129) rfl kont)) ?_
          show Go _ _ _ _ _ _ _ (T107.setTop (mkF m 130 #[.val (.int ids), .val (.int q1), .val (.int q2), .val (.int f1), .val (.int t1), .val (.int f2), .val (.int t2), .val (.int bt1), .val (.int bt2), .val (.ref b101), .val (.long (1 : Int64)), .second, .val (.long (1 : Int64)), .second, .val (.long (2 : Int64)), .second, .val (.long (0 : Int64)), .second, .unset, .unset, .unset, .unset, .unset, .unset, .unset] [(.int f1)]))
          refine Go.by (fun _ kont => XS.ifYes X107.here hx rfl (pc0 := 130) (pc' := 139) rfl (hb hby at_130) rfl ((if0 _ _).trans (feq hc127).2) (by decide) (by decide) kont) ?_
          show Go _ _ _ _ _ _ _ (T107.setTop (mkF m 139 #[.val (.int ids), .val (.int q1), .val (.int q2), .val (.int f1), .val (.int t1), .val (.int f2), .val (.int t2), .val (.int bt1), .val (.int bt2), .val (.ref b101), .val (.long (1 : Int64)), .second, .val (.long (1 : Int64)), .second, .val (.long (2 : Int64)), .second, .val (.long (0 : Int64)), .second, .unset, .unset, .unset, .unset, .unset, .unset, .unset] []))
          refine Go.by (fun _ kont => XS.lconst X107.here hx rfl (hb hby at_139) (XS.iload X107.here hx rfl (hb hby at_140) rfl kont)) ?_
          show Go _ _ _ _ _ _ _ (T107.setTop (mkF m 142 #[.val (.int ids), .val (.int q1), .val (.int q2), .val (.int f1), .val (.int t1), .val (.int f2), .val (.int t2), .val (.int bt1), .val (.int bt2), .val (.ref b101), .val (.long (1 : Int64)), .second, .val (.long (1 : Int64)), .second, .val (.long (2 : Int64)), .second, .val (.long (0 : Int64)), .second, .unset, .unset, .unset, .unset, .unset, .unset, .unset] [(.int f2), (.long (0 : Int64))]))
          refine Go.by (fun _ kont => XS.ifNo X107.here hx rfl (hb hby at_142) rfl ((if0 _ _).trans (teq hc151).2) kont) ?_
          show Go _ _ _ _ _ _ _ (T107.setTop (mkF m 145 #[.val (.int ids), .val (.int q1), .val (.int q2), .val (.int f1), .val (.int t1), .val (.int f2), .val (.int t2), .val (.int bt1), .val (.int bt2), .val (.ref b101), .val (.long (1 : Int64)), .second, .val (.long (1 : Int64)), .second, .val (.long (2 : Int64)), .second, .val (.long (0 : Int64)), .second, .unset, .unset, .unset, .unset, .unset, .unset, .unset] [(.long (0 : Int64))]))
          refine Go.by (fun _ kont => XS.iload X107.here hx rfl (hb hby at_145) rfl (XS.i2l X107.here hx rfl (hb hby at_147) rfl (XS.goto X107.here hx rfl (pc0 := 148) (pc' := 152) rfl (hb hby at_148) (by decide) (by decide) (XS.ladd X107.here hx rfl (hb hby at_152) rfl (XS.lstore X107.here hx rfl (hb hby at_153) rfl (l' := #[.val (.int ids), .val (.int q1), .val (.int q2), .val (.int f1), .val (.int t1), .val (.int f2), .val (.int t2), .val (.int bt1), .val (.int bt2), .val (.ref b101), .val (.long (1 : Int64)), .second, .val (.long (1 : Int64)), .second, .val (.long (2 : Int64)), .second, .val (.long (0 : Int64)), .second, .val (.long ((0 : Int64) + (bt2.toInt64))), .second, .unset, .unset, .unset, .unset, .unset]) rfl (XS.iloadN X107.here hx rfl (hb hby at_155) rfl kont)))))) ?_
          show Go _ _ _ _ _ _ _ (T107.setTop (mkF m 156 #[.val (.int ids), .val (.int q1), .val (.int q2), .val (.int f1), .val (.int t1), .val (.int f2), .val (.int t2), .val (.int bt1), .val (.int bt2), .val (.ref b101), .val (.long (1 : Int64)), .second, .val (.long (1 : Int64)), .second, .val (.long (2 : Int64)), .second, .val (.long (0 : Int64)), .second, .val (.long ((0 : Int64) + (bt2.toInt64))), .second, .unset, .unset, .unset, .unset, .unset] [(.int f1)]))
          refine Go.by (fun _ kont => XS.iconst X107.here hx rfl (hb hby at_156) kont) ?_
          show Go _ _ _ _ _ _ _ (T107.setTop (mkF m 157 #[.val (.int ids), .val (.int q1), .val (.int q2), .val (.int f1), .val (.int t1), .val (.int f2), .val (.int t2), .val (.int bt1), .val (.int bt2), .val (.ref b101), .val (.long (1 : Int64)), .second, .val (.long (1 : Int64)), .second, .val (.long (2 : Int64)), .second, .val (.long (0 : Int64)), .second, .val (.long ((0 : Int64) + (bt2.toInt64))), .second, .unset, .unset, .unset, .unset, .unset] [(.int (1 : Int32)), (.int f1)]))
          have hd154 : f1 = (1 : Int32) := Hf1.resolve_left hc127
          refine Go.by (fun _ kont => XS.icmpNo X107.here hx rfl (hb hby at_157) rfl (teq hd154).2 kont) ?_
          show Go _ _ _ _ _ _ _ (T107.setTop (mkF m 160 #[.val (.int ids), .val (.int q1), .val (.int q2), .val (.int f1), .val (.int t1), .val (.int f2), .val (.int t2), .val (.int bt1), .val (.int bt2), .val (.ref b101), .val (.long (1 : Int64)), .second, .val (.long (1 : Int64)), .second, .val (.long (2 : Int64)), .second, .val (.long (0 : Int64)), .second, .val (.long ((0 : Int64) + (bt2.toInt64))), .second, .unset, .unset, .unset, .unset, .unset] []))
          refine Go.by (fun _ kont => XS.iload X107.here hx rfl (hb hby at_160) rfl (XS.i2l X107.here hx rfl (hb hby at_162) rfl (XS.goto X107.here hx rfl (pc0 := 163) (pc' := 167) rfl (hb hby at_163) (by decide) (by decide) (XS.iload X107.here hx rfl (hb hby at_167) rfl (XS.iconst X107.here hx rfl (hb hby at_169) kont))))) ?_
          show Go _ _ _ _ _ _ _ (T107.setTop (mkF m 170 #[.val (.int ids), .val (.int q1), .val (.int q2), .val (.int f1), .val (.int t1), .val (.int f2), .val (.int t2), .val (.int bt1), .val (.int bt2), .val (.ref b101), .val (.long (1 : Int64)), .second, .val (.long (1 : Int64)), .second, .val (.long (2 : Int64)), .second, .val (.long (0 : Int64)), .second, .val (.long ((0 : Int64) + (bt2.toInt64))), .second, .unset, .unset, .unset, .unset, .unset] [(.int (1 : Int32)), (.int f2), (.long (bt1.toInt64))]))
          have hd155 : ¬ (f2 = (1 : Int32)) := by rw [hc151]; decide
          refine Go.by (fun _ kont => XS.icmpYes X107.here hx rfl (pc0 := 170) (pc' := 179) rfl (hb hby at_170) rfl (feq hd155).2 (by decide) (by decide) kont) ?_
          show Go _ _ _ _ _ _ _ (T107.setTop (mkF m 179 #[.val (.int ids), .val (.int q1), .val (.int q2), .val (.int f1), .val (.int t1), .val (.int f2), .val (.int t2), .val (.int bt1), .val (.int bt2), .val (.ref b101), .val (.long (1 : Int64)), .second, .val (.long (1 : Int64)), .second, .val (.long (2 : Int64)), .second, .val (.long (0 : Int64)), .second, .val (.long ((0 : Int64) + (bt2.toInt64))), .second, .unset, .unset, .unset, .unset, .unset] [(.long (bt1.toInt64))]))
          refine Go.by (fun _ kont => XS.lconst X107.here hx rfl (hb hby at_179) (XS.ladd X107.here hx rfl (hb hby at_180) rfl (XS.lstore X107.here hx rfl (hb hby at_181) rfl (l' := #[.val (.int ids), .val (.int q1), .val (.int q2), .val (.int f1), .val (.int t1), .val (.int f2), .val (.int t2), .val (.int bt1), .val (.int bt2), .val (.ref b101), .val (.long (1 : Int64)), .second, .val (.long (1 : Int64)), .second, .val (.long (2 : Int64)), .second, .val (.long (0 : Int64)), .second, .val (.long ((0 : Int64) + (bt2.toInt64))), .second, .val (.long ((bt1.toInt64) + (0 : Int64))), .second, .unset, .unset, .unset]) rfl kont))) ?_
          show Go _ _ _ _ _ _ _ (T107.setTop (mkF m 183 #[.val (.int ids), .val (.int q1), .val (.int q2), .val (.int f1), .val (.int t1), .val (.int f2), .val (.int t2), .val (.int bt1), .val (.int bt2), .val (.ref b101), .val (.long (1 : Int64)), .second, .val (.long (1 : Int64)), .second, .val (.long (2 : Int64)), .second, .val (.long (0 : Int64)), .second, .val (.long ((0 : Int64) + (bt2.toInt64))), .second, .val (.long ((bt1.toInt64) + (0 : Int64))), .second, .unset, .unset, .unset] []))
          have o_f1 := Hf1.resolve_left hc127
          refine cut183 (1 : Int64) (1 : Int64) (2 : Int64) (0 : Int64) ((0 : Int64) + (bt2.toInt64)) ((bt1.toInt64) + (0 : Int64)) ?_ ?_ ?_ ?_ ?_ ?_
          all_goals (unfold gF)
          all_goals (first | rfl | (simp [hc127, hc151, hc152, hc153, hd154, hd155, o_f1]) | (simp [hc127, hc151, hc152, hc153, hd154, hd155, o_f1] <;> decide))
        · refine Go.by (fun _ kont => XS.ifYes X107.here hx rfl (pc0 := 110) (pc' := 117) rfl (hb hby at_110) rfl ((if0 _ _).trans (feq hc153).2) (by decide) (by decide) kont) ?_
          show Go _ _ _ _ _ _ _ (T107.setTop (mkF m 117 #[.val (.int ids), .val (.int q1), .val (.int q2), .val (.int f1), .val (.int t1), .val (.int f2), .val (.int t2), .val (.int bt1), .val (.int bt2), .val (.ref b101), .val (.long (1 : Int64)), .second, .val (.long (1 : Int64)), .second, .unset, .unset, .unset, .unset, .unset, .unset, .unset, .unset, .unset, .unset, .unset] [(.long (1 : Int64))]))
          refine Go.by (fun _ kont => XS.lconst X107.here hx rfl (hb hby at_117) (XS.ladd X107.here hx rfl (hb hby at_118) rfl kont)) ?_
          show Go _ _ _ _ _ _ _ (T107.setTop (mkF m 119 #[.val (.int ids), .val (.int q1), .val (.int q2), .val (.int f1), .val (.int t1), .val (.int f2), .val (.int t2), .val (.int bt1), .val (.int bt2), .val (.ref b101), .val (.long (1 : Int64)), .second, .val (.long (1 : Int64)), .second, .unset, .unset, .unset, .unset, .unset, .unset, .unset, .unset, .unset, .unset, .unset] [(.long ((1 : Int64) + (0 : Int64)))]))
          rw [show ((1 : Int64) + (0 : Int64)) = (1 : Int64) from by decide]
          show Go _ _ _ _ _ _ _ (T107.setTop (mkF m 119 #[.val (.int ids), .val (.int q1), .val (.int q2), .val (.int f1), .val (.int t1), .val (.int f2), .val (.int t2), .val (.int bt1), .val (.int bt2), .val (.ref b101), .val (.long (1 : Int64)), .second, .val (.long (1 : Int64)), .second, .unset, .unset, .unset, .unset, .unset, .unset, .unset, .unset, .unset, .unset, .unset] [(.long (1 : Int64))]))
          refine Go.by (fun _ kont => XS.lstore X107.here hx rfl (hb hby at_119) rfl (l' := #[.val (.int ids), .val (.int q1), .val (.int q2), .val (.int f1), .val (.int t1), .val (.int f2), .val (.int t2), .val (.int bt1), .val (.int bt2), .val (.ref b101), .val (.long (1 : Int64)), .second, .val (.long (1 : Int64)), .second, .val (.long (1 : Int64)), .second, .unset, .unset, .unset, .unset, .unset, .unset, .unset, .unset, .unset]) rfl (X107.ldc2Long hx hown (mvT hZ (hw _ (List.mem_of_getElem? (i := 22) rfl))) (g := (mkF m 121 #[.val (.int ids), .val (.int q1), .val (.int q2), .val (.int f1), .val (.int t1), .val (.int f2), .val (.int t2), .val (.int bt1), .val (.int bt2), .val (.ref b101), .val (.long (1 : Int64)), .second, .val (.long (1 : Int64)), .second, .val (.long (1 : Int64)), .second, .unset, .unset, .unset, .unset, .unset, .unset, .unset, .unset, .unset] [])) rfl (hb hby at_121) _ (XS.lload X107.here hx rfl (hb hby at_124) rfl (XS.lsub X107.here hx rfl (hb hby at_126) rfl kont)))) ?_
          show Go _ _ _ _ _ _ _ (T107.setTop (mkF m 127 #[.val (.int ids), .val (.int q1), .val (.int q2), .val (.int f1), .val (.int t1), .val (.int f2), .val (.int t2), .val (.int bt1), .val (.int bt2), .val (.ref b101), .val (.long (1 : Int64)), .second, .val (.long (1 : Int64)), .second, .val (.long (1 : Int64)), .second, .unset, .unset, .unset, .unset, .unset, .unset, .unset, .unset, .unset] [(.long ((2 : Int64) - (1 : Int64)))]))
          rw [show ((2 : Int64) - (1 : Int64)) = (1 : Int64) from by decide]
          show Go _ _ _ _ _ _ _ (T107.setTop (mkF m 127 #[.val (.int ids), .val (.int q1), .val (.int q2), .val (.int f1), .val (.int t1), .val (.int f2), .val (.int t2), .val (.int bt1), .val (.int bt2), .val (.ref b101), .val (.long (1 : Int64)), .second, .val (.long (1 : Int64)), .second, .val (.long (1 : Int64)), .second, .unset, .unset, .unset, .unset, .unset, .unset, .unset, .unset, .unset] [(.long (1 : Int64))]))
          refine Go.by (fun _ kont => XS.lstore X107.here hx rfl (hb hby at_127) rfl (l' := #[.val (.int ids), .val (.int q1), .val (.int q2), .val (.int f1), .val (.int t1), .val (.int f2), .val (.int t2), .val (.int bt1), .val (.int bt2), .val (.ref b101), .val (.long (1 : Int64)), .second, .val (.long (1 : Int64)), .second, .val (.long (1 : Int64)), .second, .val (.long (1 : Int64)), .second, .unset, .unset, .unset, .unset, .unset, .unset, .unset]) rfl (XS.iloadN X107.here hx rfl (hb hby at_129) rfl kont)) ?_
          show Go _ _ _ _ _ _ _ (T107.setTop (mkF m 130 #[.val (.int ids), .val (.int q1), .val (.int q2), .val (.int f1), .val (.int t1), .val (.int f2), .val (.int t2), .val (.int bt1), .val (.int bt2), .val (.ref b101), .val (.long (1 : Int64)), .second, .val (.long (1 : Int64)), .second, .val (.long (1 : Int64)), .second, .val (.long (1 : Int64)), .second, .unset, .unset, .unset, .unset, .unset, .unset, .unset] [(.int f1)]))
          refine Go.by (fun _ kont => XS.ifYes X107.here hx rfl (pc0 := 130) (pc' := 139) rfl (hb hby at_130) rfl ((if0 _ _).trans (feq hc127).2) (by decide) (by decide) kont) ?_
          show Go _ _ _ _ _ _ _ (T107.setTop (mkF m 139 #[.val (.int ids), .val (.int q1), .val (.int q2), .val (.int f1), .val (.int t1), .val (.int f2), .val (.int t2), .val (.int bt1), .val (.int bt2), .val (.ref b101), .val (.long (1 : Int64)), .second, .val (.long (1 : Int64)), .second, .val (.long (1 : Int64)), .second, .val (.long (1 : Int64)), .second, .unset, .unset, .unset, .unset, .unset, .unset, .unset] []))
          refine Go.by (fun _ kont => XS.lconst X107.here hx rfl (hb hby at_139) (XS.iload X107.here hx rfl (hb hby at_140) rfl kont)) ?_
          show Go _ _ _ _ _ _ _ (T107.setTop (mkF m 142 #[.val (.int ids), .val (.int q1), .val (.int q2), .val (.int f1), .val (.int t1), .val (.int f2), .val (.int t2), .val (.int bt1), .val (.int bt2), .val (.ref b101), .val (.long (1 : Int64)), .second, .val (.long (1 : Int64)), .second, .val (.long (1 : Int64)), .second, .val (.long (1 : Int64)), .second, .unset, .unset, .unset, .unset, .unset, .unset, .unset] [(.int f2), (.long (0 : Int64))]))
          refine Go.by (fun _ kont => XS.ifNo X107.here hx rfl (hb hby at_142) rfl ((if0 _ _).trans (teq hc151).2) kont) ?_
          show Go _ _ _ _ _ _ _ (T107.setTop (mkF m 145 #[.val (.int ids), .val (.int q1), .val (.int q2), .val (.int f1), .val (.int t1), .val (.int f2), .val (.int t2), .val (.int bt1), .val (.int bt2), .val (.ref b101), .val (.long (1 : Int64)), .second, .val (.long (1 : Int64)), .second, .val (.long (1 : Int64)), .second, .val (.long (1 : Int64)), .second, .unset, .unset, .unset, .unset, .unset, .unset, .unset] [(.long (0 : Int64))]))
          refine Go.by (fun _ kont => XS.iload X107.here hx rfl (hb hby at_145) rfl (XS.i2l X107.here hx rfl (hb hby at_147) rfl (XS.goto X107.here hx rfl (pc0 := 148) (pc' := 152) rfl (hb hby at_148) (by decide) (by decide) (XS.ladd X107.here hx rfl (hb hby at_152) rfl (XS.lstore X107.here hx rfl (hb hby at_153) rfl (l' := #[.val (.int ids), .val (.int q1), .val (.int q2), .val (.int f1), .val (.int t1), .val (.int f2), .val (.int t2), .val (.int bt1), .val (.int bt2), .val (.ref b101), .val (.long (1 : Int64)), .second, .val (.long (1 : Int64)), .second, .val (.long (1 : Int64)), .second, .val (.long (1 : Int64)), .second, .val (.long ((0 : Int64) + (bt2.toInt64))), .second, .unset, .unset, .unset, .unset, .unset]) rfl (XS.iloadN X107.here hx rfl (hb hby at_155) rfl kont)))))) ?_
          show Go _ _ _ _ _ _ _ (T107.setTop (mkF m 156 #[.val (.int ids), .val (.int q1), .val (.int q2), .val (.int f1), .val (.int t1), .val (.int f2), .val (.int t2), .val (.int bt1), .val (.int bt2), .val (.ref b101), .val (.long (1 : Int64)), .second, .val (.long (1 : Int64)), .second, .val (.long (1 : Int64)), .second, .val (.long (1 : Int64)), .second, .val (.long ((0 : Int64) + (bt2.toInt64))), .second, .unset, .unset, .unset, .unset, .unset] [(.int f1)]))
          refine Go.by (fun _ kont => XS.iconst X107.here hx rfl (hb hby at_156) kont) ?_
          show Go _ _ _ _ _ _ _ (T107.setTop (mkF m 157 #[.val (.int ids), .val (.int q1), .val (.int q2), .val (.int f1), .val (.int t1), .val (.int f2), .val (.int t2), .val (.int bt1), .val (.int bt2), .val (.ref b101), .val (.long (1 : Int64)), .second, .val (.long (1 : Int64)), .second, .val (.long (1 : Int64)), .second, .val (.long (1 : Int64)), .second, .val (.long ((0 : Int64) + (bt2.toInt64))), .second, .unset, .unset, .unset, .unset, .unset] [(.int (1 : Int32)), (.int f1)]))
          have hd156 : f1 = (1 : Int32) := Hf1.resolve_left hc127
          refine Go.by (fun _ kont => XS.icmpNo X107.here hx rfl (hb hby at_157) rfl (teq hd156).2 kont) ?_
          show Go _ _ _ _ _ _ _ (T107.setTop (mkF m 160 #[.val (.int ids), .val (.int q1), .val (.int q2), .val (.int f1), .val (.int t1), .val (.int f2), .val (.int t2), .val (.int bt1), .val (.int bt2), .val (.ref b101), .val (.long (1 : Int64)), .second, .val (.long (1 : Int64)), .second, .val (.long (1 : Int64)), .second, .val (.long (1 : Int64)), .second, .val (.long ((0 : Int64) + (bt2.toInt64))), .second, .unset, .unset, .unset, .unset, .unset] []))
          refine Go.by (fun _ kont => XS.iload X107.here hx rfl (hb hby at_160) rfl (XS.i2l X107.here hx rfl (hb hby at_162) rfl (XS.goto X107.here hx rfl (pc0 := 163) (pc' := 167) rfl (hb hby at_163) (by decide) (by decide) (XS.iload X107.here hx rfl (hb hby at_167) rfl (XS.iconst X107.here hx rfl (hb hby at_169) kont))))) ?_
          show Go _ _ _ _ _ _ _ (T107.setTop (mkF m 170 #[.val (.int ids), .val (.int q1), .val (.int q2), .val (.int f1), .val (.int t1), .val (.int f2), .val (.int t2), .val (.int bt1), .val (.int bt2), .val (.ref b101), .val (.long (1 : Int64)), .second, .val (.long (1 : Int64)), .second, .val (.long (1 : Int64)), .second, .val (.long (1 : Int64)), .second, .val (.long ((0 : Int64) + (bt2.toInt64))), .second, .unset, .unset, .unset, .unset, .unset] [(.int (1 : Int32)), (.int f2), (.long (bt1.toInt64))]))
          have hd157 : ¬ (f2 = (1 : Int32)) := by rw [hc151]; decide
          refine Go.by (fun _ kont => XS.icmpYes X107.here hx rfl (pc0 := 170) (pc' := 179) rfl (hb hby at_170) rfl (feq hd157).2 (by decide) (by decide) kont) ?_
          show Go _ _ _ _ _ _ _ (T107.setTop (mkF m 179 #[.val (.int ids), .val (.int q1), .val (.int q2), .val (.int f1), .val (.int t1), .val (.int f2), .val (.int t2), .val (.int bt1), .val (.int bt2), .val (.ref b101), .val (.long (1 : Int64)), .second, .val (.long (1 : Int64)), .second, .val (.long (1 : Int64)), .second, .val (.long (1 : Int64)), .second, .val (.long ((0 : Int64) + (bt2.toInt64))), .second, .unset, .unset, .unset, .unset, .unset] [(.long (bt1.toInt64))]))
          refine Go.by (fun _ kont => XS.lconst X107.here hx rfl (hb hby at_179) (XS.ladd X107.here hx rfl (hb hby at_180) rfl (XS.lstore X107.here hx rfl (hb hby at_181) rfl (l' := #[.val (.int ids), .val (.int q1), .val (.int q2), .val (.int f1), .val (.int t1), .val (.int f2), .val (.int t2), .val (.int bt1), .val (.int bt2), .val (.ref b101), .val (.long (1 : Int64)), .second, .val (.long (1 : Int64)), .second, .val (.long (1 : Int64)), .second, .val (.long (1 : Int64)), .second, .val (.long ((0 : Int64) + (bt2.toInt64))), .second, .val (.long ((bt1.toInt64) + (0 : Int64))), .second, .unset, .unset, .unset]) rfl kont))) ?_
          show Go _ _ _ _ _ _ _ (T107.setTop (mkF m 183 #[.val (.int ids), .val (.int q1), .val (.int q2), .val (.int f1), .val (.int t1), .val (.int f2), .val (.int t2), .val (.int bt1), .val (.int bt2), .val (.ref b101), .val (.long (1 : Int64)), .second, .val (.long (1 : Int64)), .second, .val (.long (1 : Int64)), .second, .val (.long (1 : Int64)), .second, .val (.long ((0 : Int64) + (bt2.toInt64))), .second, .val (.long ((bt1.toInt64) + (0 : Int64))), .second, .unset, .unset, .unset] []))
          have o_f1 := Hf1.resolve_left hc127
          have o_t2 := Ht2.resolve_left hc153
          refine cut183 (1 : Int64) (1 : Int64) (1 : Int64) (1 : Int64) ((0 : Int64) + (bt2.toInt64)) ((bt1.toInt64) + (0 : Int64)) ?_ ?_ ?_ ?_ ?_ ?_
          all_goals (unfold gF)
          all_goals (first | rfl | (simp [hc127, hc151, hc152, hc153, hd156, hd157, o_f1, o_t2]) | (simp [hc127, hc151, hc152, hc153, hd156, hd157, o_f1, o_t2] <;> decide))
      · refine Go.by (fun _ kont => XS.ifYes X107.here hx rfl (pc0 := 100) (pc' := 107) rfl (hb hby at_100) rfl ((if0 _ _).trans (feq hc152).2) (by decide) (by decide) kont) ?_
        show Go _ _ _ _ _ _ _ (T107.setTop (mkF m 107 #[.val (.int ids), .val (.int q1), .val (.int q2), .val (.int f1), .val (.int t1), .val (.int f2), .val (.int t2), .val (.int bt1), .val (.int bt2), .val (.ref b101), .val (.long (1 : Int64)), .second, .val (.long (1 : Int64)), .second, .unset, .unset, .unset, .unset, .unset, .unset, .unset, .unset, .unset, .unset, .unset] []))
        refine Go.by (fun _ kont => XS.lconst X107.here hx rfl (hb hby at_107) (XS.iload X107.here hx rfl (hb hby at_108) rfl kont)) ?_
        show Go _ _ _ _ _ _ _ (T107.setTop (mkF m 110 #[.val (.int ids), .val (.int q1), .val (.int q2), .val (.int f1), .val (.int t1), .val (.int f2), .val (.int t2), .val (.int bt1), .val (.int bt2), .val (.ref b101), .val (.long (1 : Int64)), .second, .val (.long (1 : Int64)), .second, .unset, .unset, .unset, .unset, .unset, .unset, .unset, .unset, .unset, .unset, .unset] [(.int t2), (.long (0 : Int64))]))
        by_cases hc158 : t2 = (0 : Int32)
        · refine Go.by (fun _ kont => XS.ifNo X107.here hx rfl (hb hby at_110) rfl ((if0 _ _).trans (teq hc158).2) kont) ?_
          show Go _ _ _ _ _ _ _ (T107.setTop (mkF m 113 #[.val (.int ids), .val (.int q1), .val (.int q2), .val (.int f1), .val (.int t1), .val (.int f2), .val (.int t2), .val (.int bt1), .val (.int bt2), .val (.ref b101), .val (.long (1 : Int64)), .second, .val (.long (1 : Int64)), .second, .unset, .unset, .unset, .unset, .unset, .unset, .unset, .unset, .unset, .unset, .unset] [(.long (0 : Int64))]))
          refine Go.by (fun _ kont => XS.lconst X107.here hx rfl (hb hby at_113) (XS.goto X107.here hx rfl (pc0 := 114) (pc' := 118) rfl (hb hby at_114) (by decide) (by decide) (XS.ladd X107.here hx rfl (hb hby at_118) rfl kont))) ?_
          show Go _ _ _ _ _ _ _ (T107.setTop (mkF m 119 #[.val (.int ids), .val (.int q1), .val (.int q2), .val (.int f1), .val (.int t1), .val (.int f2), .val (.int t2), .val (.int bt1), .val (.int bt2), .val (.ref b101), .val (.long (1 : Int64)), .second, .val (.long (1 : Int64)), .second, .unset, .unset, .unset, .unset, .unset, .unset, .unset, .unset, .unset, .unset, .unset] [(.long ((0 : Int64) + (1 : Int64)))]))
          rw [show ((0 : Int64) + (1 : Int64)) = (1 : Int64) from by decide]
          show Go _ _ _ _ _ _ _ (T107.setTop (mkF m 119 #[.val (.int ids), .val (.int q1), .val (.int q2), .val (.int f1), .val (.int t1), .val (.int f2), .val (.int t2), .val (.int bt1), .val (.int bt2), .val (.ref b101), .val (.long (1 : Int64)), .second, .val (.long (1 : Int64)), .second, .unset, .unset, .unset, .unset, .unset, .unset, .unset, .unset, .unset, .unset, .unset] [(.long (1 : Int64))]))
          refine Go.by (fun _ kont => XS.lstore X107.here hx rfl (hb hby at_119) rfl (l' := #[.val (.int ids), .val (.int q1), .val (.int q2), .val (.int f1), .val (.int t1), .val (.int f2), .val (.int t2), .val (.int bt1), .val (.int bt2), .val (.ref b101), .val (.long (1 : Int64)), .second, .val (.long (1 : Int64)), .second, .val (.long (1 : Int64)), .second, .unset, .unset, .unset, .unset, .unset, .unset, .unset, .unset, .unset]) rfl (X107.ldc2Long hx hown (mvT hZ (hw _ (List.mem_of_getElem? (i := 22) rfl))) (g := (mkF m 121 #[.val (.int ids), .val (.int q1), .val (.int q2), .val (.int f1), .val (.int t1), .val (.int f2), .val (.int t2), .val (.int bt1), .val (.int bt2), .val (.ref b101), .val (.long (1 : Int64)), .second, .val (.long (1 : Int64)), .second, .val (.long (1 : Int64)), .second, .unset, .unset, .unset, .unset, .unset, .unset, .unset, .unset, .unset] [])) rfl (hb hby at_121) _ (XS.lload X107.here hx rfl (hb hby at_124) rfl (XS.lsub X107.here hx rfl (hb hby at_126) rfl kont)))) ?_
          show Go _ _ _ _ _ _ _ (T107.setTop (mkF m 127 #[.val (.int ids), .val (.int q1), .val (.int q2), .val (.int f1), .val (.int t1), .val (.int f2), .val (.int t2), .val (.int bt1), .val (.int bt2), .val (.ref b101), .val (.long (1 : Int64)), .second, .val (.long (1 : Int64)), .second, .val (.long (1 : Int64)), .second, .unset, .unset, .unset, .unset, .unset, .unset, .unset, .unset, .unset] [(.long ((2 : Int64) - (1 : Int64)))]))
          rw [show ((2 : Int64) - (1 : Int64)) = (1 : Int64) from by decide]
          show Go _ _ _ _ _ _ _ (T107.setTop (mkF m 127 #[.val (.int ids), .val (.int q1), .val (.int q2), .val (.int f1), .val (.int t1), .val (.int f2), .val (.int t2), .val (.int bt1), .val (.int bt2), .val (.ref b101), .val (.long (1 : Int64)), .second, .val (.long (1 : Int64)), .second, .val (.long (1 : Int64)), .second, .unset, .unset, .unset, .unset, .unset, .unset, .unset, .unset, .unset] [(.long (1 : Int64))]))
          refine Go.by (fun _ kont => XS.lstore X107.here hx rfl (hb hby at_127) rfl (l' := #[.val (.int ids), .val (.int q1), .val (.int q2), .val (.int f1), .val (.int t1), .val (.int f2), .val (.int t2), .val (.int bt1), .val (.int bt2), .val (.ref b101), .val (.long (1 : Int64)), .second, .val (.long (1 : Int64)), .second, .val (.long (1 : Int64)), .second, .val (.long (1 : Int64)), .second, .unset, .unset, .unset, .unset, .unset, .unset, .unset]) rfl (XS.iloadN X107.here hx rfl (hb hby at_129) rfl kont)) ?_
          show Go _ _ _ _ _ _ _ (T107.setTop (mkF m 130 #[.val (.int ids), .val (.int q1), .val (.int q2), .val (.int f1), .val (.int t1), .val (.int f2), .val (.int t2), .val (.int bt1), .val (.int bt2), .val (.ref b101), .val (.long (1 : Int64)), .second, .val (.long (1 : Int64)), .second, .val (.long (1 : Int64)), .second, .val (.long (1 : Int64)), .second, .unset, .unset, .unset, .unset, .unset, .unset, .unset] [(.int f1)]))
          refine Go.by (fun _ kont => XS.ifYes X107.here hx rfl (pc0 := 130) (pc' := 139) rfl (hb hby at_130) rfl ((if0 _ _).trans (feq hc127).2) (by decide) (by decide) kont) ?_
          show Go _ _ _ _ _ _ _ (T107.setTop (mkF m 139 #[.val (.int ids), .val (.int q1), .val (.int q2), .val (.int f1), .val (.int t1), .val (.int f2), .val (.int t2), .val (.int bt1), .val (.int bt2), .val (.ref b101), .val (.long (1 : Int64)), .second, .val (.long (1 : Int64)), .second, .val (.long (1 : Int64)), .second, .val (.long (1 : Int64)), .second, .unset, .unset, .unset, .unset, .unset, .unset, .unset] []))
          refine Go.by (fun _ kont => XS.lconst X107.here hx rfl (hb hby at_139) (XS.iload X107.here hx rfl (hb hby at_140) rfl kont)) ?_
          show Go _ _ _ _ _ _ _ (T107.setTop (mkF m 142 #[.val (.int ids), .val (.int q1), .val (.int q2), .val (.int f1), .val (.int t1), .val (.int f2), .val (.int t2), .val (.int bt1), .val (.int bt2), .val (.ref b101), .val (.long (1 : Int64)), .second, .val (.long (1 : Int64)), .second, .val (.long (1 : Int64)), .second, .val (.long (1 : Int64)), .second, .unset, .unset, .unset, .unset, .unset, .unset, .unset] [(.int f2), (.long (0 : Int64))]))
          refine Go.by (fun _ kont => XS.ifNo X107.here hx rfl (hb hby at_142) rfl ((if0 _ _).trans (teq hc151).2) kont) ?_
          show Go _ _ _ _ _ _ _ (T107.setTop (mkF m 145 #[.val (.int ids), .val (.int q1), .val (.int q2), .val (.int f1), .val (.int t1), .val (.int f2), .val (.int t2), .val (.int bt1), .val (.int bt2), .val (.ref b101), .val (.long (1 : Int64)), .second, .val (.long (1 : Int64)), .second, .val (.long (1 : Int64)), .second, .val (.long (1 : Int64)), .second, .unset, .unset, .unset, .unset, .unset, .unset, .unset] [(.long (0 : Int64))]))
          refine Go.by (fun _ kont => XS.iload X107.here hx rfl (hb hby at_145) rfl (XS.i2l X107.here hx rfl (hb hby at_147) rfl (XS.goto X107.here hx rfl (pc0 := 148) (pc' := 152) rfl (hb hby at_148) (by decide) (by decide) (XS.ladd X107.here hx rfl (hb hby at_152) rfl (XS.lstore X107.here hx rfl (hb hby at_153) rfl (l' := #[.val (.int ids), .val (.int q1), .val (.int q2), .val (.int f1), .val (.int t1), .val (.int f2), .val (.int t2), .val (.int bt1), .val (.int bt2), .val (.ref b101), .val (.long (1 : Int64)), .second, .val (.long (1 : Int64)), .second, .val (.long (1 : Int64)), .second, .val (.long (1 : Int64)), .second, .val (.long ((0 : Int64) + (bt2.toInt64))), .second, .unset, .unset, .unset, .unset, .unset]) rfl (XS.iloadN X107.here hx rfl (hb hby at_155) rfl kont)))))) ?_
          show Go _ _ _ _ _ _ _ (T107.setTop (mkF m 156 #[.val (.int ids), .val (.int q1), .val (.int q2), .val (.int f1), .val (.int t1), .val (.int f2), .val (.int t2), .val (.int bt1), .val (.int bt2), .val (.ref b101), .val (.long (1 : Int64)), .second, .val (.long (1 : Int64)), .second, .val (.long (1 : Int64)), .second, .val (.long (1 : Int64)), .second, .val (.long ((0 : Int64) + (bt2.toInt64))), .second, .unset, .unset, .unset, .unset, .unset] [(.int f1)]))
          refine Go.by (fun _ kont => XS.iconst X107.here hx rfl (hb hby at_156) kont) ?_
          show Go _ _ _ _ _ _ _ (T107.setTop (mkF m 157 #[.val (.int ids), .val (.int q1), .val (.int q2), .val (.int f1), .val (.int t1), .val (.int f2), .val (.int t2), .val (.int bt1), .val (.int bt2), .val (.ref b101), .val (.long (1 : Int64)), .second, .val (.long (1 : Int64)), .second, .val (.long (1 : Int64)), .second, .val (.long (1 : Int64)), .second, .val (.long ((0 : Int64) + (bt2.toInt64))), .second, .unset, .unset, .unset, .unset, .unset] [(.int (1 : Int32)), (.int f1)]))
          have hd159 : f1 = (1 : Int32) := Hf1.resolve_left hc127
          refine Go.by (fun _ kont => XS.icmpNo X107.here hx rfl (hb hby at_157) rfl (teq hd159).2 kont) ?_
          show Go _ _ _ _ _ _ _ (T107.setTop (mkF m 160 #[.val (.int ids), .val (.int q1), .val (.int q2), .val (.int f1), .val (.int t1), .val (.int f2), .val (.int t2), .val (.int bt1), .val (.int bt2), .val (.ref b101), .val (.long (1 : Int64)), .second, .val (.long (1 : Int64)), .second, .val (.long (1 : Int64)), .second, .val (.long (1 : Int64)), .second, .val (.long ((0 : Int64) + (bt2.toInt64))), .second, .unset, .unset, .unset, .unset, .unset] []))
          refine Go.by (fun _ kont => XS.iload X107.here hx rfl (hb hby at_160) rfl (XS.i2l X107.here hx rfl (hb hby at_162) rfl (XS.goto X107.here hx rfl (pc0 := 163) (pc' := 167) rfl (hb hby at_163) (by decide) (by decide) (XS.iload X107.here hx rfl (hb hby at_167) rfl (XS.iconst X107.here hx rfl (hb hby at_169) kont))))) ?_
          show Go _ _ _ _ _ _ _ (T107.setTop (mkF m 170 #[.val (.int ids), .val (.int q1), .val (.int q2), .val (.int f1), .val (.int t1), .val (.int f2), .val (.int t2), .val (.int bt1), .val (.int bt2), .val (.ref b101), .val (.long (1 : Int64)), .second, .val (.long (1 : Int64)), .second, .val (.long (1 : Int64)), .second, .val (.long (1 : Int64)), .second, .val (.long ((0 : Int64) + (bt2.toInt64))), .second, .unset, .unset, .unset, .unset, .unset] [(.int (1 : Int32)), (.int f2), (.long (bt1.toInt64))]))
          have hd160 : ¬ (f2 = (1 : Int32)) := by rw [hc151]; decide
          refine Go.by (fun _ kont => XS.icmpYes X107.here hx rfl (pc0 := 170) (pc' := 179) rfl (hb hby at_170) rfl (feq hd160).2 (by decide) (by decide) kont) ?_
          show Go _ _ _ _ _ _ _ (T107.setTop (mkF m 179 #[.val (.int ids), .val (.int q1), .val (.int q2), .val (.int f1), .val (.int t1), .val (.int f2), .val (.int t2), .val (.int bt1), .val (.int bt2), .val (.ref b101), .val (.long (1 : Int64)), .second, .val (.long (1 : Int64)), .second, .val (.long (1 : Int64)), .second, .val (.long (1 : Int64)), .second, .val (.long ((0 : Int64) + (bt2.toInt64))), .second, .unset, .unset, .unset, .unset, .unset] [(.long (bt1.toInt64))]))
          refine Go.by (fun _ kont => XS.lconst X107.here hx rfl (hb hby at_179) (XS.ladd X107.here hx rfl (hb hby at_180) rfl (XS.lstore X107.here hx rfl (hb hby at_181) rfl (l' := #[.val (.int ids), .val (.int q1), .val (.int q2), .val (.int f1), .val (.int t1), .val (.int f2), .val (.int t2), .val (.int bt1), .val (.int bt2), .val (.ref b101), .val (.long (1 : Int64)), .second, .val (.long (1 : Int64)), .second, .val (.long (1 : Int64)), .second, .val (.long (1 : Int64)), .second, .val (.long ((0 : Int64) + (bt2.toInt64))), .second, .val (.long ((bt1.toInt64) + (0 : Int64))), .second, .unset, .unset, .unset]) rfl kont))) ?_
          show Go _ _ _ _ _ _ _ (T107.setTop (mkF m 183 #[.val (.int ids), .val (.int q1), .val (.int q2), .val (.int f1), .val (.int t1), .val (.int f2), .val (.int t2), .val (.int bt1), .val (.int bt2), .val (.ref b101), .val (.long (1 : Int64)), .second, .val (.long (1 : Int64)), .second, .val (.long (1 : Int64)), .second, .val (.long (1 : Int64)), .second, .val (.long ((0 : Int64) + (bt2.toInt64))), .second, .val (.long ((bt1.toInt64) + (0 : Int64))), .second, .unset, .unset, .unset] []))
          have o_f1 := Hf1.resolve_left hc127
          have o_t1 := Ht1.resolve_left hc152
          refine cut183 (1 : Int64) (1 : Int64) (1 : Int64) (1 : Int64) ((0 : Int64) + (bt2.toInt64)) ((bt1.toInt64) + (0 : Int64)) ?_ ?_ ?_ ?_ ?_ ?_
          all_goals (unfold gF)
          all_goals (first | rfl | (simp [hc127, hc151, hc152, hc158, hd159, hd160, o_f1, o_t1]) | (simp [hc127, hc151, hc152, hc158, hd159, hd160, o_f1, o_t1] <;> decide))
        · refine Go.by (fun _ kont => XS.ifYes X107.here hx rfl (pc0 := 110) (pc' := 117) rfl (hb hby at_110) rfl ((if0 _ _).trans (feq hc158).2) (by decide) (by decide) kont) ?_
          show Go _ _ _ _ _ _ _ (T107.setTop (mkF m 117 #[.val (.int ids), .val (.int q1), .val (.int q2), .val (.int f1), .val (.int t1), .val (.int f2), .val (.int t2), .val (.int bt1), .val (.int bt2), .val (.ref b101), .val (.long (1 : Int64)), .second, .val (.long (1 : Int64)), .second, .unset, .unset, .unset, .unset, .unset, .unset, .unset, .unset, .unset, .unset, .unset] [(.long (0 : Int64))]))
          refine Go.by (fun _ kont => XS.lconst X107.here hx rfl (hb hby at_117) (XS.ladd X107.here hx rfl (hb hby at_118) rfl kont)) ?_
          show Go _ _ _ _ _ _ _ (T107.setTop (mkF m 119 #[.val (.int ids), .val (.int q1), .val (.int q2), .val (.int f1), .val (.int t1), .val (.int f2), .val (.int t2), .val (.int bt1), .val (.int bt2), .val (.ref b101), .val (.long (1 : Int64)), .second, .val (.long (1 : Int64)), .second, .unset, .unset, .unset, .unset, .unset, .unset, .unset, .unset, .unset, .unset, .unset] [(.long ((0 : Int64) + (0 : Int64)))]))
          rw [show ((0 : Int64) + (0 : Int64)) = (0 : Int64) from by decide]
          show Go _ _ _ _ _ _ _ (T107.setTop (mkF m 119 #[.val (.int ids), .val (.int q1), .val (.int q2), .val (.int f1), .val (.int t1), .val (.int f2), .val (.int t2), .val (.int bt1), .val (.int bt2), .val (.ref b101), .val (.long (1 : Int64)), .second, .val (.long (1 : Int64)), .second, .unset, .unset, .unset, .unset, .unset, .unset, .unset, .unset, .unset, .unset, .unset] [(.long (0 : Int64))]))
          refine Go.by (fun _ kont => XS.lstore X107.here hx rfl (hb hby at_119) rfl (l' := #[.val (.int ids), .val (.int q1), .val (.int q2), .val (.int f1), .val (.int t1), .val (.int f2), .val (.int t2), .val (.int bt1), .val (.int bt2), .val (.ref b101), .val (.long (1 : Int64)), .second, .val (.long (1 : Int64)), .second, .val (.long (0 : Int64)), .second, .unset, .unset, .unset, .unset, .unset, .unset, .unset, .unset, .unset]) rfl (X107.ldc2Long hx hown (mvT hZ (hw _ (List.mem_of_getElem? (i := 22) rfl))) (g := (mkF m 121 #[.val (.int ids), .val (.int q1), .val (.int q2), .val (.int f1), .val (.int t1), .val (.int f2), .val (.int t2), .val (.int bt1), .val (.int bt2), .val (.ref b101), .val (.long (1 : Int64)), .second, .val (.long (1 : Int64)), .second, .val (.long (0 : Int64)), .second, .unset, .unset, .unset, .unset, .unset, .unset, .unset, .unset, .unset] [])) rfl (hb hby at_121) _ (XS.lload X107.here hx rfl (hb hby at_124) rfl (XS.lsub X107.here hx rfl (hb hby at_126) rfl kont)))) ?_
          show Go _ _ _ _ _ _ _ (T107.setTop (mkF m 127 #[.val (.int ids), .val (.int q1), .val (.int q2), .val (.int f1), .val (.int t1), .val (.int f2), .val (.int t2), .val (.int bt1), .val (.int bt2), .val (.ref b101), .val (.long (1 : Int64)), .second, .val (.long (1 : Int64)), .second, .val (.long (0 : Int64)), .second, .unset, .unset, .unset, .unset, .unset, .unset, .unset, .unset, .unset] [(.long ((2 : Int64) - (0 : Int64)))]))
          rw [show ((2 : Int64) - (0 : Int64)) = (2 : Int64) from by decide]
          show Go _ _ _ _ _ _ _ (T107.setTop (mkF m 127 #[.val (.int ids), .val (.int q1), .val (.int q2), .val (.int f1), .val (.int t1), .val (.int f2), .val (.int t2), .val (.int bt1), .val (.int bt2), .val (.ref b101), .val (.long (1 : Int64)), .second, .val (.long (1 : Int64)), .second, .val (.long (0 : Int64)), .second, .unset, .unset, .unset, .unset, .unset, .unset, .unset, .unset, .unset] [(.long (2 : Int64))]))
          refine Go.by (fun _ kont => XS.lstore X107.here hx rfl (hb hby at_127) rfl (l' := #[.val (.int ids), .val (.int q1), .val (.int q2), .val (.int f1), .val (.int t1), .val (.int f2), .val (.int t2), .val (.int bt1), .val (.int bt2), .val (.ref b101), .val (.long (1 : Int64)), .second, .val (.long (1 : Int64)), .second, .val (.long (0 : Int64)), .second, .val (.long (2 : Int64)), .second, .unset, .unset, .unset, .unset, .unset, .unset, .unset]) rfl (XS.iloadN X107.here hx rfl (hb hby at_129) rfl kont)) ?_
          show Go _ _ _ _ _ _ _ (T107.setTop (mkF m 130 #[.val (.int ids), .val (.int q1), .val (.int q2), .val (.int f1), .val (.int t1), .val (.int f2), .val (.int t2), .val (.int bt1), .val (.int bt2), .val (.ref b101), .val (.long (1 : Int64)), .second, .val (.long (1 : Int64)), .second, .val (.long (0 : Int64)), .second, .val (.long (2 : Int64)), .second, .unset, .unset, .unset, .unset, .unset, .unset, .unset] [(.int f1)]))
          refine Go.by (fun _ kont => XS.ifYes X107.here hx rfl (pc0 := 130) (pc' := 139) rfl (hb hby at_130) rfl ((if0 _ _).trans (feq hc127).2) (by decide) (by decide) kont) ?_
          show Go _ _ _ _ _ _ _ (T107.setTop (mkF m 139 #[.val (.int ids), .val (.int q1), .val (.int q2), .val (.int f1), .val (.int t1), .val (.int f2), .val (.int t2), .val (.int bt1), .val (.int bt2), .val (.ref b101), .val (.long (1 : Int64)), .second, .val (.long (1 : Int64)), .second, .val (.long (0 : Int64)), .second, .val (.long (2 : Int64)), .second, .unset, .unset, .unset, .unset, .unset, .unset, .unset] []))
          refine Go.by (fun _ kont => XS.lconst X107.here hx rfl (hb hby at_139) (XS.iload X107.here hx rfl (hb hby at_140) rfl kont)) ?_
          show Go _ _ _ _ _ _ _ (T107.setTop (mkF m 142 #[.val (.int ids), .val (.int q1), .val (.int q2), .val (.int f1), .val (.int t1), .val (.int f2), .val (.int t2), .val (.int bt1), .val (.int bt2), .val (.ref b101), .val (.long (1 : Int64)), .second, .val (.long (1 : Int64)), .second, .val (.long (0 : Int64)), .second, .val (.long (2 : Int64)), .second, .unset, .unset, .unset, .unset, .unset, .unset, .unset] [(.int f2), (.long (0 : Int64))]))
          refine Go.by (fun _ kont => XS.ifNo X107.here hx rfl (hb hby at_142) rfl ((if0 _ _).trans (teq hc151).2) kont) ?_
          show Go _ _ _ _ _ _ _ (T107.setTop (mkF m 145 #[.val (.int ids), .val (.int q1), .val (.int q2), .val (.int f1), .val (.int t1), .val (.int f2), .val (.int t2), .val (.int bt1), .val (.int bt2), .val (.ref b101), .val (.long (1 : Int64)), .second, .val (.long (1 : Int64)), .second, .val (.long (0 : Int64)), .second, .val (.long (2 : Int64)), .second, .unset, .unset, .unset, .unset, .unset, .unset, .unset] [(.long (0 : Int64))]))
          refine Go.by (fun _ kont => XS.iload X107.here hx rfl (hb hby at_145) rfl (XS.i2l X107.here hx rfl (hb hby at_147) rfl (XS.goto X107.here hx rfl (pc0 := 148) (pc' := 152) rfl (hb hby at_148) (by decide) (by decide) (XS.ladd X107.here hx rfl (hb hby at_152) rfl (XS.lstore X107.here hx rfl (hb hby at_153) rfl (l' := #[.val (.int ids), .val (.int q1), .val (.int q2), .val (.int f1), .val (.int t1), .val (.int f2), .val (.int t2), .val (.int bt1), .val (.int bt2), .val (.ref b101), .val (.long (1 : Int64)), .second, .val (.long (1 : Int64)), .second, .val (.long (0 : Int64)), .second, .val (.long (2 : Int64)), .second, .val (.long ((0 : Int64) + (bt2.toInt64))), .second, .unset, .unset, .unset, .unset, .unset]) rfl (XS.iloadN X107.here hx rfl (hb hby at_155) rfl kont)))))) ?_
          show Go _ _ _ _ _ _ _ (T107.setTop (mkF m 156 #[.val (.int ids), .val (.int q1), .val (.int q2), .val (.int f1), .val (.int t1), .val (.int f2), .val (.int t2), .val (.int bt1), .val (.int bt2), .val (.ref b101), .val (.long (1 : Int64)), .second, .val (.long (1 : Int64)), .second, .val (.long (0 : Int64)), .second, .val (.long (2 : Int64)), .second, .val (.long ((0 : Int64) + (bt2.toInt64))), .second, .unset, .unset, .unset, .unset, .unset] [(.int f1)]))
          refine Go.by (fun _ kont => XS.iconst X107.here hx rfl (hb hby at_156) kont) ?_
          show Go _ _ _ _ _ _ _ (T107.setTop (mkF m 157 #[.val (.int ids), .val (.int q1), .val (.int q2), .val (.int f1), .val (.int t1), .val (.int f2), .val (.int t2), .val (.int bt1), .val (.int bt2), .val (.ref b101), .val (.long (1 : Int64)), .second, .val (.long (1 : Int64)), .second, .val (.long (0 : Int64)), .second, .val (.long (2 : Int64)), .second, .val (.long ((0 : Int64) + (bt2.toInt64))), .second, .unset, .unset, .unset, .unset, .unset] [(.int (1 : Int32)), (.int f1)]))
          have hd161 : f1 = (1 : Int32) := Hf1.resolve_left hc127
          refine Go.by (fun _ kont => XS.icmpNo X107.here hx rfl (hb hby at_157) rfl (teq hd161).2 kont) ?_
          show Go _ _ _ _ _ _ _ (T107.setTop (mkF m 160 #[.val (.int ids), .val (.int q1), .val (.int q2), .val (.int f1), .val (.int t1), .val (.int f2), .val (.int t2), .val (.int bt1), .val (.int bt2), .val (.ref b101), .val (.long (1 : Int64)), .second, .val (.long (1 : Int64)), .second, .val (.long (0 : Int64)), .second, .val (.long (2 : Int64)), .second, .val (.long ((0 : Int64) + (bt2.toInt64))), .second, .unset, .unset, .unset, .unset, .unset] []))
          refine Go.by (fun _ kont => XS.iload X107.here hx rfl (hb hby at_160) rfl (XS.i2l X107.here hx rfl (hb hby at_162) rfl (XS.goto X107.here hx rfl (pc0 := 163) (pc' := 167) rfl (hb hby at_163) (by decide) (by decide) (XS.iload X107.here hx rfl (hb hby at_167) rfl (XS.iconst X107.here hx rfl (hb hby at_169) kont))))) ?_
          show Go _ _ _ _ _ _ _ (T107.setTop (mkF m 170 #[.val (.int ids), .val (.int q1), .val (.int q2), .val (.int f1), .val (.int t1), .val (.int f2), .val (.int t2), .val (.int bt1), .val (.int bt2), .val (.ref b101), .val (.long (1 : Int64)), .second, .val (.long (1 : Int64)), .second, .val (.long (0 : Int64)), .second, .val (.long (2 : Int64)), .second, .val (.long ((0 : Int64) + (bt2.toInt64))), .second, .unset, .unset, .unset, .unset, .unset] [(.int (1 : Int32)), (.int f2), (.long (bt1.toInt64))]))
          have hd162 : ¬ (f2 = (1 : Int32)) := by rw [hc151]; decide
          refine Go.by (fun _ kont => XS.icmpYes X107.here hx rfl (pc0 := 170) (pc' := 179) rfl (hb hby at_170) rfl (feq hd162).2 (by decide) (by decide) kont) ?_
          show Go _ _ _ _ _ _ _ (T107.setTop (mkF m 179 #[.val (.int ids), .val (.int q1), .val (.int q2), .val (.int f1), .val (.int t1), .val (.int f2), .val (.int t2), .val (.int bt1), .val (.int bt2), .val (.ref b101), .val (.long (1 : Int64)), .second, .val (.long (1 : Int64)), .second, .val (.long (0 : Int64)), .second, .val (.long (2 : Int64)), .second, .val (.long ((0 : Int64) + (bt2.toInt64))), .second, .unset, .unset, .unset, .unset, .unset] [(.long (bt1.toInt64))]))
          refine Go.by (fun _ kont => XS.lconst X107.here hx rfl (hb hby at_179) (XS.ladd X107.here hx rfl (hb hby at_180) rfl (XS.lstore X107.here hx rfl (hb hby at_181) rfl (l' := #[.val (.int ids), .val (.int q1), .val (.int q2), .val (.int f1), .val (.int t1), .val (.int f2), .val (.int t2), .val (.int bt1), .val (.int bt2), .val (.ref b101), .val (.long (1 : Int64)), .second, .val (.long (1 : Int64)), .second, .val (.long (0 : Int64)), .second, .val (.long (2 : Int64)), .second, .val (.long ((0 : Int64) + (bt2.toInt64))), .second, .val (.long ((bt1.toInt64) + (0 : Int64))), .second, .unset, .unset, .unset]) rfl kont))) ?_
          show Go _ _ _ _ _ _ _ (T107.setTop (mkF m 183 #[.val (.int ids), .val (.int q1), .val (.int q2), .val (.int f1), .val (.int t1), .val (.int f2), .val (.int t2), .val (.int bt1), .val (.int bt2), .val (.ref b101), .val (.long (1 : Int64)), .second, .val (.long (1 : Int64)), .second, .val (.long (0 : Int64)), .second, .val (.long (2 : Int64)), .second, .val (.long ((0 : Int64) + (bt2.toInt64))), .second, .val (.long ((bt1.toInt64) + (0 : Int64))), .second, .unset, .unset, .unset] []))
          have o_f1 := Hf1.resolve_left hc127
          have o_t1 := Ht1.resolve_left hc152
          have o_t2 := Ht2.resolve_left hc158
          refine cut183 (1 : Int64) (1 : Int64) (0 : Int64) (2 : Int64) ((0 : Int64) + (bt2.toInt64)) ((bt1.toInt64) + (0 : Int64)) ?_ ?_ ?_ ?_ ?_ ?_
          all_goals (unfold gF)
          all_goals (first | rfl | (simp [hc127, hc151, hc152, hc158, hd161, hd162, o_f1, o_t1, o_t2]) | (simp [hc127, hc151, hc152, hc158, hd161, hd162, o_f1, o_t1, o_t2] <;> decide))
    · refine Go.by (fun _ kont => XS.ifYes X107.here hx rfl (pc0 := 79) (pc' := 86) rfl (hb hby at_79) rfl ((if0 _ _).trans (feq hc151).2) (by decide) (by decide) kont) ?_
      show Go _ _ _ _ _ _ _ (T107.setTop (mkF m 86 #[.val (.int ids), .val (.int q1), .val (.int q2), .val (.int f1), .val (.int t1), .val (.int f2), .val (.int t2), .val (.int bt1), .val (.int bt2), .val (.ref b101), .unset, .unset, .unset, .unset, .unset, .unset, .unset, .unset, .unset, .unset, .unset, .unset, .unset, .unset, .unset] [(.long (0 : Int64))]))
      refine Go.by (fun _ kont => XS.lconst X107.here hx rfl (hb hby at_86) (XS.ladd X107.here hx rfl (hb hby at_87) rfl kont)) ?_
      show Go _ _ _ _ _ _ _ (T107.setTop (mkF m 88 #[.val (.int ids), .val (.int q1), .val (.int q2), .val (.int f1), .val (.int t1), .val (.int f2), .val (.int t2), .val (.int bt1), .val (.int bt2), .val (.ref b101), .unset, .unset, .unset, .unset, .unset, .unset, .unset, .unset, .unset, .unset, .unset, .unset, .unset, .unset, .unset] [(.long ((0 : Int64) + (0 : Int64)))]))
      rw [show ((0 : Int64) + (0 : Int64)) = (0 : Int64) from by decide]
      show Go _ _ _ _ _ _ _ (T107.setTop (mkF m 88 #[.val (.int ids), .val (.int q1), .val (.int q2), .val (.int f1), .val (.int t1), .val (.int f2), .val (.int t2), .val (.int bt1), .val (.int bt2), .val (.ref b101), .unset, .unset, .unset, .unset, .unset, .unset, .unset, .unset, .unset, .unset, .unset, .unset, .unset, .unset, .unset] [(.long (0 : Int64))]))
      refine Go.by (fun _ kont => XS.lstore X107.here hx rfl (hb hby at_88) rfl (l' := #[.val (.int ids), .val (.int q1), .val (.int q2), .val (.int f1), .val (.int t1), .val (.int f2), .val (.int t2), .val (.int bt1), .val (.int bt2), .val (.ref b101), .val (.long (0 : Int64)), .second, .unset, .unset, .unset, .unset, .unset, .unset, .unset, .unset, .unset, .unset, .unset, .unset, .unset]) rfl (X107.ldc2Long hx hown (mvT hZ (hw _ (List.mem_of_getElem? (i := 22) rfl))) (g := (mkF m 90 #[.val (.int ids), .val (.int q1), .val (.int q2), .val (.int f1), .val (.int t1), .val (.int f2), .val (.int t2), .val (.int bt1), .val (.int bt2), .val (.ref b101), .val (.long (0 : Int64)), .second, .unset, .unset, .unset, .unset, .unset, .unset, .unset, .unset, .unset, .unset, .unset, .unset, .unset] [])) rfl (hb hby at_90) _ (XS.lload X107.here hx rfl (hb hby at_93) rfl (XS.lsub X107.here hx rfl (hb hby at_95) rfl kont)))) ?_
      show Go _ _ _ _ _ _ _ (T107.setTop (mkF m 96 #[.val (.int ids), .val (.int q1), .val (.int q2), .val (.int f1), .val (.int t1), .val (.int f2), .val (.int t2), .val (.int bt1), .val (.int bt2), .val (.ref b101), .val (.long (0 : Int64)), .second, .unset, .unset, .unset, .unset, .unset, .unset, .unset, .unset, .unset, .unset, .unset, .unset, .unset] [(.long ((2 : Int64) - (0 : Int64)))]))
      rw [show ((2 : Int64) - (0 : Int64)) = (2 : Int64) from by decide]
      show Go _ _ _ _ _ _ _ (T107.setTop (mkF m 96 #[.val (.int ids), .val (.int q1), .val (.int q2), .val (.int f1), .val (.int t1), .val (.int f2), .val (.int t2), .val (.int bt1), .val (.int bt2), .val (.ref b101), .val (.long (0 : Int64)), .second, .unset, .unset, .unset, .unset, .unset, .unset, .unset, .unset, .unset, .unset, .unset, .unset, .unset] [(.long (2 : Int64))]))
      refine Go.by (fun _ kont => XS.lstore X107.here hx rfl (hb hby at_96) rfl (l' := #[.val (.int ids), .val (.int q1), .val (.int q2), .val (.int f1), .val (.int t1), .val (.int f2), .val (.int t2), .val (.int bt1), .val (.int bt2), .val (.ref b101), .val (.long (0 : Int64)), .second, .val (.long (2 : Int64)), .second, .unset, .unset, .unset, .unset, .unset, .unset, .unset, .unset, .unset, .unset, .unset]) rfl (XS.iload X107.here hx rfl (hb hby at_98) rfl kont)) ?_
      show Go _ _ _ _ _ _ _ (T107.setTop (mkF m 100 #[.val (.int ids), .val (.int q1), .val (.int q2), .val (.int f1), .val (.int t1), .val (.int f2), .val (.int t2), .val (.int bt1), .val (.int bt2), .val (.ref b101), .val (.long (0 : Int64)), .second, .val (.long (2 : Int64)), .second, .unset, .unset, .unset, .unset, .unset, .unset, .unset, .unset, .unset, .unset, .unset] [(.int t1)]))
      by_cases hc163 : t1 = (0 : Int32)
      · refine Go.by (fun _ kont => XS.ifNo X107.here hx rfl (hb hby at_100) rfl ((if0 _ _).trans (teq hc163).2) kont) ?_
        show Go _ _ _ _ _ _ _ (T107.setTop (mkF m 103 #[.val (.int ids), .val (.int q1), .val (.int q2), .val (.int f1), .val (.int t1), .val (.int f2), .val (.int t2), .val (.int bt1), .val (.int bt2), .val (.ref b101), .val (.long (0 : Int64)), .second, .val (.long (2 : Int64)), .second, .unset, .unset, .unset, .unset, .unset, .unset, .unset, .unset, .unset, .unset, .unset] []))
        refine Go.by (fun _ kont => XS.lconst X107.here hx rfl (hb hby at_103) (XS.goto X107.here hx rfl (pc0 := 104) (pc' := 108) rfl (hb hby at_104) (by decide) (by decide) (XS.iload X107.here hx rfl (hb hby at_108) rfl kont))) ?_
        show Go _ _ _ _ _ _ _ (T107.setTop (mkF m 110 #[.val (.int ids), .val (.int q1), .val (.int q2), .val (.int f1), .val (.int t1), .val (.int f2), .val (.int t2), .val (.int bt1), .val (.int bt2), .val (.ref b101), .val (.long (0 : Int64)), .second, .val (.long (2 : Int64)), .second, .unset, .unset, .unset, .unset, .unset, .unset, .unset, .unset, .unset, .unset, .unset] [(.int t2), (.long (1 : Int64))]))
        by_cases hc164 : t2 = (0 : Int32)
        · refine Go.by (fun _ kont => XS.ifNo X107.here hx rfl (hb hby at_110) rfl ((if0 _ _).trans (teq hc164).2) kont) ?_
          show Go _ _ _ _ _ _ _ (T107.setTop (mkF m 113 #[.val (.int ids), .val (.int q1), .val (.int q2), .val (.int f1), .val (.int t1), .val (.int f2), .val (.int t2), .val (.int bt1), .val (.int bt2), .val (.ref b101), .val (.long (0 : Int64)), .second, .val (.long (2 : Int64)), .second, .unset, .unset, .unset, .unset, .unset, .unset, .unset, .unset, .unset, .unset, .unset] [(.long (1 : Int64))]))
          refine Go.by (fun _ kont => XS.lconst X107.here hx rfl (hb hby at_113) (XS.goto X107.here hx rfl (pc0 := 114) (pc' := 118) rfl (hb hby at_114) (by decide) (by decide) (XS.ladd X107.here hx rfl (hb hby at_118) rfl kont))) ?_
          show Go _ _ _ _ _ _ _ (T107.setTop (mkF m 119 #[.val (.int ids), .val (.int q1), .val (.int q2), .val (.int f1), .val (.int t1), .val (.int f2), .val (.int t2), .val (.int bt1), .val (.int bt2), .val (.ref b101), .val (.long (0 : Int64)), .second, .val (.long (2 : Int64)), .second, .unset, .unset, .unset, .unset, .unset, .unset, .unset, .unset, .unset, .unset, .unset] [(.long ((1 : Int64) + (1 : Int64)))]))
          rw [show ((1 : Int64) + (1 : Int64)) = (2 : Int64) from by decide]
          show Go _ _ _ _ _ _ _ (T107.setTop (mkF m 119 #[.val (.int ids), .val (.int q1), .val (.int q2), .val (.int f1), .val (.int t1), .val (.int f2), .val (.int t2), .val (.int bt1), .val (.int bt2), .val (.ref b101), .val (.long (0 : Int64)), .second, .val (.long (2 : Int64)), .second, .unset, .unset, .unset, .unset, .unset, .unset, .unset, .unset, .unset, .unset, .unset] [(.long (2 : Int64))]))
          refine Go.by (fun _ kont => XS.lstore X107.here hx rfl (hb hby at_119) rfl (l' := #[.val (.int ids), .val (.int q1), .val (.int q2), .val (.int f1), .val (.int t1), .val (.int f2), .val (.int t2), .val (.int bt1), .val (.int bt2), .val (.ref b101), .val (.long (0 : Int64)), .second, .val (.long (2 : Int64)), .second, .val (.long (2 : Int64)), .second, .unset, .unset, .unset, .unset, .unset, .unset, .unset, .unset, .unset]) rfl (X107.ldc2Long hx hown (mvT hZ (hw _ (List.mem_of_getElem? (i := 22) rfl))) (g := (mkF m 121 #[.val (.int ids), .val (.int q1), .val (.int q2), .val (.int f1), .val (.int t1), .val (.int f2), .val (.int t2), .val (.int bt1), .val (.int bt2), .val (.ref b101), .val (.long (0 : Int64)), .second, .val (.long (2 : Int64)), .second, .val (.long (2 : Int64)), .second, .unset, .unset, .unset, .unset, .unset, .unset, .unset, .unset, .unset] [])) rfl (hb hby at_121) _ (XS.lload X107.here hx rfl (hb hby at_124) rfl (XS.lsub X107.here hx rfl (hb hby at_126) rfl kont)))) ?_
          show Go _ _ _ _ _ _ _ (T107.setTop (mkF m 127 #[.val (.int ids), .val (.int q1), .val (.int q2), .val (.int f1), .val (.int t1), .val (.int f2), .val (.int t2), .val (.int bt1), .val (.int bt2), .val (.ref b101), .val (.long (0 : Int64)), .second, .val (.long (2 : Int64)), .second, .val (.long (2 : Int64)), .second, .unset, .unset, .unset, .unset, .unset, .unset, .unset, .unset, .unset] [(.long ((2 : Int64) - (2 : Int64)))]))
          rw [show ((2 : Int64) - (2 : Int64)) = (0 : Int64) from by decide]
          show Go _ _ _ _ _ _ _ (T107.setTop (mkF m 127 #[.val (.int ids), .val (.int q1), .val (.int q2), .val (.int f1), .val (.int t1), .val (.int f2), .val (.int t2), .val (.int bt1), .val (.int bt2), .val (.ref b101), .val (.long (0 : Int64)), .second, .val (.long (2 : Int64)), .second, .val (.long (2 : Int64)), .second, .unset, .unset, .unset, .unset, .unset, .unset, .unset, .unset, .unset] [(.long (0 : Int64))]))
          refine Go.by (fun _ kont => XS.lstore X107.here hx rfl (hb hby at_127) rfl (l' := #[.val (.int ids), .val (.int q1), .val (.int q2), .val (.int f1), .val (.int t1), .val (.int f2), .val (.int t2), .val (.int bt1), .val (.int bt2), .val (.ref b101), .val (.long (0 : Int64)), .second, .val (.long (2 : Int64)), .second, .val (.long (2 : Int64)), .second, .val (.long (0 : Int64)), .second, .unset, .unset, .unset, .unset, .unset, .unset, .unset]) rfl (XS.iloadN X107.here hx rfl (hb hby at_129) rfl kont)) ?_
          show Go _ _ _ _ _ _ _ (T107.setTop (mkF m 130 #[.val (.int ids), .val (.int q1), .val (.int q2), .val (.int f1), .val (.int t1), .val (.int f2), .val (.int t2), .val (.int bt1), .val (.int bt2), .val (.ref b101), .val (.long (0 : Int64)), .second, .val (.long (2 : Int64)), .second, .val (.long (2 : Int64)), .second, .val (.long (0 : Int64)), .second, .unset, .unset, .unset, .unset, .unset, .unset, .unset] [(.int f1)]))
          refine Go.by (fun _ kont => XS.ifYes X107.here hx rfl (pc0 := 130) (pc' := 139) rfl (hb hby at_130) rfl ((if0 _ _).trans (feq hc127).2) (by decide) (by decide) kont) ?_
          show Go _ _ _ _ _ _ _ (T107.setTop (mkF m 139 #[.val (.int ids), .val (.int q1), .val (.int q2), .val (.int f1), .val (.int t1), .val (.int f2), .val (.int t2), .val (.int bt1), .val (.int bt2), .val (.ref b101), .val (.long (0 : Int64)), .second, .val (.long (2 : Int64)), .second, .val (.long (2 : Int64)), .second, .val (.long (0 : Int64)), .second, .unset, .unset, .unset, .unset, .unset, .unset, .unset] []))
          refine Go.by (fun _ kont => XS.lconst X107.here hx rfl (hb hby at_139) (XS.iload X107.here hx rfl (hb hby at_140) rfl kont)) ?_
          show Go _ _ _ _ _ _ _ (T107.setTop (mkF m 142 #[.val (.int ids), .val (.int q1), .val (.int q2), .val (.int f1), .val (.int t1), .val (.int f2), .val (.int t2), .val (.int bt1), .val (.int bt2), .val (.ref b101), .val (.long (0 : Int64)), .second, .val (.long (2 : Int64)), .second, .val (.long (2 : Int64)), .second, .val (.long (0 : Int64)), .second, .unset, .unset, .unset, .unset, .unset, .unset, .unset] [(.int f2), (.long (0 : Int64))]))
          refine Go.by (fun _ kont => XS.ifYes X107.here hx rfl (pc0 := 142) (pc' := 151) rfl (hb hby at_142) rfl ((if0 _ _).trans (feq hc151).2) (by decide) (by decide) kont) ?_
          show Go _ _ _ _ _ _ _ (T107.setTop (mkF m 151 #[.val (.int ids), .val (.int q1), .val (.int q2), .val (.int f1), .val (.int t1), .val (.int f2), .val (.int t2), .val (.int bt1), .val (.int bt2), .val (.ref b101), .val (.long (0 : Int64)), .second, .val (.long (2 : Int64)), .second, .val (.long (2 : Int64)), .second, .val (.long (0 : Int64)), .second, .unset, .unset, .unset, .unset, .unset, .unset, .unset] [(.long (0 : Int64))]))
          refine Go.by (fun _ kont => XS.lconst X107.here hx rfl (hb hby at_151) (XS.ladd X107.here hx rfl (hb hby at_152) rfl kont)) ?_
          show Go _ _ _ _ _ _ _ (T107.setTop (mkF m 153 #[.val (.int ids), .val (.int q1), .val (.int q2), .val (.int f1), .val (.int t1), .val (.int f2), .val (.int t2), .val (.int bt1), .val (.int bt2), .val (.ref b101), .val (.long (0 : Int64)), .second, .val (.long (2 : Int64)), .second, .val (.long (2 : Int64)), .second, .val (.long (0 : Int64)), .second, .unset, .unset, .unset, .unset, .unset, .unset, .unset] [(.long ((0 : Int64) + (0 : Int64)))]))
          rw [show ((0 : Int64) + (0 : Int64)) = (0 : Int64) from by decide]
          show Go _ _ _ _ _ _ _ (T107.setTop (mkF m 153 #[.val (.int ids), .val (.int q1), .val (.int q2), .val (.int f1), .val (.int t1), .val (.int f2), .val (.int t2), .val (.int bt1), .val (.int bt2), .val (.ref b101), .val (.long (0 : Int64)), .second, .val (.long (2 : Int64)), .second, .val (.long (2 : Int64)), .second, .val (.long (0 : Int64)), .second, .unset, .unset, .unset, .unset, .unset, .unset, .unset] [(.long (0 : Int64))]))
          refine Go.by (fun _ kont => XS.lstore X107.here hx rfl (hb hby at_153) rfl (l' := #[.val (.int ids), .val (.int q1), .val (.int q2), .val (.int f1), .val (.int t1), .val (.int f2), .val (.int t2), .val (.int bt1), .val (.int bt2), .val (.ref b101), .val (.long (0 : Int64)), .second, .val (.long (2 : Int64)), .second, .val (.long (2 : Int64)), .second, .val (.long (0 : Int64)), .second, .val (.long (0 : Int64)), .second, .unset, .unset, .unset, .unset, .unset]) rfl (XS.iloadN X107.here hx rfl (hb hby at_155) rfl (XS.iconst X107.here hx rfl (hb hby at_156) kont))) ?_
          show Go _ _ _ _ _ _ _ (T107.setTop (mkF m 157 #[.val (.int ids), .val (.int q1), .val (.int q2), .val (.int f1), .val (.int t1), .val (.int f2), .val (.int t2), .val (.int bt1), .val (.int bt2), .val (.ref b101), .val (.long (0 : Int64)), .second, .val (.long (2 : Int64)), .second, .val (.long (2 : Int64)), .second, .val (.long (0 : Int64)), .second, .val (.long (0 : Int64)), .second, .unset, .unset, .unset, .unset, .unset] [(.int (1 : Int32)), (.int f1)]))
          have hd165 : f1 = (1 : Int32) := Hf1.resolve_left hc127
          refine Go.by (fun _ kont => XS.icmpNo X107.here hx rfl (hb hby at_157) rfl (teq hd165).2 kont) ?_
          show Go _ _ _ _ _ _ _ (T107.setTop (mkF m 160 #[.val (.int ids), .val (.int q1), .val (.int q2), .val (.int f1), .val (.int t1), .val (.int f2), .val (.int t2), .val (.int bt1), .val (.int bt2), .val (.ref b101), .val (.long (0 : Int64)), .second, .val (.long (2 : Int64)), .second, .val (.long (2 : Int64)), .second, .val (.long (0 : Int64)), .second, .val (.long (0 : Int64)), .second, .unset, .unset, .unset, .unset, .unset] []))
          refine Go.by (fun _ kont => XS.iload X107.here hx rfl (hb hby at_160) rfl (XS.i2l X107.here hx rfl (hb hby at_162) rfl (XS.goto X107.here hx rfl (pc0 := 163) (pc' := 167) rfl (hb hby at_163) (by decide) (by decide) (XS.iload X107.here hx rfl (hb hby at_167) rfl (XS.iconst X107.here hx rfl (hb hby at_169) kont))))) ?_
          show Go _ _ _ _ _ _ _ (T107.setTop (mkF m 170 #[.val (.int ids), .val (.int q1), .val (.int q2), .val (.int f1), .val (.int t1), .val (.int f2), .val (.int t2), .val (.int bt1), .val (.int bt2), .val (.ref b101), .val (.long (0 : Int64)), .second, .val (.long (2 : Int64)), .second, .val (.long (2 : Int64)), .second, .val (.long (0 : Int64)), .second, .val (.long (0 : Int64)), .second, .unset, .unset, .unset, .unset, .unset] [(.int (1 : Int32)), (.int f2), (.long (bt1.toInt64))]))
          have hd166 : f2 = (1 : Int32) := Hf2.resolve_left hc151
          refine Go.by (fun _ kont => XS.icmpNo X107.here hx rfl (hb hby at_170) rfl (teq hd166).2 kont) ?_
          show Go _ _ _ _ _ _ _ (T107.setTop (mkF m 173 #[.val (.int ids), .val (.int q1), .val (.int q2), .val (.int f1), .val (.int t1), .val (.int f2), .val (.int t2), .val (.int bt1), .val (.int bt2), .val (.ref b101), .val (.long (0 : Int64)), .second, .val (.long (2 : Int64)), .second, .val (.long (2 : Int64)), .second, .val (.long (0 : Int64)), .second, .val (.long (0 : Int64)), .second, .unset, .unset, .unset, .unset, .unset] [(.long (bt1.toInt64))]))
          refine Go.by (fun _ kont => XS.iload X107.here hx rfl (hb hby at_173) rfl (XS.i2l X107.here hx rfl (hb hby at_175) rfl (XS.goto X107.here hx rfl (pc0 := 176) (pc' := 180) rfl (hb hby at_176) (by decide) (by decide) (XS.ladd X107.here hx rfl (hb hby at_180) rfl (XS.lstore X107.here hx rfl (hb hby at_181) rfl (l' := #[.val (.int ids), .val (.int q1), .val (.int q2), .val (.int f1), .val (.int t1), .val (.int f2), .val (.int t2), .val (.int bt1), .val (.int bt2), .val (.ref b101), .val (.long (0 : Int64)), .second, .val (.long (2 : Int64)), .second, .val (.long (2 : Int64)), .second, .val (.long (0 : Int64)), .second, .val (.long (0 : Int64)), .second, .val (.long ((bt1.toInt64) + (bt2.toInt64))), .second, .unset, .unset, .unset]) rfl kont))))) ?_
          show Go _ _ _ _ _ _ _ (T107.setTop (mkF m 183 #[.val (.int ids), .val (.int q1), .val (.int q2), .val (.int f1), .val (.int t1), .val (.int f2), .val (.int t2), .val (.int bt1), .val (.int bt2), .val (.ref b101), .val (.long (0 : Int64)), .second, .val (.long (2 : Int64)), .second, .val (.long (2 : Int64)), .second, .val (.long (0 : Int64)), .second, .val (.long (0 : Int64)), .second, .val (.long ((bt1.toInt64) + (bt2.toInt64))), .second, .unset, .unset, .unset] []))
          have o_f1 := Hf1.resolve_left hc127
          have o_f2 := Hf2.resolve_left hc151
          refine cut183 (0 : Int64) (2 : Int64) (2 : Int64) (0 : Int64) (0 : Int64) ((bt1.toInt64) + (bt2.toInt64)) ?_ ?_ ?_ ?_ ?_ ?_
          all_goals (unfold gF)
          all_goals (first | rfl | (simp [hc127, hc151, hc163, hc164, hd165, hd166, o_f1, o_f2]) | (simp [hc127, hc151, hc163, hc164, hd165, hd166, o_f1, o_f2] <;> decide))
        · refine Go.by (fun _ kont => XS.ifYes X107.here hx rfl (pc0 := 110) (pc' := 117) rfl (hb hby at_110) rfl ((if0 _ _).trans (feq hc164).2) (by decide) (by decide) kont) ?_
          show Go _ _ _ _ _ _ _ (T107.setTop (mkF m 117 #[.val (.int ids), .val (.int q1), .val (.int q2), .val (.int f1), .val (.int t1), .val (.int f2), .val (.int t2), .val (.int bt1), .val (.int bt2), .val (.ref b101), .val (.long (0 : Int64)), .second, .val (.long (2 : Int64)), .second, .unset, .unset, .unset, .unset, .unset, .unset, .unset, .unset, .unset, .unset, .unset] [(.long (1 : Int64))]))
          refine Go.by (fun _ kont => XS.lconst X107.here hx rfl (hb hby at_117) (XS.ladd X107.here hx rfl (hb hby at_118) rfl kont)) ?_
          show Go _ _ _ _ _ _ _ (T107.setTop (mkF m 119 #[.val (.int ids), .val (.int q1), .val (.int q2), .val (.int f1), .val (.int t1), .val (.int f2), .val (.int t2), .val (.int bt1), .val (.int bt2), .val (.ref b101), .val (.long (0 : Int64)), .second, .val (.long (2 : Int64)), .second, .unset, .unset, .unset, .unset, .unset, .unset, .unset, .unset, .unset, .unset, .unset] [(.long ((1 : Int64) + (0 : Int64)))]))
          rw [show ((1 : Int64) + (0 : Int64)) = (1 : Int64) from by decide]
          show Go _ _ _ _ _ _ _ (T107.setTop (mkF m 119 #[.val (.int ids), .val (.int q1), .val (.int q2), .val (.int f1), .val (.int t1), .val (.int f2), .val (.int t2), .val (.int bt1), .val (.int bt2), .val (.ref b101), .val (.long (0 : Int64)), .second, .val (.long (2 : Int64)), .second, .unset, .unset, .unset, .unset, .unset, .unset, .unset, .unset, .unset, .unset, .unset] [(.long (1 : Int64))]))
          refine Go.by (fun _ kont => XS.lstore X107.here hx rfl (hb hby at_119) rfl (l' := #[.val (.int ids), .val (.int q1), .val (.int q2), .val (.int f1), .val (.int t1), .val (.int f2), .val (.int t2), .val (.int bt1), .val (.int bt2), .val (.ref b101), .val (.long (0 : Int64)), .second, .val (.long (2 : Int64)), .second, .val (.long (1 : Int64)), .second, .unset, .unset, .unset, .unset, .unset, .unset, .unset, .unset, .unset]) rfl (X107.ldc2Long hx hown (mvT hZ (hw _ (List.mem_of_getElem? (i := 22) rfl))) (g := (mkF m 121 #[.val (.int ids), .val (.int q1), .val (.int q2), .val (.int f1), .val (.int t1), .val (.int f2), .val (.int t2), .val (.int bt1), .val (.int bt2), .val (.ref b101), .val (.long (0 : Int64)), .second, .val (.long (2 : Int64)), .second, .val (.long (1 : Int64)), .second, .unset, .unset, .unset, .unset, .unset, .unset, .unset, .unset, .unset] [])) rfl (hb hby at_121) _ (XS.lload X107.here hx rfl (hb hby at_124) rfl (XS.lsub X107.here hx rfl (hb hby at_126) rfl kont)))) ?_
          show Go _ _ _ _ _ _ _ (T107.setTop (mkF m 127 #[.val (.int ids), .val (.int q1), .val (.int q2), .val (.int f1), .val (.int t1), .val (.int f2), .val (.int t2), .val (.int bt1), .val (.int bt2), .val (.ref b101), .val (.long (0 : Int64)), .second, .val (.long (2 : Int64)), .second, .val (.long (1 : Int64)), .second, .unset, .unset, .unset, .unset, .unset, .unset, .unset, .unset, .unset] [(.long ((2 : Int64) - (1 : Int64)))]))
          rw [show ((2 : Int64) - (1 : Int64)) = (1 : Int64) from by decide]
          show Go _ _ _ _ _ _ _ (T107.setTop (mkF m 127 #[.val (.int ids), .val (.int q1), .val (.int q2), .val (.int f1), .val (.int t1), .val (.int f2), .val (.int t2), .val (.int bt1), .val (.int bt2), .val (.ref b101), .val (.long (0 : Int64)), .second, .val (.long (2 : Int64)), .second, .val (.long (1 : Int64)), .second, .unset, .unset, .unset, .unset, .unset, .unset, .unset, .unset, .unset] [(.long (1 : Int64))]))
          refine Go.by (fun _ kont => XS.lstore X107.here hx rfl (hb hby at_127) rfl (l' := #[.val (.int ids), .val (.int q1), .val (.int q2), .val (.int f1), .val (.int t1), .val (.int f2), .val (.int t2), .val (.int bt1), .val (.int bt2), .val (.ref b101), .val (.long (0 : Int64)), .second, .val (.long (2 : Int64)), .second, .val (.long (1 : Int64)), .second, .val (.long (1 : Int64)), .second, .unset, .unset, .unset, .unset, .unset, .unset, .unset]) rfl (XS.iloadN X107.here hx rfl (hb hby at_129) rfl kont)) ?_
          show Go _ _ _ _ _ _ _ (T107.setTop (mkF m 130 #[.val (.int ids), .val (.int q1), .val (.int q2), .val (.int f1), .val (.int t1), .val (.int f2), .val (.int t2), .val (.int bt1), .val (.int bt2), .val (.ref b101), .val (.long (0 : Int64)), .second, .val (.long (2 : Int64)), .second, .val (.long (1 : Int64)), .second, .val (.long (1 : Int64)), .second, .unset, .unset, .unset, .unset, .unset, .unset, .unset] [(.int f1)]))
          refine Go.by (fun _ kont => XS.ifYes X107.here hx rfl (pc0 := 130) (pc' := 139) rfl (hb hby at_130) rfl ((if0 _ _).trans (feq hc127).2) (by decide) (by decide) kont) ?_
          show Go _ _ _ _ _ _ _ (T107.setTop (mkF m 139 #[.val (.int ids), .val (.int q1), .val (.int q2), .val (.int f1), .val (.int t1), .val (.int f2), .val (.int t2), .val (.int bt1), .val (.int bt2), .val (.ref b101), .val (.long (0 : Int64)), .second, .val (.long (2 : Int64)), .second, .val (.long (1 : Int64)), .second, .val (.long (1 : Int64)), .second, .unset, .unset, .unset, .unset, .unset, .unset, .unset] []))
          refine Go.by (fun _ kont => XS.lconst X107.here hx rfl (hb hby at_139) (XS.iload X107.here hx rfl (hb hby at_140) rfl kont)) ?_
          show Go _ _ _ _ _ _ _ (T107.setTop (mkF m 142 #[.val (.int ids), .val (.int q1), .val (.int q2), .val (.int f1), .val (.int t1), .val (.int f2), .val (.int t2), .val (.int bt1), .val (.int bt2), .val (.ref b101), .val (.long (0 : Int64)), .second, .val (.long (2 : Int64)), .second, .val (.long (1 : Int64)), .second, .val (.long (1 : Int64)), .second, .unset, .unset, .unset, .unset, .unset, .unset, .unset] [(.int f2), (.long (0 : Int64))]))
          refine Go.by (fun _ kont => XS.ifYes X107.here hx rfl (pc0 := 142) (pc' := 151) rfl (hb hby at_142) rfl ((if0 _ _).trans (feq hc151).2) (by decide) (by decide) kont) ?_
          show Go _ _ _ _ _ _ _ (T107.setTop (mkF m 151 #[.val (.int ids), .val (.int q1), .val (.int q2), .val (.int f1), .val (.int t1), .val (.int f2), .val (.int t2), .val (.int bt1), .val (.int bt2), .val (.ref b101), .val (.long (0 : Int64)), .second, .val (.long (2 : Int64)), .second, .val (.long (1 : Int64)), .second, .val (.long (1 : Int64)), .second, .unset, .unset, .unset, .unset, .unset, .unset, .unset] [(.long (0 : Int64))]))
          refine Go.by (fun _ kont => XS.lconst X107.here hx rfl (hb hby at_151) (XS.ladd X107.here hx rfl (hb hby at_152) rfl kont)) ?_
          show Go _ _ _ _ _ _ _ (T107.setTop (mkF m 153 #[.val (.int ids), .val (.int q1), .val (.int q2), .val (.int f1), .val (.int t1), .val (.int f2), .val (.int t2), .val (.int bt1), .val (.int bt2), .val (.ref b101), .val (.long (0 : Int64)), .second, .val (.long (2 : Int64)), .second, .val (.long (1 : Int64)), .second, .val (.long (1 : Int64)), .second, .unset, .unset, .unset, .unset, .unset, .unset, .unset] [(.long ((0 : Int64) + (0 : Int64)))]))
          rw [show ((0 : Int64) + (0 : Int64)) = (0 : Int64) from by decide]
          show Go _ _ _ _ _ _ _ (T107.setTop (mkF m 153 #[.val (.int ids), .val (.int q1), .val (.int q2), .val (.int f1), .val (.int t1), .val (.int f2), .val (.int t2), .val (.int bt1), .val (.int bt2), .val (.ref b101), .val (.long (0 : Int64)), .second, .val (.long (2 : Int64)), .second, .val (.long (1 : Int64)), .second, .val (.long (1 : Int64)), .second, .unset, .unset, .unset, .unset, .unset, .unset, .unset] [(.long (0 : Int64))]))
          refine Go.by (fun _ kont => XS.lstore X107.here hx rfl (hb hby at_153) rfl (l' := #[.val (.int ids), .val (.int q1), .val (.int q2), .val (.int f1), .val (.int t1), .val (.int f2), .val (.int t2), .val (.int bt1), .val (.int bt2), .val (.ref b101), .val (.long (0 : Int64)), .second, .val (.long (2 : Int64)), .second, .val (.long (1 : Int64)), .second, .val (.long (1 : Int64)), .second, .val (.long (0 : Int64)), .second, .unset, .unset, .unset, .unset, .unset]) rfl (XS.iloadN X107.here hx rfl (hb hby at_155) rfl (XS.iconst X107.here hx rfl (hb hby at_156) kont))) ?_
          show Go _ _ _ _ _ _ _ (T107.setTop (mkF m 157 #[.val (.int ids), .val (.int q1), .val (.int q2), .val (.int f1), .val (.int t1), .val (.int f2), .val (.int t2), .val (.int bt1), .val (.int bt2), .val (.ref b101), .val (.long (0 : Int64)), .second, .val (.long (2 : Int64)), .second, .val (.long (1 : Int64)), .second, .val (.long (1 : Int64)), .second, .val (.long (0 : Int64)), .second, .unset, .unset, .unset, .unset, .unset] [(.int (1 : Int32)), (.int f1)]))
          have hd167 : f1 = (1 : Int32) := Hf1.resolve_left hc127
          refine Go.by (fun _ kont => XS.icmpNo X107.here hx rfl (hb hby at_157) rfl (teq hd167).2 kont) ?_
          show Go _ _ _ _ _ _ _ (T107.setTop (mkF m 160 #[.val (.int ids), .val (.int q1), .val (.int q2), .val (.int f1), .val (.int t1), .val (.int f2), .val (.int t2), .val (.int bt1), .val (.int bt2), .val (.ref b101), .val (.long (0 : Int64)), .second, .val (.long (2 : Int64)), .second, .val (.long (1 : Int64)), .second, .val (.long (1 : Int64)), .second, .val (.long (0 : Int64)), .second, .unset, .unset, .unset, .unset, .unset] []))
          refine Go.by (fun _ kont => XS.iload X107.here hx rfl (hb hby at_160) rfl (XS.i2l X107.here hx rfl (hb hby at_162) rfl (XS.goto X107.here hx rfl (pc0 := 163) (pc' := 167) rfl (hb hby at_163) (by decide) (by decide) (XS.iload X107.here hx rfl (hb hby at_167) rfl (XS.iconst X107.here hx rfl (hb hby at_169) kont))))) ?_
          show Go _ _ _ _ _ _ _ (T107.setTop (mkF m 170 #[.val (.int ids), .val (.int q1), .val (.int q2), .val (.int f1), .val (.int t1), .val (.int f2), .val (.int t2), .val (.int bt1), .val (.int bt2), .val (.ref b101), .val (.long (0 : Int64)), .second, .val (.long (2 : Int64)), .second, .val (.long (1 : Int64)), .second, .val (.long (1 : Int64)), .second, .val (.long (0 : Int64)), .second, .unset, .unset, .unset, .unset, .unset] [(.int (1 : Int32)), (.int f2), (.long (bt1.toInt64))]))
          have hd168 : f2 = (1 : Int32) := Hf2.resolve_left hc151
          refine Go.by (fun _ kont => XS.icmpNo X107.here hx rfl (hb hby at_170) rfl (teq hd168).2 kont) ?_
          show Go _ _ _ _ _ _ _ (T107.setTop (mkF m 173 #[.val (.int ids), .val (.int q1), .val (.int q2), .val (.int f1), .val (.int t1), .val (.int f2), .val (.int t2), .val (.int bt1), .val (.int bt2), .val (.ref b101), .val (.long (0 : Int64)), .second, .val (.long (2 : Int64)), .second, .val (.long (1 : Int64)), .second, .val (.long (1 : Int64)), .second, .val (.long (0 : Int64)), .second, .unset, .unset, .unset, .unset, .unset] [(.long (bt1.toInt64))]))
          refine Go.by (fun _ kont => XS.iload X107.here hx rfl (hb hby at_173) rfl (XS.i2l X107.here hx rfl (hb hby at_175) rfl (XS.goto X107.here hx rfl (pc0 := 176) (pc' := 180) rfl (hb hby at_176) (by decide) (by decide) (XS.ladd X107.here hx rfl (hb hby at_180) rfl (XS.lstore X107.here hx rfl (hb hby at_181) rfl (l' := #[.val (.int ids), .val (.int q1), .val (.int q2), .val (.int f1), .val (.int t1), .val (.int f2), .val (.int t2), .val (.int bt1), .val (.int bt2), .val (.ref b101), .val (.long (0 : Int64)), .second, .val (.long (2 : Int64)), .second, .val (.long (1 : Int64)), .second, .val (.long (1 : Int64)), .second, .val (.long (0 : Int64)), .second, .val (.long ((bt1.toInt64) + (bt2.toInt64))), .second, .unset, .unset, .unset]) rfl kont))))) ?_
          show Go _ _ _ _ _ _ _ (T107.setTop (mkF m 183 #[.val (.int ids), .val (.int q1), .val (.int q2), .val (.int f1), .val (.int t1), .val (.int f2), .val (.int t2), .val (.int bt1), .val (.int bt2), .val (.ref b101), .val (.long (0 : Int64)), .second, .val (.long (2 : Int64)), .second, .val (.long (1 : Int64)), .second, .val (.long (1 : Int64)), .second, .val (.long (0 : Int64)), .second, .val (.long ((bt1.toInt64) + (bt2.toInt64))), .second, .unset, .unset, .unset] []))
          have o_f1 := Hf1.resolve_left hc127
          have o_f2 := Hf2.resolve_left hc151
          have o_t2 := Ht2.resolve_left hc164
          refine cut183 (0 : Int64) (2 : Int64) (1 : Int64) (1 : Int64) (0 : Int64) ((bt1.toInt64) + (bt2.toInt64)) ?_ ?_ ?_ ?_ ?_ ?_
          all_goals (unfold gF)
          all_goals (first | rfl | (simp [hc127, hc151, hc163, hc164, hd167, hd168, o_f1, o_f2, o_t2]) | (simp [hc127, hc151, hc163, hc164, hd167, hd168, o_f1, o_f2, o_t2] <;> decide))
      · refine Go.by (fun _ kont => XS.ifYes X107.here hx rfl (pc0 := 100) (pc' := 107) rfl (hb hby at_100) rfl ((if0 _ _).trans (feq hc163).2) (by decide) (by decide) kont) ?_
        show Go _ _ _ _ _ _ _ (T107.setTop (mkF m 107 #[.val (.int ids), .val (.int q1), .val (.int q2), .val (.int f1), .val (.int t1), .val (.int f2), .val (.int t2), .val (.int bt1), .val (.int bt2), .val (.ref b101), .val (.long (0 : Int64)), .second, .val (.long (2 : Int64)), .second, .unset, .unset, .unset, .unset, .unset, .unset, .unset, .unset, .unset, .unset, .unset] []))
        refine Go.by (fun _ kont => XS.lconst X107.here hx rfl (hb hby at_107) (XS.iload X107.here hx rfl (hb hby at_108) rfl kont)) ?_
        show Go _ _ _ _ _ _ _ (T107.setTop (mkF m 110 #[.val (.int ids), .val (.int q1), .val (.int q2), .val (.int f1), .val (.int t1), .val (.int f2), .val (.int t2), .val (.int bt1), .val (.int bt2), .val (.ref b101), .val (.long (0 : Int64)), .second, .val (.long (2 : Int64)), .second, .unset, .unset, .unset, .unset, .unset, .unset, .unset, .unset, .unset, .unset, .unset] [(.int t2), (.long (0 : Int64))]))
        by_cases hc169 : t2 = (0 : Int32)
        · refine Go.by (fun _ kont => XS.ifNo X107.here hx rfl (hb hby at_110) rfl ((if0 _ _).trans (teq hc169).2) kont) ?_
          show Go _ _ _ _ _ _ _ (T107.setTop (mkF m 113 #[.val (.int ids), .val (.int q1), .val (.int q2), .val (.int f1), .val (.int t1), .val (.int f2), .val (.int t2), .val (.int bt1), .val (.int bt2), .val (.ref b101), .val (.long (0 : Int64)), .second, .val (.long (2 : Int64)), .second, .unset, .unset, .unset, .unset, .unset, .unset, .unset, .unset, .unset, .unset, .unset] [(.long (0 : Int64))]))
          refine Go.by (fun _ kont => XS.lconst X107.here hx rfl (hb hby at_113) (XS.goto X107.here hx rfl (pc0 := 114) (pc' := 118) rfl (hb hby at_114) (by decide) (by decide) (XS.ladd X107.here hx rfl (hb hby at_118) rfl kont))) ?_
          show Go _ _ _ _ _ _ _ (T107.setTop (mkF m 119 #[.val (.int ids), .val (.int q1), .val (.int q2), .val (.int f1), .val (.int t1), .val (.int f2), .val (.int t2), .val (.int bt1), .val (.int bt2), .val (.ref b101), .val (.long (0 : Int64)), .second, .val (.long (2 : Int64)), .second, .unset, .unset, .unset, .unset, .unset, .unset, .unset, .unset, .unset, .unset, .unset] [(.long ((0 : Int64) + (1 : Int64)))]))
          rw [show ((0 : Int64) + (1 : Int64)) = (1 : Int64) from by decide]
          show Go _ _ _ _ _ _ _ (T107.setTop (mkF m 119 #[.val (.int ids), .val (.int q1), .val (.int q2), .val (.int f1), .val (.int t1), .val (.int f2), .val (.int t2), .val (.int bt1), .val (.int bt2), .val (.ref b101), .val (.long (0 : Int64)), .second, .val (.long (2 : Int64)), .second, .unset, .unset, .unset, .unset, .unset, .unset, .unset, .unset, .unset, .unset, .unset] [(.long (1 : Int64))]))
          refine Go.by (fun _ kont => XS.lstore X107.here hx rfl (hb hby at_119) rfl (l' := #[.val (.int ids), .val (.int q1), .val (.int q2), .val (.int f1), .val (.int t1), .val (.int f2), .val (.int t2), .val (.int bt1), .val (.int bt2), .val (.ref b101), .val (.long (0 : Int64)), .second, .val (.long (2 : Int64)), .second, .val (.long (1 : Int64)), .second, .unset, .unset, .unset, .unset, .unset, .unset, .unset, .unset, .unset]) rfl (X107.ldc2Long hx hown (mvT hZ (hw _ (List.mem_of_getElem? (i := 22) rfl))) (g := (mkF m 121 #[.val (.int ids), .val (.int q1), .val (.int q2), .val (.int f1), .val (.int t1), .val (.int f2), .val (.int t2), .val (.int bt1), .val (.int bt2), .val (.ref b101), .val (.long (0 : Int64)), .second, .val (.long (2 : Int64)), .second, .val (.long (1 : Int64)), .second, .unset, .unset, .unset, .unset, .unset, .unset, .unset, .unset, .unset] [])) rfl (hb hby at_121) _ (XS.lload X107.here hx rfl (hb hby at_124) rfl (XS.lsub X107.here hx rfl (hb hby at_126) rfl kont)))) ?_
          show Go _ _ _ _ _ _ _ (T107.setTop (mkF m 127 #[.val (.int ids), .val (.int q1), .val (.int q2), .val (.int f1), .val (.int t1), .val (.int f2), .val (.int t2), .val (.int bt1), .val (.int bt2), .val (.ref b101), .val (.long (0 : Int64)), .second, .val (.long (2 : Int64)), .second, .val (.long (1 : Int64)), .second, .unset, .unset, .unset, .unset, .unset, .unset, .unset, .unset, .unset] [(.long ((2 : Int64) - (1 : Int64)))]))
          rw [show ((2 : Int64) - (1 : Int64)) = (1 : Int64) from by decide]
          show Go _ _ _ _ _ _ _ (T107.setTop (mkF m 127 #[.val (.int ids), .val (.int q1), .val (.int q2), .val (.int f1), .val (.int t1), .val (.int f2), .val (.int t2), .val (.int bt1), .val (.int bt2), .val (.ref b101), .val (.long (0 : Int64)), .second, .val (.long (2 : Int64)), .second, .val (.long (1 : Int64)), .second, .unset, .unset, .unset, .unset, .unset, .unset, .unset, .unset, .unset] [(.long (1 : Int64))]))
          refine Go.by (fun _ kont => XS.lstore X107.here hx rfl (hb hby at_127) rfl (l' := #[.val (.int ids), .val (.int q1), .val (.int q2), .val (.int f1), .val (.int t1), .val (.int f2), .val (.int t2), .val (.int bt1), .val (.int bt2), .val (.ref b101), .val (.long (0 : Int64)), .second, .val (.long (2 : Int64)), .second, .val (.long (1 : Int64)), .second, .val (.long (1 : Int64)), .second, .unset, .unset, .unset, .unset, .unset, .unset, .unset]) rfl (XS.iloadN X107.here hx rfl (hb hby at_129) rfl kont)) ?_
          show Go _ _ _ _ _ _ _ (T107.setTop (mkF m 130 #[.val (.int ids), .val (.int q1), .val (.int q2), .val (.int f1), .val (.int t1), .val (.int f2), .val (.int t2), .val (.int bt1), .val (.int bt2), .val (.ref b101), .val (.long (0 : Int64)), .second, .val (.long (2 : Int64)), .second, .val (.long (1 : Int64)), .second, .val (.long (1 : Int64)), .second, .unset, .unset, .unset, .unset, .unset, .unset, .unset] [(.int f1)]))
          refine Go.by (fun _ kont => XS.ifYes X107.here hx rfl (pc0 := 130) (pc' := 139) rfl (hb hby at_130) rfl ((if0 _ _).trans (feq hc127).2) (by decide) (by decide) kont) ?_
          show Go _ _ _ _ _ _ _ (T107.setTop (mkF m 139 #[.val (.int ids), .val (.int q1), .val (.int q2), .val (.int f1), .val (.int t1), .val (.int f2), .val (.int t2), .val (.int bt1), .val (.int bt2), .val (.ref b101), .val (.long (0 : Int64)), .second, .val (.long (2 : Int64)), .second, .val (.long (1 : Int64)), .second, .val (.long (1 : Int64)), .second, .unset, .unset, .unset, .unset, .unset, .unset, .unset] []))
          refine Go.by (fun _ kont => XS.lconst X107.here hx rfl (hb hby at_139) (XS.iload X107.here hx rfl (hb hby at_140) rfl kont)) ?_
          show Go _ _ _ _ _ _ _ (T107.setTop (mkF m 142 #[.val (.int ids), .val (.int q1), .val (.int q2), .val (.int f1), .val (.int t1), .val (.int f2), .val (.int t2), .val (.int bt1), .val (.int bt2), .val (.ref b101), .val (.long (0 : Int64)), .second, .val (.long (2 : Int64)), .second, .val (.long (1 : Int64)), .second, .val (.long (1 : Int64)), .second, .unset, .unset, .unset, .unset, .unset, .unset, .unset] [(.int f2), (.long (0 : Int64))]))
          refine Go.by (fun _ kont => XS.ifYes X107.here hx rfl (pc0 := 142) (pc' := 151) rfl (hb hby at_142) rfl ((if0 _ _).trans (feq hc151).2) (by decide) (by decide) kont) ?_
          show Go _ _ _ _ _ _ _ (T107.setTop (mkF m 151 #[.val (.int ids), .val (.int q1), .val (.int q2), .val (.int f1), .val (.int t1), .val (.int f2), .val (.int t2), .val (.int bt1), .val (.int bt2), .val (.ref b101), .val (.long (0 : Int64)), .second, .val (.long (2 : Int64)), .second, .val (.long (1 : Int64)), .second, .val (.long (1 : Int64)), .second, .unset, .unset, .unset, .unset, .unset, .unset, .unset] [(.long (0 : Int64))]))
          refine Go.by (fun _ kont => XS.lconst X107.here hx rfl (hb hby at_151) (XS.ladd X107.here hx rfl (hb hby at_152) rfl kont)) ?_
          show Go _ _ _ _ _ _ _ (T107.setTop (mkF m 153 #[.val (.int ids), .val (.int q1), .val (.int q2), .val (.int f1), .val (.int t1), .val (.int f2), .val (.int t2), .val (.int bt1), .val (.int bt2), .val (.ref b101), .val (.long (0 : Int64)), .second, .val (.long (2 : Int64)), .second, .val (.long (1 : Int64)), .second, .val (.long (1 : Int64)), .second, .unset, .unset, .unset, .unset, .unset, .unset, .unset] [(.long ((0 : Int64) + (0 : Int64)))]))
          rw [show ((0 : Int64) + (0 : Int64)) = (0 : Int64) from by decide]
          show Go _ _ _ _ _ _ _ (T107.setTop (mkF m 153 #[.val (.int ids), .val (.int q1), .val (.int q2), .val (.int f1), .val (.int t1), .val (.int f2), .val (.int t2), .val (.int bt1), .val (.int bt2), .val (.ref b101), .val (.long (0 : Int64)), .second, .val (.long (2 : Int64)), .second, .val (.long (1 : Int64)), .second, .val (.long (1 : Int64)), .second, .unset, .unset, .unset, .unset, .unset, .unset, .unset] [(.long (0 : Int64))]))
          refine Go.by (fun _ kont => XS.lstore X107.here hx rfl (hb hby at_153) rfl (l' := #[.val (.int ids), .val (.int q1), .val (.int q2), .val (.int f1), .val (.int t1), .val (.int f2), .val (.int t2), .val (.int bt1), .val (.int bt2), .val (.ref b101), .val (.long (0 : Int64)), .second, .val (.long (2 : Int64)), .second, .val (.long (1 : Int64)), .second, .val (.long (1 : Int64)), .second, .val (.long (0 : Int64)), .second, .unset, .unset, .unset, .unset, .unset]) rfl (XS.iloadN X107.here hx rfl (hb hby at_155) rfl (XS.iconst X107.here hx rfl (hb hby at_156) kont))) ?_
          show Go _ _ _ _ _ _ _ (T107.setTop (mkF m 157 #[.val (.int ids), .val (.int q1), .val (.int q2), .val (.int f1), .val (.int t1), .val (.int f2), .val (.int t2), .val (.int bt1), .val (.int bt2), .val (.ref b101), .val (.long (0 : Int64)), .second, .val (.long (2 : Int64)), .second, .val (.long (1 : Int64)), .second, .val (.long (1 : Int64)), .second, .val (.long (0 : Int64)), .second, .unset, .unset, .unset, .unset, .unset] [(.int (1 : Int32)), (.int f1)]))
          have hd170 : f1 = (1 : Int32) := Hf1.resolve_left hc127
          refine Go.by (fun _ kont => XS.icmpNo X107.here hx rfl (hb hby at_157) rfl (teq hd170).2 kont) ?_
          show Go _ _ _ _ _ _ _ (T107.setTop (mkF m 160 #[.val (.int ids), .val (.int q1), .val (.int q2), .val (.int f1), .val (.int t1), .val (.int f2), .val (.int t2), .val (.int bt1), .val (.int bt2), .val (.ref b101), .val (.long (0 : Int64)), .second, .val (.long (2 : Int64)), .second, .val (.long (1 : Int64)), .second, .val (.long (1 : Int64)), .second, .val (.long (0 : Int64)), .second, .unset, .unset, .unset, .unset, .unset] []))
          refine Go.by (fun _ kont => XS.iload X107.here hx rfl (hb hby at_160) rfl (XS.i2l X107.here hx rfl (hb hby at_162) rfl (XS.goto X107.here hx rfl (pc0 := 163) (pc' := 167) rfl (hb hby at_163) (by decide) (by decide) (XS.iload X107.here hx rfl (hb hby at_167) rfl (XS.iconst X107.here hx rfl (hb hby at_169) kont))))) ?_
          show Go _ _ _ _ _ _ _ (T107.setTop (mkF m 170 #[.val (.int ids), .val (.int q1), .val (.int q2), .val (.int f1), .val (.int t1), .val (.int f2), .val (.int t2), .val (.int bt1), .val (.int bt2), .val (.ref b101), .val (.long (0 : Int64)), .second, .val (.long (2 : Int64)), .second, .val (.long (1 : Int64)), .second, .val (.long (1 : Int64)), .second, .val (.long (0 : Int64)), .second, .unset, .unset, .unset, .unset, .unset] [(.int (1 : Int32)), (.int f2), (.long (bt1.toInt64))]))
          have hd171 : f2 = (1 : Int32) := Hf2.resolve_left hc151
          refine Go.by (fun _ kont => XS.icmpNo X107.here hx rfl (hb hby at_170) rfl (teq hd171).2 kont) ?_
          show Go _ _ _ _ _ _ _ (T107.setTop (mkF m 173 #[.val (.int ids), .val (.int q1), .val (.int q2), .val (.int f1), .val (.int t1), .val (.int f2), .val (.int t2), .val (.int bt1), .val (.int bt2), .val (.ref b101), .val (.long (0 : Int64)), .second, .val (.long (2 : Int64)), .second, .val (.long (1 : Int64)), .second, .val (.long (1 : Int64)), .second, .val (.long (0 : Int64)), .second, .unset, .unset, .unset, .unset, .unset] [(.long (bt1.toInt64))]))
          refine Go.by (fun _ kont => XS.iload X107.here hx rfl (hb hby at_173) rfl (XS.i2l X107.here hx rfl (hb hby at_175) rfl (XS.goto X107.here hx rfl (pc0 := 176) (pc' := 180) rfl (hb hby at_176) (by decide) (by decide) (XS.ladd X107.here hx rfl (hb hby at_180) rfl (XS.lstore X107.here hx rfl (hb hby at_181) rfl (l' := #[.val (.int ids), .val (.int q1), .val (.int q2), .val (.int f1), .val (.int t1), .val (.int f2), .val (.int t2), .val (.int bt1), .val (.int bt2), .val (.ref b101), .val (.long (0 : Int64)), .second, .val (.long (2 : Int64)), .second, .val (.long (1 : Int64)), .second, .val (.long (1 : Int64)), .second, .val (.long (0 : Int64)), .second, .val (.long ((bt1.toInt64) + (bt2.toInt64))), .second, .unset, .unset, .unset]) rfl kont))))) ?_
          show Go _ _ _ _ _ _ _ (T107.setTop (mkF m 183 #[.val (.int ids), .val (.int q1), .val (.int q2), .val (.int f1), .val (.int t1), .val (.int f2), .val (.int t2), .val (.int bt1), .val (.int bt2), .val (.ref b101), .val (.long (0 : Int64)), .second, .val (.long (2 : Int64)), .second, .val (.long (1 : Int64)), .second, .val (.long (1 : Int64)), .second, .val (.long (0 : Int64)), .second, .val (.long ((bt1.toInt64) + (bt2.toInt64))), .second, .unset, .unset, .unset] []))
          have o_f1 := Hf1.resolve_left hc127
          have o_f2 := Hf2.resolve_left hc151
          have o_t1 := Ht1.resolve_left hc163
          refine cut183 (0 : Int64) (2 : Int64) (1 : Int64) (1 : Int64) (0 : Int64) ((bt1.toInt64) + (bt2.toInt64)) ?_ ?_ ?_ ?_ ?_ ?_
          all_goals (unfold gF)
          all_goals (first | rfl | (simp [hc127, hc151, hc163, hc169, hd170, hd171, o_f1, o_f2, o_t1]) | (simp [hc127, hc151, hc163, hc169, hd170, hd171, o_f1, o_f2, o_t1] <;> decide))
        · refine Go.by (fun _ kont => XS.ifYes X107.here hx rfl (pc0 := 110) (pc' := 117) rfl (hb hby at_110) rfl ((if0 _ _).trans (feq hc169).2) (by decide) (by decide) kont) ?_
          show Go _ _ _ _ _ _ _ (T107.setTop (mkF m 117 #[.val (.int ids), .val (.int q1), .val (.int q2), .val (.int f1), .val (.int t1), .val (.int f2), .val (.int t2), .val (.int bt1), .val (.int bt2), .val (.ref b101), .val (.long (0 : Int64)), .second, .val (.long (2 : Int64)), .second, .unset, .unset, .unset, .unset, .unset, .unset, .unset, .unset, .unset, .unset, .unset] [(.long (0 : Int64))]))
          refine Go.by (fun _ kont => XS.lconst X107.here hx rfl (hb hby at_117) (XS.ladd X107.here hx rfl (hb hby at_118) rfl kont)) ?_
          show Go _ _ _ _ _ _ _ (T107.setTop (mkF m 119 #[.val (.int ids), .val (.int q1), .val (.int q2), .val (.int f1), .val (.int t1), .val (.int f2), .val (.int t2), .val (.int bt1), .val (.int bt2), .val (.ref b101), .val (.long (0 : Int64)), .second, .val (.long (2 : Int64)), .second, .unset, .unset, .unset, .unset, .unset, .unset, .unset, .unset, .unset, .unset, .unset] [(.long ((0 : Int64) + (0 : Int64)))]))
          rw [show ((0 : Int64) + (0 : Int64)) = (0 : Int64) from by decide]
          show Go _ _ _ _ _ _ _ (T107.setTop (mkF m 119 #[.val (.int ids), .val (.int q1), .val (.int q2), .val (.int f1), .val (.int t1), .val (.int f2), .val (.int t2), .val (.int bt1), .val (.int bt2), .val (.ref b101), .val (.long (0 : Int64)), .second, .val (.long (2 : Int64)), .second, .unset, .unset, .unset, .unset, .unset, .unset, .unset, .unset, .unset, .unset, .unset] [(.long (0 : Int64))]))
          refine Go.by (fun _ kont => XS.lstore X107.here hx rfl (hb hby at_119) rfl (l' := #[.val (.int ids), .val (.int q1), .val (.int q2), .val (.int f1), .val (.int t1), .val (.int f2), .val (.int t2), .val (.int bt1), .val (.int bt2), .val (.ref b101), .val (.long (0 : Int64)), .second, .val (.long (2 : Int64)), .second, .val (.long (0 : Int64)), .second, .unset, .unset, .unset, .unset, .unset, .unset, .unset, .unset, .unset]) rfl (X107.ldc2Long hx hown (mvT hZ (hw _ (List.mem_of_getElem? (i := 22) rfl))) (g := (mkF m 121 #[.val (.int ids), .val (.int q1), .val (.int q2), .val (.int f1), .val (.int t1), .val (.int f2), .val (.int t2), .val (.int bt1), .val (.int bt2), .val (.ref b101), .val (.long (0 : Int64)), .second, .val (.long (2 : Int64)), .second, .val (.long (0 : Int64)), .second, .unset, .unset, .unset, .unset, .unset, .unset, .unset, .unset, .unset] [])) rfl (hb hby at_121) _ (XS.lload X107.here hx rfl (hb hby at_124) rfl (XS.lsub X107.here hx rfl (hb hby at_126) rfl kont)))) ?_
          show Go _ _ _ _ _ _ _ (T107.setTop (mkF m 127 #[.val (.int ids), .val (.int q1), .val (.int q2), .val (.int f1), .val (.int t1), .val (.int f2), .val (.int t2), .val (.int bt1), .val (.int bt2), .val (.ref b101), .val (.long (0 : Int64)), .second, .val (.long (2 : Int64)), .second, .val (.long (0 : Int64)), .second, .unset, .unset, .unset, .unset, .unset, .unset, .unset, .unset, .unset] [(.long ((2 : Int64) - (0 : Int64)))]))
          rw [show ((2 : Int64) - (0 : Int64)) = (2 : Int64) from by decide]
          show Go _ _ _ _ _ _ _ (T107.setTop (mkF m 127 #[.val (.int ids), .val (.int q1), .val (.int q2), .val (.int f1), .val (.int t1), .val (.int f2), .val (.int t2), .val (.int bt1), .val (.int bt2), .val (.ref b101), .val (.long (0 : Int64)), .second, .val (.long (2 : Int64)), .second, .val (.long (0 : Int64)), .second, .unset, .unset, .unset, .unset, .unset, .unset, .unset, .unset, .unset] [(.long (2 : Int64))]))
          refine Go.by (fun _ kont => XS.lstore X107.here hx rfl (hb hby at_127) rfl (l' := #[.val (.int ids), .val (.int q1), .val (.int q2), .val (.int f1), .val (.int t1), .val (.int f2), .val (.int t2), .val (.int bt1), .val (.int bt2), .val (.ref b101), .val (.long (0 : Int64)), .second, .val (.long (2 : Int64)), .second, .val (.long (0 : Int64)), .second, .val (.long (2 : Int64)), .second, .unset, .unset, .unset, .unset, .unset, .unset, .unset]) rfl (XS.iloadN X107.here hx rfl (hb hby at_129) rfl kont)) ?_
          show Go _ _ _ _ _ _ _ (T107.setTop (mkF m 130 #[.val (.int ids), .val (.int q1), .val (.int q2), .val (.int f1), .val (.int t1), .val (.int f2), .val (.int t2), .val (.int bt1), .val (.int bt2), .val (.ref b101), .val (.long (0 : Int64)), .second, .val (.long (2 : Int64)), .second, .val (.long (0 : Int64)), .second, .val (.long (2 : Int64)), .second, .unset, .unset, .unset, .unset, .unset, .unset, .unset] [(.int f1)]))
          refine Go.by (fun _ kont => XS.ifYes X107.here hx rfl (pc0 := 130) (pc' := 139) rfl (hb hby at_130) rfl ((if0 _ _).trans (feq hc127).2) (by decide) (by decide) kont) ?_
          show Go _ _ _ _ _ _ _ (T107.setTop (mkF m 139 #[.val (.int ids), .val (.int q1), .val (.int q2), .val (.int f1), .val (.int t1), .val (.int f2), .val (.int t2), .val (.int bt1), .val (.int bt2), .val (.ref b101), .val (.long (0 : Int64)), .second, .val (.long (2 : Int64)), .second, .val (.long (0 : Int64)), .second, .val (.long (2 : Int64)), .second, .unset, .unset, .unset, .unset, .unset, .unset, .unset] []))
          refine Go.by (fun _ kont => XS.lconst X107.here hx rfl (hb hby at_139) (XS.iload X107.here hx rfl (hb hby at_140) rfl kont)) ?_
          show Go _ _ _ _ _ _ _ (T107.setTop (mkF m 142 #[.val (.int ids), .val (.int q1), .val (.int q2), .val (.int f1), .val (.int t1), .val (.int f2), .val (.int t2), .val (.int bt1), .val (.int bt2), .val (.ref b101), .val (.long (0 : Int64)), .second, .val (.long (2 : Int64)), .second, .val (.long (0 : Int64)), .second, .val (.long (2 : Int64)), .second, .unset, .unset, .unset, .unset, .unset, .unset, .unset] [(.int f2), (.long (0 : Int64))]))
          refine Go.by (fun _ kont => XS.ifYes X107.here hx rfl (pc0 := 142) (pc' := 151) rfl (hb hby at_142) rfl ((if0 _ _).trans (feq hc151).2) (by decide) (by decide) kont) ?_
          show Go _ _ _ _ _ _ _ (T107.setTop (mkF m 151 #[.val (.int ids), .val (.int q1), .val (.int q2), .val (.int f1), .val (.int t1), .val (.int f2), .val (.int t2), .val (.int bt1), .val (.int bt2), .val (.ref b101), .val (.long (0 : Int64)), .second, .val (.long (2 : Int64)), .second, .val (.long (0 : Int64)), .second, .val (.long (2 : Int64)), .second, .unset, .unset, .unset, .unset, .unset, .unset, .unset] [(.long (0 : Int64))]))
          refine Go.by (fun _ kont => XS.lconst X107.here hx rfl (hb hby at_151) (XS.ladd X107.here hx rfl (hb hby at_152) rfl kont)) ?_
          show Go _ _ _ _ _ _ _ (T107.setTop (mkF m 153 #[.val (.int ids), .val (.int q1), .val (.int q2), .val (.int f1), .val (.int t1), .val (.int f2), .val (.int t2), .val (.int bt1), .val (.int bt2), .val (.ref b101), .val (.long (0 : Int64)), .second, .val (.long (2 : Int64)), .second, .val (.long (0 : Int64)), .second, .val (.long (2 : Int64)), .second, .unset, .unset, .unset, .unset, .unset, .unset, .unset] [(.long ((0 : Int64) + (0 : Int64)))]))
          rw [show ((0 : Int64) + (0 : Int64)) = (0 : Int64) from by decide]
          show Go _ _ _ _ _ _ _ (T107.setTop (mkF m 153 #[.val (.int ids), .val (.int q1), .val (.int q2), .val (.int f1), .val (.int t1), .val (.int f2), .val (.int t2), .val (.int bt1), .val (.int bt2), .val (.ref b101), .val (.long (0 : Int64)), .second, .val (.long (2 : Int64)), .second, .val (.long (0 : Int64)), .second, .val (.long (2 : Int64)), .second, .unset, .unset, .unset, .unset, .unset, .unset, .unset] [(.long (0 : Int64))]))
          refine Go.by (fun _ kont => XS.lstore X107.here hx rfl (hb hby at_153) rfl (l' := #[.val (.int ids), .val (.int q1), .val (.int q2), .val (.int f1), .val (.int t1), .val (.int f2), .val (.int t2), .val (.int bt1), .val (.int bt2), .val (.ref b101), .val (.long (0 : Int64)), .second, .val (.long (2 : Int64)), .second, .val (.long (0 : Int64)), .second, .val (.long (2 : Int64)), .second, .val (.long (0 : Int64)), .second, .unset, .unset, .unset, .unset, .unset]) rfl (XS.iloadN X107.here hx rfl (hb hby at_155) rfl (XS.iconst X107.here hx rfl (hb hby at_156) kont))) ?_
          show Go _ _ _ _ _ _ _ (T107.setTop (mkF m 157 #[.val (.int ids), .val (.int q1), .val (.int q2), .val (.int f1), .val (.int t1), .val (.int f2), .val (.int t2), .val (.int bt1), .val (.int bt2), .val (.ref b101), .val (.long (0 : Int64)), .second, .val (.long (2 : Int64)), .second, .val (.long (0 : Int64)), .second, .val (.long (2 : Int64)), .second, .val (.long (0 : Int64)), .second, .unset, .unset, .unset, .unset, .unset] [(.int (1 : Int32)), (.int f1)]))
          have hd172 : f1 = (1 : Int32) := Hf1.resolve_left hc127
          refine Go.by (fun _ kont => XS.icmpNo X107.here hx rfl (hb hby at_157) rfl (teq hd172).2 kont) ?_
          show Go _ _ _ _ _ _ _ (T107.setTop (mkF m 160 #[.val (.int ids), .val (.int q1), .val (.int q2), .val (.int f1), .val (.int t1), .val (.int f2), .val (.int t2), .val (.int bt1), .val (.int bt2), .val (.ref b101), .val (.long (0 : Int64)), .second, .val (.long (2 : Int64)), .second, .val (.long (0 : Int64)), .second, .val (.long (2 : Int64)), .second, .val (.long (0 : Int64)), .second, .unset, .unset, .unset, .unset, .unset] []))
          refine Go.by (fun _ kont => XS.iload X107.here hx rfl (hb hby at_160) rfl (XS.i2l X107.here hx rfl (hb hby at_162) rfl (XS.goto X107.here hx rfl (pc0 := 163) (pc' := 167) rfl (hb hby at_163) (by decide) (by decide) (XS.iload X107.here hx rfl (hb hby at_167) rfl (XS.iconst X107.here hx rfl (hb hby at_169) kont))))) ?_
          show Go _ _ _ _ _ _ _ (T107.setTop (mkF m 170 #[.val (.int ids), .val (.int q1), .val (.int q2), .val (.int f1), .val (.int t1), .val (.int f2), .val (.int t2), .val (.int bt1), .val (.int bt2), .val (.ref b101), .val (.long (0 : Int64)), .second, .val (.long (2 : Int64)), .second, .val (.long (0 : Int64)), .second, .val (.long (2 : Int64)), .second, .val (.long (0 : Int64)), .second, .unset, .unset, .unset, .unset, .unset] [(.int (1 : Int32)), (.int f2), (.long (bt1.toInt64))]))
          have hd173 : f2 = (1 : Int32) := Hf2.resolve_left hc151
          refine Go.by (fun _ kont => XS.icmpNo X107.here hx rfl (hb hby at_170) rfl (teq hd173).2 kont) ?_
          show Go _ _ _ _ _ _ _ (T107.setTop (mkF m 173 #[.val (.int ids), .val (.int q1), .val (.int q2), .val (.int f1), .val (.int t1), .val (.int f2), .val (.int t2), .val (.int bt1), .val (.int bt2), .val (.ref b101), .val (.long (0 : Int64)), .second, .val (.long (2 : Int64)), .second, .val (.long (0 : Int64)), .second, .val (.long (2 : Int64)), .second, .val (.long (0 : Int64)), .second, .unset, .unset, .unset, .unset, .unset] [(.long (bt1.toInt64))]))
          refine Go.by (fun _ kont => XS.iload X107.here hx rfl (hb hby at_173) rfl (XS.i2l X107.here hx rfl (hb hby at_175) rfl (XS.goto X107.here hx rfl (pc0 := 176) (pc' := 180) rfl (hb hby at_176) (by decide) (by decide) (XS.ladd X107.here hx rfl (hb hby at_180) rfl (XS.lstore X107.here hx rfl (hb hby at_181) rfl (l' := #[.val (.int ids), .val (.int q1), .val (.int q2), .val (.int f1), .val (.int t1), .val (.int f2), .val (.int t2), .val (.int bt1), .val (.int bt2), .val (.ref b101), .val (.long (0 : Int64)), .second, .val (.long (2 : Int64)), .second, .val (.long (0 : Int64)), .second, .val (.long (2 : Int64)), .second, .val (.long (0 : Int64)), .second, .val (.long ((bt1.toInt64) + (bt2.toInt64))), .second, .unset, .unset, .unset]) rfl kont))))) ?_
          show Go _ _ _ _ _ _ _ (T107.setTop (mkF m 183 #[.val (.int ids), .val (.int q1), .val (.int q2), .val (.int f1), .val (.int t1), .val (.int f2), .val (.int t2), .val (.int bt1), .val (.int bt2), .val (.ref b101), .val (.long (0 : Int64)), .second, .val (.long (2 : Int64)), .second, .val (.long (0 : Int64)), .second, .val (.long (2 : Int64)), .second, .val (.long (0 : Int64)), .second, .val (.long ((bt1.toInt64) + (bt2.toInt64))), .second, .unset, .unset, .unset] []))
          have o_f1 := Hf1.resolve_left hc127
          have o_f2 := Hf2.resolve_left hc151
          have o_t1 := Ht1.resolve_left hc163
          have o_t2 := Ht2.resolve_left hc169
          refine cut183 (0 : Int64) (2 : Int64) (0 : Int64) (2 : Int64) (0 : Int64) ((bt1.toInt64) + (bt2.toInt64)) ?_ ?_ ?_ ?_ ?_ ?_
          all_goals (unfold gF)
          all_goals (first | rfl | (simp [hc127, hc151, hc163, hc169, hd172, hd173, o_f1, o_f2, o_t1, o_t2]) | (simp [hc127, hc151, hc163, hc169, hd172, hd173, o_f1, o_f2, o_t1, o_t2] <;> decide))

set_option maxRecDepth 65536 in
set_option maxHeartbeats 40000000 in
theorem comes_1 {Post : Tables → Env → Array Value → State → Outcome → State → Prop} (hpost : ∀ tb e args s v u, (limb_1_1.after args s (.returned v) u = true ∧ limb_1_2.after args s (.returned v) u = true ∧ True) → FrameEnd s (.returned v) u (Jvm.fieldLocs frame_1_writes args s ++ Jvm.arrayLocs frame_1_arrays args s ++ Jvm.staticLocs frame_1_statics s) 40 192 → Post tb e args s (.returned v) u) :
    ArmFor flags0 classFile x code maxLocals ret World_1 tables_1 room_1 Calls_1 rest_1 Pre_1 Post := by
  intro l hfl _ _ p e ha hc hk s m args below hf hA hF happ hP
  obtain ⟨hcalls, hrest, hpre⟩ := hP
  obtain ⟨-, -, -, hnamed, -, -, -, hat⟩ := (Spec.applies_iff hf).mp happ
  obtain ⟨hg, hn⟩ := and_e (Cond.before_iff.mp (show (Jvm.Cond.and given_1 narrow_1).before args s = true from hpre))
  obtain ⟨hh1, hh2⟩ := and_e hg
  obtain ⟨hh3, hh4⟩ := and_e hh2
  obtain ⟨hh5, hh6⟩ := and_e hh4
  obtain ⟨w0, w1, w2, rfl⟩ : ∃ w0 w1 w2 : Value, args = #[w0, w1, w2] := by
    have hs : args.size = 3 := by simpa [Cond.value, given_1] using hh1
    obtain ⟨L⟩ := args
    match L, hs with
    | [w0, w1, w2], _ => exact ⟨w0, w1, w2, rfl⟩
  have hw := fun d (hd : d ∈ tables_1) => atoms_spec (ws := Jvm.Cond.code x code maxLocals ret :: tables_1) hat d (List.mem_cons_of_mem _ hd)
  obtain ⟨i0, ei0⟩ := is_v hh3
  obtain rfl : w0 = (.int i0) := Option.some.inj ei0
  obtain ⟨i1, ei1⟩ := is_v hh5
  obtain rfl : w1 = (.int i1) := Option.some.inj ei1
  obtain ⟨i2, ei2⟩ := is_v hh6
  obtain rfl : w2 = (.int i2) := Option.some.inj ei2
  have hfit : Fit s := fun {y c} hc i hi => by
    obtain ⟨ha, rfl⟩ := Array.getElem?_eq_some_iff.mp hc
    have q := List.all_eq_true.mp ((Array.all_eq_true_iff_forall_mem.mp hF) _ (Array.getElem_mem ha)) i (List.mem_range.mpr hi)
    simpa [Array.getElem?_eq_getElem hi] using q
  obtain ⟨hsets, hown0⟩ := atoms_of (own := restOwn_1) jdkStatics_1 (show (jdkStatics_1.foldr Cond.and restOwn_1).before _ s = true from hrest)
  obtain ⟨z0, evz⟩ := exa_v (Cond.before_iff.mp (hsets _ (List.mem_of_getElem? (i := 2) rfl)))
  have SZ : Sta s s.heap "java/math/BigInteger" "ZERO" "Ljava/math/BigInteger;" (.ref z0) := Sta.start evz (Or.inl (hsets _ (List.mem_of_getElem? (i := 1) rfl)))
  have EZ : Exa s s.heap z0 "java/math/BigInteger" := Exa.start evz (Cond.before_iff.mp (hsets _ (List.mem_of_getElem? (i := 2) rfl)))
  have FZ : Fld s s.heap z0 "java/math/BigInteger" "signum" "I" (.int (0 : Int32)) := Fld.start ((fld_at evz).symm.trans (own_eqI (Cond.before_iff.mp (hsets _ (List.mem_of_getElem? (i := 3) rfl)))))
  obtain ⟨pa, evp⟩ := arr_v (Cond.before_iff.mp (hsets _ (List.mem_of_getElem? (i := 15) rfl)))
  obtain ⟨clp, Arp⟩ := Arr.start evp (Cond.before_iff.mp (hsets _ (List.mem_of_getElem? (i := 15) rfl)))
  have SP : Sta s s.heap "java/math/BigInteger" "posConst" "[Ljava/math/BigInteger;" (.ref pa) := Sta.start evp (Or.inl (hsets _ (List.mem_of_getElem? (i := 8) rfl)))
  have Lp := own_lenv (own_eqI (Cond.before_iff.mp (hsets _ (List.mem_of_getElem? (i := 17) rfl)))) evp Arp.1
  have HP : PC s pa := by
    refine ⟨clp, Arp, ?_, fun j hj => ?_⟩
    · have e := congrArg Int32.toInt Lp.2
      rw [len_toInt Lp.1] at e
      have e16 : (17 : Int32).toInt = 17 := by decide
      have e17 : (17 : Int32).toNatClampNeg = 17 := by decide
      omega
    · have hc : j = 1 ∨ j = 2 ∨ j = 3 ∨ j = 4 ∨ j = 5 ∨ j = 6 ∨ j = 7 ∨ j = 8 ∨ j = 9 ∨ j = 10 ∨ j = 11 ∨ j = 12 ∨ j = 13 ∨ j = 14 ∨ j = 15 ∨ j = 16 := by
        simp only [← Int32.toInt_inj, show (1 : Int32).toInt = 1 from by decide, show (2 : Int32).toInt = 2 from by decide, show (3 : Int32).toInt = 3 from by decide, show (4 : Int32).toInt = 4 from by decide, show (5 : Int32).toInt = 5 from by decide, show (6 : Int32).toInt = 6 from by decide, show (7 : Int32).toInt = 7 from by decide, show (8 : Int32).toInt = 8 from by decide, show (9 : Int32).toInt = 9 from by decide, show (10 : Int32).toInt = 10 from by decide, show (11 : Int32).toInt = 11 from by decide, show (12 : Int32).toInt = 12 from by decide, show (13 : Int32).toInt = 13 from by decide, show (14 : Int32).toInt = 14 from by decide, show (15 : Int32).toInt = 15 from by decide, show (16 : Int32).toInt = 16 from by decide]
        omega
      rcases hc with rfl | rfl | rfl | rfl | rfl | rfl | rfl | rfl | rfl | rfl | rfl | rfl | rfl | rfl | rfl | rfl
      · obtain ⟨y, ey⟩ := exa_v (Cond.before_iff.mp (hsets _ (List.mem_of_getElem? (i := 19) rfl)))
        exact ⟨y, (elem_in ey evp (Term.int_eval _) Arp.1).2, Exa.start ey (Cond.before_iff.mp (hsets _ (List.mem_of_getElem? (i := 19) rfl))), Fld.start ((fld_at ey).symm.trans (own_eqI (Cond.before_iff.mp (hsets _ (List.mem_of_getElem? (i := 20) rfl)))))⟩
      · obtain ⟨y, ey⟩ := exa_v (Cond.before_iff.mp (hsets _ (List.mem_of_getElem? (i := 26) rfl)))
        exact ⟨y, (elem_in ey evp (Term.int_eval _) Arp.1).2, Exa.start ey (Cond.before_iff.mp (hsets _ (List.mem_of_getElem? (i := 26) rfl))), Fld.start ((fld_at ey).symm.trans (own_eqI (Cond.before_iff.mp (hsets _ (List.mem_of_getElem? (i := 27) rfl)))))⟩
      · obtain ⟨y, ey⟩ := exa_v (Cond.before_iff.mp (hsets _ (List.mem_of_getElem? (i := 32) rfl)))
        exact ⟨y, (elem_in ey evp (Term.int_eval _) Arp.1).2, Exa.start ey (Cond.before_iff.mp (hsets _ (List.mem_of_getElem? (i := 32) rfl))), Fld.start ((fld_at ey).symm.trans (own_eqI (Cond.before_iff.mp (hsets _ (List.mem_of_getElem? (i := 33) rfl)))))⟩
      · obtain ⟨y, ey⟩ := exa_v (Cond.before_iff.mp (hsets _ (List.mem_of_getElem? (i := 38) rfl)))
        exact ⟨y, (elem_in ey evp (Term.int_eval _) Arp.1).2, Exa.start ey (Cond.before_iff.mp (hsets _ (List.mem_of_getElem? (i := 38) rfl))), Fld.start ((fld_at ey).symm.trans (own_eqI (Cond.before_iff.mp (hsets _ (List.mem_of_getElem? (i := 39) rfl)))))⟩
      · obtain ⟨y, ey⟩ := exa_v (Cond.before_iff.mp (hsets _ (List.mem_of_getElem? (i := 44) rfl)))
        exact ⟨y, (elem_in ey evp (Term.int_eval _) Arp.1).2, Exa.start ey (Cond.before_iff.mp (hsets _ (List.mem_of_getElem? (i := 44) rfl))), Fld.start ((fld_at ey).symm.trans (own_eqI (Cond.before_iff.mp (hsets _ (List.mem_of_getElem? (i := 45) rfl)))))⟩
      · obtain ⟨y, ey⟩ := exa_v (Cond.before_iff.mp (hsets _ (List.mem_of_getElem? (i := 50) rfl)))
        exact ⟨y, (elem_in ey evp (Term.int_eval _) Arp.1).2, Exa.start ey (Cond.before_iff.mp (hsets _ (List.mem_of_getElem? (i := 50) rfl))), Fld.start ((fld_at ey).symm.trans (own_eqI (Cond.before_iff.mp (hsets _ (List.mem_of_getElem? (i := 51) rfl)))))⟩
      · obtain ⟨y, ey⟩ := exa_v (Cond.before_iff.mp (hsets _ (List.mem_of_getElem? (i := 56) rfl)))
        exact ⟨y, (elem_in ey evp (Term.int_eval _) Arp.1).2, Exa.start ey (Cond.before_iff.mp (hsets _ (List.mem_of_getElem? (i := 56) rfl))), Fld.start ((fld_at ey).symm.trans (own_eqI (Cond.before_iff.mp (hsets _ (List.mem_of_getElem? (i := 57) rfl)))))⟩
      · obtain ⟨y, ey⟩ := exa_v (Cond.before_iff.mp (hsets _ (List.mem_of_getElem? (i := 62) rfl)))
        exact ⟨y, (elem_in ey evp (Term.int_eval _) Arp.1).2, Exa.start ey (Cond.before_iff.mp (hsets _ (List.mem_of_getElem? (i := 62) rfl))), Fld.start ((fld_at ey).symm.trans (own_eqI (Cond.before_iff.mp (hsets _ (List.mem_of_getElem? (i := 63) rfl)))))⟩
      · obtain ⟨y, ey⟩ := exa_v (Cond.before_iff.mp (hsets _ (List.mem_of_getElem? (i := 68) rfl)))
        exact ⟨y, (elem_in ey evp (Term.int_eval _) Arp.1).2, Exa.start ey (Cond.before_iff.mp (hsets _ (List.mem_of_getElem? (i := 68) rfl))), Fld.start ((fld_at ey).symm.trans (own_eqI (Cond.before_iff.mp (hsets _ (List.mem_of_getElem? (i := 69) rfl)))))⟩
      · obtain ⟨y, ey⟩ := exa_v (Cond.before_iff.mp (hsets _ (List.mem_of_getElem? (i := 75) rfl)))
        exact ⟨y, (elem_in ey evp (Term.int_eval _) Arp.1).2, Exa.start ey (Cond.before_iff.mp (hsets _ (List.mem_of_getElem? (i := 75) rfl))), Fld.start ((fld_at ey).symm.trans (own_eqI (Cond.before_iff.mp (hsets _ (List.mem_of_getElem? (i := 76) rfl)))))⟩
      · obtain ⟨y, ey⟩ := exa_v (Cond.before_iff.mp (hsets _ (List.mem_of_getElem? (i := 81) rfl)))
        exact ⟨y, (elem_in ey evp (Term.int_eval _) Arp.1).2, Exa.start ey (Cond.before_iff.mp (hsets _ (List.mem_of_getElem? (i := 81) rfl))), Fld.start ((fld_at ey).symm.trans (own_eqI (Cond.before_iff.mp (hsets _ (List.mem_of_getElem? (i := 82) rfl)))))⟩
      · obtain ⟨y, ey⟩ := exa_v (Cond.before_iff.mp (hsets _ (List.mem_of_getElem? (i := 87) rfl)))
        exact ⟨y, (elem_in ey evp (Term.int_eval _) Arp.1).2, Exa.start ey (Cond.before_iff.mp (hsets _ (List.mem_of_getElem? (i := 87) rfl))), Fld.start ((fld_at ey).symm.trans (own_eqI (Cond.before_iff.mp (hsets _ (List.mem_of_getElem? (i := 88) rfl)))))⟩
      · obtain ⟨y, ey⟩ := exa_v (Cond.before_iff.mp (hsets _ (List.mem_of_getElem? (i := 93) rfl)))
        exact ⟨y, (elem_in ey evp (Term.int_eval _) Arp.1).2, Exa.start ey (Cond.before_iff.mp (hsets _ (List.mem_of_getElem? (i := 93) rfl))), Fld.start ((fld_at ey).symm.trans (own_eqI (Cond.before_iff.mp (hsets _ (List.mem_of_getElem? (i := 94) rfl)))))⟩
      · obtain ⟨y, ey⟩ := exa_v (Cond.before_iff.mp (hsets _ (List.mem_of_getElem? (i := 99) rfl)))
        exact ⟨y, (elem_in ey evp (Term.int_eval _) Arp.1).2, Exa.start ey (Cond.before_iff.mp (hsets _ (List.mem_of_getElem? (i := 99) rfl))), Fld.start ((fld_at ey).symm.trans (own_eqI (Cond.before_iff.mp (hsets _ (List.mem_of_getElem? (i := 100) rfl)))))⟩
      · obtain ⟨y, ey⟩ := exa_v (Cond.before_iff.mp (hsets _ (List.mem_of_getElem? (i := 105) rfl)))
        exact ⟨y, (elem_in ey evp (Term.int_eval _) Arp.1).2, Exa.start ey (Cond.before_iff.mp (hsets _ (List.mem_of_getElem? (i := 105) rfl))), Fld.start ((fld_at ey).symm.trans (own_eqI (Cond.before_iff.mp (hsets _ (List.mem_of_getElem? (i := 106) rfl)))))⟩
      · obtain ⟨y, ey⟩ := exa_v (Cond.before_iff.mp (hsets _ (List.mem_of_getElem? (i := 111) rfl)))
        exact ⟨y, (elem_in ey evp (Term.int_eval _) Arp.1).2, Exa.start ey (Cond.before_iff.mp (hsets _ (List.mem_of_getElem? (i := 111) rfl))), Fld.start ((fld_at ey).symm.trans (own_eqI (Cond.before_iff.mp (hsets _ (List.mem_of_getElem? (i := 112) rfl)))))⟩
  obtain ⟨n, o, h1, h2, h3, _, L, rfl, ⟨rfl, N⟩, hq⟩ := rm0 l s _ hw tables_1 i0 i1 i2 z0 pa s.heap s.heap.size (Nat.le_refl _) (Old.start s) SZ EZ FZ SP HP p e ha hc hk s m _ below hf ((Spec.applies_iff_loose hf).mp happ).1 ⟨rfl, State.Warmed39.refl s, rfl⟩ trivial
  refine ⟨n, _, h1, h2, h3, hpost _ _ _ _ _ _ ⟨Cond.after_iff.mpr rfl, Cond.after_iff.mpr (eq_i res_at (Term.int_eval (1)) rfl), trivial⟩ ⟨hq.1, hq.2.1, (hq.2.2.sift fun y hy => Or.inr (N y hy)).mono (by decide) (by decide)⟩⟩
theorem main_1_1 : Claimed_1_1 := comes_1 fun _ _ _ _ _ _ h hF => ⟨h.1, hF⟩
theorem main_1_2 : Claimed_1_2 := comes_1 fun _ _ _ _ _ _ h hF => ⟨h.2.1, hF⟩

end Jvm.Pilot.@@N@@
namespace Jvm.Pilot.@@N@@
open Jvm Jvm.ClassFile Sem Op Lib Jvm.Free Jvm.Stand Jvm.Pilot.@@N@@.Jvm.D
/-! MADE BY PROGRAM (witnessworld.py) out of the Statement's table words and the real class files: 19 classes; the members and pool entries that the words name. The judged class is class 1, her method 2. -/
namespace start1
open Jvm.ClassFile
def u (s : String) : CpInfo := .utf8 (stringToUtf16 s)
/-- a pool by its gaps: so many unusable entries, then the entry; so many at the end -/
def gap : Nat → List CpInfo → List CpInfo
  | 0, r => r
  | n + 1, r => .unusable :: gap n r
def poolList (es : List (Nat × CpInfo)) (last : Nat) : List CpInfo := es.foldr (fun e r => gap e.1 (e.2 :: r)) (gap last [])
def pool (es : List (Nat × CpInfo)) (last : Nat) : Array CpInfo := ⟨poolList es last⟩
def fileOf (pool : Array CpInfo) (this : Nat) (attrs : Array Attribute := #[]) (ms : Array MethodInfo := #[]) (fl : Nat := 33) (sup : Nat := 0) (ifs : Array Nat := #[]) (fds : Array FieldInfo := #[]) : ClassFile where
  minorVersion := 0
  majorVersion := 65
  constantPool := pool
  accessFlags := fl
  thisClass := this
  superClass := sup
  interfaces := ifs
  fields := fds
  methods := ms
  attributes := attrs
def plain (name : String) (sup : Option ClassId) : Class where
  name := name
  kind := .ordinary
  loader := none
  accessFlags := 33
  super := sup
  interfaces := #[]
  cf := none
  fields := #[]
  methods := #[]
  instanceTypes := #[]
  staticTypes := #[]
  resolved := #[]
  callSites := []
  init := .initialized
  statics := none
  mirror := none

def pool0 : Array CpInfo := pool [(5, u "<init>"), (0, u "()V"), (1, .class_ 10), (1, u "java/lang/Object")] 113

def k0c0 : Code := { maxStack := 0, maxLocals := 1, code := object_method_1_code, exceptionTable := #[], attributes := #[] }
def k0m0 : Method := { name := "<init>", desc := "()V", sig := { parameters := [], returnType := none }, accessFlags := 1, code := some k0c0 }
/-- java/lang/Object -/
def k0 : Class := { plain "java/lang/Object" none with
  accessFlags := 33
  interfaces := #[]
  cf := some (fileOf pool0 8 #[] #[{ accessFlags := 1, nameIndex := 5, descriptorIndex := 6, attributes := #[] }] 33 0 #[] #[])
  fields := #[]
  methods := #[k0m0]
  instanceTypes := #[]
  staticTypes := #[]
  resolved := Array.replicate 124 none
  statics := none }

def pool1 : Array CpInfo := pool [(2, .class_ 4), (1, u "java/lang/Object"), (0, u "<init>"), (0, u "()V"), (0, .methodref 8 9), (0, .class_ 10), (0, .nameAndType 11 12), (0, u "com/example/quorumsmith/quorumsmith/engine/CountSummary"), (0, u "max"), (0, u "()J"), (0, .methodref 8 14), (0, .nameAndType 15 12), (0, u "min"), (0, .methodref 17 18), (0, .class_ 19), (0, .nameAndType 15 20), (0, u "java/lang/Math"), (0, u "(JJ)J"), (0, .methodref 17 22), (0, .nameAndType 11 20), (0, .integer 2147483647), (0, .class_ 25), (0, u "com/example/quorumsmith/quorumsmith/engine/Network"), (0, .methodref 24 27), (0, .nameAndType 5 28), (0, u "(I)V"), (0, .methodref 24 30), (0, .nameAndType 31 32), (0, u "send"), (0, u "(III)V"), (0, .long 2), (1, .methodref 24 36), (0, .nameAndType 37 38), (0, u "messagesSent"), (0, u "(I)Lcom/example/quorumsmith/quorumsmith/engine/CountSummary;"), (0, .methodref 40 41), (0, .class_ 42), (0, .nameAndType 43 44), (0, u "com/example/quorumsmith/quorumsmith/engine/NetworkSendPinLaw"), (0, u "pinned"), (0, u "(Lcom/example/quorumsmith/quorumsmith/engine/CountSummary;Lcom/example/quorumsmith/quorumsmith/engine/CountSummary;JJ)Z"), (0, .methodref 24 46), (0, .nameAndType 47 38), (0, u "messagesReceived"), (0, .methodref 24 49), (0, .nameAndType 50 38), (0, u "bitsSent"), (3, u "law"), (0, u "(III)Z")] 2

def k1m0 : Method := { name := "<init>", desc := "()V", sig := { parameters := [], returnType := none }, accessFlags := 2, code := none }
def k1c1 : Code := { maxStack := 6, maxLocals := 6, code := method_2_code, exceptionTable := #[], attributes := #[] }
def k1m1 : Method := { name := "pinned", desc := "(Lcom/example/quorumsmith/quorumsmith/engine/CountSummary;Lcom/example/quorumsmith/quorumsmith/engine/CountSummary;JJ)Z", sig := { parameters := [(.object "com/example/quorumsmith/quorumsmith/engine/CountSummary"), (.object "com/example/quorumsmith/quorumsmith/engine/CountSummary"), .long, .long], returnType := some .boolean }, accessFlags := 10, code := some k1c1 }
def k1c2 : Code := { maxStack := 6, maxLocals := 25, code := code, exceptionTable := #[], attributes := #[] }
def k1m2 : Method := { name := "law", desc := "(III)Z", sig := { parameters := [.int, .int, .int], returnType := some .boolean }, accessFlags := 9, code := some k1c2 }
/-- com/example/quorumsmith/quorumsmith/engine/NetworkSendPinLaw -/
def k1 : Class := { plain "com/example/quorumsmith/quorumsmith/engine/NetworkSendPinLaw" (some 0) with
  accessFlags := 49
  interfaces := #[]
  cf := some (fileOf pool1 40 #[] #[{ accessFlags := 2, nameIndex := 5, descriptorIndex := 6, attributes := #[] }, { accessFlags := 10, nameIndex := 43, descriptorIndex := 44, attributes := #[] }, { accessFlags := 9, nameIndex := 54, descriptorIndex := 55, attributes := #[] }] 49 2 #[] #[])
  fields := #[]
  methods := #[k1m0, k1m1, k1m2]
  instanceTypes := #[]
  staticTypes := #[]
  resolved := Array.replicate 58 none
  statics := none }

def pool2 : Array CpInfo := pool [(1, .methodref 2 3), (0, .class_ 4), (0, .nameAndType 5 6), (0, u "java/lang/Object"), (0, u "<init>"), (0, u "()V"), (9, .fieldref 17 18), (0, .class_ 19), (0, .nameAndType 20 21), (0, u "com/example/quorumsmith/quorumsmith/engine/Network"), (0, u "sent"), (0, u "[J"), (0, .fieldref 17 23), (0, .nameAndType 24 21), (0, u "received"), (0, .fieldref 17 26), (0, .nameAndType 27 21), (0, u "bitsSent"), (30, .class_ 59), (0, u "com/example/quorumsmith/quorumsmith/engine/Network$Tally"), (3, .methodref 64 65), (0, .class_ 66), (0, .nameAndType 67 68), (0, u "com/example/quorumsmith/quorumsmith/engine/CountSummary"), (0, u "of"), (0, u "([JI)Lcom/example/quorumsmith/quorumsmith/engine/CountSummary;"), (5, u "COUNT"), (0, u "Ljava/lang/invoke/VarHandle;"), (13, u "(I)V"), (3, u "send"), (0, u "(III)V"), (6, u "messagesSent"), (0, u "(I)Lcom/example/quorumsmith/quorumsmith/engine/CountSummary;"), (0, u "messagesReceived")] 23

def k2c0 : Code := { maxStack := 3, maxLocals := 2, code := prog_23_method_1_code, exceptionTable := #[], attributes := #[] }
def k2m0 : Method := { name := "<init>", desc := "(I)V", sig := { parameters := [.int], returnType := none }, accessFlags := 1, code := some k2c0 }
def k2c1 : Code := { maxStack := 6, maxLocals := 4, code := prog_23_method_2_code, exceptionTable := #[], attributes := #[] }
def k2m1 : Method := { name := "send", desc := "(III)V", sig := { parameters := [.int, .int, .int], returnType := none }, accessFlags := 1, code := some k2c1 }
def k2c2 : Code := { maxStack := 2, maxLocals := 2, code := prog_23_method_8_code, exceptionTable := #[], attributes := #[] }
def k2m2 : Method := { name := "messagesSent", desc := "(I)Lcom/example/quorumsmith/quorumsmith/engine/CountSummary;", sig := { parameters := [.int], returnType := some (.object "com/example/quorumsmith/quorumsmith/engine/CountSummary") }, accessFlags := 1, code := some k2c2 }
def k2c3 : Code := { maxStack := 2, maxLocals := 2, code := prog_23_method_9_code, exceptionTable := #[], attributes := #[] }
def k2m3 : Method := { name := "messagesReceived", desc := "(I)Lcom/example/quorumsmith/quorumsmith/engine/CountSummary;", sig := { parameters := [.int], returnType := some (.object "com/example/quorumsmith/quorumsmith/engine/CountSummary") }, accessFlags := 1, code := some k2c3 }
def k2c4 : Code := { maxStack := 2, maxLocals := 2, code := prog_23_method_10_code, exceptionTable := #[], attributes := #[] }
def k2m4 : Method := { name := "bitsSent", desc := "(I)Lcom/example/quorumsmith/quorumsmith/engine/CountSummary;", sig := { parameters := [.int], returnType := some (.object "com/example/quorumsmith/quorumsmith/engine/CountSummary") }, accessFlags := 1, code := some k2c4 }
/-- com/example/quorumsmith/quorumsmith/engine/Network -/
def k2 : Class := { plain "com/example/quorumsmith/quorumsmith/engine/Network" (some 0) with
  accessFlags := 49
  interfaces := #[]
  cf := some (fileOf pool2 17 #[.nestMembers #[58]] #[{ accessFlags := 1, nameIndex := 5, descriptorIndex := 89, attributes := #[] }, { accessFlags := 1, nameIndex := 93, descriptorIndex := 94, attributes := #[] }, { accessFlags := 1, nameIndex := 101, descriptorIndex := 102, attributes := #[] }, { accessFlags := 1, nameIndex := 103, descriptorIndex := 102, attributes := #[] }, { accessFlags := 1, nameIndex := 27, descriptorIndex := 102, attributes := #[] }] 49 2 #[] #[{ accessFlags := 26, nameIndex := 74, descriptorIndex := 75, attributes := #[] }, { accessFlags := 18, nameIndex := 20, descriptorIndex := 21, attributes := #[] }, { accessFlags := 18, nameIndex := 24, descriptorIndex := 21, attributes := #[] }, { accessFlags := 18, nameIndex := 27, descriptorIndex := 21, attributes := #[] }])
  fields := #[{ name := "COUNT", type := (.object "java/lang/invoke/VarHandle"), accessFlags := 26, slot := 0, constantValue := 0 }, { name := "sent", type := (.array .long), accessFlags := 18, slot := 0, constantValue := 0 }, { name := "received", type := (.array .long), accessFlags := 18, slot := 1, constantValue := 0 }, { name := "bitsSent", type := (.array .long), accessFlags := 18, slot := 2, constantValue := 0 }]
  methods := #[k2m0, k2m1, k2m2, k2m3, k2m4]
  instanceTypes := #[(.array .long), (.array .long), (.array .long)]
  staticTypes := #[(.object "java/lang/invoke/VarHandle")]
  resolved := Array.replicate 127 none
  statics := none }

def pool3 : Array CpInfo := pool [(1, .methodref 2 3), (0, .class_ 4), (0, .nameAndType 5 6), (0, u "java/lang/Object"), (0, u "<init>"), (0, u "()V"), (0, .class_ 8), (0, u "java/lang/Record")] 13

def k3c0 : Code := { maxStack := 1, maxLocals := 1, code := jdk_30_method_1_code, exceptionTable := #[], attributes := #[] }
def k3m0 : Method := { name := "<init>", desc := "()V", sig := { parameters := [], returnType := none }, accessFlags := 4, code := some k3c0 }
/-- java/lang/Record -/
def k3 : Class := { plain "java/lang/Record" (some 0) with
  accessFlags := 1057
  interfaces := #[]
  cf := some (fileOf pool3 7 #[] #[{ accessFlags := 4, nameIndex := 5, descriptorIndex := 6, attributes := #[] }] 1057 2 #[] #[])
  fields := #[]
  methods := #[k3m0]
  instanceTypes := #[]
  staticTypes := #[]
  resolved := Array.replicate 22 none
  statics := none }

def pool4 : Array CpInfo := pool [(1, .methodref 2 3), (0, .class_ 4), (0, .nameAndType 5 6), (0, u "java/lang/Record"), (0, u "<init>"), (0, u "()V"), (0, .methodref 8 9), (0, .class_ 10), (0, .nameAndType 11 12), (0, u "java/util/Objects"), (0, u "requireNonNull"), (0, u "(Ljava/lang/Object;)Ljava/lang/Object;"), (9, .fieldref 23 24), (0, .class_ 25), (0, .nameAndType 26 27), (0, u "com/example/quorumsmith/quorumsmith/engine/CountSummary"), (0, u "total"), (0, u "Ljava/math/BigInteger;"), (0, .fieldref 23 29), (0, .nameAndType 30 31), (0, u "members"), (0, u "J"), (0, .fieldref 23 33), (0, .nameAndType 34 31), (0, u "min"), (0, .fieldref 23 36), (0, .nameAndType 37 31), (0, u "max"), (0, .methodref 39 40), (0, .class_ 41), (0, .nameAndType 42 43), (0, u "java/math/BigInteger"), (0, u "valueOf"), (0, u "(J)Ljava/math/BigInteger;"), (0, .methodref 23 45), (0, .nameAndType 5 46), (0, u "(Ljava/math/BigInteger;JJJ)V"), (5, .long 9223372036854775807), (4, .methodref 58 59), (0, .class_ 60), (0, .nameAndType 34 61), (0, u "java/lang/Math"), (0, u "(JJ)J"), (0, .methodref 58 63), (0, .nameAndType 37 61), (0, .methodref 39 65), (0, .nameAndType 66 67), (0, u "shiftLeft"), (0, u "(I)Ljava/math/BigInteger;"), (0, .methodref 39 69), (0, .nameAndType 70 71), (0, u "add"), (0, u "(Ljava/math/BigInteger;)Ljava/math/BigInteger;"), (53, u "of"), (1, u "([JI)Lcom/example/quorumsmith/quorumsmith/engine/CountSummary;"), (10, u "()J")] 37

def k4c0 : Code := { maxStack := 4, maxLocals := 8, code := prog_20_method_1_code, exceptionTable := #[], attributes := #[] }
def k4m0 : Method := { name := "<init>", desc := "(Ljava/math/BigInteger;JJJ)V", sig := { parameters := [(.object "java/math/BigInteger"), .long, .long, .long], returnType := none }, accessFlags := 1, code := some k4c0 }
def k4c1 : Code := { maxStack := 9, maxLocals := 13, code := prog_20_method_3_code, exceptionTable := #[], attributes := #[] }
def k4m1 : Method := { name := "of", desc := "([JI)Lcom/example/quorumsmith/quorumsmith/engine/CountSummary;", sig := { parameters := [(.array .long), .int], returnType := some (.object "com/example/quorumsmith/quorumsmith/engine/CountSummary") }, accessFlags := 8, code := some k4c1 }
def k4c2 : Code := { maxStack := 2, maxLocals := 1, code := prog_20_method_12_code, exceptionTable := #[], attributes := #[] }
def k4m2 : Method := { name := "min", desc := "()J", sig := { parameters := [], returnType := some .long }, accessFlags := 1, code := some k4c2 }
def k4c3 : Code := { maxStack := 2, maxLocals := 1, code := prog_20_method_13_code, exceptionTable := #[], attributes := #[] }
def k4m3 : Method := { name := "max", desc := "()J", sig := { parameters := [], returnType := some .long }, accessFlags := 1, code := some k4c3 }
/-- com/example/quorumsmith/quorumsmith/engine/CountSummary -/
def k4 : Class := { plain "com/example/quorumsmith/quorumsmith/engine/CountSummary" (some 3) with
  accessFlags := 49
  interfaces := #[]
  cf := some (fileOf pool4 23 #[] #[{ accessFlags := 1, nameIndex := 5, descriptorIndex := 46, attributes := #[] }, { accessFlags := 8, nameIndex := 125, descriptorIndex := 127, attributes := #[] }, { accessFlags := 1, nameIndex := 34, descriptorIndex := 138, attributes := #[] }, { accessFlags := 1, nameIndex := 37, descriptorIndex := 138, attributes := #[] }] 49 2 #[] #[{ accessFlags := 18, nameIndex := 26, descriptorIndex := 27, attributes := #[] }, { accessFlags := 18, nameIndex := 30, descriptorIndex := 31, attributes := #[] }, { accessFlags := 18, nameIndex := 34, descriptorIndex := 31, attributes := #[] }, { accessFlags := 18, nameIndex := 37, descriptorIndex := 31, attributes := #[] }])
  fields := #[{ name := "total", type := (.object "java/math/BigInteger"), accessFlags := 18, slot := 0, constantValue := 0 }, { name := "members", type := .long, accessFlags := 18, slot := 1, constantValue := 0 }, { name := "min", type := .long, accessFlags := 18, slot := 2, constantValue := 0 }, { name := "max", type := .long, accessFlags := 18, slot := 3, constantValue := 0 }]
  methods := #[k4m0, k4m1, k4m2, k4m3]
  instanceTypes := #[(.object "java/math/BigInteger"), .long, .long, .long]
  staticTypes := #[]
  resolved := Array.replicate 176 none
  statics := none }

def pool5 : Array CpInfo := pool [(1, .class_ 2), (0, u "java/lang/Math"), (1, .class_ 6), (1, u "java/lang/Object"), (0, u "<init>"), (0, u "()V"), (89, .class_ 100), (1, u "java/lang/Math$RandomNumberGeneratorHolder"), (20, u "(JJ)J"), (50, u "negativeZeroFloatBits"), (0, u "J"), (2, u "negativeZeroDoubleBits"), (21, u "max"), (2, u "min"), (43, u "$assertionsDisabled"), (0, u "Z"), (91, u "twoToTheDoubleScaleDown"), (0, u "D"), (4, u "twoToTheDoubleScaleUp"), (9, u "E"), (3, u "PI"), (2, u "TAU"), (2, u "DEGREES_TO_RADIANS"), (0, u "RADIANS_TO_DEGREES")] 94

def k5m0 : Method := { name := "<init>", desc := "()V", sig := { parameters := [], returnType := none }, accessFlags := 2, code := none }
def k5c1 : Code := { maxStack := 4, maxLocals := 4, code := jdk_29_method_66_code, exceptionTable := #[], attributes := #[] }
def k5m1 : Method := { name := "max", desc := "(JJ)J", sig := { parameters := [.long, .long], returnType := some .long }, accessFlags := 9, code := some k5c1 }
def k5c2 : Code := { maxStack := 4, maxLocals := 4, code := jdk_29_method_70_code, exceptionTable := #[], attributes := #[] }
def k5m2 : Method := { name := "min", desc := "(JJ)J", sig := { parameters := [.long, .long], returnType := some .long }, accessFlags := 9, code := some k5c2 }
/-- java/lang/Math -/
def k5 : Class := { plain "java/lang/Math" (some 0) with
  accessFlags := 49
  interfaces := #[]
  cf := some (fileOf pool5 1 #[.nestMembers #[98]] #[{ accessFlags := 2, nameIndex := 7, descriptorIndex := 8, attributes := #[] }, { accessFlags := 9, nameIndex := 198, descriptorIndex := 121, attributes := #[] }, { accessFlags := 9, nameIndex := 201, descriptorIndex := 121, attributes := #[] }] 49 4 #[] #[{ accessFlags := 25, nameIndex := 354, descriptorIndex := 339, attributes := #[] }, { accessFlags := 25, nameIndex := 358, descriptorIndex := 339, attributes := #[] }, { accessFlags := 25, nameIndex := 361, descriptorIndex := 339, attributes := #[] }, { accessFlags := 26, nameIndex := 364, descriptorIndex := 339, attributes := #[] }, { accessFlags := 26, nameIndex := 365, descriptorIndex := 339, attributes := #[] }, { accessFlags := 26, nameIndex := 172, descriptorIndex := 173, attributes := #[] }, { accessFlags := 26, nameIndex := 176, descriptorIndex := 173, attributes := #[] }, { accessFlags := 8, nameIndex := 344, descriptorIndex := 339, attributes := #[] }, { accessFlags := 8, nameIndex := 338, descriptorIndex := 339, attributes := #[] }, { accessFlags := 4120, nameIndex := 245, descriptorIndex := 246, attributes := #[] }])
  fields := #[{ name := "E", type := .double, accessFlags := 25, slot := 0, constantValue := 0 }, { name := "PI", type := .double, accessFlags := 25, slot := 1, constantValue := 0 }, { name := "TAU", type := .double, accessFlags := 25, slot := 2, constantValue := 0 }, { name := "DEGREES_TO_RADIANS", type := .double, accessFlags := 26, slot := 3, constantValue := 0 }, { name := "RADIANS_TO_DEGREES", type := .double, accessFlags := 26, slot := 4, constantValue := 0 }, { name := "negativeZeroFloatBits", type := .long, accessFlags := 26, slot := 5, constantValue := 0 }, { name := "negativeZeroDoubleBits", type := .long, accessFlags := 26, slot := 6, constantValue := 0 }, { name := "twoToTheDoubleScaleUp", type := .double, accessFlags := 8, slot := 7, constantValue := 0 }, { name := "twoToTheDoubleScaleDown", type := .double, accessFlags := 8, slot := 8, constantValue := 0 }, { name := "$assertionsDisabled", type := .boolean, accessFlags := 4120, slot := 9, constantValue := 0 }]
  methods := #[k5m0, k5m1, k5m2]
  instanceTypes := #[]
  staticTypes := #[.double, .double, .double, .double, .double, .long, .long, .double, .double, .boolean]
  resolved := Array.replicate 460 none
  statics := none }

def pool6 : Array CpInfo := pool [(1, .class_ 2), (0, u "java/io/Serializable"), (0, .class_ 4), (0, u "java/lang/Object")] 2

/-- java/io/Serializable -/
def k6 : Class := { plain "java/io/Serializable" (some 0) with
  accessFlags := 1537
  interfaces := #[]
  cf := some (fileOf pool6 1 #[] #[] 1537 3 #[] #[])
  fields := #[]
  methods := #[]
  instanceTypes := #[]
  staticTypes := #[]
  resolved := Array.replicate 7 none
  statics := none }

def pool7 : Array CpInfo := pool [(1, .methodref 2 3), (0, .class_ 4), (0, .nameAndType 5 6), (0, u "java/lang/Object"), (0, u "<init>"), (0, u "()V"), (1, .class_ 10), (1, u "java/lang/Number"), (2, .class_ 14), (0, u "java/io/Serializable"), (0, u "serialVersionUID"), (0, u "J")] 20

def k7c0 : Code := { maxStack := 1, maxLocals := 1, code := jdk_18_method_1_code, exceptionTable := #[], attributes := #[] }
def k7m0 : Method := { name := "<init>", desc := "()V", sig := { parameters := [], returnType := none }, accessFlags := 1, code := some k7c0 }
/-- java/lang/Number -/
def k7 : Class := { plain "java/lang/Number" (some 0) with
  accessFlags := 1057
  interfaces := #[6]
  cf := some (fileOf pool7 8 #[] #[{ accessFlags := 1, nameIndex := 5, descriptorIndex := 6, attributes := #[] }] 1057 2 #[13] #[{ accessFlags := 26, nameIndex := 15, descriptorIndex := 16, attributes := #[] }])
  fields := #[{ name := "serialVersionUID", type := .long, accessFlags := 26, slot := 0, constantValue := 0 }]
  methods := #[k7m0]
  instanceTypes := #[]
  staticTypes := #[.long]
  resolved := Array.replicate 37 none
  statics := none }

def pool8 : Array CpInfo := pool [(1, .class_ 2), (0, u "java/lang/Comparable"), (0, .class_ 4), (0, u "java/lang/Object")] 7

/-- java/lang/Comparable -/
def k8 : Class := { plain "java/lang/Comparable" (some 0) with
  accessFlags := 1537
  interfaces := #[]
  cf := some (fileOf pool8 1 #[] #[] 1537 3 #[] #[])
  fields := #[]
  methods := #[]
  instanceTypes := #[]
  staticTypes := #[]
  resolved := Array.replicate 12 none
  statics := none }

def pool9 : Array CpInfo := pool [(3, .methodref 4 5), (0, .class_ 6), (0, .nameAndType 7 8), (0, u "java/lang/Number"), (0, u "<init>"), (0, u "()V"), (13, .fieldref 23 24), (0, .class_ 25), (0, .nameAndType 26 27), (0, u "java/math/BigInteger"), (0, u "ZERO"), (0, u "Ljava/math/BigInteger;"), (0, .fieldref 23 29), (0, .nameAndType 30 31), (0, u "mag"), (0, u "[I"), (0, .fieldref 23 33), (0, .nameAndType 34 35), (0, u "signum"), (0, u "I"), (59, u "bitsPerDigit"), (0, u "[J"), (9, u "digitsPerInt"), (12, u "intRadix"), (60, u "SMALL_PRIME_PRODUCT"), (3, u "(Ljava/math/BigInteger;)Ljava/math/BigInteger;"), (34, u "(I)Ljava/math/BigInteger;"), (17, u "valueOf"), (0, u "(J)Ljava/math/BigInteger;"), (2, u "add"), (18, u "ONE"), (6, u "TWO"), (43, u "$assertionsDisabled"), (0, u "Z"), (32, .long 16), (1, .fieldref 23 348), (0, .nameAndType 349 350), (0, u "posConst"), (0, u "[Ljava/math/BigInteger;"), (4, u "negConst"), (0, .methodref 23 357), (0, .nameAndType 7 358), (0, u "(J)V"), (72, u "shiftLeft"), (40, .class_ 474), (1, u "java/math/BigInteger$RecursiveOp"), (106, u "NEGATIVE_ONE"), (91, u "bnExpModThreshTable"), (72, u "lowestSetBitPlusTwo"), (2, u "bitLengthPlusOne"), (2, u "bitCountPlusOne"), (6, u "LOG_TWO"), (0, u "D"), (2, u "logCache"), (0, u "[D"), (13, u "NUM_ZEROS"), (2, u "ZEROS"), (0, u "Ljava/lang/String;"), (9, u "longRadix"), (5, u "digitsPerLong"), (22, u "powerCache"), (0, u "[[Ljava/math/BigInteger;"), (45, u "firstNonzeroIntNumPlusTwo"), (38, .class_ 909), (1, u "java/math/BigInteger$UnsafeHolder"), (141, u "TEN"), (106, u "serialPersistentFields"), (0, u "[Ljava/io/ObjectStreamField;"), (0, .class_ 1161), (0, u "java/lang/Comparable"), (0, u "LONG_MASK"), (0, u "J"), (1, u "MAX_MAG_LENGTH"), (0, u "PRIME_SEARCH_BIT_LENGTH_LIMIT"), (1, u "KARATSUBA_THRESHOLD"), (1, u "TOOM_COOK_THRESHOLD"), (1, u "KARATSUBA_SQUARE_THRESHOLD"), (1, u "TOOM_COOK_SQUARE_THRESHOLD"), (1, u "BURNIKEL_ZIEGLER_THRESHOLD"), (0, u "BURNIKEL_ZIEGLER_OFFSET"), (1, u "SCHOENHAGE_BASE_CONVERSION_THRESHOLD"), (1, u "MULTIPLY_SQUARE_THRESHOLD"), (0, u "MONTGOMERY_INTRINSIC_THRESHOLD"), (1, u "SMALL_PRIME_THRESHOLD"), (1, u "DEFAULT_PRIME_CERTAINTY"), (1, u "MAX_CONSTANT"), (3, u "serialVersionUID"), (338, .class_ 1532), (0, u "java/math/BigInteger$RecursiveOp$RecursiveSquare"), (0, .class_ 1534), (0, u "java/math/BigInteger$RecursiveOp$RecursiveMultiply")] 7

def k9c0 : Code := { maxStack := 4, maxLocals := 2, code := jdk_2097_method_29_code, exceptionTable := #[], attributes := #[] }
def k9m0 : Method := { name := "valueOf", desc := "(J)Ljava/math/BigInteger;", sig := { parameters := [.long], returnType := some (.object "java/math/BigInteger") }, accessFlags := 9, code := some k9c0 }
def k9c1 : Code := { maxStack := 4, maxLocals := 4, code := jdk_2097_method_30_code, exceptionTable := #[], attributes := #[] }
def k9m1 : Method := { name := "<init>", desc := "(J)V", sig := { parameters := [.long], returnType := none }, accessFlags := 2, code := some k9c1 }
def k9c2 : Code := { maxStack := 5, maxLocals := 4, code := jdk_2097_method_32_code, exceptionTable := #[], attributes := #[] }
def k9m2 : Method := { name := "add", desc := "(Ljava/math/BigInteger;)Ljava/math/BigInteger;", sig := { parameters := [(.object "java/math/BigInteger")], returnType := some (.object "java/math/BigInteger") }, accessFlags := 1, code := some k9c2 }
def k9c3 : Code := { maxStack := 4, maxLocals := 2, code := jdk_2097_method_101_code, exceptionTable := #[], attributes := #[] }
def k9m3 : Method := { name := "shiftLeft", desc := "(I)Ljava/math/BigInteger;", sig := { parameters := [.int], returnType := some (.object "java/math/BigInteger") }, accessFlags := 1, code := some k9c3 }
/-- java/math/BigInteger -/
def k9 : Class := { plain "java/math/BigInteger" (some 7) with
  accessFlags := 33
  interfaces := #[8]
  cf := some (fileOf pool9 23 #[.nestMembers #[907, 472, 1531, 1533]] #[{ accessFlags := 9, nameIndex := 237, descriptorIndex := 238, attributes := #[] }, { accessFlags := 2, nameIndex := 7, descriptorIndex := 358, attributes := #[] }, { accessFlags := 1, nameIndex := 241, descriptorIndex := 184, attributes := #[] }, { accessFlags := 1, nameIndex := 431, descriptorIndex := 219, attributes := #[] }] 33 4 #[1160] #[{ accessFlags := 16, nameIndex := 34, descriptorIndex := 35, attributes := #[] }, { accessFlags := 16, nameIndex := 30, descriptorIndex := 31, attributes := #[] }, { accessFlags := 2, nameIndex := 752, descriptorIndex := 35, attributes := #[] }, { accessFlags := 2, nameIndex := 749, descriptorIndex := 35, attributes := #[] }, { accessFlags := 2, nameIndex := 746, descriptorIndex := 35, attributes := #[] }, { accessFlags := 2, nameIndex := 868, descriptorIndex := 35, attributes := #[] }, { accessFlags := 24, nameIndex := 1162, descriptorIndex := 1163, attributes := #[] }, { accessFlags := 26, nameIndex := 1165, descriptorIndex := 35, attributes := #[] }, { accessFlags := 26, nameIndex := 1166, descriptorIndex := 35, attributes := #[] }, { accessFlags := 26, nameIndex := 1168, descriptorIndex := 35, attributes := #[] }, { accessFlags := 26, nameIndex := 1170, descriptorIndex := 35, attributes := #[] }, { accessFlags := 26, nameIndex := 1172, descriptorIndex := 35, attributes := #[] }, { accessFlags := 26, nameIndex := 1174, descriptorIndex := 35, attributes := #[] }, { accessFlags := 24, nameIndex := 1176, descriptorIndex := 35, attributes := #[] }, { accessFlags := 24, nameIndex := 1177, descriptorIndex := 35, attributes := #[] }, { accessFlags := 26, nameIndex := 1179, descriptorIndex := 35, attributes := #[] }, { accessFlags := 26, nameIndex := 1181, descriptorIndex := 35, attributes := #[] }, { accessFlags := 26, nameIndex := 1182, descriptorIndex := 35, attributes := #[] }, { accessFlags := 10, nameIndex := 95, descriptorIndex := 96, attributes := #[] }, { accessFlags := 26, nameIndex := 1184, descriptorIndex := 35, attributes := #[] }, { accessFlags := 26, nameIndex := 1186, descriptorIndex := 35, attributes := #[] }, { accessFlags := 26, nameIndex := 180, descriptorIndex := 27, attributes := #[] }, { accessFlags := 26, nameIndex := 1188, descriptorIndex := 35, attributes := #[] }, { accessFlags := 26, nameIndex := 349, descriptorIndex := 350, attributes := #[] }, { accessFlags := 26, nameIndex := 355, descriptorIndex := 350, attributes := #[] }, { accessFlags := 74, nameIndex := 821, descriptorIndex := 822, attributes := #[] }, { accessFlags := 26, nameIndex := 763, descriptorIndex := 764, attributes := #[] }, { accessFlags := 26, nameIndex := 759, descriptorIndex := 760, attributes := #[] }, { accessFlags := 25, nameIndex := 26, descriptorIndex := 27, attributes := #[] }, { accessFlags := 25, nameIndex := 260, descriptorIndex := 27, attributes := #[] }, { accessFlags := 25, nameIndex := 267, descriptorIndex := 27, attributes := #[] }, { accessFlags := 26, nameIndex := 581, descriptorIndex := 27, attributes := #[] }, { accessFlags := 25, nameIndex := 1051, descriptorIndex := 27, attributes := #[] }, { accessFlags := 8, nameIndex := 673, descriptorIndex := 31, attributes := #[] }, { accessFlags := 10, nameIndex := 778, descriptorIndex := 35, attributes := #[] }, { accessFlags := 26, nameIndex := 781, descriptorIndex := 782, attributes := #[] }, { accessFlags := 10, nameIndex := 798, descriptorIndex := 31, attributes := #[] }, { accessFlags := 10, nameIndex := 792, descriptorIndex := 350, attributes := #[] }, { accessFlags := 10, nameIndex := 106, descriptorIndex := 31, attributes := #[] }, { accessFlags := 10, nameIndex := 119, descriptorIndex := 31, attributes := #[] }, { accessFlags := 26, nameIndex := 1192, descriptorIndex := 1163, attributes := #[] }, { accessFlags := 26, nameIndex := 1158, descriptorIndex := 1159, attributes := #[] }, { accessFlags := 4120, nameIndex := 311, descriptorIndex := 312, attributes := #[] }])
  fields := #[{ name := "signum", type := .int, accessFlags := 16, slot := 0, constantValue := 0 }, { name := "mag", type := (.array .int), accessFlags := 16, slot := 1, constantValue := 0 }, { name := "bitCountPlusOne", type := .int, accessFlags := 2, slot := 2, constantValue := 0 }, { name := "bitLengthPlusOne", type := .int, accessFlags := 2, slot := 3, constantValue := 0 }, { name := "lowestSetBitPlusTwo", type := .int, accessFlags := 2, slot := 4, constantValue := 0 }, { name := "firstNonzeroIntNumPlusTwo", type := .int, accessFlags := 2, slot := 5, constantValue := 0 }, { name := "LONG_MASK", type := .long, accessFlags := 24, slot := 0, constantValue := 0 }, { name := "MAX_MAG_LENGTH", type := .int, accessFlags := 26, slot := 1, constantValue := 0 }, { name := "PRIME_SEARCH_BIT_LENGTH_LIMIT", type := .int, accessFlags := 26, slot := 2, constantValue := 0 }, { name := "KARATSUBA_THRESHOLD", type := .int, accessFlags := 26, slot := 3, constantValue := 0 }, { name := "TOOM_COOK_THRESHOLD", type := .int, accessFlags := 26, slot := 4, constantValue := 0 }, { name := "KARATSUBA_SQUARE_THRESHOLD", type := .int, accessFlags := 26, slot := 5, constantValue := 0 }, { name := "TOOM_COOK_SQUARE_THRESHOLD", type := .int, accessFlags := 26, slot := 6, constantValue := 0 }, { name := "BURNIKEL_ZIEGLER_THRESHOLD", type := .int, accessFlags := 24, slot := 7, constantValue := 0 }, { name := "BURNIKEL_ZIEGLER_OFFSET", type := .int, accessFlags := 24, slot := 8, constantValue := 0 }, { name := "SCHOENHAGE_BASE_CONVERSION_THRESHOLD", type := .int, accessFlags := 26, slot := 9, constantValue := 0 }, { name := "MULTIPLY_SQUARE_THRESHOLD", type := .int, accessFlags := 26, slot := 10, constantValue := 0 }, { name := "MONTGOMERY_INTRINSIC_THRESHOLD", type := .int, accessFlags := 26, slot := 11, constantValue := 0 }, { name := "bitsPerDigit", type := (.array .long), accessFlags := 10, slot := 12, constantValue := 0 }, { name := "SMALL_PRIME_THRESHOLD", type := .int, accessFlags := 26, slot := 13, constantValue := 0 }, { name := "DEFAULT_PRIME_CERTAINTY", type := .int, accessFlags := 26, slot := 14, constantValue := 0 }, { name := "SMALL_PRIME_PRODUCT", type := (.object "java/math/BigInteger"), accessFlags := 26, slot := 15, constantValue := 0 }, { name := "MAX_CONSTANT", type := .int, accessFlags := 26, slot := 16, constantValue := 0 }, { name := "posConst", type := (.array (.object "java/math/BigInteger")), accessFlags := 26, slot := 17, constantValue := 0 }, { name := "negConst", type := (.array (.object "java/math/BigInteger")), accessFlags := 26, slot := 18, constantValue := 0 }, { name := "powerCache", type := (.array (.array (.object "java/math/BigInteger"))), accessFlags := 74, slot := 19, constantValue := 0 }, { name := "logCache", type := (.array .double), accessFlags := 26, slot := 20, constantValue := 0 }, { name := "LOG_TWO", type := .double, accessFlags := 26, slot := 21, constantValue := 0 }, { name := "ZERO", type := (.object "java/math/BigInteger"), accessFlags := 25, slot := 22, constantValue := 0 }, { name := "ONE", type := (.object "java/math/BigInteger"), accessFlags := 25, slot := 23, constantValue := 0 }, { name := "TWO", type := (.object "java/math/BigInteger"), accessFlags := 25, slot := 24, constantValue := 0 }, { name := "NEGATIVE_ONE", type := (.object "java/math/BigInteger"), accessFlags := 26, slot := 25, constantValue := 0 }, { name := "TEN", type := (.object "java/math/BigInteger"), accessFlags := 25, slot := 26, constantValue := 0 }, { name := "bnExpModThreshTable", type := (.array .int), accessFlags := 8, slot := 27, constantValue := 0 }, { name := "NUM_ZEROS", type := .int, accessFlags := 10, slot := 28, constantValue := 0 }, { name := "ZEROS", type := (.object "java/lang/String"), accessFlags := 26, slot := 29, constantValue := 0 }, { name := "digitsPerLong", type := (.array .int), accessFlags := 10, slot := 30, constantValue := 0 }, { name := "longRadix", type := (.array (.object "java/math/BigInteger")), accessFlags := 10, slot := 31, constantValue := 0 }, { name := "digitsPerInt", type := (.array .int), accessFlags := 10, slot := 32, constantValue := 0 }, { name := "intRadix", type := (.array .int), accessFlags := 10, slot := 33, constantValue := 0 }, { name := "serialVersionUID", type := .long, accessFlags := 26, slot := 34, constantValue := 0 }, { name := "serialPersistentFields", type := (.array (.object "java/io/ObjectStreamField")), accessFlags := 26, slot := 35, constantValue := 0 }, { name := "$assertionsDisabled", type := .boolean, accessFlags := 4120, slot := 36, constantValue := 0 }]
  methods := #[k9m0, k9m1, k9m2, k9m3]
  instanceTypes := #[.int, (.array .int), .int, .int, .int, .int]
  staticTypes := #[.long, .int, .int, .int, .int, .int, .int, .int, .int, .int, .int, .int, (.array .long), .int, .int, (.object "java/math/BigInteger"), .int, (.array (.object "java/math/BigInteger")), (.array (.object "java/math/BigInteger")), (.array (.array (.object "java/math/BigInteger"))), (.array .double), .double, (.object "java/math/BigInteger"), (.object "java/math/BigInteger"), (.object "java/math/BigInteger"), (.object "java/math/BigInteger"), (.object "java/math/BigInteger"), (.array .int), .int, (.object "java/lang/String"), (.array .int), (.array (.object "java/math/BigInteger")), (.array .int), (.array .int), .long, (.array (.object "java/io/ObjectStreamField")), .boolean]
  resolved := Array.replicate 1542 none
  statics := some 0 }

def pool10 : Array CpInfo := pool [(2, .class_ 4), (1, u "java/lang/Object"), (0, u "<init>"), (0, u "()V"), (35, .class_ 44), (1, u "java/util/Objects"), (0, u "requireNonNull"), (0, u "(Ljava/lang/Object;)Ljava/lang/Object;")] 137

def k10m0 : Method := { name := "<init>", desc := "()V", sig := { parameters := [], returnType := none }, accessFlags := 2, code := none }
def k10c1 : Code := { maxStack := 2, maxLocals := 1, code := jdk_31_method_10_code, exceptionTable := #[], attributes := #[] }
def k10m1 : Method := { name := "requireNonNull", desc := "(Ljava/lang/Object;)Ljava/lang/Object;", sig := { parameters := [(.object "java/lang/Object")], returnType := some (.object "java/lang/Object") }, accessFlags := 9, code := some k10c1 }
/-- java/util/Objects -/
def k10 : Class := { plain "java/util/Objects" (some 0) with
  accessFlags := 49
  interfaces := #[]
  cf := some (fileOf pool10 42 #[] #[{ accessFlags := 2, nameIndex := 5, descriptorIndex := 6, attributes := #[] }, { accessFlags := 9, nameIndex := 45, descriptorIndex := 46, attributes := #[] }] 49 2 #[] #[])
  fields := #[]
  methods := #[k10m0, k10m1]
  instanceTypes := #[]
  staticTypes := #[]
  resolved := Array.replicate 184 none
  statics := none }

def pool11 : Array CpInfo := pool [(1, u "java/lang/Cloneable"), (0, .class_ 1), (0, u "java/lang/Object"), (0, .class_ 3)] 3

/-- java/lang/Cloneable -/
def k11 : Class := { plain "java/lang/Cloneable" (some 0) with
  accessFlags := 1537
  interfaces := #[]
  cf := some (fileOf pool11 2 #[] #[] 1537 4 #[] #[])
  fields := #[]
  methods := #[]
  instanceTypes := #[]
  staticTypes := #[]
  resolved := Array.replicate 8 none
  statics := none }

/-- the primitive byte -/
def k12 : Class := { plain "byte" none with kind := .primitive 'B', accessFlags := 0x411 }
/-- [B -/
def k13 : Class := { plain "[B" (some 0) with kind := .array 12 .byte, interfaces := #[11, 6], accessFlags := 1041 }

/-- the primitive int -/
def k14 : Class := { plain "int" none with kind := .primitive 'I', accessFlags := 0x411 }
/-- [I -/
def k15 : Class := { plain "[I" (some 0) with kind := .array 14 .int, interfaces := #[11, 6], accessFlags := 1041 }

/-- the primitive long -/
def k16 : Class := { plain "long" none with kind := .primitive 'J', accessFlags := 0x411 }
/-- [J -/
def k17 : Class := { plain "[J" (some 0) with kind := .array 16 .long, interfaces := #[11, 6], accessFlags := 1041 }

/-- [Ljava/math/BigInteger; -/
def k18 : Class := { plain "[Ljava/math/BigInteger;" (some 0) with kind := .array 9 (.object "java/math/BigInteger"), interfaces := #[11, 6], accessFlags := 1041 }

def heap : Heap := #[{ cls := 9, slots := #[.long 0, .int 0, .int 0, .int 0, .int 0, .int 0, .int 0, .int 0, .int 0, .int 0, .int 0, .int 0, .null, .int 0, .int 0, .null, .int 0, .ref 1, .null, .null, .null, .double 0, .ref 34, .ref 2, .ref 3, .null, .ref 11, .null, .int 0, .null, .null, .null, .null, .null, .long 0, .null, .int 0], vm := .statics 9 },
  { cls := 18, slots := #[.null, .ref 2, .ref 3, .ref 4, .ref 5, .ref 6, .ref 7, .ref 8, .ref 9, .ref 10, .ref 11, .ref 12, .ref 13, .ref 14, .ref 15, .ref 16, .ref 17], vm := .none },
  { cls := 9, slots := #[.int 1, .ref 18, .int 0, .int 0, .int 0, .int 0], vm := .none },
  { cls := 9, slots := #[.int 1, .ref 19, .int 0, .int 0, .int 0, .int 0], vm := .none },
  { cls := 9, slots := #[.int 1, .ref 20, .int 0, .int 0, .int 0, .int 0], vm := .none },
  { cls := 9, slots := #[.int 1, .ref 21, .int 0, .int 0, .int 0, .int 0], vm := .none },
  { cls := 9, slots := #[.int 1, .ref 22, .int 0, .int 0, .int 0, .int 0], vm := .none },
  { cls := 9, slots := #[.int 1, .ref 23, .int 0, .int 0, .int 0, .int 0], vm := .none },
  { cls := 9, slots := #[.int 1, .ref 24, .int 0, .int 0, .int 0, .int 0], vm := .none },
  { cls := 9, slots := #[.int 1, .ref 25, .int 0, .int 0, .int 0, .int 0], vm := .none },
  { cls := 9, slots := #[.int 1, .ref 26, .int 0, .int 0, .int 0, .int 0], vm := .none },
  { cls := 9, slots := #[.int 1, .ref 27, .int 0, .int 0, .int 0, .int 0], vm := .none },
  { cls := 9, slots := #[.int 1, .ref 28, .int 0, .int 0, .int 0, .int 0], vm := .none },
  { cls := 9, slots := #[.int 1, .ref 29, .int 0, .int 0, .int 0, .int 0], vm := .none },
  { cls := 9, slots := #[.int 1, .ref 30, .int 0, .int 0, .int 0, .int 0], vm := .none },
  { cls := 9, slots := #[.int 1, .ref 31, .int 0, .int 0, .int 0, .int 0], vm := .none },
  { cls := 9, slots := #[.int 1, .ref 32, .int 0, .int 0, .int 0, .int 0], vm := .none },
  { cls := 9, slots := #[.int 1, .ref 33, .int 0, .int 0, .int 0, .int 0], vm := .none },
  { cls := 15, slots := #[.int 1], vm := .none },
  { cls := 15, slots := #[.int 2], vm := .none },
  { cls := 15, slots := #[.int 3], vm := .none },
  { cls := 15, slots := #[.int 4], vm := .none },
  { cls := 15, slots := #[.int 5], vm := .none },
  { cls := 15, slots := #[.int 6], vm := .none },
  { cls := 15, slots := #[.int 7], vm := .none },
  { cls := 15, slots := #[.int 8], vm := .none },
  { cls := 15, slots := #[.int 9], vm := .none },
  { cls := 15, slots := #[.int 10], vm := .none },
  { cls := 15, slots := #[.int 11], vm := .none },
  { cls := 15, slots := #[.int 12], vm := .none },
  { cls := 15, slots := #[.int 13], vm := .none },
  { cls := 15, slots := #[.int 14], vm := .none },
  { cls := 15, slots := #[.int 15], vm := .none },
  { cls := 15, slots := #[.int 16], vm := .none },
  { cls := 9, slots := #[.int 0, .ref 35, .int 0, .int 0, .int 0, .int 0], vm := .none },
  { cls := 15, slots := #[], vm := .none }]
def classes : Array Class := #[k0, k1, k2, k3, k4, k5, k6, k7, k8, k9, k10, k11, k12, k13, k14, k15, k16, k17, k18]
def interned : List (Array UInt16 × Addr) := []
def slotsUsed : Nat := 172
def theMethod : MethodId := ⟨1, 2⟩
def args0 : Array Value := #[.int 6, .int 100, .int 200]
def aboutOver (below : List Frame) : State where
  vm := { classes := classes, interned := interned.toArray }
  heap := heap
  slotsUsed := slotsUsed
  threads := #[{ frames := .invoking theMethod args0 :: below }]
def below0 : List Frame := [.native { method := ⟨0, 0⟩, args := #[] }]
def about1 : State := aboutOver below0
def p0 : Program := .bare "" "" ""
def e0 : Env := launch0.env 0 0 0
theorem w_frames : about1.frames = Frame.invoking theMethod args0 :: below0 := rfl
set_option maxRecDepth 65536 in
theorem w_args : argsFit about1.vm theMethod args0 = true := by decide +kernel
set_option maxRecDepth 65536 in
theorem w_heap : heapFits about1 = true := by decide +kernel
set_option maxRecDepth 65536 in
theorem w_runnable : about1.curStatus? = some .runnable := by decide +kernel
set_option maxRecDepth 65536 in
theorem w_alone : about1.alone = true := by decide +kernel
set_option maxRecDepth 65536 in
theorem w_named : about1.methodNamed? x = some theMethod := by decide +kernel
set_option maxRecDepth 65536 in
theorem w_hears : about1.hears theMethod below0 = true := by decide +kernel
set_option maxRecDepth 65536 in
theorem w_ripe : about1.ripe theMethod args0 below0 = true := by decide +kernel
theorem w_running : about1.status = .running := rfl
set_option maxRecDepth 65536 in
theorem w_room : about1.hasRoom e0.platform room_1 = true :=
  launch0.hasRoom_least _ room_1 (by decide +kernel) (by decide +kernel) (by decide +kernel) (by decide +kernel) (by decide +kernel) (by decide +kernel)
theorem allAtoms_all (ts : List Jvm.Cond) (a : Array Jvm.Value) (st : Jvm.State) : (allAtoms ts).before a st = ts.all (fun c => c.before a st) := by
  induction ts with
  | nil => rfl
  | cons c t ih =>
    show (Jvm.Cond.and c (allAtoms t)).before a st = _
    rw [Jvm.Cond.before_and, ih, List.all_cons]
def words1 : List Jvm.Cond := Jvm.Cond.code x code maxLocals ret :: tables_1
/-- a 'code' word, met by the world's own term for the bytes: nothing is compared byte by byte -/
theorem code_word {y : MethodName} {bytes : ByteArray} {mx : Nat} {rt : Option FieldType} {a : Array Value} {s : State} {m : MethodId} {meth : Method} {c : Code} (h1 : s.methodNamed? y = some m) (h2 : s.vm.method? m = some meth) (h3 : meth.code = some c) (h4 : c.code = bytes)
    (h5 : (c.maxLocals == mx && c.exceptionTable.isEmpty && decide (c.maxStack ≤ mostOperands) && decide (meth.sig.returnType = rt) && !meth.locks && decide (parseMethodDescriptor y.desc = some meth.sig)) = true) : (Jvm.Cond.code y bytes mx rt).before a s = true := by
  simp only [Bool.and_eq_true, beq_iff_eq, Bool.not_eq_true', decide_eq_true_eq] at h5
  obtain ⟨⟨⟨⟨⟨g1, g2⟩, g3⟩, g4⟩, g5⟩, g6⟩ := h5
  simp [Cond.before, Cond.holds, Cond.value, h1, h2, h3, h4, g1, g2, g3, g4, g5, g6]
def isCode : Jvm.Cond → Bool
  | .code _ _ _ _ => true
  | _ => false
theorem all_split {L : List Jvm.Cond} {P : Jvm.Cond → Bool} (h1 : L.all (fun c => isCode c || P c) = true) (h2 : ∀ c ∈ L.filter isCode, P c = true) : L.all P = true := by
  refine List.all_eq_true.mpr fun c hc => ?_
  have h := List.all_eq_true.mp h1 c hc
  rcases Bool.eq_false_or_eq_true (isCode c) with hi | hi
  · exact h2 c (List.mem_filter.mpr ⟨hc, hi⟩)
  · simpa [hi] using h
set_option maxRecDepth 65536 in
theorem w_c0 : (Jvm.Cond.code x code maxLocals ret).before args0 about1 = true := code_word (m := ⟨1, 2⟩) (meth := k1m2) (c := k1c2) (by decide +kernel) rfl rfl rfl (by decide +kernel)
set_option maxRecDepth 65536 in
theorem w_c1 : (Jvm.Cond.code ({ cls := "com/example/quorumsmith/quorumsmith/engine/Network", name := "<init>", desc := "(I)V" } : Jvm.MethodName) prog_23_method_1_code (2 : Nat) (Option.none : Option Jvm.ClassFile.FieldType)).before args0 about1 = true := code_word (m := ⟨2, 0⟩) (meth := k2m0) (c := k2c0) (by decide +kernel) rfl rfl rfl (by decide +kernel)
set_option maxRecDepth 65536 in
theorem w_c2 : (Jvm.Cond.code ({ cls := "java/lang/Object", name := "<init>", desc := "()V" } : Jvm.MethodName) object_method_1_code (1 : Nat) (Option.none : Option Jvm.ClassFile.FieldType)).before args0 about1 = true := code_word (m := ⟨0, 0⟩) (meth := k0m0) (c := k0c0) (by decide +kernel) rfl rfl rfl (by decide +kernel)
set_option maxRecDepth 65536 in
theorem w_c3 : (Jvm.Cond.code ({ cls := "com/example/quorumsmith/quorumsmith/engine/Network", name := "send", desc := "(III)V" } : Jvm.MethodName) prog_23_method_2_code (4 : Nat) (Option.none : Option Jvm.ClassFile.FieldType)).before args0 about1 = true := code_word (m := ⟨2, 1⟩) (meth := k2m1) (c := k2c1) (by decide +kernel) rfl rfl rfl (by decide +kernel)
set_option maxRecDepth 65536 in
theorem w_c4 : (Jvm.Cond.code ({ cls := "com/example/quorumsmith/quorumsmith/engine/Network", name := "messagesSent", desc := "(I)Lcom/example/quorumsmith/quorumsmith/engine/CountSummary;" } : Jvm.MethodName) prog_23_method_8_code (2 : Nat) (Option.some (Jvm.ClassFile.FieldType.object "com/example/quorumsmith/quorumsmith/engine/CountSummary"))).before args0 about1 = true := code_word (m := ⟨2, 2⟩) (meth := k2m2) (c := k2c2) (by decide +kernel) rfl rfl rfl (by decide +kernel)
set_option maxRecDepth 65536 in
theorem w_c5 : (Jvm.Cond.code ({ cls := "com/example/quorumsmith/quorumsmith/engine/CountSummary", name := "of", desc := "([JI)Lcom/example/quorumsmith/quorumsmith/engine/CountSummary;" } : Jvm.MethodName) prog_20_method_3_code (13 : Nat) (Option.some (Jvm.ClassFile.FieldType.object "com/example/quorumsmith/quorumsmith/engine/CountSummary"))).before args0 about1 = true := code_word (m := ⟨4, 1⟩) (meth := k4m1) (c := k4c1) (by decide +kernel) rfl rfl rfl (by decide +kernel)
set_option maxRecDepth 65536 in
theorem w_c6 : (Jvm.Cond.code ({ cls := "java/lang/Math", name := "min", desc := "(JJ)J" } : Jvm.MethodName) jdk_29_method_70_code (4 : Nat) (Option.some Jvm.ClassFile.FieldType.long)).before args0 about1 = true := code_word (m := ⟨5, 2⟩) (meth := k5m2) (c := k5c2) (by decide +kernel) rfl rfl rfl (by decide +kernel)
set_option maxRecDepth 65536 in
theorem w_c7 : (Jvm.Cond.code ({ cls := "java/lang/Math", name := "max", desc := "(JJ)J" } : Jvm.MethodName) jdk_29_method_66_code (4 : Nat) (Option.some Jvm.ClassFile.FieldType.long)).before args0 about1 = true := code_word (m := ⟨5, 1⟩) (meth := k5m1) (c := k5c1) (by decide +kernel) rfl rfl rfl (by decide +kernel)
set_option maxRecDepth 65536 in
theorem w_c8 : (Jvm.Cond.code ({ cls := "java/math/BigInteger", name := "valueOf", desc := "(J)Ljava/math/BigInteger;" } : Jvm.MethodName) jdk_2097_method_29_code (2 : Nat) (Option.some (Jvm.ClassFile.FieldType.object "java/math/BigInteger"))).before args0 about1 = true := code_word (m := ⟨9, 0⟩) (meth := k9m0) (c := k9c0) (by decide +kernel) rfl rfl rfl (by decide +kernel)
set_option maxRecDepth 65536 in
theorem w_c9 : (Jvm.Cond.code ({ cls := "java/math/BigInteger", name := "shiftLeft", desc := "(I)Ljava/math/BigInteger;" } : Jvm.MethodName) jdk_2097_method_101_code (2 : Nat) (Option.some (Jvm.ClassFile.FieldType.object "java/math/BigInteger"))).before args0 about1 = true := code_word (m := ⟨9, 3⟩) (meth := k9m3) (c := k9c3) (by decide +kernel) rfl rfl rfl (by decide +kernel)
set_option maxRecDepth 65536 in
theorem w_c10 : (Jvm.Cond.code ({ cls := "java/math/BigInteger", name := "add", desc := "(Ljava/math/BigInteger;)Ljava/math/BigInteger;" } : Jvm.MethodName) jdk_2097_method_32_code (4 : Nat) (Option.some (Jvm.ClassFile.FieldType.object "java/math/BigInteger"))).before args0 about1 = true := code_word (m := ⟨9, 2⟩) (meth := k9m2) (c := k9c2) (by decide +kernel) rfl rfl rfl (by decide +kernel)
set_option maxRecDepth 65536 in
theorem w_c11 : (Jvm.Cond.code ({ cls := "com/example/quorumsmith/quorumsmith/engine/CountSummary", name := "<init>", desc := "(Ljava/math/BigInteger;JJJ)V" } : Jvm.MethodName) prog_20_method_1_code (8 : Nat) (Option.none : Option Jvm.ClassFile.FieldType)).before args0 about1 = true := code_word (m := ⟨4, 0⟩) (meth := k4m0) (c := k4c0) (by decide +kernel) rfl rfl rfl (by decide +kernel)
set_option maxRecDepth 65536 in
theorem w_c12 : (Jvm.Cond.code ({ cls := "java/lang/Record", name := "<init>", desc := "()V" } : Jvm.MethodName) jdk_30_method_1_code (1 : Nat) (Option.none : Option Jvm.ClassFile.FieldType)).before args0 about1 = true := code_word (m := ⟨3, 0⟩) (meth := k3m0) (c := k3c0) (by decide +kernel) rfl rfl rfl (by decide +kernel)
set_option maxRecDepth 65536 in
theorem w_c13 : (Jvm.Cond.code ({ cls := "java/util/Objects", name := "requireNonNull", desc := "(Ljava/lang/Object;)Ljava/lang/Object;" } : Jvm.MethodName) jdk_31_method_10_code (1 : Nat) (Option.some (Jvm.ClassFile.FieldType.object "java/lang/Object"))).before args0 about1 = true := code_word (m := ⟨10, 1⟩) (meth := k10m1) (c := k10c1) (by decide +kernel) rfl rfl rfl (by decide +kernel)
set_option maxRecDepth 65536 in
theorem w_c14 : (Jvm.Cond.code ({ cls := "com/example/quorumsmith/quorumsmith/engine/NetworkSendPinLaw", name := "pinned", desc := "(Lcom/example/quorumsmith/quorumsmith/engine/CountSummary;Lcom/example/quorumsmith/quorumsmith/engine/CountSummary;JJ)Z" } : Jvm.MethodName) method_2_code (6 : Nat) (Option.some Jvm.ClassFile.FieldType.boolean)).before args0 about1 = true := code_word (m := ⟨1, 1⟩) (meth := k1m1) (c := k1c1) (by decide +kernel) rfl rfl rfl (by decide +kernel)
set_option maxRecDepth 65536 in
theorem w_c15 : (Jvm.Cond.code ({ cls := "com/example/quorumsmith/quorumsmith/engine/CountSummary", name := "max", desc := "()J" } : Jvm.MethodName) prog_20_method_13_code (1 : Nat) (Option.some Jvm.ClassFile.FieldType.long)).before args0 about1 = true := code_word (m := ⟨4, 3⟩) (meth := k4m3) (c := k4c3) (by decide +kernel) rfl rfl rfl (by decide +kernel)
set_option maxRecDepth 65536 in
theorem w_c16 : (Jvm.Cond.code ({ cls := "com/example/quorumsmith/quorumsmith/engine/CountSummary", name := "min", desc := "()J" } : Jvm.MethodName) prog_20_method_12_code (1 : Nat) (Option.some Jvm.ClassFile.FieldType.long)).before args0 about1 = true := code_word (m := ⟨4, 2⟩) (meth := k4m2) (c := k4c2) (by decide +kernel) rfl rfl rfl (by decide +kernel)
set_option maxRecDepth 65536 in
theorem w_c17 : (Jvm.Cond.code ({ cls := "com/example/quorumsmith/quorumsmith/engine/Network", name := "messagesReceived", desc := "(I)Lcom/example/quorumsmith/quorumsmith/engine/CountSummary;" } : Jvm.MethodName) prog_23_method_9_code (2 : Nat) (Option.some (Jvm.ClassFile.FieldType.object "com/example/quorumsmith/quorumsmith/engine/CountSummary"))).before args0 about1 = true := code_word (m := ⟨2, 3⟩) (meth := k2m3) (c := k2c3) (by decide +kernel) rfl rfl rfl (by decide +kernel)
set_option maxRecDepth 65536 in
theorem w_c18 : (Jvm.Cond.code ({ cls := "com/example/quorumsmith/quorumsmith/engine/Network", name := "bitsSent", desc := "(I)Lcom/example/quorumsmith/quorumsmith/engine/CountSummary;" } : Jvm.MethodName) prog_23_method_10_code (2 : Nat) (Option.some (Jvm.ClassFile.FieldType.object "com/example/quorumsmith/quorumsmith/engine/CountSummary"))).before args0 about1 = true := code_word (m := ⟨2, 4⟩) (meth := k2m4) (c := k2c4) (by decide +kernel) rfl rfl rfl (by decide +kernel)
set_option maxRecDepth 65536 in
theorem w_c19 : (Jvm.Cond.code ({ cls := "java/math/BigInteger", name := "<init>", desc := "(J)V" } : Jvm.MethodName) jdk_2097_method_30_code (4 : Nat) (Option.none : Option Jvm.ClassFile.FieldType)).before args0 about1 = true := code_word (m := ⟨9, 1⟩) (meth := k9m1) (c := k9c1) (by decide +kernel) rfl rfl rfl (by decide +kernel)
set_option maxRecDepth 65536 in
theorem w_c20 : (Jvm.Cond.code ({ cls := "java/lang/Number", name := "<init>", desc := "()V" } : Jvm.MethodName) jdk_18_method_1_code (1 : Nat) (Option.none : Option Jvm.ClassFile.FieldType)).before args0 about1 = true := code_word (m := ⟨7, 0⟩) (meth := k7m0) (c := k7c0) (by decide +kernel) rfl rfl rfl (by decide +kernel)
def codes1 : List Jvm.Cond := [Jvm.Cond.code x code maxLocals ret, Jvm.Cond.code ({ cls := "com/example/quorumsmith/quorumsmith/engine/Network", name := "<init>", desc := "(I)V" } : Jvm.MethodName) prog_23_method_1_code (2 : Nat) (Option.none : Option Jvm.ClassFile.FieldType), Jvm.Cond.code ({ cls := "java/lang/Object", name := "<init>", desc := "()V" } : Jvm.MethodName) object_method_1_code (1 : Nat) (Option.none : Option Jvm.ClassFile.FieldType), Jvm.Cond.code ({ cls := "com/example/quorumsmith/quorumsmith/engine/Network", name := "send", desc := "(III)V" } : Jvm.MethodName) prog_23_method_2_code (4 : Nat) (Option.none : Option Jvm.ClassFile.FieldType), Jvm.Cond.code ({ cls := "com/example/quorumsmith/quorumsmith/engine/Network", name := "messagesSent", desc := "(I)Lcom/example/quorumsmith/quorumsmith/engine/CountSummary;" } : Jvm.MethodName) prog_23_method_8_code (2 : Nat) (Option.some (Jvm.ClassFile.FieldType.object "com/example/quorumsmith/quorumsmith/engine/CountSummary")), Jvm.Cond.code ({ cls := "com/example/quorumsmith/quorumsmith/engine/CountSummary", name := "of", desc := "([JI)Lcom/example/quorumsmith/quorumsmith/engine/CountSummary;" } : Jvm.MethodName) prog_20_method_3_code (13 : Nat) (Option.some (Jvm.ClassFile.FieldType.object "com/example/quorumsmith/quorumsmith/engine/CountSummary")), Jvm.Cond.code ({ cls := "java/lang/Math", name := "min", desc := "(JJ)J" } : Jvm.MethodName) jdk_29_method_70_code (4 : Nat) (Option.some Jvm.ClassFile.FieldType.long), Jvm.Cond.code ({ cls := "java/lang/Math", name := "max", desc := "(JJ)J" } : Jvm.MethodName) jdk_29_method_66_code (4 : Nat) (Option.some Jvm.ClassFile.FieldType.long), Jvm.Cond.code ({ cls := "java/math/BigInteger", name := "valueOf", desc := "(J)Ljava/math/BigInteger;" } : Jvm.MethodName) jdk_2097_method_29_code (2 : Nat) (Option.some (Jvm.ClassFile.FieldType.object "java/math/BigInteger")), Jvm.Cond.code ({ cls := "java/math/BigInteger", name := "shiftLeft", desc := "(I)Ljava/math/BigInteger;" } : Jvm.MethodName) jdk_2097_method_101_code (2 : Nat) (Option.some (Jvm.ClassFile.FieldType.object "java/math/BigInteger")), Jvm.Cond.code ({ cls := "java/math/BigInteger", name := "add", desc := "(Ljava/math/BigInteger;)Ljava/math/BigInteger;" } : Jvm.MethodName) jdk_2097_method_32_code (4 : Nat) (Option.some (Jvm.ClassFile.FieldType.object "java/math/BigInteger")), Jvm.Cond.code ({ cls := "com/example/quorumsmith/quorumsmith/engine/CountSummary", name := "<init>", desc := "(Ljava/math/BigInteger;JJJ)V" } : Jvm.MethodName) prog_20_method_1_code (8 : Nat) (Option.none : Option Jvm.ClassFile.FieldType), Jvm.Cond.code ({ cls := "java/lang/Record", name := "<init>", desc := "()V" } : Jvm.MethodName) jdk_30_method_1_code (1 : Nat) (Option.none : Option Jvm.ClassFile.FieldType), Jvm.Cond.code ({ cls := "java/util/Objects", name := "requireNonNull", desc := "(Ljava/lang/Object;)Ljava/lang/Object;" } : Jvm.MethodName) jdk_31_method_10_code (1 : Nat) (Option.some (Jvm.ClassFile.FieldType.object "java/lang/Object")), Jvm.Cond.code ({ cls := "com/example/quorumsmith/quorumsmith/engine/NetworkSendPinLaw", name := "pinned", desc := "(Lcom/example/quorumsmith/quorumsmith/engine/CountSummary;Lcom/example/quorumsmith/quorumsmith/engine/CountSummary;JJ)Z" } : Jvm.MethodName) method_2_code (6 : Nat) (Option.some Jvm.ClassFile.FieldType.boolean), Jvm.Cond.code ({ cls := "com/example/quorumsmith/quorumsmith/engine/CountSummary", name := "max", desc := "()J" } : Jvm.MethodName) prog_20_method_13_code (1 : Nat) (Option.some Jvm.ClassFile.FieldType.long), Jvm.Cond.code ({ cls := "com/example/quorumsmith/quorumsmith/engine/CountSummary", name := "min", desc := "()J" } : Jvm.MethodName) prog_20_method_12_code (1 : Nat) (Option.some Jvm.ClassFile.FieldType.long), Jvm.Cond.code ({ cls := "com/example/quorumsmith/quorumsmith/engine/Network", name := "messagesReceived", desc := "(I)Lcom/example/quorumsmith/quorumsmith/engine/CountSummary;" } : Jvm.MethodName) prog_23_method_9_code (2 : Nat) (Option.some (Jvm.ClassFile.FieldType.object "com/example/quorumsmith/quorumsmith/engine/CountSummary")), Jvm.Cond.code ({ cls := "com/example/quorumsmith/quorumsmith/engine/Network", name := "bitsSent", desc := "(I)Lcom/example/quorumsmith/quorumsmith/engine/CountSummary;" } : Jvm.MethodName) prog_23_method_10_code (2 : Nat) (Option.some (Jvm.ClassFile.FieldType.object "com/example/quorumsmith/quorumsmith/engine/CountSummary")), Jvm.Cond.code ({ cls := "java/math/BigInteger", name := "<init>", desc := "(J)V" } : Jvm.MethodName) jdk_2097_method_30_code (4 : Nat) (Option.none : Option Jvm.ClassFile.FieldType), Jvm.Cond.code ({ cls := "java/lang/Number", name := "<init>", desc := "()V" } : Jvm.MethodName) jdk_18_method_1_code (1 : Nat) (Option.none : Option Jvm.ClassFile.FieldType)]
set_option maxRecDepth 65536 in
theorem codes_eq : words1.filter isCode = codes1 := rfl
theorem w_codes : ∀ c ∈ words1.filter isCode, c.before args0 about1 = true := by
  rw [codes_eq]
  intro c hc
  simp only [codes1, List.mem_cons, List.not_mem_nil, or_false] at hc
  rcases hc with rfl | rfl | rfl | rfl | rfl | rfl | rfl | rfl | rfl | rfl | rfl | rfl | rfl | rfl | rfl | rfl | rfl | rfl | rfl | rfl | rfl
  · exact w_c0
  · exact w_c1
  · exact w_c2
  · exact w_c3
  · exact w_c4
  · exact w_c5
  · exact w_c6
  · exact w_c7
  · exact w_c8
  · exact w_c9
  · exact w_c10
  · exact w_c11
  · exact w_c12
  · exact w_c13
  · exact w_c14
  · exact w_c15
  · exact w_c16
  · exact w_c17
  · exact w_c18
  · exact w_c19
  · exact w_c20
set_option maxRecDepth 65536 in
theorem w_t1 : (words1.take 24).all (fun c => isCode c || c.before args0 about1) = true := by decide +kernel
set_option maxRecDepth 65536 in
theorem w_t2 : ((words1.drop 24).take 24).all (fun c => isCode c || c.before args0 about1) = true := by decide +kernel
set_option maxRecDepth 65536 in
theorem w_t3 : (((words1.drop 24).drop 24).take 24).all (fun c => isCode c || c.before args0 about1) = true := by decide +kernel
set_option maxRecDepth 65536 in
theorem w_t4 : ((((words1.drop 24).drop 24).drop 24).take 24).all (fun c => isCode c || c.before args0 about1) = true := by decide +kernel
set_option maxRecDepth 65536 in
theorem w_t5 : (((((words1.drop 24).drop 24).drop 24).drop 24).take 24).all (fun c => isCode c || c.before args0 about1) = true := by decide +kernel
set_option maxRecDepth 65536 in
theorem w_t6 : (((((words1.drop 24).drop 24).drop 24).drop 24).drop 24).all (fun c => isCode c || c.before args0 about1) = true := by decide +kernel
theorem w_tables : (allAtoms (Jvm.Cond.code x code maxLocals ret :: tables_1)).before args0 about1 = true := by
  rw [allAtoms_all]
  show words1.all (fun c => c.before args0 about1) = true
  refine all_split ?_ w_codes
  rw [← List.take_append_drop 24 words1, List.all_append, w_t1, ← List.take_append_drop 24 (words1.drop 24), List.all_append, w_t2, ← List.take_append_drop 24 ((words1.drop 24).drop 24), List.all_append, w_t3, ← List.take_append_drop 24 (((words1.drop 24).drop 24).drop 24), List.all_append, w_t4, ← List.take_append_drop 24 ((((words1.drop 24).drop 24).drop 24).drop 24), List.all_append, w_t5, w_t6]
  rfl
set_option maxRecDepth 65536 in
theorem w_rest : rest_1_c.before args0 about1 = true := by decide +kernel
set_option maxRecDepth 65536 in
theorem w_case : (Jvm.Cond.and given_1 narrow_1).before args0 about1 = true := by decide +kernel
theorem w_applies : (headSpec (Jvm.Cond.code x code maxLocals ret :: tables_1) room_1).applies x e0.platform about1 = true :=
  (Spec.applies_iff w_frames).mpr ⟨w_running, w_runnable, w_alone, w_named, w_hears, w_ripe, w_room, w_tables⟩
theorem atStart : AtStart classFile x code maxLocals ret World_1 tables_1 room_1 Calls_1 rest_1 Pre_1 launch0 p0 e0 about1 theMethod args0 below0 :=
  ⟨lists_1, trivial, launch0.admits_env _ _ _, launch0.least_env, fairChoices_fair.cas, fairChoices_fair.clock, w_frames, w_args, w_heap, w_applies, trivial, w_rest, w_case⟩
end start1
theorem witness_1 : WitnessClaimed_1 := ⟨start1.p0, start1.e0, start1.about1, start1.theMethod, start1.args0, start1.below0, start1.atStart⟩
end Jvm.Pilot.@@N@@
