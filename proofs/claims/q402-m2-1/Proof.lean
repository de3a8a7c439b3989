import JvmDerived
import JvmDerived.Pilot.@@N@@Statement
import JvmDerived.Pilot.@@N@@Code
set_option linter.unusedVariables false
set_option linter.unusedSimpArgs false
namespace Jvm.RoadKit
open Sem ClassFile Op Lib Jvm.Stand Jvm.Free Jvm.LawKit
section OwnGo
variable {p : Program} {l : Launch} {e : Env} {R : Room} {s : State} {m : MethodId} {args : Array Value} {below : List Frame} {meth : Method} {c : Code} {T T' : State} {locs : List Loc} {cells slots ck sk : Nat} {Q : Option Value → Heap → List Loc → Prop}
/-- from the state T the body comes to its end, with Q -/
def Go (p : Program) (e : Env) (below : List Frame) (s : State) (ck sk : Nat) (Q : Option Value → Heap → List Loc → Prop) (T : State) : Prop :=
  ∃ s₂ o, Steps p.tables e below T s₂ ∧ s₂.status = .running ∧ Ended s₂ below o ∧ ∃ v L, o = .returned v ∧ Q v s₂.heap L ∧ FrameEnd s o s₂ L ck sk
theorem Go.by (h : ∀ t, Steps p.tables e below T' t → Steps p.tables e below T t) (g : Go p e below s ck sk Q T') : Go p e below s ck sk Q T := by
  obtain ⟨s₂, o, h1, r⟩ := g
  exact ⟨s₂, o, h _ h1, r⟩
theorem Go.tr (h : Steps p.tables e below T T') (g : Go p e below s ck sk Q T') : Go p e below s ck sk Q T := by
  obtain ⟨s₂, o, h1, r⟩ := g
  exact ⟨s₂, o, h.trans h1, r⟩
theorem Go.fin (X : Stand p l e R s m args below meth c T locs cells slots) {v : Option Value} (hv : meth.sig.returnType = none → v = none) (hlk : meth.locks = false)
    (st : ∀ fs : List Frame, (∀ (f : JFrame) (acts : List Action), f.method = m → f.locked = none → f.entered = [] → (doReturn e (T.setTop f) acts v).1 = T.setFrames fs) → Steps p.tables e below T' (T.setFrames fs))
    (hq : Q v T.heap locs) (hc : cells ≤ ck) (hs : slots ≤ sk) : Go p e below s ck sk Q T' := by
  obtain ⟨fs, hr, hrun, hended, hW, hsame⟩ := X.leave hv hlk
  exact ⟨_, _, st fs hr, hrun, hended, _, _, rfl, hq, ⟨_, rfl⟩, hW, hsame.mono hc hs⟩
theorem Go.retV (X : Stand p l e R s m args below meth c T locs cells slots) (hx : p.tables.exec = Jvm.exec) {pc : Nat} {Ls : Array Slot} (hret : meth.sig.returnType = none) (hlk : meth.locks = false) (hd : decode c.code pc = .ok (.return_, 1))
    (hq : Q none T.heap locs) (hc : cells ≤ ck) (hs : slots ≤ sk) : Go p e below s ck sk Q (T.setTop (mkF m pc Ls [])) :=
  Go.fin X (fun _ => rfl) hlk (fun fs hr => X.returnOut hx hret hd hr) hq hc hs
theorem Go.retN (X : Stand p l e R s m args below meth c T locs cells slots) (hx : p.tables.exec = Jvm.exec) {pc : Nat} {Ls : Array Slot} {z : Int32} {t : FieldType} {rest : List Value} (hret : meth.sig.returnType = some t) (ht : t = .boolean ∨ t = .byte ∨ t = .char ∨ t = .short) (hlk : meth.locks = false) (hd : decode c.code pc = .ok (.ireturn, 1))
    (hq : Q (some (.int (nar t z))) T.heap locs) (hc : cells ≤ ck) (hs : slots ≤ sk) : Go p e below s ck sk Q (T.setTop (mkF m pc Ls (.int z :: rest))) :=
  Go.fin X (fun h => by rw [hret] at h; cases h) hlk (fun fs hr => Jvm.RoadKit.retN X hx hret ht hd hr) hq hc hs
theorem Go.retI (X : Stand p l e R s m args below meth c T locs cells slots) (hx : p.tables.exec = Jvm.exec) {pc : Nat} {Ls : Array Slot} {z : Int32} {rest : List Value} (hret : meth.sig.returnType = some .int) (hlk : meth.locks = false) (hd : decode c.code pc = .ok (.ireturn, 1))
    (hq : Q (some (.int z)) T.heap locs) (hc : cells ≤ ck) (hs : slots ≤ sk) : Go p e below s ck sk Q (T.setTop (mkF m pc Ls (.int z :: rest))) :=
  Go.fin X (fun h => by rw [hret] at h; cases h) hlk (fun fs hr => retOut X hx hret rfl (Or.inl ⟨rfl, Or.inl rfl, z, rfl⟩) hd hr) hq hc hs
theorem Go.retJ (X : Stand p l e R s m args below meth c T locs cells slots) (hx : p.tables.exec = Jvm.exec) {pc : Nat} {Ls : Array Slot} {z : Int64} {rest : List Value} (hret : meth.sig.returnType = some .long) (hlk : meth.locks = false) (hd : decode c.code pc = .ok (.lreturn, 1))
    (hq : Q (some (.long z)) T.heap locs) (hc : cells ≤ ck) (hs : slots ≤ sk) : Go p e below s ck sk Q (T.setTop (mkF m pc Ls (.long z :: rest))) :=
  Go.fin X (fun h => by rw [hret] at h; cases h) hlk (fun fs hr => retOut X hx hret rfl (Or.inr (Or.inl ⟨rfl, rfl, z, rfl⟩)) hd hr) hq hc hs
theorem Go.retR (X : Stand p l e R s m args below meth c T locs cells slots) (hx : p.tables.exec = Jvm.exec) {pc : Nat} {Ls : Array Slot} {w : Value} {t : FieldType} {rest : List Value} (hret : meth.sig.returnType = some t) (ht : t.isReference = true) (hw : w.isRef = true) (hlk : meth.locks = false) (hd : decode c.code pc = .ok (.areturn, 1))
    (hq : Q (some w) T.heap locs) (hc : cells ≤ ck) (hs : slots ≤ sk) : Go p e below s ck sk Q (T.setTop (mkF m pc Ls (w :: rest))) := by
  refine Go.fin X (fun h => by rw [hret] at h; cases h) hlk (fun fs hr => retOut X hx hret ?_ (Or.inr (Or.inr (Or.inr (Or.inr ⟨rfl, ht, hw⟩)))) hd hr) hq hc hs
  rcases ref_cases hw with rfl | ⟨a, rfl⟩ <;> cases t <;> first | rfl | cases ht
/-- the same where Strings may be interned on the way -/
def GoW (p : Program) (e : Env) (below : List Frame) (s : State) (ck sk : Nat) (Q : Option Value → Heap → List Loc → Prop) (T : State) : Prop :=
  ∃ s₂ o, Steps p.tables e below T s₂ ∧ s₂.status = .running ∧ Ended s₂ below o ∧ ∃ v L, o = .returned v ∧ Q v s₂.heap L ∧ ReturnedEndW s o s₂ L ck sk
theorem GoW.by (h : ∀ t, Steps p.tables e below T' t → Steps p.tables e below T t) (g : GoW p e below s ck sk Q T') : GoW p e below s ck sk Q T := by
  obtain ⟨s₂, o, h1, r⟩ := g
  exact ⟨s₂, o, h _ h1, r⟩
theorem GoW.tr (h : Steps p.tables e below T T') (g : GoW p e below s ck sk Q T') : GoW p e below s ck sk Q T := by
  obtain ⟨s₂, o, h1, r⟩ := g
  exact ⟨s₂, o, h.trans h1, r⟩
theorem GoW.fin {vm1 : Vm} {k1 : Nat} (X : Stand p l e R (s.setVm vm1) m args below meth c T locs cells slots) (hS : s.Since vm1 k1) (hk : k1 ≤ T.heap.size) {v : Option Value} (hv : meth.sig.returnType = none → v = none) (hlk : meth.locks = false)
    (st : ∀ fs : List Frame, (∀ (f : JFrame) (acts : List Action), f.method = m → f.locked = none → f.entered = [] → (doReturn e (T.setTop f) acts v).1 = T.setFrames fs) → Steps p.tables e below T' (T.setFrames fs))
    (hq : Q v T.heap locs) (hc : cells ≤ ck) (hs : slots ≤ sk) : GoW p e below s ck sk Q T' := by
  obtain ⟨fs, hr, hrun, hended, hW, hsame⟩ := X.leave hv hlk
  obtain ⟨q1, q2, q3⟩ := hS.ended (U := T.setFrames fs) hW hk hsame
  exact ⟨_, _, st fs hr, hrun, hended, _, _, rfl, hq, ⟨_, rfl⟩, q1, q2, q3.mono hc hs⟩
theorem GoW.retV {vm1 : Vm} {k1 : Nat} (X : Stand p l e R (s.setVm vm1) m args below meth c T locs cells slots) (hS : s.Since vm1 k1) (hk : k1 ≤ T.heap.size) (hx : p.tables.exec = Jvm.exec) {pc : Nat} {Ls : Array Slot} (hret : meth.sig.returnType = none) (hlk : meth.locks = false) (hd : decode c.code pc = .ok (.return_, 1))
    (hq : Q none T.heap locs) (hc : cells ≤ ck) (hs : slots ≤ sk) : GoW p e below s ck sk Q (T.setTop (mkF m pc Ls [])) :=
  GoW.fin X hS hk (fun _ => rfl) hlk (fun fs hr => X.returnOut hx hret hd hr) hq hc hs
theorem GoW.retN {vm1 : Vm} {k1 : Nat} (X : Stand p l e R (s.setVm vm1) m args below meth c T locs cells slots) (hS : s.Since vm1 k1) (hk : k1 ≤ T.heap.size) (hx : p.tables.exec = Jvm.exec) {pc : Nat} {Ls : Array Slot} {z : Int32} {t : FieldType} {rest : List Value} (hret : meth.sig.returnType = some t) (ht : t = .boolean ∨ t = .byte ∨ t = .char ∨ t = .short) (hlk : meth.locks = false) (hd : decode c.code pc = .ok (.ireturn, 1))
    (hq : Q (some (.int (nar t z))) T.heap locs) (hc : cells ≤ ck) (hs : slots ≤ sk) : GoW p e below s ck sk Q (T.setTop (mkF m pc Ls (.int z :: rest))) :=
  GoW.fin X hS hk (fun h => by rw [hret] at h; cases h) hlk (fun fs hr => Jvm.RoadKit.retN X hx hret ht hd hr) hq hc hs
theorem GoW.retR {vm1 : Vm} {k1 : Nat} (X : Stand p l e R (s.setVm vm1) m args below meth c T locs cells slots) (hS : s.Since vm1 k1) (hk : k1 ≤ T.heap.size) (hx : p.tables.exec = Jvm.exec) {pc : Nat} {Ls : Array Slot} {w : Value} {t : FieldType} {rest : List Value} (hret : meth.sig.returnType = some t) (ht : t.isReference = true) (hw : w.isRef = true) (hlk : meth.locks = false) (hd : decode c.code pc = .ok (.areturn, 1))
    (hq : Q (some w) T.heap locs) (hc : cells ≤ ck) (hs : slots ≤ sk) : GoW p e below s ck sk Q (T.setTop (mkF m pc Ls (w :: rest))) := by
  refine GoW.fin X hS hk (fun h => by rw [hret] at h; cases h) hlk (fun fs hr => retOut X hx hret ?_ (Or.inr (Or.inr (Or.inr (Or.inr ⟨rfl, ht, hw⟩)))) hd hr) hq hc hs
  rcases ref_cases hw with rfl | ⟨a, rfl⟩ <;> cases t <;> first | rfl | cases ht
end OwnGo
theorem own_selp {Z s : State} {a0 args : Array Value} {y : MethodName} {n : Nat} (hZ : Z.Warmed39 s.vm) (wi : (Cond.instantiable y.cls n).before a0 Z = true) (wp : (Cond.privateMethod y).before a0 Z = true) (wm : (Cond.instanceMethod y).before a0 Z = true) (hy : y.cls ≠ "java/lang/invoke/MethodHandle" ∧ y.cls ≠ "java/lang/invoke/VarHandle") : (Cond.selects y.cls y y).before args s = true := by
  obtain ⟨c, k, h1, h2, -, h4, -⟩ := Cond.instantiable_spec (mv (args := args) hZ wi)
  exact selects_self_of_private h1 h2 (by simpa using (Bool.or_eq_false_iff.mp h4).1) (Cond.privateMethod_at (mvP (args := args) hZ wp)) (mv hZ wm) hy
theorem own_zn {z : Int32} (h : z = (0 : Int32) ∨ z = (1 : Int32)) : narrow .boolean (.int z) = .int z := by rcases h with rfl | rfl <;> rfl
theorem own_zf {z : Int32} (h : z = (0 : Int32) ∨ z = (1 : Int32)) : fits .boolean (.int z) = true := by rcases h with rfl | rfl <;> rfl
theorem own_ns {Z : State} {h : Heap} {b : Addr} {C : String} (E : Exa Z h b C) : ∀ cell : Cell, h[b]? = some cell → cell.vm.isStatics = false := fun cell hc => by
  obtain ⟨c, _, h1, -, -, h4, -⟩ := E
  cases h1.symm.trans hc
  exact h4
theorem own_stakeep {Z : State} {h h' : Heap} {C n d : String} {v : Value} {ws : List Addr} (F : Sta Z h C n d v) (K : Keep h h' ws) (q : ∀ x ∈ ws, ∀ cell : Cell, h[x]? = some cell → cell.vm.isStatics = false) : Sta Z h' C n d v := by
  obtain ⟨cf, i, k, f, st, cell, h1, h2, h3, h4, h5, h6, h7⟩ := F
  refine ⟨cf, i, k, f, st, cell, h1, h2, h3, h4, K.2.1 st cell h5 fun z => ?_, h6, h7⟩
  rw [q st z cell h5] at h6
  cases h6
section OwnLong
variable {Z : State} {h h' : Heap} {a b : Addr} {k : ClassId} {n j : Int32} {x : Int64} {ws : List Addr} {sl : Nat} {v : Value}
/-- a long[] of the length n, whatever it holds -/
def LA (Z : State) (h : Heap) (a : Addr) (k : ClassId) (n : Int32) : Prop := ∃ c : Cell, Arr Z h a c .long ∧ c.cls = k ∧ c.slots.size = n.toNatClampNeg ∧ ¬ n < 0 ∧ ∀ i, i < c.slots.size → ∃ x : Int64, c.slots[i]? = some (.long x)
theorem LA.lt (F : LA Z h a k n) : a < h.size := by obtain ⟨c, A, -⟩ := F; exact A.lt
theorem LA.ext (F : LA Z h a k n) (E : Ext h h') : LA Z h' a k n := by obtain ⟨c, A, r⟩ := F; exact ⟨c, A.ext E, r⟩
theorem LA.other (F : LA Z h b k n) (W : Wr h h' a sl v) (q : b ≠ a) : LA Z h' b k n := by obtain ⟨c, A, r⟩ := F; exact ⟨c, A.other W q, r⟩
theorem LA.keep (F : LA Z h a k n) (K : Keep h h' ws) (q : a ∉ ws) : LA Z h' a k n := by obtain ⟨c, A, r⟩ := F; exact ⟨c, ⟨K.2.1 a c A.1 q, A.2⟩, r⟩
theorem LA.new (A : Arr Z h a (newA k .long n) .long) (q : ¬ n < 0) : LA Z h a k n := ⟨_, A, rfl, sz_new _ _ _, q, fun i hi => ⟨0, by
  have hi' : i < n.toNatClampNeg := by rw [sz_new] at hi; exact hi
  show (Array.replicate n.toNatClampNeg (defaultValue .long))[i]? = _
  simp [hi', defaultValue]⟩⟩
theorem LA.set {c : Cell} (A : Arr Z h a c .long) (q1 : c.cls = k) (S : c.slots.size = n.toNatClampNeg) (q3 : ¬ n < 0) (G : ∀ i, i < c.slots.size → ∃ x : Int64, c.slots[i]? = some (.long x)) (W : Wr h h' a sl (.long x)) : LA Z h' a k n := by
  refine ⟨_, A.same W, q1, by rw [sz_set]; exact S, q3, fun i hi => ?_⟩
  rw [sz_set] at hi
  by_cases e : sl = i
  · subst e; exact ⟨x, by simp [Cell.setSlot, hi]⟩
  · obtain ⟨y, hy⟩ := G i hi
    exact ⟨y, by rw [← hy]; exact Array.getElem?_setIfInBounds_ne e⟩
end OwnLong
section OwnStart
variable {args : Array Value} {s : State} {a b t : Term}
theorem own_eqI {n : Int32} (h : (Cond.eq a (.int n)).value args s none s [] = some true) : a.eval args s none [] s = some (.int n) := by
  cases ha : a.eval args s none [] s with
  | none => simp [Cond.value, ha] at h
  | some x => cases x <;> simp [Cond.value, ha, Term.eval] at h ⊢ <;> exact h
theorem own_eqL {n : Int64} (h : (Cond.eq a (.long n)).value args s none s [] = some true) : a.eval args s none [] s = some (.long n) := by
  cases ha : a.eval args s none [] s with
  | none => simp [Cond.value, ha] at h
  | some x => cases x <;> simp [Cond.value, ha, Term.eval] at h ⊢ <;> exact h
theorem own_eqR {x : Addr} (h : (Cond.eq a b).value args s none s [] = some true) (hb : b.eval args s none [] s = some (.ref x)) : a.eval args s none [] s = some (.ref x) := by
  cases ha : a.eval args s none [] s with
  | none => simp [Cond.value, ha] at h
  | some y => cases y <;> simp [Cond.value, ha, hb] at h ⊢ <;> exact h
theorem own_neR {x y : Addr} (h : (Cond.not (Cond.eq a b)).value args s none s [] = some true) (ha : a.eval args s none [] s = some (.ref x)) (hb : b.eval args s none [] s = some (.ref y)) : x ≠ y := by
  intro e
  subst e
  simp [Cond.value, ha, hb] at h
theorem own_lenv {n : Int32} {x : Addr} {cl : Cell} (h : (Term.length t).eval args s none [] s = some (.int n)) (ht : t.eval args s none [] s = some (.ref x)) (hc : s.heap[x]? = some cl) : cl.slots.size < 2 ^ 31 ∧ cl.slots.size.toInt32 = n := by
  obtain ⟨a', cell, e1, e2, e3⟩ := Term.length_spec h
  cases ht.symm.trans e1
  have hcl : cell = cl := by
    simp only [State.arrayAt?, hc, Option.bind_eq_bind, Option.bind_some] at e2
    cases hk : s.vm.classes[cl.cls]? with
    | none => simp [hk] at e2
    | some k =>
      simp only [hk, Option.bind_some] at e2
      split at e2
      · cases e2
      · split at e2
        · exact (Option.some.inj e2).symm
        · cases e2
  subst hcl
  refine ⟨?_, (Value.int.inj e3).symm⟩
  simp only [Term.eval, ht, e2, Option.bind_eq_bind, Option.bind_some] at h
  split at h
  · assumption
  · cases h
end OwnStart
end Jvm.RoadKit
namespace Jvm.Pilot.@@N@@
open Jvm Jvm.ClassFile Sem Op Lib Jvm.Free Jvm.Stand Jvm.LawKit Jvm.RoadKit Bundle Jvm.Pilot.@@N@@.Jvm.D
theorem dMi_0 : decode jdk_29_method_70_code 0 = .ok (.lload_n 0, 1) := by decide +kernel
theorem dMi_1 : decode jdk_29_method_70_code 1 = .ok (.lload_n 2, 1) := by decide +kernel
theorem dMi_2 : decode jdk_29_method_70_code 2 = .ok (.lcmp, 1) := by decide +kernel
theorem dMi_3 : decode jdk_29_method_70_code 3 = .ok (.ifCond .gt 7, 3) := by decide +kernel
theorem dMi_6 : decode jdk_29_method_70_code 6 = .ok (.lload_n 0, 1) := by decide +kernel
theorem dMi_7 : decode jdk_29_method_70_code 7 = .ok (.goto 4, 3) := by decide +kernel
theorem dMi_10 : decode jdk_29_method_70_code 10 = .ok (.lload_n 2, 1) := by decide +kernel
theorem dMi_11 : decode jdk_29_method_70_code 11 = .ok (.lreturn, 1) := by decide +kernel
theorem efMi (m : MethodId) (u : Int64) (w : Int64) : entryFrame m #[(.long u), (.long w)] 4 = mkF m 0 #[.val (.long u), .second, .val (.long w), .second] [] := by first | (simp [entryFrame, mkF, argsToLocals, Value.category]; done) | rfl
def fMi (u : Int64) (w : Int64) : Int64 := (if w < u then w else u)
def QMi (Z : State) (u : Int64) (w : Int64) (h0 : Heap) (n0 : Nat) (v : Option Value) (h : Heap) (L : List Loc) : Prop := v = some (.long (fMi u w)) ∧ Fr n0 L ∧ h = h0
set_option maxRecDepth 65536 in
set_option maxHeartbeats 40000000 in
theorem rmMi (l : Launch) (Z : State) (a0 : Array Value) (hw : ∀ d ∈ tables_1, d.before a0 Z = true) (ws : List Jvm.Cond) (u : Int64) (w : Int64) (h0 : Heap) (n0 : Nat) (Z0 : n0 ≤ h0.size) :
    MetFree l (⟨"java/lang/Math", "min", "(JJ)J"⟩ : MethodName) (head1 (Jvm.Cond.code (⟨"java/lang/Math", "min", "(JJ)J"⟩ : MethodName) jdk_29_method_70_code 4 (some .long) :: ws) ({ frames := 0, cells := 0, slots := 0, locals := 0 } : Room)) (fun aa_ U_ => aa_ = #[(.long u), (.long w)] ∧ Z.Warmed39 U_.vm ∧ U_.heap = h0) (fun _ _ _ _ _ => True) (fun _ U_ o_ V_ => ∃ v_ L_, o_ = .returned v_ ∧ QMi Z u w h0 n0 v_ V_.heap L_ ∧ FrameEnd U_ o_ V_ L_ ({ frames := 0, cells := 0, slots := 0, locals := 0 } : Room).cells ({ frames := 0, cells := 0, slots := 0, locals := 0 } : Room).slots) := by
  refine MetFree.of_bodySF (Jvm.Free.JP.mathPlain rfl (by decide +kernel)) hisR ?_
  intro p e s m args below meth c s₁ Bd hml0 hP hK
  obtain ⟨rfl, hZ, hh⟩ := hP
  have hx := Bd.exec
  have hby := Bd.bytes
  have hml : c.maxLocals = 4 := hml0
  have hown : s.vm.findClass "java/lang/Math" = some m.cls := findClass_of_methodNamed Bd.named
  have hnm := (name_of_methodNamed Bd.named Bd.method).1
  have hlk : meth.locks = false := BodyLoose.notSynchronized Bd
  have hret : meth.sig.returnType = (some .long) := Bd.returns
  have X0 : Stand p l e ({ frames := 0, cells := 0, slots := 0, locals := 0 } : Room) s m #[(.long u), (.long w)] below meth c s₁ [] 0 0 := Stand.of_body Bd
  have e0 : s₁.heap = h0 := by rw [← hh, Bd.state]; rfl
  have N0 := Fr.nil n0
  show Go p e below s ({ frames := 0, cells := 0, slots := 0, locals := 0 } : Room).cells ({ frames := 0, cells := 0, slots := 0, locals := 0 } : Room).slots (QMi Z u w h0 n0) (s₁.setTop (entryFrame m #[(.long u), (.long w)] 4))
  rw [efMi]
  refine Go.by (fun _ kont => XS.lloadN X0.here hx rfl (hb hby dMi_0) rfl (XS.lloadN X0.here hx rfl (hb hby dMi_1) rfl (XS.lcmp X0.here hx rfl (hb hby dMi_2) rfl kont))) ?_
  show Go _ _ _ _ _ _ _ (s₁.setTop (mkF m 3 #[.val (.long u), .second, .val (.long w), .second] [(.int (lcmpW u w))]))
  by_cases hc101 : w < u
  · refine Go.by (fun _ kont => XS.ifYes X0.here hx rfl (pc0 := 3) (pc' := 10) rfl (hb hby dMi_3) rfl ((if0 _ _).trans (tlt ((lw_gt _ _).mpr hc101)).2.2.1) (by decide) (by decide) kont) ?_
    show Go _ _ _ _ _ _ _ (s₁.setTop (mkF m 10 #[.val (.long u), .second, .val (.long w), .second] []))
    refine Go.by (fun _ kont => XS.lloadN X0.here hx rfl (hb hby dMi_10) rfl kont) ?_
    show Go _ _ _ _ _ _ _ (s₁.setTop (mkF m 11 #[.val (.long u), .second, .val (.long w), .second] [(.long w)]))
    refine Go.retJ X0 hx hret hlk (hb hby dMi_11) ?_ (by decide) (by decide)
    show QMi Z u w h0 n0 (some (.long w)) s₁.heap _
    rw [e0]
    refine ⟨?_, N0, rfl⟩
    unfold fMi
    rw [if_pos hc101]
  · refine Go.by (fun _ kont => XS.ifNo X0.here hx rfl (hb hby dMi_3) rfl ((if0 _ _).trans (flt (fun z => hc101 ((lw_gt _ _).mp z))).2.2.1) kont) ?_
    show Go _ _ _ _ _ _ _ (s₁.setTop (mkF m 6 #[.val (.long u), .second, .val (.long w), .second] []))
    refine Go.by (fun _ kont => XS.lloadN X0.here hx rfl (hb hby dMi_6) rfl (XS.goto X0.here hx rfl (pc0 := 7) (pc' := 11) rfl (hb hby dMi_7) (by decide) (by decide) kont)) ?_
    show Go _ _ _ _ _ _ _ (s₁.setTop (mkF m 11 #[.val (.long u), .second, .val (.long w), .second] [(.long u)]))
    refine Go.retJ X0 hx hret hlk (hb hby dMi_11) ?_ (by decide) (by decide)
    show QMi Z u w h0 n0 (some (.long u)) s₁.heap _
    rw [e0]
    refine ⟨?_, N0, rfl⟩
    unfold fMi
    rw [if_neg hc101]

theorem dMa_0 : decode jdk_29_method_66_code 0 = .ok (.lload_n 0, 1) := by decide +kernel
theorem dMa_1 : decode jdk_29_method_66_code 1 = .ok (.lload_n 2, 1) := by decide +kernel
theorem dMa_2 : decode jdk_29_method_66_code 2 = .ok (.lcmp, 1) := by decide +kernel
theorem dMa_3 : decode jdk_29_method_66_code 3 = .ok (.ifCond .lt 7, 3) := by decide +kernel
theorem dMa_6 : decode jdk_29_method_66_code 6 = .ok (.lload_n 0, 1) := by decide +kernel
theorem dMa_7 : decode jdk_29_method_66_code 7 = .ok (.goto 4, 3) := by decide +kernel
theorem dMa_10 : decode jdk_29_method_66_code 10 = .ok (.lload_n 2, 1) := by decide +kernel
theorem dMa_11 : decode jdk_29_method_66_code 11 = .ok (.lreturn, 1) := by decide +kernel
theorem efMa (m : MethodId) (u : Int64) (w : Int64) : entryFrame m #[(.long u), (.long w)] 4 = mkF m 0 #[.val (.long u), .second, .val (.long w), .second] [] := by first | (simp [entryFrame, mkF, argsToLocals, Value.category]; done) | rfl
def fMa (u : Int64) (w : Int64) : Int64 := (if u < w then w else u)
def QMa (Z : State) (u : Int64) (w : Int64) (h0 : Heap) (n0 : Nat) (v : Option Value) (h : Heap) (L : List Loc) : Prop := v = some (.long (fMa u w)) ∧ Fr n0 L ∧ h = h0
set_option maxRecDepth 65536 in
set_option maxHeartbeats 40000000 in
theorem rmMa (l : Launch) (Z : State) (a0 : Array Value) (hw : ∀ d ∈ tables_1, d.before a0 Z = true) (ws : List Jvm.Cond) (u : Int64) (w : Int64) (h0 : Heap) (n0 : Nat) (Z0 : n0 ≤ h0.size) :
    MetFree l (⟨"java/lang/Math", "max", "(JJ)J"⟩ : MethodName) (head1 (Jvm.Cond.code (⟨"java/lang/Math", "max", "(JJ)J"⟩ : MethodName) jdk_29_method_66_code 4 (some .long) :: ws) ({ frames := 0, cells := 0, slots := 0, locals := 0 } : Room)) (fun aa_ U_ => aa_ = #[(.long u), (.long w)] ∧ Z.Warmed39 U_.vm ∧ U_.heap = h0) (fun _ _ _ _ _ => True) (fun _ U_ o_ V_ => ∃ v_ L_, o_ = .returned v_ ∧ QMa Z u w h0 n0 v_ V_.heap L_ ∧ FrameEnd U_ o_ V_ L_ ({ frames := 0, cells := 0, slots := 0, locals := 0 } : Room).cells ({ frames := 0, cells := 0, slots := 0, locals := 0 } : Room).slots) := by
  refine MetFree.of_bodySF (Jvm.Free.JP.mathPlain rfl (by decide +kernel)) hisR ?_
  intro p e s m args below meth c s₁ Bd hml0 hP hK
  obtain ⟨rfl, hZ, hh⟩ := hP
  have hx := Bd.exec
  have hby := Bd.bytes
  have hml : c.maxLocals = 4 := hml0
  have hown : s.vm.findClass "java/lang/Math" = some m.cls := findClass_of_methodNamed Bd.named
  have hnm := (name_of_methodNamed Bd.named Bd.method).1
  have hlk : meth.locks = false := BodyLoose.notSynchronized Bd
  have hret : meth.sig.returnType = (some .long) := Bd.returns
  have X0 : Stand p l e ({ frames := 0, cells := 0, slots := 0, locals := 0 } : Room) s m #[(.long u), (.long w)] below meth c s₁ [] 0 0 := Stand.of_body Bd
  have e0 : s₁.heap = h0 := by rw [← hh, Bd.state]; rfl
  have N0 := Fr.nil n0
  show Go p e below s ({ frames := 0, cells := 0, slots := 0, locals := 0 } : Room).cells ({ frames := 0, cells := 0, slots := 0, locals := 0 } : Room).slots (QMa Z u w h0 n0) (s₁.setTop (entryFrame m #[(.long u), (.long w)] 4))
  rw [efMa]
  refine Go.by (fun _ kont => XS.lloadN X0.here hx rfl (hb hby dMa_0) rfl (XS.lloadN X0.here hx rfl (hb hby dMa_1) rfl (XS.lcmp X0.here hx rfl (hb hby dMa_2) rfl kont))) ?_
  show Go _ _ _ _ _ _ _ (s₁.setTop (mkF m 3 #[.val (.long u), .second, .val (.long w), .second] [(.int (lcmpW u w))]))
  by_cases hc101 : u < w
  · refine Go.by (fun _ kont => XS.ifYes X0.here hx rfl (pc0 := 3) (pc' := 10) rfl (hb hby dMa_3) rfl ((if0 _ _).trans (tlt ((lw_lt _ _).mpr hc101)).1) (by decide) (by decide) kont) ?_
    show Go _ _ _ _ _ _ _ (s₁.setTop (mkF m 10 #[.val (.long u), .second, .val (.long w), .second] []))
    refine Go.by (fun _ kont => XS.lloadN X0.here hx rfl (hb hby dMa_10) rfl kont) ?_
    show Go _ _ _ _ _ _ _ (s₁.setTop (mkF m 11 #[.val (.long u), .second, .val (.long w), .second] [(.long w)]))
    refine Go.retJ X0 hx hret hlk (hb hby dMa_11) ?_ (by decide) (by decide)
    show QMa Z u w h0 n0 (some (.long w)) s₁.heap _
    rw [e0]
    refine ⟨?_, N0, rfl⟩
    unfold fMa
    rw [if_pos hc101]
  · refine Go.by (fun _ kont => XS.ifNo X0.here hx rfl (hb hby dMa_3) rfl ((if0 _ _).trans (flt (fun z => hc101 ((lw_lt _ _).mp z))).1) kont) ?_
    show Go _ _ _ _ _ _ _ (s₁.setTop (mkF m 6 #[.val (.long u), .second, .val (.long w), .second] []))
    refine Go.by (fun _ kont => XS.lloadN X0.here hx rfl (hb hby dMa_6) rfl (XS.goto X0.here hx rfl (pc0 := 7) (pc' := 11) rfl (hb hby dMa_7) (by decide) (by decide) kont)) ?_
    show Go _ _ _ _ _ _ _ (s₁.setTop (mkF m 11 #[.val (.long u), .second, .val (.long w), .second] [(.long u)]))
    refine Go.retJ X0 hx hret hlk (hb hby dMa_11) ?_ (by decide) (by decide)
    show QMa Z u w h0 n0 (some (.long u)) s₁.heap _
    rw [e0]
    refine ⟨?_, N0, rfl⟩
    unfold fMa
    rw [if_neg hc101]

theorem dTu_0 : decode jdk_33_method_42_code 0 = .ok (.iload_n 0, 1) := by decide +kernel
theorem dTu_1 : decode jdk_33_method_42_code 1 = .ok (.i2l, 1) := by decide +kernel
theorem dTu_2 : decode jdk_33_method_42_code 2 = .ok (.ldc2_w 262, 3) := by decide +kernel
theorem dTu_5 : decode jdk_33_method_42_code 5 = .ok (.land, 1) := by decide +kernel
theorem dTu_6 : decode jdk_33_method_42_code 6 = .ok (.lreturn, 1) := by decide +kernel
theorem pnTu : plainName "java/lang/Integer" = true := by first | (simp [plainName, overriddenIn]; done) | decide +kernel
theorem efTu (m : MethodId) (u : Int32) : entryFrame m #[(.int u)] 1 = mkF m 0 #[.val (.int u)] [] := by first | (simp [entryFrame, mkF, argsToLocals, Value.category]; done) | rfl
def fTu (u : Int32) : Int64 := ((u.toInt64) &&& (4294967295 : Int64))
def QTu (Z : State) (u : Int32) (h0 : Heap) (n0 : Nat) (v : Option Value) (h : Heap) (L : List Loc) : Prop := v = some (.long (fTu u)) ∧ Fr n0 L ∧ h = h0
set_option maxRecDepth 65536 in
set_option maxHeartbeats 40000000 in
theorem rmTu (l : Launch) (Z : State) (a0 : Array Value) (hw : ∀ d ∈ tables_1, d.before a0 Z = true) (ws : List Jvm.Cond) (u : Int32) (h0 : Heap) (n0 : Nat) (Z0 : n0 ≤ h0.size) :
    MetFree l (⟨"java/lang/Integer", "toUnsignedLong", "(I)J"⟩ : MethodName) (head1 (Jvm.Cond.code (⟨"java/lang/Integer", "toUnsignedLong", "(I)J"⟩ : MethodName) jdk_33_method_42_code 1 (some .long) :: ws) ({ frames := 0, cells := 0, slots := 0, locals := 0 } : Room)) (fun aa_ U_ => aa_ = #[(.int u)] ∧ Z.Warmed39 U_.vm ∧ U_.heap = h0) (fun _ _ _ _ _ => True) (fun _ U_ o_ V_ => ∃ v_ L_, o_ = .returned v_ ∧ QTu Z u h0 n0 v_ V_.heap L_ ∧ FrameEnd U_ o_ V_ L_ ({ frames := 0, cells := 0, slots := 0, locals := 0 } : Room).cells ({ frames := 0, cells := 0, slots := 0, locals := 0 } : Room).slots) := by
  refine MetFree.of_bodySF (plainFor_of_name pnTu) hisR ?_
  intro p e s m args below meth c s₁ Bd hml0 hP hK
  obtain ⟨rfl, hZ, hh⟩ := hP
  have hx := Bd.exec
  have hby := Bd.bytes
  have hml : c.maxLocals = 1 := hml0
  have hown : s.vm.findClass "java/lang/Integer" = some m.cls := findClass_of_methodNamed Bd.named
  have hnm := (name_of_methodNamed Bd.named Bd.method).1
  have hlk : meth.locks = false := BodyLoose.notSynchronized Bd
  have hret : meth.sig.returnType = (some .long) := Bd.returns
  have X0 : Stand p l e ({ frames := 0, cells := 0, slots := 0, locals := 0 } : Room) s m #[(.int u)] below meth c s₁ [] 0 0 := Stand.of_body Bd
  have e0 : s₁.heap = h0 := by rw [← hh, Bd.state]; rfl
  have N0 := Fr.nil n0
  show Go p e below s ({ frames := 0, cells := 0, slots := 0, locals := 0 } : Room).cells ({ frames := 0, cells := 0, slots := 0, locals := 0 } : Room).slots (QTu Z u h0 n0) (s₁.setTop (entryFrame m #[(.int u)] 1))
  rw [efTu]
  refine Go.by (fun _ kont => XS.iloadN X0.here hx rfl (hb hby dTu_0) rfl (XS.i2l X0.here hx rfl (hb hby dTu_1) rfl (X0.ldc2Long hx hown (mvT hZ (hw _ (List.mem_of_getElem? (i := 45) rfl))) (g := (mkF m 2 #[.val (.int u)] [(.long (u.toInt64))])) rfl (hb hby dTu_2) _ (XS.land X0.here hx rfl (hb hby dTu_5) rfl kont)))) ?_
  show Go _ _ _ _ _ _ _ (s₁.setTop (mkF m 6 #[.val (.int u)] [(.long ((u.toInt64) &&& (4294967295 : Int64)))]))
  refine Go.retJ X0 hx hret hlk (hb hby dTu_6) ?_ (by decide) (by decide)
  show QTu Z u h0 n0 (some (.long ((u.toInt64) &&& (4294967295 : Int64)))) s₁.heap _
  rw [e0]
  exact ⟨rfl, N0, rfl⟩

theorem own_nn {ln : Int32} (B : 1 ≤ ln.toInt ∧ ln.toInt ≤ 2) : ¬ ln < 0 := by
  rw [Int32.lt_iff_toInt_lt, show (0 : Int32).toInt = 0 from by decide]; omega
theorem own_capp {ln : Int32} (B : 1 ≤ ln.toInt ∧ ln.toInt ≤ 2) : ln.toNatClampNeg ≤ 2 := by
  simp only [Int32.toNatClampNeg]; omega
theorem own_ln (m : Int64) (B : 1 ≤ m.toInt ∧ m.toInt ≤ 7) : 1 ≤ ((fMi (33554432 : Int64) (((m * (10 : Int64)) / (64 : Int64)) + (1 : Int64))).toInt32).toInt ∧ ((fMi (33554432 : Int64) (((m * (10 : Int64)) / (64 : Int64)) + (1 : Int64))).toInt32).toInt ≤ 2 := by
  have h1 := c_lmul m 10
  have r1 := rng64 (m * 10)
  have e10 : (10 : Int64).toInt = 10 := by decide
  rw [e10] at h1
  have h2 : (m * 10).toInt = m.toInt * 10 := by omega
  have h3 := (c_ldiv (m * 10) 64 64 (by decide) (by decide)).1 (by omega)
  rw [h2] at h3
  have h4 := c_ladd ((m * 10) / 64) 1
  have r4 := rng64 (((m * 10) / 64) + 1)
  have e1 : (1 : Int64).toInt = 1 := by decide
  have b1 : 0 ≤ m.toInt * 10 / 64 ∧ m.toInt * 10 / 64 ≤ 1 := by omega
  rw [e1, h3] at h4
  generalize m.toInt * 10 / 64 = t at *
  generalize ((m * 10) / 64) + 1 = y at *
  have h5 : y.toInt = t + 1 := by omega
  unfold fMi
  rw [if_pos (by rw [Int64.lt_iff_toInt_lt, h5, show (33554432 : Int64).toInt = 33554432 from by decide]; omega)]
  have h7 := c_l2i y
  have r7 := rng32 y.toInt32
  omega

theorem dB_0 : decode prog_23_method_6_code 0 = .ok (.lload_n 1, 1) := by decide +kernel
theorem dB_1 : decode prog_23_method_6_code 1 = .ok (.bipush 32, 2) := by decide +kernel
theorem dB_3 : decode prog_23_method_6_code 3 = .ok (.lushr, 1) := by decide +kernel
theorem dB_4 : decode prog_23_method_6_code 4 = .ok (.l2i, 1) := by decide +kernel
theorem dB_5 : decode prog_23_method_6_code 5 = .ok (.iconst 1, 1) := by decide +kernel
theorem dB_6 : decode prog_23_method_6_code 6 = .ok (.ior, 1) := by decide +kernel
theorem dB_7 : decode prog_23_method_6_code 7 = .ok (.istore 4, 2) := by decide +kernel
theorem dB_9 : decode prog_23_method_6_code 9 = .ok (.lload_n 1, 1) := by decide +kernel
theorem dB_10 : decode prog_23_method_6_code 10 = .ok (.l2i, 1) := by decide +kernel
theorem dB_11 : decode prog_23_method_6_code 11 = .ok (.iload_n 3, 1) := by decide +kernel
theorem dB_12 : decode prog_23_method_6_code 12 = .ok (.iload 4, 2) := by decide +kernel
theorem dB_14 : decode prog_23_method_6_code 14 = .ok (.imul, 1) := by decide +kernel
theorem dB_15 : decode prog_23_method_6_code 15 = .ok (.iadd, 1) := by decide +kernel
theorem dB_16 : decode prog_23_method_6_code 16 = .ok (.invokestatic 49, 3) := by decide +kernel
theorem dB_19 : decode prog_23_method_6_code 19 = .ok (.ldc2_w 23, 3) := by decide +kernel
theorem dB_22 : decode prog_23_method_6_code 22 = .ok (.aload_n 0, 1) := by decide +kernel
theorem dB_23 : decode prog_23_method_6_code 23 = .ok (.getfield 28, 3) := by decide +kernel
theorem dB_26 : decode prog_23_method_6_code 26 = .ok (.arraylength, 1) := by decide +kernel
theorem dB_27 : decode prog_23_method_6_code 27 = .ok (.i2l, 1) := by decide +kernel
theorem dB_28 : decode prog_23_method_6_code 28 = .ok (.lmul, 1) := by decide +kernel
theorem dB_29 : decode prog_23_method_6_code 29 = .ok (.lmul, 1) := by decide +kernel
theorem dB_30 : decode prog_23_method_6_code 30 = .ok (.bipush 32, 2) := by decide +kernel
theorem dB_32 : decode prog_23_method_6_code 32 = .ok (.lushr, 1) := by decide +kernel
theorem dB_33 : decode prog_23_method_6_code 33 = .ok (.lreturn, 1) := by decide +kernel
theorem pdB_0 : parseMethodDescriptor "(I)J" = some ⟨[.int], some .long⟩ := by decide +kernel
theorem pnB : plainName "com/example/runpulse/runpulse/KnownKeys" = true := by first | (simp [plainName, overriddenIn]; done) | decide +kernel
theorem efB (m : MethodId) (a : Addr) (kh : Int64) (ii : Int32) : entryFrame m #[(.ref a), (.long kh), (.int ii)] 5 = mkF m 0 #[.val (.ref a), .val (.long kh), .second, .val (.int ii), .unset] [] := by first | (simp [entryFrame, mkF, argsToLocals, Value.category]; done) | rfl
def fB (kh : Int64) (ii : Int32) (ln : Int32) : Int64 := ((((fTu ((kh.toInt32) + (ii * ((((kh.toUInt64 >>> ((32 : Int32) &&& 0x3f).toInt64.toUInt64).toInt64).toInt32) ||| (1 : Int32))))) * ((64 : Int64) * (ln.toInt64))).toUInt64 >>> ((32 : Int32) &&& 0x3f).toInt64.toUInt64).toInt64)
def QB (Z : State) (a : Addr) (kh : Int64) (ii : Int32) (b : Addr) (kc : ClassId) (ln : Int32) (h0 : Heap) (n0 : Nat) (v : Option Value) (h : Heap) (L : List Loc) : Prop := v = some (.long (fB kh ii ln)) ∧ Fr n0 L ∧ h = h0
set_option maxRecDepth 65536 in
set_option maxHeartbeats 40000000 in
theorem rmB (l : Launch) (Z : State) (a0 : Array Value) (hw : ∀ d ∈ tables_1, d.before a0 Z = true) (ws : List Jvm.Cond) (a : Addr) (kh : Int64) (ii : Int32) (b : Addr) (kc : ClassId) (ln : Int32) (h0 : Heap) (n0 : Nat) (Z0 : n0 ≤ h0.size) (Fb : Fld Z h0 a "com/example/runpulse/runpulse/KnownKeys" "bits" "[J" (.ref b)) (Vb : LA Z h0 b kc ln) :
    MetFree l (⟨"com/example/runpulse/runpulse/KnownKeys", "bit", "(JI)J"⟩ : MethodName) (head1 (Jvm.Cond.code (⟨"com/example/runpulse/runpulse/KnownKeys", "bit", "(JI)J"⟩ : MethodName) prog_23_method_6_code 5 (some .long) :: ws) ({ frames := 1, cells := 0, slots := 0, locals := 12 } : Room)) (fun aa_ U_ => aa_ = #[(.ref a), (.long kh), (.int ii)] ∧ Z.Warmed39 U_.vm ∧ U_.heap = h0) (fun _ _ _ _ _ => True) (fun _ U_ o_ V_ => ∃ v_ L_, o_ = .returned v_ ∧ QB Z a kh ii b kc ln h0 n0 v_ V_.heap L_ ∧ FrameEnd U_ o_ V_ L_ ({ frames := 1, cells := 0, slots := 0, locals := 12 } : Room).cells ({ frames := 1, cells := 0, slots := 0, locals := 12 } : Room).slots) := by
  refine MetFree.of_bodySF (plainFor_of_name pnB) hisR ?_
  intro p e s m args below meth c s₁ Bd hml0 hP hK
  obtain ⟨rfl, hZ, hh⟩ := hP
  have hx := Bd.exec
  have hby := Bd.bytes
  have hml : c.maxLocals = 5 := hml0
  have hown : s.vm.findClass "com/example/runpulse/runpulse/KnownKeys" = some m.cls := findClass_of_methodNamed Bd.named
  have hnm := (name_of_methodNamed Bd.named Bd.method).1
  have hlk : meth.locks = false := BodyLoose.notSynchronized Bd
  have hret : meth.sig.returnType = (some .long) := Bd.returns
  have X0 : Stand p l e ({ frames := 1, cells := 0, slots := 0, locals := 12 } : Room) s m #[(.ref a), (.long kh), (.int ii)] below meth c s₁ [] 0 0 := Stand.of_body Bd
  have e0 : s₁.heap = h0 := by rw [← hh, Bd.state]; rfl
  have N0 := Fr.nil n0
  show Go p e below s ({ frames := 1, cells := 0, slots := 0, locals := 12 } : Room).cells ({ frames := 1, cells := 0, slots := 0, locals := 12 } : Room).slots (QB Z a kh ii b kc ln h0 n0) (s₁.setTop (entryFrame m #[(.ref a), (.long kh), (.int ii)] 5))
  rw [efB]
  refine Go.by (fun _ kont => XS.lloadN X0.here hx rfl (hb hby dB_0) rfl (XS.bipush X0.here hx rfl (hb hby dB_1) (XS.lushr X0.here hx rfl (hb hby dB_3) rfl (XS.l2i X0.here hx rfl (hb hby dB_4) rfl (XS.iconst X0.here hx rfl (hb hby dB_5) (XS.ior X0.here hx rfl (hb hby dB_6) rfl kont)))))) ?_
  show Go _ _ _ _ _ _ _ (s₁.setTop (mkF m 7 #[.val (.ref a), .val (.long kh), .second, .val (.int ii), .unset] [(.int ((((kh.toUInt64 >>> ((32 : Int32) &&& 0x3f).toInt64.toUInt64).toInt64).toInt32) ||| (1 : Int32)))]))
  refine Go.by (fun _ kont => XS.istore X0.here hx rfl (hb hby dB_7) rfl (l' := #[.val (.ref a), .val (.long kh), .second, .val (.int ii), .val (.int ((((kh.toUInt64 >>> ((32 : Int32) &&& 0x3f).toInt64.toUInt64).toInt64).toInt32) ||| (1 : Int32)))]) rfl (XS.lloadN X0.here hx rfl (hb hby dB_9) rfl (XS.l2i X0.here hx rfl (hb hby dB_10) rfl (XS.iloadN X0.here hx rfl (hb hby dB_11) rfl (XS.iload X0.here hx rfl (hb hby dB_12) rfl (XS.imul X0.here hx rfl (hb hby dB_14) rfl kont)))))) ?_
  show Go _ _ _ _ _ _ _ (s₁.setTop (mkF m 15 #[.val (.ref a), .val (.long kh), .second, .val (.int ii), .val (.int ((((kh.toUInt64 >>> ((32 : Int32) &&& 0x3f).toInt64.toUInt64).toInt64).toInt32) ||| (1 : Int32)))] [(.int (ii * ((((kh.toUInt64 >>> ((32 : Int32) &&& 0x3f).toInt64.toUInt64).toInt64).toInt32) ||| (1 : Int32)))), (.int (kh.toInt32))]))
  refine Go.by (fun _ kont => XS.iadd X0.here hx rfl (hb hby dB_15) rfl kont) ?_
  show Go _ _ _ _ _ _ _ (s₁.setTop (mkF m 16 #[.val (.ref a), .val (.long kh), .second, .val (.int ii), .val (.int ((((kh.toUInt64 >>> ((32 : Int32) &&& 0x3f).toInt64.toUInt64).toInt64).toInt32) ||| (1 : Int32)))] [(.int ((kh.toInt32) + (ii * ((((kh.toUInt64 >>> ((32 : Int32) &&& 0x3f).toInt64.toUInt64).toInt64).toInt32) ||| (1 : Int32)))))]))
  obtain ⟨_, _, ⟨T101, L101, k101, n101⟩, -, X101, ⟨Lc101, hQ101, l101, y101, z101⟩, st101⟩ := Jvm.LawKit.callS X0 hx (y := (⟨"java/lang/Integer", "toUnsignedLong", "(I)J"⟩ : MethodName)) hown (mvT hZ (hw _ (List.mem_of_getElem? (i := 41) rfl))) (mvT hZ (hw _ (List.mem_of_getElem? (i := 42) rfl))) (mvT hZ (hw _ (List.mem_of_getElem? (i := 43) rfl))) (mvT hZ (hw _ (List.mem_of_getElem? (i := 44) rfl))) (by decide) (backOf (W := 0) (rmTu l Z a0 hw [] ((kh.toInt32) + (ii * ((((kh.toUInt64 >>> ((32 : Int32) &&& 0x3f).toInt64.toUInt64).toInt64).toInt32) ||| (1 : Int32)))) h0 n0 Z0 ) hZ (hw _ (List.mem_of_getElem? (i := 44) rfl)) (hw _ (List.mem_of_getElem? (i := 43) rfl)) (by decide) (by decide)) (g := (mkF m 16 #[.val (.ref a), .val (.long kh), .second, .val (.int ii), .val (.int ((((kh.toUInt64 >>> ((32 : Int32) &&& 0x3f).toInt64.toUInt64).toInt64).toInt32) ||| (1 : Int32)))] [(.int ((kh.toInt32) + (ii * ((((kh.toUInt64 >>> ((32 : Int32) &&& 0x3f).toInt64.toUInt64).toInt64).toInt32) ||| (1 : Int32)))))])) rfl (by rw [hml]; rfl) (argsL := [(.int ((kh.toInt32) + (ii * ((((kh.toUInt64 >>> ((32 : Int32) &&& 0x3f).toInt64.toUInt64).toInt64).toInt32) ||| (1 : Int32)))))]) (rest := []) (lenOf pdB_0 rfl) rfl (by show 2 * 0 + _ ≤ _; exact Nat.le_of_eq rfl) (hb hby dB_16) (fun _ _ => ⟨rfl, e0, (by decide : 0 + 0 ≤ _), (by decide : 0 + 0 ≤ _)⟩)
  dsimp only [Pt.U, Pt.locs, Pt.cells, Pt.slots] at X101 l101 y101 z101 st101 hQ101
  subst l101 y101 z101
  obtain ⟨rfl, N101q, eh101⟩ := hQ101
  have N101 := Fr.app N0 N101q
  refine Go.by st101 ?_
  show Go _ _ _ _ _ _ _ (T101.setTop (mkF m 19 #[.val (.ref a), .val (.long kh), .second, .val (.int ii), .val (.int ((((kh.toUInt64 >>> ((32 : Int32) &&& 0x3f).toInt64.toUInt64).toInt64).toInt32) ||| (1 : Int32)))] [(.long (fTu ((kh.toInt32) + (ii * ((((kh.toUInt64 >>> ((32 : Int32) &&& 0x3f).toInt64.toUInt64).toInt64).toInt32) ||| (1 : Int32))))))]))
  refine Go.by (fun _ kont => X101.ldc2Long hx hown (mvT hZ (hw _ (List.mem_of_getElem? (i := 18) rfl))) (g := (mkF m 19 #[.val (.ref a), .val (.long kh), .second, .val (.int ii), .val (.int ((((kh.toUInt64 >>> ((32 : Int32) &&& 0x3f).toInt64.toUInt64).toInt64).toInt32) ||| (1 : Int32)))] [(.long (fTu ((kh.toInt32) + (ii * ((((kh.toUInt64 >>> ((32 : Int32) &&& 0x3f).toInt64.toUInt64).toInt64).toInt32) ||| (1 : Int32))))))])) rfl (hb hby dB_19) _ (XS.aloadN X101.here hx rfl (hb hby dB_22) rfl rfl kont)) ?_
  show Go _ _ _ _ _ _ _ (T101.setTop (mkF m 23 #[.val (.ref a), .val (.long kh), .second, .val (.int ii), .val (.int ((((kh.toUInt64 >>> ((32 : Int32) &&& 0x3f).toInt64.toUInt64).toInt64).toInt32) ||| (1 : Int32)))] [(.ref a), (.long (64 : Int64)), (.long (fTu ((kh.toInt32) + (ii * ((((kh.toUInt64 >>> ((32 : Int32) &&& 0x3f).toInt64.toUInt64).toInt64).toInt32) ||| (1 : Int32))))))]))
  obtain ⟨T102, X102, e102, st102⟩ := getF X101 hx hZ hown (host := "") (Or.inl (hw _ (List.mem_of_getElem? (i := 23) rfl))) Via.refl eh101 Fb (g := (mkF m 23 #[.val (.ref a), .val (.long kh), .second, .val (.int ii), .val (.int ((((kh.toUInt64 >>> ((32 : Int32) &&& 0x3f).toInt64.toUInt64).toInt64).toInt32) ||| (1 : Int32)))] [(.ref a), (.long (64 : Int64)), (.long (fTu ((kh.toInt32) + (ii * ((((kh.toUInt64 >>> ((32 : Int32) &&& 0x3f).toInt64.toUInt64).toInt64).toInt32) ||| (1 : Int32))))))])) rfl rfl (hb hby dB_23)
  refine Go.by st102 ?_
  show Go _ _ _ _ _ _ _ (T102.setTop (mkF m 26 #[.val (.ref a), .val (.long kh), .second, .val (.int ii), .val (.int ((((kh.toUInt64 >>> ((32 : Int32) &&& 0x3f).toInt64.toUInt64).toInt64).toInt32) ||| (1 : Int32)))] [(.ref b), (.long (64 : Int64)), (.long (fTu ((kh.toInt32) + (ii * ((((kh.toUInt64 >>> ((32 : Int32) &&& 0x3f).toInt64.toUInt64).toInt64).toInt32) ||| (1 : Int32))))))]))
  obtain ⟨cl_q103, Ar_q103, q1_q103, S_q103, N_q103, G_q103⟩ := id Vb
  refine Go.by (X102.arraylength hx (by first | exact Ar_q103.1 | (rw [e102]; exact Ar_q103.1)) (State.isArrayOf_alike hZ.alike Ar_q103.2.1) (g := (mkF m 26 #[.val (.ref a), .val (.long kh), .second, .val (.int ii), .val (.int ((((kh.toUInt64 >>> ((32 : Int32) &&& 0x3f).toInt64.toUInt64).toInt64).toInt32) ||| (1 : Int32)))] [(.ref b), (.long (64 : Int64)), (.long (fTu ((kh.toInt32) + (ii * ((((kh.toUInt64 >>> ((32 : Int32) &&& 0x3f).toInt64.toUInt64).toInt64).toInt32) ||| (1 : Int32))))))])) rfl rfl (hb hby dB_26)) ?_
  rw [len_of S_q103 N_q103]
  show Go _ _ _ _ _ _ _ (T102.setTop (mkF m 27 #[.val (.ref a), .val (.long kh), .second, .val (.int ii), .val (.int ((((kh.toUInt64 >>> ((32 : Int32) &&& 0x3f).toInt64.toUInt64).toInt64).toInt32) ||| (1 : Int32)))] [(.int ln), (.long (64 : Int64)), (.long (fTu ((kh.toInt32) + (ii * ((((kh.toUInt64 >>> ((32 : Int32) &&& 0x3f).toInt64.toUInt64).toInt64).toInt32) ||| (1 : Int32))))))]))
  refine Go.by (fun _ kont => XS.i2l X102.here hx rfl (hb hby dB_27) rfl (XS.lmul X102.here hx rfl (hb hby dB_28) rfl (XS.lmul X102.here hx rfl (hb hby dB_29) rfl (XS.bipush X102.here hx rfl (hb hby dB_30) (XS.lushr X102.here hx rfl (hb hby dB_32) rfl kont))))) ?_
  show Go _ _ _ _ _ _ _ (T102.setTop (mkF m 33 #[.val (.ref a), .val (.long kh), .second, .val (.int ii), .val (.int ((((kh.toUInt64 >>> ((32 : Int32) &&& 0x3f).toInt64.toUInt64).toInt64).toInt32) ||| (1 : Int32)))] [(.long ((((fTu ((kh.toInt32) + (ii * ((((kh.toUInt64 >>> ((32 : Int32) &&& 0x3f).toInt64.toUInt64).toInt64).toInt32) ||| (1 : Int32))))) * ((64 : Int64) * (ln.toInt64))).toUInt64 >>> ((32 : Int32) &&& 0x3f).toInt64.toUInt64).toInt64))]))
  refine Go.retJ X102 hx hret hlk (hb hby dB_33) ?_ (by decide) (by decide)
  show QB Z a kh ii b kc ln h0 n0 (some (.long ((((fTu ((kh.toInt32) + (ii * ((((kh.toUInt64 >>> ((32 : Int32) &&& 0x3f).toInt64.toUInt64).toInt64).toInt32) ||| (1 : Int32))))) * ((64 : Int64) * (ln.toInt64))).toUInt64 >>> ((32 : Int32) &&& 0x3f).toInt64.toUInt64).toInt64))) T102.heap _
  rw [e102]
  exact ⟨rfl, N101, rfl⟩

theorem own_bb (hh : Int64) (ii ln : Int32) (B : 1 ≤ ln.toInt ∧ ln.toInt ≤ 2) : 0 ≤ (fB hh ii ln).toInt ∧ (fB hh ii ln).toInt < 64 * ln.toInt := by
  unfold fB fTu
  generalize (hh.toInt32 + (ii * (((hh.toUInt64 >>> ((32 : Int32) &&& 0x3f).toInt64.toUInt64).toInt64).toInt32 ||| (1 : Int32)))) = y
  have h1 := c_maskL (y.toInt64) 4294967295 32 (by decide) (by decide)
  have h2 := c_i2l ln
  have h3 := c_lmul 64 ln.toInt64
  have e64 : (64 : Int64).toInt = 64 := by decide
  have r3 := rng64 (64 * ln.toInt64)
  rw [e64, h2] at h3
  have h4 : ((64 : Int64) * ln.toInt64).toInt = 64 * ln.toInt := by omega
  have h5 := c_lmul (y.toInt64 &&& 4294967295) (64 * ln.toInt64)
  have r5 := rng64 ((y.toInt64 &&& 4294967295) * (64 * ln.toInt64))
  have h6 := c_lushr ((y.toInt64 &&& 4294967295) * (64 * ln.toInt64)) 32 32 (by decide) (by decide)
  rw [h4, h1] at h5
  have p1 : 0 ≤ y.toInt64.toInt % (2 ^ 32 : Nat) ∧ y.toInt64.toInt % (2 ^ 32 : Nat) < 4294967296 := by omega
  generalize y.toInt64.toInt % (2 ^ 32 : Nat) = t at h5 p1
  have h7 : 0 ≤ t * (64 * ln.toInt) ∧ t * (64 * ln.toInt) < 4294967296 * (64 * ln.toInt) := by
    have q : ln.toInt = 1 ∨ ln.toInt = 2 := by omega
    rcases q with q | q <;> rw [q] <;> omega
  have h8 : ((y.toInt64 &&& 4294967295) * (64 * ln.toInt64)).toInt = t * (64 * ln.toInt) := by omega
  rw [h6, h8]
  have h9 : (t * (64 * ln.toInt)) % 18446744073709551616 = t * (64 * ln.toInt) := by omega
  rw [h9]
  omega
theorem own_ix (z : Int64) (ln : Int32) (B : 1 ≤ ln.toInt ∧ ln.toInt ≤ 2) (h : 0 ≤ z.toInt ∧ z.toInt < 64 * ln.toInt) : ¬ ((((z.toUInt64 >>> ((6 : Int32) &&& 0x3f).toInt64.toUInt64).toInt64).toInt32) < 0) ∧ (((z.toUInt64 >>> ((6 : Int32) &&& 0x3f).toInt64.toUInt64).toInt64).toInt32) < ln := by
  have h1 := c_lushr z 6 6 (by decide) (by decide)
  have h2 := c_l2i ((z.toUInt64 >>> ((6 : Int32) &&& 0x3f).toInt64.toUInt64).toInt64)
  have r2 := rng32 (((z.toUInt64 >>> ((6 : Int32) &&& 0x3f).toInt64.toUInt64).toInt64).toInt32)
  rw [h1] at h2
  rw [Int32.lt_iff_toInt_lt, Int32.lt_iff_toInt_lt, show (0 : Int32).toInt = 0 from by decide]
  omega

theorem dI_0 : decode prog_23_method_1_code 0 = .ok (.aload_n 0, 1) := by decide +kernel
theorem dI_1 : decode prog_23_method_1_code 1 = .ok (.invokespecial 1, 3) := by decide +kernel
theorem dI_4 : decode prog_23_method_1_code 4 = .ok (.aload_n 0, 1) := by decide +kernel
theorem dI_5 : decode prog_23_method_1_code 5 = .ok (.lconst 1, 1) := by decide +kernel
theorem dI_6 : decode prog_23_method_1_code 6 = .ok (.lload_n 1, 1) := by decide +kernel
theorem dI_7 : decode prog_23_method_1_code 7 = .ok (.invokestatic 7, 3) := by decide +kernel
theorem dI_10 : decode prog_23_method_1_code 10 = .ok (.putfield 13, 3) := by decide +kernel
theorem dI_13 : decode prog_23_method_1_code 13 = .ok (.aload_n 0, 1) := by decide +kernel
theorem dI_14 : decode prog_23_method_1_code 14 = .ok (.ldc2_w 19, 3) := by decide +kernel
theorem dI_17 : decode prog_23_method_1_code 17 = .ok (.aload_n 0, 1) := by decide +kernel
theorem dI_18 : decode prog_23_method_1_code 18 = .ok (.getfield 13, 3) := by decide +kernel
theorem dI_21 : decode prog_23_method_1_code 21 = .ok (.ldc2_w 21, 3) := by decide +kernel
theorem dI_24 : decode prog_23_method_1_code 24 = .ok (.lmul, 1) := by decide +kernel
theorem dI_25 : decode prog_23_method_1_code 25 = .ok (.ldc2_w 23, 3) := by decide +kernel
theorem dI_28 : decode prog_23_method_1_code 28 = .ok (.ldiv, 1) := by decide +kernel
theorem dI_29 : decode prog_23_method_1_code 29 = .ok (.lconst 1, 1) := by decide +kernel
theorem dI_30 : decode prog_23_method_1_code 30 = .ok (.ladd, 1) := by decide +kernel
theorem dI_31 : decode prog_23_method_1_code 31 = .ok (.invokestatic 25, 3) := by decide +kernel
theorem dI_34 : decode prog_23_method_1_code 34 = .ok (.l2i, 1) := by decide +kernel
theorem dI_35 : decode prog_23_method_1_code 35 = .ok (.newarray .long, 2) := by decide +kernel
theorem dI_37 : decode prog_23_method_1_code 37 = .ok (.putfield 28, 3) := by decide +kernel
theorem dI_40 : decode prog_23_method_1_code 40 = .ok (.return_, 1) := by decide +kernel
theorem pdI_0 : parseMethodDescriptor "(JJ)J" = some ⟨[.long, .long], some .long⟩ := by decide +kernel
theorem pnI : plainName "com/example/runpulse/runpulse/KnownKeys" = true := by first | (simp [plainName, overriddenIn]; done) | decide +kernel
theorem efI (m : MethodId) (a : Addr) (cp : Int64) : entryFrame m #[(.ref a), (.long cp)] 3 = mkF m 0 #[.val (.ref a), .val (.long cp), .second] [] := by first | (simp [entryFrame, mkF, argsToLocals, Value.category]; done) | rfl
def QI (Z : State) (a : Addr) (mm : Int64) (h0 : Heap) (n0 : Nat) (v : Option Value) (h : Heap) (L : List Loc) : Prop := ∃ (b : Addr) (kc : ClassId) (ln : Int32), (v = none ∧ Fr n0 L ∧ Keep h0 h [a] ∧ n0 ≤ b ∧ h0.size ≤ b ∧ (1 ≤ ln.toInt ∧ ln.toInt ≤ 2) ∧ Exa Z h a "com/example/runpulse/runpulse/KnownKeys" ∧ Fld Z h a "com/example/runpulse/runpulse/KnownKeys" "capacity" "J" (.long mm) ∧ Fld Z h a "com/example/runpulse/runpulse/KnownKeys" "bits" "[J" (.ref b) ∧ Fld Z h a "com/example/runpulse/runpulse/KnownKeys" "added" "J" (.long 0) ∧ LA Z h b kc ln)
set_option maxRecDepth 65536 in
set_option maxHeartbeats 40000000 in
theorem rmI (l : Launch) (Z : State) (a0 : Array Value) (hw : ∀ d ∈ tables_1, d.before a0 Z = true) (ws : List Jvm.Cond) (a : Addr) (cp : Int64) (mm : Int64) (h0 : Heap) (n0 : Nat) (Z0 : n0 ≤ h0.size) (E0a : Exa Z h0 a "com/example/runpulse/runpulse/KnownKeys") (Fc : Fld Z h0 a "com/example/runpulse/runpulse/KnownKeys" "capacity" "J" (.long 0)) (Fb : Fld Z h0 a "com/example/runpulse/runpulse/KnownKeys" "bits" "[J" .null) (Fa : Fld Z h0 a "com/example/runpulse/runpulse/KnownKeys" "added" "J" (.long 0)) (ga : n0 ≤ a) (hm : fMa (1 : Int64) cp = mm) (Bm : 1 ≤ mm.toInt ∧ mm.toInt ≤ 7) :
    MetFree l (⟨"com/example/runpulse/runpulse/KnownKeys", "<init>", "(J)V"⟩ : MethodName) (head1 (Jvm.Cond.code (⟨"com/example/runpulse/runpulse/KnownKeys", "<init>", "(J)V"⟩ : MethodName) prog_23_method_1_code 3 none :: ws) ({ frames := 1, cells := 1, slots := 2, locals := 16 } : Room)) (fun aa_ U_ => aa_ = #[(.ref a), (.long cp)] ∧ Z.Warmed39 U_.vm ∧ U_.heap = h0) (fun _ _ _ _ _ => True) (fun _ U_ o_ V_ => ∃ v_ L_, o_ = .returned v_ ∧ QI Z a mm h0 n0 v_ V_.heap L_ ∧ FrameEnd U_ o_ V_ L_ ({ frames := 1, cells := 1, slots := 2, locals := 16 } : Room).cells ({ frames := 1, cells := 1, slots := 2, locals := 16 } : Room).slots) := by
  refine MetFree.of_bodySF (plainFor_of_name pnI) hisR ?_
  intro p e s m args below meth c s₁ Bd hml0 hP hK
  obtain ⟨rfl, hZ, hh⟩ := hP
  have hx := Bd.exec
  have hby := Bd.bytes
  have hml : c.maxLocals = 3 := hml0
  have hown : s.vm.findClass "com/example/runpulse/runpulse/KnownKeys" = some m.cls := findClass_of_methodNamed Bd.named
  have hnm := (name_of_methodNamed Bd.named Bd.method).1
  have hlk : meth.locks = false := BodyLoose.notSynchronized Bd
  have hret : meth.sig.returnType = none := Bd.returns
  have X0 : Stand p l e ({ frames := 1, cells := 1, slots := 2, locals := 16 } : Room) s m #[(.ref a), (.long cp)] below meth c s₁ [] 0 0 := Stand.of_body Bd
  have e0 : s₁.heap = h0 := by rw [← hh, Bd.state]; rfl
  have N0 := Fr.nil n0
  show Go p e below s ({ frames := 1, cells := 1, slots := 2, locals := 16 } : Room).cells ({ frames := 1, cells := 1, slots := 2, locals := 16 } : Room).slots (QI Z a mm h0 n0) (s₁.setTop (entryFrame m #[(.ref a), (.long cp)] 3))
  rw [efI]
  refine Go.by (fun _ kont => XS.aloadN X0.here hx rfl (hb hby dI_0) rfl rfl kont) ?_
  show Go _ _ _ _ _ _ _ (s₁.setTop (mkF m 1 #[.val (.ref a), .val (.long cp), .second] [(.ref a)]))
  obtain ⟨T101, X101, e101, st101⟩ := initO X0 hx hZ hown (hw _ (List.mem_of_getElem? (i := 7) rfl)) (hw _ (List.mem_of_getElem? (i := 8) rfl)) (hw _ (List.mem_of_getElem? (i := 9) rfl)) e0 (g := (mkF m 1 #[.val (.ref a), .val (.long cp), .second] [(.ref a)])) rfl (by rw [hml]; rfl) rfl (hb hby dI_1) (by decide) (W := 0) (by show 2 * 0 + _ ≤ _; exact Nat.le_of_eq rfl) (by decide)
  refine Go.by st101 ?_
  show Go _ _ _ _ _ _ _ (T101.setTop (mkF m 4 #[.val (.ref a), .val (.long cp), .second] []))
  refine Go.by (fun _ kont => XS.aloadN X101.here hx rfl (hb hby dI_4) rfl rfl (XS.lconst X101.here hx rfl (hb hby dI_5) (XS.lloadN X101.here hx rfl (hb hby dI_6) rfl kont))) ?_
  show Go _ _ _ _ _ _ _ (T101.setTop (mkF m 7 #[.val (.ref a), .val (.long cp), .second] [(.long cp), (.long (1 : Int64)), (.ref a)]))
  obtain ⟨_, _, ⟨T102, L102, k102, n102⟩, -, X102, ⟨Lc102, hQ102, l102, y102, z102⟩, st102⟩ := Jvm.LawKit.callS X101 hx (y := (⟨"java/lang/Math", "max", "(JJ)J"⟩ : MethodName)) hown (mvT hZ (hw _ (List.mem_of_getElem? (i := 10) rfl))) (mvT hZ (hw _ (List.mem_of_getElem? (i := 11) rfl))) (mvT hZ (hw _ (List.mem_of_getElem? (i := 12) rfl))) (mvT hZ (hw _ (List.mem_of_getElem? (i := 13) rfl))) (by decide) (backOf (W := 1) (rmMa l Z a0 hw [] (1 : Int64) cp h0 n0 Z0 ) hZ (hw _ (List.mem_of_getElem? (i := 13) rfl)) (hw _ (List.mem_of_getElem? (i := 12) rfl)) (by decide) (by decide)) (g := (mkF m 7 #[.val (.ref a), .val (.long cp), .second] [(.long cp), (.long (1 : Int64)), (.ref a)])) rfl (by rw [hml]; rfl) (argsL := [(.long (1 : Int64)), (.long cp)]) (rest := [(.ref a)]) (lenOf pdI_0 rfl) rfl (by show 2 * 0 + _ ≤ _; exact Nat.le_of_eq rfl) (hb hby dI_7) (fun _ _ => ⟨rfl, e101, (by decide : 0 + 0 ≤ _), (by decide : 0 + 0 ≤ _)⟩)
  dsimp only [Pt.U, Pt.locs, Pt.cells, Pt.slots] at X102 l102 y102 z102 st102 hQ102
  subst l102 y102 z102
  obtain ⟨rfl, N102q, eh102⟩ := hQ102
  have N102 := Fr.app N0 N102q
  refine Go.by st102 ?_
  show Go _ _ _ _ _ _ _ (T102.setTop (mkF m 10 #[.val (.ref a), .val (.long cp), .second] [(.long (fMa (1 : Int64) cp)), (.ref a)]))
  rw [hm]
  show Go _ _ _ _ _ _ _ (T102.setTop (mkF m 10 #[.val (.ref a), .val (.long cp), .second] [(.long mm), (.ref a)]))
  obtain ⟨T103, h103, X103, e103, W103, st103⟩ := putF X102 hx hZ hown (host := "") (Or.inl (hw _ (List.mem_of_getElem? (i := 14) rfl))) Via.refl eh102 Fc E0a (Or.inr ⟨(hw _ (List.mem_of_getElem? (i := 15) rfl)), rfl, hnm⟩) (hw _ (List.mem_of_getElem? (i := 2) rfl)) (ty := .long) (by decide) rfl rfl (g := (mkF m 10 #[.val (.ref a), .val (.long cp), .second] [(.long mm), (.ref a)])) rfl rfl (hb hby dI_10)
  have Fw103 := Fc.same W103
  have F104_bits_a := Fb.other W103 (Or.inr (slot_ne (Or.inr (hw _ (List.mem_of_getElem? (i := 24) rfl))) (Or.inr (hw _ (List.mem_of_getElem? (i := 15) rfl))) (by decide) (t := (.array .long)) (t' := .long) (by decide) (by decide)))
  have F104_added_a := Fa.other W103 (Or.inr (slot_ne (Or.inl (hw _ (List.mem_of_getElem? (i := 31) rfl))) (Or.inr (hw _ (List.mem_of_getElem? (i := 15) rfl))) (by decide) (t := .long) (t' := .long) (by decide) (by decide)))
  have E104_a := E0a.wr W103
  have Z104 := Nat.le_trans Z0 (Keep.of_wr W103).1
  have K104 : Keep h0 h103 [a] := (Keep.refl h0 [a]).wr W103 (Or.inl (by simp))
  have N103 := Fr.snoc X103 N102 ga
  refine Go.by st103 ?_
  show Go _ _ _ _ _ _ _ (T103.setTop (mkF m 13 #[.val (.ref a), .val (.long cp), .second] []))
  refine Go.by (fun _ kont => XS.aloadN X103.here hx rfl (hb hby dI_13) rfl rfl (X103.ldc2Long hx hown (mvT hZ (hw _ (List.mem_of_getElem? (i := 16) rfl))) (g := (mkF m 14 #[.val (.ref a), .val (.long cp), .second] [(.ref a)])) rfl (hb hby dI_14) _ (XS.aloadN X103.here hx rfl (hb hby dI_17) rfl rfl kont))) ?_
  show Go _ _ _ _ _ _ _ (T103.setTop (mkF m 18 #[.val (.ref a), .val (.long cp), .second] [(.ref a), (.long (33554432 : Int64)), (.ref a)]))
  obtain ⟨T105, X105, e105, st105⟩ := getF X103 hx hZ hown (host := "") (Or.inl (hw _ (List.mem_of_getElem? (i := 14) rfl))) Via.refl e103 Fw103 (g := (mkF m 18 #[.val (.ref a), .val (.long cp), .second] [(.ref a), (.long (33554432 : Int64)), (.ref a)])) rfl rfl (hb hby dI_18)
  refine Go.by st105 ?_
  show Go _ _ _ _ _ _ _ (T105.setTop (mkF m 21 #[.val (.ref a), .val (.long cp), .second] [(.long mm), (.long (33554432 : Int64)), (.ref a)]))
  refine Go.by (fun _ kont => X105.ldc2Long hx hown (mvT hZ (hw _ (List.mem_of_getElem? (i := 17) rfl))) (g := (mkF m 21 #[.val (.ref a), .val (.long cp), .second] [(.long mm), (.long (33554432 : Int64)), (.ref a)])) rfl (hb hby dI_21) _ (XS.lmul X105.here hx rfl (hb hby dI_24) rfl (X105.ldc2Long hx hown (mvT hZ (hw _ (List.mem_of_getElem? (i := 18) rfl))) (g := (mkF m 25 #[.val (.ref a), .val (.long cp), .second] [(.long (mm * (10 : Int64))), (.long (33554432 : Int64)), (.ref a)])) rfl (hb hby dI_25) _ (XS.ldiv X105.here hx rfl (hb hby dI_28) rfl (by decide) (XS.lconst X105.here hx rfl (hb hby dI_29) (XS.ladd X105.here hx rfl (hb hby dI_30) rfl kont)))))) ?_
  show Go _ _ _ _ _ _ _ (T105.setTop (mkF m 31 #[.val (.ref a), .val (.long cp), .second] [(.long (((mm * (10 : Int64)) / (64 : Int64)) + (1 : Int64))), (.long (33554432 : Int64)), (.ref a)]))
  obtain ⟨_, _, ⟨T106, L106, k106, n106⟩, -, X106, ⟨Lc106, hQ106, l106, y106, z106⟩, st106⟩ := Jvm.LawKit.callS X105 hx (y := (⟨"java/lang/Math", "min", "(JJ)J"⟩ : MethodName)) hown (mvT hZ (hw _ (List.mem_of_getElem? (i := 19) rfl))) (mvT hZ (hw _ (List.mem_of_getElem? (i := 20) rfl))) (mvT hZ (hw _ (List.mem_of_getElem? (i := 12) rfl))) (mvT hZ (hw _ (List.mem_of_getElem? (i := 21) rfl))) (by decide) (backOf (W := 1) (rmMi l Z a0 hw [] (33554432 : Int64) (((mm * (10 : Int64)) / (64 : Int64)) + (1 : Int64)) h103 n0 Z104 ) hZ (hw _ (List.mem_of_getElem? (i := 21) rfl)) (hw _ (List.mem_of_getElem? (i := 12) rfl)) (by decide) (by decide)) (g := (mkF m 31 #[.val (.ref a), .val (.long cp), .second] [(.long (((mm * (10 : Int64)) / (64 : Int64)) + (1 : Int64))), (.long (33554432 : Int64)), (.ref a)])) rfl (by rw [hml]; rfl) (argsL := [(.long (33554432 : Int64)), (.long (((mm * (10 : Int64)) / (64 : Int64)) + (1 : Int64)))]) (rest := [(.ref a)]) (lenOf pdI_0 rfl) rfl (by show 2 * 0 + _ ≤ _; exact Nat.le_of_eq rfl) (hb hby dI_31) (fun _ _ => ⟨rfl, e105, (by decide : 0 + 0 ≤ _), (by decide : 0 + 0 ≤ _)⟩)
  dsimp only [Pt.U, Pt.locs, Pt.cells, Pt.slots] at X106 l106 y106 z106 st106 hQ106
  subst l106 y106 z106
  obtain ⟨rfl, N106q, eh106⟩ := hQ106
  have N106 := Fr.app N103 N106q
  refine Go.by st106 ?_
  show Go _ _ _ _ _ _ _ (T106.setTop (mkF m 34 #[.val (.ref a), .val (.long cp), .second] [(.long (fMi (33554432 : Int64) (((mm * (10 : Int64)) / (64 : Int64)) + (1 : Int64)))), (.ref a)]))
  refine Go.by (fun _ kont => XS.l2i X106.here hx rfl (hb hby dI_34) rfl kont) ?_
  show Go _ _ _ _ _ _ _ (T106.setTop (mkF m 35 #[.val (.ref a), .val (.long cp), .second] [(.int ((fMi (33554432 : Int64) (((mm * (10 : Int64)) / (64 : Int64)) + (1 : Int64))).toInt32)), (.ref a)]))
  have Bl := own_ln mm Bm
  generalize ((fMi (33554432 : Int64) (((mm * (10 : Int64)) / (64 : Int64)) + (1 : Int64))).toInt32) = ln at Bl ⊢
  show Go _ _ _ _ _ _ _ (T106.setTop (mkF m 35 #[.val (.ref a), .val (.long cp), .second] [(.int ln), (.ref a)]))
  obtain ⟨T107, h107, k107, X107, e107, X_107, A107, st107⟩ := newP X106 hx hZ (hw _ (List.mem_of_getElem? (i := 22) rfl)) eh106 (g := (mkF m 35 #[.val (.ref a), .val (.long cp), .second] [(.int ln), (.ref a)])) rfl (hb hby dI_35) rfl (own_nn Bl) (cap := 2) (own_capp Bl) (by decide) (by decide) (by decide)
  obtain ⟨b107, g107⟩ : ∃ z, z = h103.size := ⟨_, rfl⟩
  rw [← g107] at A107 st107
  have ne_a_b107 : a ≠ b107 := Nat.ne_of_lt (Nat.lt_of_lt_of_le Fw103.lt (Nat.le_of_eq g107.symm))
  have ge_b107 : n0 ≤ b107 := Nat.le_trans Z104 (Nat.le_of_eq g107.symm)
  have sz_b107 : h0.size ≤ b107 := Nat.le_trans K104.1 (Nat.le_of_eq g107.symm)
  have F108_capacity_a := Fw103.ext X_107
  have F108_bits_a := F104_bits_a.ext X_107
  have F108_added_a := F104_added_a.ext X_107
  have E108_a := E104_a.ext X_107
  have Z108 := Nat.le_trans Z104 X_107.1
  have K108 : Keep h0 h107 [a] := K104.ext X_107
  have V107 := LA.new (n := ln) A107 (own_nn Bl)
  refine Go.by st107 ?_
  show Go _ _ _ _ _ _ _ (T107.setTop (mkF m 37 #[.val (.ref a), .val (.long cp), .second] [(.ref b107), (.ref a)]))
  obtain ⟨T109, h109, X109, e109, W109, st109⟩ := putF X107 hx hZ hown (host := "") (Or.inl (hw _ (List.mem_of_getElem? (i := 23) rfl))) Via.refl e107 F108_bits_a E108_a (Or.inr ⟨(hw _ (List.mem_of_getElem? (i := 24) rfl)), rfl, hnm⟩) (hw _ (List.mem_of_getElem? (i := 2) rfl)) (ty := (.array .long)) (by decide) rfl rfl (g := (mkF m 37 #[.val (.ref a), .val (.long cp), .second] [(.ref b107), (.ref a)])) rfl rfl (hb hby dI_37)
  have Fw109 := F108_bits_a.same W109
  have F110_capacity_a := F108_capacity_a.other W109 (Or.inr (slot_ne (Or.inr (hw _ (List.mem_of_getElem? (i := 15) rfl))) (Or.inr (hw _ (List.mem_of_getElem? (i := 24) rfl))) (by decide) (t := .long) (t' := (.array .long)) (by decide) (by decide)))
  have F110_added_a := F108_added_a.other W109 (Or.inr (slot_ne (Or.inl (hw _ (List.mem_of_getElem? (i := 31) rfl))) (Or.inr (hw _ (List.mem_of_getElem? (i := 24) rfl))) (by decide) (t := .long) (t' := (.array .long)) (by decide) (by decide)))
  have E110_a := E108_a.wr W109
  have V110_b107 := V107.other W109 (Ne.symm ne_a_b107)
  have Z110 := Nat.le_trans Z108 (Keep.of_wr W109).1
  have K110 : Keep h0 h109 [a] := K108.wr W109 (Or.inl (by simp))
  have N109 := Fr.snoc X109 N106 ga
  refine Go.by st109 ?_
  show Go _ _ _ _ _ _ _ (T109.setTop (mkF m 40 #[.val (.ref a), .val (.long cp), .second] []))
  refine Go.retV X109 hx hret hlk (hb hby dI_40) ?_ (by decide) (by decide)
  show QI Z a mm h0 n0 none T109.heap _
  rw [e109]
  exact ⟨b107, k107, ln, rfl, N109, K110, ge_b107, sz_b107, Bl, E110_a, F110_capacity_a, Fw109, F110_added_a, V110_b107⟩

theorem dFu_0 : decode prog_23_method_2_code 0 = .ok (.aload_n 0, 1) := by decide +kernel
theorem dFu_1 : decode prog_23_method_2_code 1 = .ok (.getfield 32, 3) := by decide +kernel
theorem dFu_4 : decode prog_23_method_2_code 4 = .ok (.aload_n 0, 1) := by decide +kernel
theorem dFu_5 : decode prog_23_method_2_code 5 = .ok (.getfield 13, 3) := by decide +kernel
theorem dFu_8 : decode prog_23_method_2_code 8 = .ok (.lcmp, 1) := by decide +kernel
theorem dFu_9 : decode prog_23_method_2_code 9 = .ok (.ifCond .le 7, 3) := by decide +kernel
theorem dFu_12 : decode prog_23_method_2_code 12 = .ok (.iconst 1, 1) := by decide +kernel
theorem dFu_13 : decode prog_23_method_2_code 13 = .ok (.goto 4, 3) := by decide +kernel
theorem dFu_16 : decode prog_23_method_2_code 16 = .ok (.iconst 0, 1) := by decide +kernel
theorem dFu_17 : decode prog_23_method_2_code 17 = .ok (.ireturn, 1) := by decide +kernel
theorem pnFu : plainName "com/example/runpulse/runpulse/KnownKeys" = true := by first | (simp [plainName, overriddenIn]; done) | decide +kernel
theorem efFu (m : MethodId) (a : Addr) : entryFrame m #[(.ref a)] 1 = mkF m 0 #[.val (.ref a)] [] := by first | (simp [entryFrame, mkF, argsToLocals, Value.category]; done) | rfl
def fFu (ad : Int64) (mm : Int64) : Int32 := (if mm < ad then (1 : Int32) else (0 : Int32))
def QFu (Z : State) (a : Addr) (ad : Int64) (mm : Int64) (h0 : Heap) (n0 : Nat) (v : Option Value) (h : Heap) (L : List Loc) : Prop := v = some (.int (fFu ad mm)) ∧ Fr n0 L ∧ h = h0
set_option maxRecDepth 65536 in
set_option maxHeartbeats 40000000 in
theorem rmFu (l : Launch) (Z : State) (a0 : Array Value) (hw : ∀ d ∈ tables_1, d.before a0 Z = true) (ws : List Jvm.Cond) (a : Addr) (ad : Int64) (mm : Int64) (h0 : Heap) (n0 : Nat) (Z0 : n0 ≤ h0.size) (Fa : Fld Z h0 a "com/example/runpulse/runpulse/KnownKeys" "added" "J" (.long ad)) (Fc : Fld Z h0 a "com/example/runpulse/runpulse/KnownKeys" "capacity" "J" (.long mm)) :
    MetFree l (⟨"com/example/runpulse/runpulse/KnownKeys", "isFull", "()Z"⟩ : MethodName) (head1 (Jvm.Cond.code (⟨"com/example/runpulse/runpulse/KnownKeys", "isFull", "()Z"⟩ : MethodName) prog_23_method_2_code 1 (some .boolean) :: ws) ({ frames := 0, cells := 0, slots := 0, locals := 0 } : Room)) (fun aa_ U_ => aa_ = #[(.ref a)] ∧ Z.Warmed39 U_.vm ∧ U_.heap = h0) (fun _ _ _ _ _ => True) (fun _ U_ o_ V_ => ∃ v_ L_, o_ = .returned v_ ∧ QFu Z a ad mm h0 n0 v_ V_.heap L_ ∧ FrameEnd U_ o_ V_ L_ ({ frames := 0, cells := 0, slots := 0, locals := 0 } : Room).cells ({ frames := 0, cells := 0, slots := 0, locals := 0 } : Room).slots) := by
  refine MetFree.of_bodySF (plainFor_of_name pnFu) hisR ?_
  intro p e s m args below meth c s₁ Bd hml0 hP hK
  obtain ⟨rfl, hZ, hh⟩ := hP
  have hx := Bd.exec
  have hby := Bd.bytes
  have hml : c.maxLocals = 1 := hml0
  have hown : s.vm.findClass "com/example/runpulse/runpulse/KnownKeys" = some m.cls := findClass_of_methodNamed Bd.named
  have hnm := (name_of_methodNamed Bd.named Bd.method).1
  have hlk : meth.locks = false := BodyLoose.notSynchronized Bd
  have hret : meth.sig.returnType = (some .boolean) := Bd.returns
  have X0 : Stand p l e ({ frames := 0, cells := 0, slots := 0, locals := 0 } : Room) s m #[(.ref a)] below meth c s₁ [] 0 0 := Stand.of_body Bd
  have e0 : s₁.heap = h0 := by rw [← hh, Bd.state]; rfl
  have N0 := Fr.nil n0
  show Go p e below s ({ frames := 0, cells := 0, slots := 0, locals := 0 } : Room).cells ({ frames := 0, cells := 0, slots := 0, locals := 0 } : Room).slots (QFu Z a ad mm h0 n0) (s₁.setTop (entryFrame m #[(.ref a)] 1))
  rw [efFu]
  refine Go.by (fun _ kont => XS.aloadN X0.here hx rfl (hb hby dFu_0) rfl rfl kont) ?_
  show Go _ _ _ _ _ _ _ (s₁.setTop (mkF m 1 #[.val (.ref a)] [(.ref a)]))
  obtain ⟨T101, X101, e101, st101⟩ := getF X0 hx hZ hown (host := "") (Or.inl (hw _ (List.mem_of_getElem? (i := 30) rfl))) Via.refl e0 Fa (g := (mkF m 1 #[.val (.ref a)] [(.ref a)])) rfl rfl (hb hby dFu_1)
  refine Go.by st101 ?_
  show Go _ _ _ _ _ _ _ (T101.setTop (mkF m 4 #[.val (.ref a)] [(.long ad)]))
  refine Go.by (fun _ kont => XS.aloadN X101.here hx rfl (hb hby dFu_4) rfl rfl kont) ?_
  show Go _ _ _ _ _ _ _ (T101.setTop (mkF m 5 #[.val (.ref a)] [(.ref a), (.long ad)]))
  obtain ⟨T102, X102, e102, st102⟩ := getF X101 hx hZ hown (host := "") (Or.inl (hw _ (List.mem_of_getElem? (i := 14) rfl))) Via.refl e101 Fc (g := (mkF m 5 #[.val (.ref a)] [(.ref a), (.long ad)])) rfl rfl (hb hby dFu_5)
  refine Go.by st102 ?_
  show Go _ _ _ _ _ _ _ (T102.setTop (mkF m 8 #[.val (.ref a)] [(.long mm), (.long ad)]))
  refine Go.by (fun _ kont => XS.lcmp X102.here hx rfl (hb hby dFu_8) rfl kont) ?_
  show Go _ _ _ _ _ _ _ (T102.setTop (mkF m 9 #[.val (.ref a)] [(.int (lcmpW ad mm))]))
  by_cases hc103 : mm < ad
  · refine Go.by (fun _ kont => XS.ifNo X102.here hx rfl (hb hby dFu_9) rfl ((if0 _ _).trans (tlt ((lw_gt _ _).mpr hc103)).2.2.2) kont) ?_
    show Go _ _ _ _ _ _ _ (T102.setTop (mkF m 12 #[.val (.ref a)] []))
    refine Go.by (fun _ kont => XS.iconst X102.here hx rfl (hb hby dFu_12) (XS.goto X102.here hx rfl (pc0 := 13) (pc' := 17) rfl (hb hby dFu_13) (by decide) (by decide) kont)) ?_
    show Go _ _ _ _ _ _ _ (T102.setTop (mkF m 17 #[.val (.ref a)] [(.int (1 : Int32))]))
    refine Go.retN X102 hx (t := .boolean) hret (by simp) hlk (hb hby dFu_17) ?_ (by decide) (by decide)
    show QFu Z a ad mm h0 n0 (some (.int (1 : Int32))) T102.heap _
    rw [e102]
    refine ⟨?_, N0, rfl⟩
    unfold fFu
    rw [if_pos hc103]
  · refine Go.by (fun _ kont => XS.ifYes X102.here hx rfl (pc0 := 9) (pc' := 16) rfl (hb hby dFu_9) rfl ((if0 _ _).trans (flt (fun z => hc103 ((lw_gt _ _).mp z))).2.2.2) (by decide) (by decide) kont) ?_
    show Go _ _ _ _ _ _ _ (T102.setTop (mkF m 16 #[.val (.ref a)] []))
    refine Go.by (fun _ kont => XS.iconst X102.here hx rfl (hb hby dFu_16) kont) ?_
    show Go _ _ _ _ _ _ _ (T102.setTop (mkF m 17 #[.val (.ref a)] [(.int (0 : Int32))]))
    refine Go.retN X102 hx (t := .boolean) hret (by simp) hlk (hb hby dFu_17) ?_ (by decide) (by decide)
    show QFu Z a ad mm h0 n0 (some (.int (0 : Int32))) T102.heap _
    rw [e102]
    refine ⟨?_, N0, rfl⟩
    unfold fFu
    rw [if_neg hc103]

theorem dA_0 : decode prog_23_method_4_code 0 = .ok (.iconst 0, 1) := by decide +kernel
theorem dA_1 : decode prog_23_method_4_code 1 = .ok (.istore_n 3, 1) := by decide +kernel
theorem dA_2 : decode prog_23_method_4_code 2 = .ok (.iload_n 3, 1) := by decide +kernel
theorem dA_3 : decode prog_23_method_4_code 3 = .ok (.iconst 3, 1) := by decide +kernel
theorem dA_4 : decode prog_23_method_4_code 4 = .ok (.if_icmp .ge 36, 3) := by decide +kernel
theorem dA_7 : decode prog_23_method_4_code 7 = .ok (.aload_n 0, 1) := by decide +kernel
theorem dA_8 : decode prog_23_method_4_code 8 = .ok (.lload_n 1, 1) := by decide +kernel
theorem dA_9 : decode prog_23_method_4_code 9 = .ok (.iload_n 3, 1) := by decide +kernel
theorem dA_10 : decode prog_23_method_4_code 10 = .ok (.invokevirtual 45, 3) := by decide +kernel
theorem dA_13 : decode prog_23_method_4_code 13 = .ok (.lstore 4, 2) := by decide +kernel
theorem dA_15 : decode prog_23_method_4_code 15 = .ok (.aload_n 0, 1) := by decide +kernel
theorem dA_16 : decode prog_23_method_4_code 16 = .ok (.getfield 28, 3) := by decide +kernel
theorem dA_19 : decode prog_23_method_4_code 19 = .ok (.lload 4, 2) := by decide +kernel
theorem dA_21 : decode prog_23_method_4_code 21 = .ok (.bipush 6, 2) := by decide +kernel
theorem dA_23 : decode prog_23_method_4_code 23 = .ok (.lushr, 1) := by decide +kernel
theorem dA_24 : decode prog_23_method_4_code 24 = .ok (.l2i, 1) := by decide +kernel
theorem dA_25 : decode prog_23_method_4_code 25 = .ok (.dup2, 1) := by decide +kernel
theorem dA_26 : decode prog_23_method_4_code 26 = .ok (.laload, 1) := by decide +kernel
theorem dA_27 : decode prog_23_method_4_code 27 = .ok (.lconst 1, 1) := by decide +kernel
theorem dA_28 : decode prog_23_method_4_code 28 = .ok (.lload 4, 2) := by decide +kernel
theorem dA_30 : decode prog_23_method_4_code 30 = .ok (.l2i, 1) := by decide +kernel
theorem dA_31 : decode prog_23_method_4_code 31 = .ok (.lshl, 1) := by decide +kernel
theorem dA_32 : decode prog_23_method_4_code 32 = .ok (.lor, 1) := by decide +kernel
theorem dA_33 : decode prog_23_method_4_code 33 = .ok (.lastore, 1) := by decide +kernel
theorem dA_34 : decode prog_23_method_4_code 34 = .ok (.iinc 3 1, 3) := by decide +kernel
theorem dA_37 : decode prog_23_method_4_code 37 = .ok (.goto (-35), 3) := by decide +kernel
theorem dA_40 : decode prog_23_method_4_code 40 = .ok (.aload_n 0, 1) := by decide +kernel
theorem dA_41 : decode prog_23_method_4_code 41 = .ok (.dup, 1) := by decide +kernel
theorem dA_42 : decode prog_23_method_4_code 42 = .ok (.getfield 32, 3) := by decide +kernel
theorem dA_45 : decode prog_23_method_4_code 45 = .ok (.lconst 1, 1) := by decide +kernel
theorem dA_46 : decode prog_23_method_4_code 46 = .ok (.ladd, 1) := by decide +kernel
theorem dA_47 : decode prog_23_method_4_code 47 = .ok (.putfield 32, 3) := by decide +kernel
theorem dA_50 : decode prog_23_method_4_code 50 = .ok (.return_, 1) := by decide +kernel
theorem pdA_0 : parseMethodDescriptor "(JI)J" = some ⟨[.long, .int], some .long⟩ := by decide +kernel
theorem pnA : plainName "com/example/runpulse/runpulse/KnownKeys" = true := by first | (simp [plainName, overriddenIn]; done) | decide +kernel
theorem efA (m : MethodId) (a : Addr) (kh : Int64) : entryFrame m #[(.ref a), (.long kh)] 6 = mkF m 0 #[.val (.ref a), .val (.long kh), .second, .unset, .unset, .unset] [] := by first | (simp [entryFrame, mkF, argsToLocals, Value.category]; done) | rfl
def QA (Z : State) (a : Addr) (mm : Int64) (b : Addr) (ad : Int64) (kc : ClassId) (ln : Int32) (h0 : Heap) (n0 : Nat) (v : Option Value) (h : Heap) (L : List Loc) : Prop := v = none ∧ Fr n0 L ∧ Keep h0 h [a, b] ∧ Exa Z h a "com/example/runpulse/runpulse/KnownKeys" ∧ Fld Z h a "com/example/runpulse/runpulse/KnownKeys" "capacity" "J" (.long mm) ∧ Fld Z h a "com/example/runpulse/runpulse/KnownKeys" "bits" "[J" (.ref b) ∧ Fld Z h a "com/example/runpulse/runpulse/KnownKeys" "added" "J" (.long (ad + 1)) ∧ LA Z h b kc ln
set_option maxRecDepth 65536 in
set_option maxHeartbeats 40000000 in
theorem rmA (l : Launch) (Z : State) (a0 : Array Value) (hw : ∀ d ∈ tables_1, d.before a0 Z = true) (ws : List Jvm.Cond) (a : Addr) (kh : Int64) (mm : Int64) (b : Addr) (ad : Int64) (kc : ClassId) (ln : Int32) (h0 : Heap) (n0 : Nat) (Z0 : n0 ≤ h0.size) (E0a : Exa Z h0 a "com/example/runpulse/runpulse/KnownKeys") (Fc : Fld Z h0 a "com/example/runpulse/runpulse/KnownKeys" "capacity" "J" (.long mm)) (Fb : Fld Z h0 a "com/example/runpulse/runpulse/KnownKeys" "bits" "[J" (.ref b)) (Fa : Fld Z h0 a "com/example/runpulse/runpulse/KnownKeys" "added" "J" (.long ad)) (Vb : LA Z h0 b kc ln) (neab : a ≠ b) (ga : n0 ≤ a) (gb : n0 ≤ b) (Bl : 1 ≤ ln.toInt ∧ ln.toInt ≤ 2) :
    MetFree l (⟨"com/example/runpulse/runpulse/KnownKeys", "add", "(J)V"⟩ : MethodName) (head1 (Jvm.Cond.code (⟨"com/example/runpulse/runpulse/KnownKeys", "add", "(J)V"⟩ : MethodName) prog_23_method_4_code 6 none :: ws) ({ frames := 2, cells := 0, slots := 0, locals := 28 } : Room)) (fun aa_ U_ => aa_ = #[(.ref a), (.long kh)] ∧ Z.Warmed39 U_.vm ∧ U_.heap = h0) (fun _ _ _ _ _ => True) (fun _ U_ o_ V_ => ∃ v_ L_, o_ = .returned v_ ∧ QA Z a mm b ad kc ln h0 n0 v_ V_.heap L_ ∧ FrameEnd U_ o_ V_ L_ ({ frames := 2, cells := 0, slots := 0, locals := 28 } : Room).cells ({ frames := 2, cells := 0, slots := 0, locals := 28 } : Room).slots) := by
  refine MetFree.of_bodySF (plainFor_of_name pnA) hisR ?_
  intro p e s m args below meth c s₁ Bd hml0 hP hK
  obtain ⟨rfl, hZ, hh⟩ := hP
  have hx := Bd.exec
  have hby := Bd.bytes
  have hml : c.maxLocals = 6 := hml0
  have hown : s.vm.findClass "com/example/runpulse/runpulse/KnownKeys" = some m.cls := findClass_of_methodNamed Bd.named
  have hnm := (name_of_methodNamed Bd.named Bd.method).1
  have hlk : meth.locks = false := BodyLoose.notSynchronized Bd
  have hret : meth.sig.returnType = none := Bd.returns
  have X0 : Stand p l e ({ frames := 2, cells := 0, slots := 0, locals := 28 } : Room) s m #[(.ref a), (.long kh)] below meth c s₁ [] 0 0 := Stand.of_body Bd
  have e0 : s₁.heap = h0 := by rw [← hh, Bd.state]; rfl
  have N0 := Fr.nil n0
  show Go p e below s ({ frames := 2, cells := 0, slots := 0, locals := 28 } : Room).cells ({ frames := 2, cells := 0, slots := 0, locals := 28 } : Room).slots (QA Z a mm b ad kc ln h0 n0) (s₁.setTop (entryFrame m #[(.ref a), (.long kh)] 6))
  rw [efA]
  refine Go.by (fun _ kont => XS.iconst X0.here hx rfl (hb hby dA_0) (XS.istoreN X0.here hx rfl (hb hby dA_1) rfl (l' := #[.val (.ref a), .val (.long kh), .second, .val (.int (0 : Int32)), .unset, .unset]) rfl (XS.iloadN X0.here hx rfl (hb hby dA_2) rfl (XS.iconst X0.here hx rfl (hb hby dA_3) kont)))) ?_
  show Go _ _ _ _ _ _ _ (s₁.setTop (mkF m 4 #[.val (.ref a), .val (.long kh), .second, .val (.int (0 : Int32)), .unset, .unset] [(.int (3 : Int32)), (.int (0 : Int32))]))
  refine Go.by (fun _ kont => XS.icmpNo X0.here hx rfl (hb hby dA_4) rfl (by decide) kont) ?_
  show Go _ _ _ _ _ _ _ (s₁.setTop (mkF m 7 #[.val (.ref a), .val (.long kh), .second, .val (.int (0 : Int32)), .unset, .unset] []))
  refine Go.by (fun _ kont => XS.aloadN X0.here hx rfl (hb hby dA_7) rfl rfl (XS.lloadN X0.here hx rfl (hb hby dA_8) rfl (XS.iloadN X0.here hx rfl (hb hby dA_9) rfl kont))) ?_
  show Go _ _ _ _ _ _ _ (s₁.setTop (mkF m 10 #[.val (.ref a), .val (.long kh), .second, .val (.int (0 : Int32)), .unset, .unset] [(.int (0 : Int32)), (.long kh), (.ref a)]))
  obtain ⟨cq101, q101, q101'⟩ := E0a.cell
  obtain ⟨_, _, ⟨T101, L101, k101, n101⟩, -, X101, ⟨Lc101, hQ101, l101, y101, z101⟩, st101⟩ := X0.privateBack hx (y := (⟨"com/example/runpulse/runpulse/KnownKeys", "bit", "(JI)J"⟩ : MethodName)) hown (mvT hZ (hw _ (List.mem_of_getElem? (i := 37) rfl))) (mvT hZ (hw _ (List.mem_of_getElem? (i := 38) rfl))) (own_selp hZ (hw _ (List.mem_of_getElem? (i := 2) rfl)) (hw _ (List.mem_of_getElem? (i := 39) rfl)) (hw _ (List.mem_of_getElem? (i := 38) rfl)) (by decide)) (Cond.privateMethod_at (mvP hZ (hw _ (List.mem_of_getElem? (i := 39) rfl)) (args := #[]))) (mvT hZ (hw _ (List.mem_of_getElem? (i := 40) rfl))) (by decide) (backOf (W := 0) (rmB l Z a0 hw [] a kh (0 : Int32) b kc ln h0 n0 Z0 Fb Vb) hZ (hw _ (List.mem_of_getElem? (i := 40) rfl)) (hw _ (List.mem_of_getElem? (i := 3) rfl)) (by decide) (by decide)) (g := (mkF m 10 #[.val (.ref a), .val (.long kh), .second, .val (.int (0 : Int32)), .unset, .unset] [(.int (0 : Int32)), (.long kh), (.ref a)])) rfl (by rw [hml]; rfl) (Steps.refl _) (a := a) (by rw [e0]; exact q101) q101' (argsL := [(.long kh), (.int (0 : Int32))]) (rest := []) (lenOf pdA_0 rfl) rfl (by show 2 * 0 + _ ≤ _; exact Nat.le_of_eq rfl) (hb hby dA_10) (fun _ _ => ⟨rfl, e0, (by decide : 0 + 0 ≤ _), (by decide : 0 + 0 ≤ _)⟩)
  dsimp only [Pt.U, Pt.locs, Pt.cells, Pt.slots] at X101 l101 y101 z101 st101 hQ101
  subst l101 y101 z101
  obtain ⟨rfl, N101q, eh101⟩ := hQ101
  have N101 := Fr.app N0 N101q
  refine Go.tr st101 ?_
  show Go _ _ _ _ _ _ _ (T101.setTop (mkF m 13 #[.val (.ref a), .val (.long kh), .second, .val (.int (0 : Int32)), .unset, .unset] [(.long (fB kh (0 : Int32) ln))]))
  have Bz102 := own_bb kh (0 : Int32) ln Bl
  generalize (fB kh (0 : Int32) ln) = z102 at Bz102 ⊢
  show Go _ _ _ _ _ _ _ (T101.setTop (mkF m 13 #[.val (.ref a), .val (.long kh), .second, .val (.int (0 : Int32)), .unset, .unset] [(.long z102)]))
  refine Go.by (fun _ kont => XS.lstore X101.here hx rfl (hb hby dA_13) rfl (l' := #[.val (.ref a), .val (.long kh), .second, .val (.int (0 : Int32)), .val (.long z102), .second]) rfl (XS.aloadN X101.here hx rfl (hb hby dA_15) rfl rfl kont)) ?_
  show Go _ _ _ _ _ _ _ (T101.setTop (mkF m 16 #[.val (.ref a), .val (.long kh), .second, .val (.int (0 : Int32)), .val (.long z102), .second] [(.ref a)]))
  obtain ⟨T103, X103, e103, st103⟩ := getF X101 hx hZ hown (host := "") (Or.inl (hw _ (List.mem_of_getElem? (i := 23) rfl))) Via.refl eh101 Fb (g := (mkF m 16 #[.val (.ref a), .val (.long kh), .second, .val (.int (0 : Int32)), .val (.long z102), .second] [(.ref a)])) rfl rfl (hb hby dA_16)
  refine Go.by st103 ?_
  show Go _ _ _ _ _ _ _ (T103.setTop (mkF m 19 #[.val (.ref a), .val (.long kh), .second, .val (.int (0 : Int32)), .val (.long z102), .second] [(.ref b)]))
  refine Go.by (fun _ kont => XS.lload X103.here hx rfl (hb hby dA_19) rfl (XS.bipush X103.here hx rfl (hb hby dA_21) (XS.lushr X103.here hx rfl (hb hby dA_23) rfl (XS.l2i X103.here hx rfl (hb hby dA_24) rfl (XT.dup2 X103.here hx rfl (hb hby dA_25) rfl rfl rfl kont))))) ?_
  show Go _ _ _ _ _ _ _ (T103.setTop (mkF m 26 #[.val (.ref a), .val (.long kh), .second, .val (.int (0 : Int32)), .val (.long z102), .second] [(.int (((z102.toUInt64 >>> ((6 : Int32) &&& 0x3f).toInt64.toUInt64).toInt64).toInt32)), (.ref b), (.int (((z102.toUInt64 >>> ((6 : Int32) &&& 0x3f).toInt64.toUInt64).toInt64).toInt32)), (.ref b)]))
  obtain ⟨cl_q104, Ar_q104, q1_q104, S_q104, N_q104, G_q104⟩ := id Vb
  have hin_q104 : ¬ ((((z102.toUInt64 >>> ((6 : Int32) &&& 0x3f).toInt64.toUInt64).toInt64).toInt32) < 0 ∨ cl_q104.slots.size ≤ ((((z102.toUInt64 >>> ((6 : Int32) &&& 0x3f).toInt64.toUInt64).toInt64).toInt32)).toNatClampNeg) := inb_of S_q104 ⟨(own_ix z102 ln Bl Bz102).1, (own_ix z102 ln Bl Bz102).2⟩
  obtain ⟨xq104, hat_q104⟩ := G_q104 _ (Nat.lt_of_not_le fun y => hin_q104 (Or.inr y))
  refine Go.by (X103.laload hx (j := (((z102.toUInt64 >>> ((6 : Int32) &&& 0x3f).toInt64.toUInt64).toInt64).toInt32)) (v := (.long xq104)) (by first | exact Ar_q104.1 | (rw [e103]; exact Ar_q104.1)) (State.isArrayOf_alike hZ.alike Ar_q104.2.1) Ar_q104.2.2 hin_q104 hat_q104 (g := (mkF m 26 #[.val (.ref a), .val (.long kh), .second, .val (.int (0 : Int32)), .val (.long z102), .second] [(.int (((z102.toUInt64 >>> ((6 : Int32) &&& 0x3f).toInt64.toUInt64).toInt64).toInt32)), (.ref b), (.int (((z102.toUInt64 >>> ((6 : Int32) &&& 0x3f).toInt64.toUInt64).toInt64).toInt32)), (.ref b)])) rfl rfl (hb hby dA_26)) ?_
  show Go _ _ _ _ _ _ _ (T103.setTop (mkF m 27 #[.val (.ref a), .val (.long kh), .second, .val (.int (0 : Int32)), .val (.long z102), .second] [(.long xq104), (.int (((z102.toUInt64 >>> ((6 : Int32) &&& 0x3f).toInt64.toUInt64).toInt64).toInt32)), (.ref b)]))
  refine Go.by (fun _ kont => XS.lconst X103.here hx rfl (hb hby dA_27) (XS.lload X103.here hx rfl (hb hby dA_28) rfl (XS.l2i X103.here hx rfl (hb hby dA_30) rfl (XS.lshl X103.here hx rfl (hb hby dA_31) rfl (XS.lor X103.here hx rfl (hb hby dA_32) rfl kont))))) ?_
  show Go _ _ _ _ _ _ _ (T103.setTop (mkF m 33 #[.val (.ref a), .val (.long kh), .second, .val (.int (0 : Int32)), .val (.long z102), .second] [(.long (xq104 ||| ((1 : Int64) <<< ((z102.toInt32) &&& 0x3f).toInt64))), (.int (((z102.toUInt64 >>> ((6 : Int32) &&& 0x3f).toInt64.toUInt64).toInt64).toInt32)), (.ref b)]))
  obtain ⟨cl_q105, Ar_q105, q1_q105, S_q105, N_q105, G_q105⟩ := id Vb
  have hin_q105 : ¬ ((((z102.toUInt64 >>> ((6 : Int32) &&& 0x3f).toInt64.toUInt64).toInt64).toInt32) < 0 ∨ cl_q105.slots.size ≤ ((((z102.toUInt64 >>> ((6 : Int32) &&& 0x3f).toInt64.toUInt64).toInt64).toInt32)).toNatClampNeg) := inb_of S_q105 ⟨(own_ix z102 ln Bl Bz102).1, (own_ix z102 ln Bl Bz102).2⟩
  obtain ⟨T106, h106, X106, e106, W106, st106⟩ := stJ X103 hx hZ e103 Ar_q105 (j := (((z102.toUInt64 >>> ((6 : Int32) &&& 0x3f).toInt64.toUInt64).toInt64).toInt32)) hin_q105 (g := (mkF m 33 #[.val (.ref a), .val (.long kh), .second, .val (.int (0 : Int32)), .val (.long z102), .second] [(.long (xq104 ||| ((1 : Int64) <<< ((z102.toInt32) &&& 0x3f).toInt64))), (.int (((z102.toUInt64 >>> ((6 : Int32) &&& 0x3f).toInt64.toUInt64).toInt64).toInt32)), (.ref b)])) rfl rfl (hb hby dA_33)
  have V106 := LA.set Ar_q105 q1_q105 S_q105 N_q105 G_q105 W106
  have F107_capacity_a := Fc.other W106 (Or.inl neab)
  have F107_bits_a := Fb.other W106 (Or.inl neab)
  have F107_added_a := Fa.other W106 (Or.inl neab)
  have E107_a := E0a.wr W106
  have Z107 := Nat.le_trans Z0 (Keep.of_wr W106).1
  have K107 : Keep h0 h106 [a, b] := (Keep.refl h0 [a, b]).wr W106 (Or.inl (by simp))
  have N106 := Fr.snoc X106 N101 gb
  refine Go.by st106 ?_
  show Go _ _ _ _ _ _ _ (T106.setTop (mkF m 34 #[.val (.ref a), .val (.long kh), .second, .val (.int (0 : Int32)), .val (.long z102), .second] []))
  refine Go.by (fun _ kont => XS.iinc X106.here hx rfl (hb hby dA_34) rfl (l' := #[.val (.ref a), .val (.long kh), .second, .val (.int (1 : Int32)), .val (.long z102), .second]) rfl (XS.goto X106.here hx rfl (pc0 := 37) (pc' := 2) rfl (hb hby dA_37) (by decide) (by decide) (XS.iloadN X106.here hx rfl (hb hby dA_2) rfl (XS.iconst X106.here hx rfl (hb hby dA_3) kont)))) ?_
  show Go _ _ _ _ _ _ _ (T106.setTop (mkF m 4 #[.val (.ref a), .val (.long kh), .second, .val (.int (1 : Int32)), .val (.long z102), .second] [(.int (3 : Int32)), (.int (1 : Int32))]))
  refine Go.by (fun _ kont => XS.icmpNo X106.here hx rfl (hb hby dA_4) rfl (by decide) kont) ?_
  show Go _ _ _ _ _ _ _ (T106.setTop (mkF m 7 #[.val (.ref a), .val (.long kh), .second, .val (.int (1 : Int32)), .val (.long z102), .second] []))
  refine Go.by (fun _ kont => XS.aloadN X106.here hx rfl (hb hby dA_7) rfl rfl (XS.lloadN X106.here hx rfl (hb hby dA_8) rfl (XS.iloadN X106.here hx rfl (hb hby dA_9) rfl kont))) ?_
  show Go _ _ _ _ _ _ _ (T106.setTop (mkF m 10 #[.val (.ref a), .val (.long kh), .second, .val (.int (1 : Int32)), .val (.long z102), .second] [(.int (1 : Int32)), (.long kh), (.ref a)]))
  obtain ⟨cq108, q108, q108'⟩ := E107_a.cell
  obtain ⟨_, _, ⟨T108, L108, k108, n108⟩, -, X108, ⟨Lc108, hQ108, l108, y108, z108⟩, st108⟩ := X106.privateBack hx (y := (⟨"com/example/runpulse/runpulse/KnownKeys", "bit", "(JI)J"⟩ : MethodName)) hown (mvT hZ (hw _ (List.mem_of_getElem? (i := 37) rfl))) (mvT hZ (hw _ (List.mem_of_getElem? (i := 38) rfl))) (own_selp hZ (hw _ (List.mem_of_getElem? (i := 2) rfl)) (hw _ (List.mem_of_getElem? (i := 39) rfl)) (hw _ (List.mem_of_getElem? (i := 38) rfl)) (by decide)) (Cond.privateMethod_at (mvP hZ (hw _ (List.mem_of_getElem? (i := 39) rfl)) (args := #[]))) (mvT hZ (hw _ (List.mem_of_getElem? (i := 40) rfl))) (by decide) (backOf (W := 0) (rmB l Z a0 hw [] a kh (1 : Int32) b kc ln h106 n0 Z107 F107_bits_a V106) hZ (hw _ (List.mem_of_getElem? (i := 40) rfl)) (hw _ (List.mem_of_getElem? (i := 3) rfl)) (by decide) (by decide)) (g := (mkF m 10 #[.val (.ref a), .val (.long kh), .second, .val (.int (1 : Int32)), .val (.long z102), .second] [(.int (1 : Int32)), (.long kh), (.ref a)])) rfl (by rw [hml]; rfl) (Steps.refl _) (a := a) (by rw [e106]; exact q108) q108' (argsL := [(.long kh), (.int (1 : Int32))]) (rest := []) (lenOf pdA_0 rfl) rfl (by show 2 * 0 + _ ≤ _; exact Nat.le_of_eq rfl) (hb hby dA_10) (fun _ _ => ⟨rfl, e106, (by decide : 0 + 0 ≤ _), (by decide : 0 + 0 ≤ _)⟩)
  dsimp only [Pt.U, Pt.locs, Pt.cells, Pt.slots] at X108 l108 y108 z108 st108 hQ108
  subst l108 y108 z108
  obtain ⟨rfl, N108q, eh108⟩ := hQ108
  have N108 := Fr.app N106 N108q
  refine Go.tr st108 ?_
  show Go _ _ _ _ _ _ _ (T108.setTop (mkF m 13 #[.val (.ref a), .val (.long kh), .second, .val (.int (1 : Int32)), .val (.long z102), .second] [(.long (fB kh (1 : Int32) ln))]))
  have Bz109 := own_bb kh (1 : Int32) ln Bl
  generalize (fB kh (1 : Int32) ln) = z109 at Bz109 ⊢
  show Go _ _ _ _ _ _ _ (T108.setTop (mkF m 13 #[.val (.ref a), .val (.long kh), .second, .val (.int (1 : Int32)), .val (.long z102), .second] [(.long z109)]))
  refine Go.by (fun _ kont => XS.lstore X108.here hx rfl (hb hby dA_13) rfl (l' := #[.val (.ref a), .val (.long kh), .second, .val (.int (1 : Int32)), .val (.long z109), .second]) rfl (XS.aloadN X108.here hx rfl (hb hby dA_15) rfl rfl kont)) ?_
  show Go _ _ _ _ _ _ _ (T108.setTop (mkF m 16 #[.val (.ref a), .val (.long kh), .second, .val (.int (1 : Int32)), .val (.long z109), .second] [(.ref a)]))
  obtain ⟨T110, X110, e110, st110⟩ := getF X108 hx hZ hown (host := "") (Or.inl (hw _ (List.mem_of_getElem? (i := 23) rfl))) Via.refl eh108 F107_bits_a (g := (mkF m 16 #[.val (.ref a), .val (.long kh), .second, .val (.int (1 : Int32)), .val (.long z109), .second] [(.ref a)])) rfl rfl (hb hby dA_16)
  refine Go.by st110 ?_
  show Go _ _ _ _ _ _ _ (T110.setTop (mkF m 19 #[.val (.ref a), .val (.long kh), .second, .val (.int (1 : Int32)), .val (.long z109), .second] [(.ref b)]))
  refine Go.by (fun _ kont => XS.lload X110.here hx rfl (hb hby dA_19) rfl (XS.bipush X110.here hx rfl (hb hby dA_21) (XS.lushr X110.here hx rfl (hb hby dA_23) rfl (XS.l2i X110.here hx rfl (hb hby dA_24) rfl (XT.dup2 X110.here hx rfl (hb hby dA_25) rfl rfl rfl kont))))) ?_
  show Go _ _ _ _ _ _ _ (T110.setTop (mkF m 26 #[.val (.ref a), .val (.long kh), .second, .val (.int (1 : Int32)), .val (.long z109), .second] [(.int (((z109.toUInt64 >>> ((6 : Int32) &&& 0x3f).toInt64.toUInt64).toInt64).toInt32)), (.ref b), (.int (((z109.toUInt64 >>> ((6 : Int32) &&& 0x3f).toInt64.toUInt64).toInt64).toInt32)), (.ref b)]))
  obtain ⟨cl_q111, Ar_q111, q1_q111, S_q111, N_q111, G_q111⟩ := id V106
  have hin_q111 : ¬ ((((z109.toUInt64 >>> ((6 : Int32) &&& 0x3f).toInt64.toUInt64).toInt64).toInt32) < 0 ∨ cl_q111.slots.size ≤ ((((z109.toUInt64 >>> ((6 : Int32) &&& 0x3f).toInt64.toUInt64).toInt64).toInt32)).toNatClampNeg) := inb_of S_q111 ⟨(own_ix z109 ln Bl Bz109).1, (own_ix z109 ln Bl Bz109).2⟩
  obtain ⟨xq111, hat_q111⟩ := G_q111 _ (Nat.lt_of_not_le fun y => hin_q111 (Or.inr y))
  refine Go.by (X110.laload hx (j := (((z109.toUInt64 >>> ((6 : Int32) &&& 0x3f).toInt64.toUInt64).toInt64).toInt32)) (v := (.long xq111)) (by first | exact Ar_q111.1 | (rw [e110]; exact Ar_q111.1)) (State.isArrayOf_alike hZ.alike Ar_q111.2.1) Ar_q111.2.2 hin_q111 hat_q111 (g := (mkF m 26 #[.val (.ref a), .val (.long kh), .second, .val (.int (1 : Int32)), .val (.long z109), .second] [(.int (((z109.toUInt64 >>> ((6 : Int32) &&& 0x3f).toInt64.toUInt64).toInt64).toInt32)), (.ref b), (.int (((z109.toUInt64 >>> ((6 : Int32) &&& 0x3f).toInt64.toUInt64).toInt64).toInt32)), (.ref b)])) rfl rfl (hb hby dA_26)) ?_
  show Go _ _ _ _ _ _ _ (T110.setTop (mkF m 27 #[.val (.ref a), .val (.long kh), .second, .val (.int (1 : Int32)), .val (.long z109), .second] [(.long xq111), (.int (((z109.toUInt64 >>> ((6 : Int32) &&& 0x3f).toInt64.toUInt64).toInt64).toInt32)), (.ref b)]))
  refine Go.by (fun _ kont => XS.lconst X110.here hx rfl (hb hby dA_27) (XS.lload X110.here hx rfl (hb hby dA_28) rfl (XS.l2i X110.here hx rfl (hb hby dA_30) rfl (XS.lshl X110.here hx rfl (hb hby dA_31) rfl (XS.lor X110.here hx rfl (hb hby dA_32) rfl kont))))) ?_
  show Go _ _ _ _ _ _ _ (T110.setTop (mkF m 33 #[.val (.ref a), .val (.long kh), .second, .val (.int (1 : Int32)), .val (.long z109), .second] [(.long (xq111 ||| ((1 : Int64) <<< ((z109.toInt32) &&& 0x3f).toInt64))), (.int (((z109.toUInt64 >>> ((6 : Int32) &&& 0x3f).toInt64.toUInt64).toInt64).toInt32)), (.ref b)]))
  obtain ⟨cl_q112, Ar_q112, q1_q112, S_q112, N_q112, G_q112⟩ := id V106
  have hin_q112 : ¬ ((((z109.toUInt64 >>> ((6 : Int32) &&& 0x3f).toInt64.toUInt64).toInt64).toInt32) < 0 ∨ cl_q112.slots.size ≤ ((((z109.toUInt64 >>> ((6 : Int32) &&& 0x3f).toInt64.toUInt64).toInt64).toInt32)).toNatClampNeg) := inb_of S_q112 ⟨(own_ix z109 ln Bl Bz109).1, (own_ix z109 ln Bl Bz109).2⟩
  obtain ⟨T113, h113, X113, e113, W113, st113⟩ := stJ X110 hx hZ e110 Ar_q112 (j := (((z109.toUInt64 >>> ((6 : Int32) &&& 0x3f).toInt64.toUInt64).toInt64).toInt32)) hin_q112 (g := (mkF m 33 #[.val (.ref a), .val (.long kh), .second, .val (.int (1 : Int32)), .val (.long z109), .second] [(.long (xq111 ||| ((1 : Int64) <<< ((z109.toInt32) &&& 0x3f).toInt64))), (.int (((z109.toUInt64 >>> ((6 : Int32) &&& 0x3f).toInt64.toUInt64).toInt64).toInt32)), (.ref b)])) rfl rfl (hb hby dA_33)
  have V113 := LA.set Ar_q112 q1_q112 S_q112 N_q112 G_q112 W113
  have F114_capacity_a := F107_capacity_a.other W113 (Or.inl neab)
  have F114_bits_a := F107_bits_a.other W113 (Or.inl neab)
  have F114_added_a := F107_added_a.other W113 (Or.inl neab)
  have E114_a := E107_a.wr W113
  have Z114 := Nat.le_trans Z107 (Keep.of_wr W113).1
  have K114 : Keep h0 h113 [a, b] := K107.wr W113 (Or.inl (by simp))
  have N113 := Fr.snoc X113 N108 gb
  refine Go.by st113 ?_
  show Go _ _ _ _ _ _ _ (T113.setTop (mkF m 34 #[.val (.ref a), .val (.long kh), .second, .val (.int (1 : Int32)), .val (.long z109), .second] []))
  refine Go.by (fun _ kont => XS.iinc X113.here hx rfl (hb hby dA_34) rfl (l' := #[.val (.ref a), .val (.long kh), .second, .val (.int (2 : Int32)), .val (.long z109), .second]) rfl (XS.goto X113.here hx rfl (pc0 := 37) (pc' := 2) rfl (hb hby dA_37) (by decide) (by decide) (XS.iloadN X113.here hx rfl (hb hby dA_2) rfl (XS.iconst X113.here hx rfl (hb hby dA_3) kont)))) ?_
  show Go _ _ _ _ _ _ _ (T113.setTop (mkF m 4 #[.val (.ref a), .val (.long kh), .second, .val (.int (2 : Int32)), .val (.long z109), .second] [(.int (3 : Int32)), (.int (2 : Int32))]))
  refine Go.by (fun _ kont => XS.icmpNo X113.here hx rfl (hb hby dA_4) rfl (by decide) kont) ?_
  show Go _ _ _ _ _ _ _ (T113.setTop (mkF m 7 #[.val (.ref a), .val (.long kh), .second, .val (.int (2 : Int32)), .val (.long z109), .second] []))
  refine Go.by (fun _ kont => XS.aloadN X113.here hx rfl (hb hby dA_7) rfl rfl (XS.lloadN X113.here hx rfl (hb hby dA_8) rfl (XS.iloadN X113.here hx rfl (hb hby dA_9) rfl kont))) ?_
  show Go _ _ _ _ _ _ _ (T113.setTop (mkF m 10 #[.val (.ref a), .val (.long kh), .second, .val (.int (2 : Int32)), .val (.long z109), .second] [(.int (2 : Int32)), (.long kh), (.ref a)]))
  obtain ⟨cq115, q115, q115'⟩ := E114_a.cell
  obtain ⟨_, _, ⟨T115, L115, k115, n115⟩, -, X115, ⟨Lc115, hQ115, l115, y115, z115⟩, st115⟩ := X113.privateBack hx (y := (⟨"com/example/runpulse/runpulse/KnownKeys", "bit", "(JI)J"⟩ : MethodName)) hown (mvT hZ (hw _ (List.mem_of_getElem? (i := 37) rfl))) (mvT hZ (hw _ (List.mem_of_getElem? (i := 38) rfl))) (own_selp hZ (hw _ (List.mem_of_getElem? (i := 2) rfl)) (hw _ (List.mem_of_getElem? (i := 39) rfl)) (hw _ (List.mem_of_getElem? (i := 38) rfl)) (by decide)) (Cond.privateMethod_at (mvP hZ (hw _ (List.mem_of_getElem? (i := 39) rfl)) (args := #[]))) (mvT hZ (hw _ (List.mem_of_getElem? (i := 40) rfl))) (by decide) (backOf (W := 0) (rmB l Z a0 hw [] a kh (2 : Int32) b kc ln h113 n0 Z114 F114_bits_a V113) hZ (hw _ (List.mem_of_getElem? (i := 40) rfl)) (hw _ (List.mem_of_getElem? (i := 3) rfl)) (by decide) (by decide)) (g := (mkF m 10 #[.val (.ref a), .val (.long kh), .second, .val (.int (2 : Int32)), .val (.long z109), .second] [(.int (2 : Int32)), (.long kh), (.ref a)])) rfl (by rw [hml]; rfl) (Steps.refl _) (a := a) (by rw [e113]; exact q115) q115' (argsL := [(.long kh), (.int (2 : Int32))]) (rest := []) (lenOf pdA_0 rfl) rfl (by show 2 * 0 + _ ≤ _; exact Nat.le_of_eq rfl) (hb hby dA_10) (fun _ _ => ⟨rfl, e113, (by decide : 0 + 0 ≤ _), (by decide : 0 + 0 ≤ _)⟩)
  dsimp only [Pt.U, Pt.locs, Pt.cells, Pt.slots] at X115 l115 y115 z115 st115 hQ115
  subst l115 y115 z115
  obtain ⟨rfl, N115q, eh115⟩ := hQ115
  have N115 := Fr.app N113 N115q
  refine Go.tr st115 ?_
  show Go _ _ _ _ _ _ _ (T115.setTop (mkF m 13 #[.val (.ref a), .val (.long kh), .second, .val (.int (2 : Int32)), .val (.long z109), .second] [(.long (fB kh (2 : Int32) ln))]))
  have Bz116 := own_bb kh (2 : Int32) ln Bl
  generalize (fB kh (2 : Int32) ln) = z116 at Bz116 ⊢
  show Go _ _ _ _ _ _ _ (T115.setTop (mkF m 13 #[.val (.ref a), .val (.long kh), .second, .val (.int (2 : Int32)), .val (.long z109), .second] [(.long z116)]))
  refine Go.by (fun _ kont => XS.lstore X115.here hx rfl (hb hby dA_13) rfl (l' := #[.val (.ref a), .val (.long kh), .second, .val (.int (2 : Int32)), .val (.long z116), .second]) rfl (XS.aloadN X115.here hx rfl (hb hby dA_15) rfl rfl kont)) ?_
  show Go _ _ _ _ _ _ _ (T115.setTop (mkF m 16 #[.val (.ref a), .val (.long kh), .second, .val (.int (2 : Int32)), .val (.long z116), .second] [(.ref a)]))
  obtain ⟨T117, X117, e117, st117⟩ := getF X115 hx hZ hown (host := "") (Or.inl (hw _ (List.mem_of_getElem? (i := 23) rfl))) Via.refl eh115 F114_bits_a (g := (mkF m 16 #[.val (.ref a), .val (.long kh), .second, .val (.int (2 : Int32)), .val (.long z116), .second] [(.ref a)])) rfl rfl (hb hby dA_16)
  refine Go.by st117 ?_
  show Go _ _ _ _ _ _ _ (T117.setTop (mkF m 19 #[.val (.ref a), .val (.long kh), .second, .val (.int (2 : Int32)), .val (.long z116), .second] [(.ref b)]))
  refine Go.by (fun _ kont => XS.lload X117.here hx rfl (hb hby dA_19) rfl (XS.bipush X117.here hx rfl (hb hby dA_21) (XS.lushr X117.here hx rfl (hb hby dA_23) rfl (XS.l2i X117.here hx rfl (hb hby dA_24) rfl (XT.dup2 X117.here hx rfl (hb hby dA_25) rfl rfl rfl kont))))) ?_
  show Go _ _ _ _ _ _ _ (T117.setTop (mkF m 26 #[.val (.ref a), .val (.long kh), .second, .val (.int (2 : Int32)), .val (.long z116), .second] [(.int (((z116.toUInt64 >>> ((6 : Int32) &&& 0x3f).toInt64.toUInt64).toInt64).toInt32)), (.ref b), (.int (((z116.toUInt64 >>> ((6 : Int32) &&& 0x3f).toInt64.toUInt64).toInt64).toInt32)), (.ref b)]))
  obtain ⟨cl_q118, Ar_q118, q1_q118, S_q118, N_q118, G_q118⟩ := id V113
  have hin_q118 : ¬ ((((z116.toUInt64 >>> ((6 : Int32) &&& 0x3f).toInt64.toUInt64).toInt64).toInt32) < 0 ∨ cl_q118.slots.size ≤ ((((z116.toUInt64 >>> ((6 : Int32) &&& 0x3f).toInt64.toUInt64).toInt64).toInt32)).toNatClampNeg) := inb_of S_q118 ⟨(own_ix z116 ln Bl Bz116).1, (own_ix z116 ln Bl Bz116).2⟩
  obtain ⟨xq118, hat_q118⟩ := G_q118 _ (Nat.lt_of_not_le fun y => hin_q118 (Or.inr y))
  refine Go.by (X117.laload hx (j := (((z116.toUInt64 >>> ((6 : Int32) &&& 0x3f).toInt64.toUInt64).toInt64).toInt32)) (v := (.long xq118)) (by first | exact Ar_q118.1 | (rw [e117]; exact Ar_q118.1)) (State.isArrayOf_alike hZ.alike Ar_q118.2.1) Ar_q118.2.2 hin_q118 hat_q118 (g := (mkF m 26 #[.val (.ref a), .val (.long kh), .second, .val (.int (2 : Int32)), .val (.long z116), .second] [(.int (((z116.toUInt64 >>> ((6 : Int32) &&& 0x3f).toInt64.toUInt64).toInt64).toInt32)), (.ref b), (.int (((z116.toUInt64 >>> ((6 : Int32) &&& 0x3f).toInt64.toUInt64).toInt64).toInt32)), (.ref b)])) rfl rfl (hb hby dA_26)) ?_
  show Go _ _ _ _ _ _ _ (T117.setTop (mkF m 27 #[.val (.ref a), .val (.long kh), .second, .val (.int (2 : Int32)), .val (.long z116), .second] [(.long xq118), (.int (((z116.toUInt64 >>> ((6 : Int32) &&& 0x3f).toInt64.toUInt64).toInt64).toInt32)), (.ref b)]))
  refine Go.by (fun _ kont => XS.lconst X117.here hx rfl (hb hby dA_27) (XS.lload X117.here hx rfl (hb hby dA_28) rfl (XS.l2i X117.here hx rfl (hb hby dA_30) rfl (XS.lshl X117.here hx rfl (hb hby dA_31) rfl (XS.lor X117.here hx rfl (hb hby dA_32) rfl kont))))) ?_
  show Go _ _ _ _ _ _ _ (T117.setTop (mkF m 33 #[.val (.ref a), .val (.long kh), .second, .val (.int (2 : Int32)), .val (.long z116), .second] [(.long (xq118 ||| ((1 : Int64) <<< ((z116.toInt32) &&& 0x3f).toInt64))), (.int (((z116.toUInt64 >>> ((6 : Int32) &&& 0x3f).toInt64.toUInt64).toInt64).toInt32)), (.ref b)]))
  obtain ⟨cl_q119, Ar_q119, q1_q119, S_q119, N_q119, G_q119⟩ := id V113
  have hin_q119 : ¬ ((((z116.toUInt64 >>> ((6 : Int32) &&& 0x3f).toInt64.toUInt64).toInt64).toInt32) < 0 ∨ cl_q119.slots.size ≤ ((((z116.toUInt64 >>> ((6 : Int32) &&& 0x3f).toInt64.toUInt64).toInt64).toInt32)).toNatClampNeg) := inb_of S_q119 ⟨(own_ix z116 ln Bl Bz116).1, (own_ix z116 ln Bl Bz116).2⟩
  obtain ⟨T120, h120, X120, e120, W120, st120⟩ := stJ X117 hx hZ e117 Ar_q119 (j := (((z116.toUInt64 >>> ((6 : Int32) &&& 0x3f).toInt64.toUInt64).toInt64).toInt32)) hin_q119 (g := (mkF m 33 #[.val (.ref a), .val (.long kh), .second, .val (.int (2 : Int32)), .val (.long z116), .second] [(.long (xq118 ||| ((1 : Int64) <<< ((z116.toInt32) &&& 0x3f).toInt64))), (.int (((z116.toUInt64 >>> ((6 : Int32) &&& 0x3f).toInt64.toUInt64).toInt64).toInt32)), (.ref b)])) rfl rfl (hb hby dA_33)
  have V120 := LA.set Ar_q119 q1_q119 S_q119 N_q119 G_q119 W120
  have F121_capacity_a := F114_capacity_a.other W120 (Or.inl neab)
  have F121_bits_a := F114_bits_a.other W120 (Or.inl neab)
  have F121_added_a := F114_added_a.other W120 (Or.inl neab)
  have E121_a := E114_a.wr W120
  have Z121 := Nat.le_trans Z114 (Keep.of_wr W120).1
  have K121 : Keep h0 h120 [a, b] := K114.wr W120 (Or.inl (by simp))
  have N120 := Fr.snoc X120 N115 gb
  refine Go.by st120 ?_
  show Go _ _ _ _ _ _ _ (T120.setTop (mkF m 34 #[.val (.ref a), .val (.long kh), .second, .val (.int (2 : Int32)), .val (.long z116), .second] []))
  refine Go.by (fun _ kont => XS.iinc X120.here hx rfl (hb hby dA_34) rfl (l' := #[.val (.ref a), .val (.long kh), .second, .val (.int (3 : Int32)), .val (.long z116), .second]) rfl (XS.goto X120.here hx rfl (pc0 := 37) (pc' := 2) rfl (hb hby dA_37) (by decide) (by decide) (XS.iloadN X120.here hx rfl (hb hby dA_2) rfl (XS.iconst X120.here hx rfl (hb hby dA_3) kont)))) ?_
  show Go _ _ _ _ _ _ _ (T120.setTop (mkF m 4 #[.val (.ref a), .val (.long kh), .second, .val (.int (3 : Int32)), .val (.long z116), .second] [(.int (3 : Int32)), (.int (3 : Int32))]))
  refine Go.by (fun _ kont => XS.icmpYes X120.here hx rfl (pc0 := 4) (pc' := 40) rfl (hb hby dA_4) rfl (by decide) (by decide) (by decide) kont) ?_
  show Go _ _ _ _ _ _ _ (T120.setTop (mkF m 40 #[.val (.ref a), .val (.long kh), .second, .val (.int (3 : Int32)), .val (.long z116), .second] []))
  refine Go.by (fun _ kont => XS.aloadN X120.here hx rfl (hb hby dA_40) rfl rfl (XS.dup X120.here hx rfl (hb hby dA_41) rfl rfl kont)) ?_
  show Go _ _ _ _ _ _ _ (T120.setTop (mkF m 42 #[.val (.ref a), .val (.long kh), .second, .val (.int (3 : Int32)), .val (.long z116), .second] [(.ref a), (.ref a)]))
  obtain ⟨T122, X122, e122, st122⟩ := getF X120 hx hZ hown (host := "") (Or.inl (hw _ (List.mem_of_getElem? (i := 30) rfl))) Via.refl e120 F121_added_a (g := (mkF m 42 #[.val (.ref a), .val (.long kh), .second, .val (.int (3 : Int32)), .val (.long z116), .second] [(.ref a), (.ref a)])) rfl rfl (hb hby dA_42)
  refine Go.by st122 ?_
  show Go _ _ _ _ _ _ _ (T122.setTop (mkF m 45 #[.val (.ref a), .val (.long kh), .second, .val (.int (3 : Int32)), .val (.long z116), .second] [(.long ad), (.ref a)]))
  refine Go.by (fun _ kont => XS.lconst X122.here hx rfl (hb hby dA_45) (XS.ladd X122.here hx rfl (hb hby dA_46) rfl kont)) ?_
  show Go _ _ _ _ _ _ _ (T122.setTop (mkF m 47 #[.val (.ref a), .val (.long kh), .second, .val (.int (3 : Int32)), .val (.long z116), .second] [(.long (ad + (1 : Int64))), (.ref a)]))
  obtain ⟨T123, h123, X123, e123, W123, st123⟩ := putF X122 hx hZ hown (host := "") (Or.inl (hw _ (List.mem_of_getElem? (i := 30) rfl))) Via.refl e122 F121_added_a E121_a (Or.inl (hw _ (List.mem_of_getElem? (i := 31) rfl))) (hw _ (List.mem_of_getElem? (i := 2) rfl)) (ty := .long) (by decide) rfl rfl (g := (mkF m 47 #[.val (.ref a), .val (.long kh), .second, .val (.int (3 : Int32)), .val (.long z116), .second] [(.long (ad + (1 : Int64))), (.ref a)])) rfl rfl (hb hby dA_47)
  have Fw123 := F121_added_a.same W123
  have F124_capacity_a := F121_capacity_a.other W123 (Or.inr (slot_ne (Or.inr (hw _ (List.mem_of_getElem? (i := 15) rfl))) (Or.inl (hw _ (List.mem_of_getElem? (i := 31) rfl))) (by decide) (t := .long) (t' := .long) (by decide) (by decide)))
  have F124_bits_a := F121_bits_a.other W123 (Or.inr (slot_ne (Or.inr (hw _ (List.mem_of_getElem? (i := 24) rfl))) (Or.inl (hw _ (List.mem_of_getElem? (i := 31) rfl))) (by decide) (t := (.array .long)) (t' := .long) (by decide) (by decide)))
  have E124_a := E121_a.wr W123
  have V124_b := V120.other W123 (Ne.symm neab)
  have Z124 := Nat.le_trans Z121 (Keep.of_wr W123).1
  have K124 : Keep h0 h123 [a, b] := K121.wr W123 (Or.inl (by simp))
  have N123 := Fr.snoc X123 N120 ga
  refine Go.by st123 ?_
  show Go _ _ _ _ _ _ _ (T123.setTop (mkF m 50 #[.val (.ref a), .val (.long kh), .second, .val (.int (3 : Int32)), .val (.long z116), .second] []))
  refine Go.retV X123 hx hret hlk (hb hby dA_50) ?_ (by decide) (by decide)
  show QA Z a mm b ad kc ln h0 n0 none T123.heap _
  rw [e123]
  exact ⟨rfl, N123, K124, E124_a, F124_capacity_a, F124_bits_a, Fw123, V124_b⟩

theorem own_cp (y : Int64) : -7 ≤ (y - (y / (8 : Int64)) * (8 : Int64)).toInt ∧ (y - (y / (8 : Int64)) * (8 : Int64)).toInt ≤ 7 := by
  have h := c_lrem y 8 8 (by decide)
  by_cases c : 0 ≤ y.toInt
  · rw [h.1 c]; omega
  · rw [h.2 (by omega)]; omega
theorem own_mm (cp : Int64) (B : -7 ≤ cp.toInt ∧ cp.toInt ≤ 7) : 1 ≤ (fMa (1 : Int64) cp).toInt ∧ (fMa (1 : Int64) cp).toInt ≤ 7 := by
  unfold fMa
  have e1 : (1 : Int64).toInt = 1 := by decide
  split
  · rename_i c; rw [Int64.lt_iff_toInt_lt, e1] at c; omega
  · rw [e1]; omega
theorem own_n7 (y : Int32) : 0 ≤ (y &&& (7 : Int32)).toInt ∧ (y &&& (7 : Int32)).toInt ≤ 7 := by
  have h := c_mask y 7 3 (by decide) (by decide)
  rw [h]; omega
theorem own_before (mm : Int64) (B : 1 ≤ mm.toInt ∧ mm.toInt ≤ 7) : fFu (0 : Int64) mm = 0 := by
  unfold fFu
  rw [if_neg (by rw [Int64.lt_iff_toInt_lt, show (0 : Int64).toInt = 0 from by decide]; omega)]
theorem own_m1 (cp mm : Int64) (hm : fMa (1 : Int64) cp = mm) (h : cp < 1) : mm = 1 := by
  unfold fMa at hm
  rw [if_neg (by rw [Int64.lt_iff_toInt_lt] at h ⊢; omega)] at hm
  exact hm.symm
theorem own_m2 (cp mm : Int64) (hm : fMa (1 : Int64) cp = mm) (h : ¬ cp < 1) : mm = cp := by
  unfold fMa at hm
  by_cases c : (1 : Int64) < cp
  · rw [if_pos c] at hm; exact hm.symm
  · rw [if_neg c] at hm
    rw [← hm]
    rw [Int64.lt_iff_toInt_lt] at h c
    rw [← Int64.toInt_inj]; omega
theorem own_fT (mm y : Int64) (h : mm < y) : fFu y mm = 1 := by unfold fFu; rw [if_pos h]
theorem own_fF (mm y : Int64) (h : ¬ mm < y) : fFu y mm = 0 := by unfold fFu; rw [if_neg h]

theorem pd0_0 : parseMethodDescriptor "(J)V" = some ⟨[.long], none⟩ := by decide +kernel
theorem pd0_1 : parseMethodDescriptor "()Z" = some ⟨[], some .boolean⟩ := by decide +kernel
theorem pn0 : plainName "com/example/runpulse/runpulse/KnownKeysIsFullPinLaw" = true := by first | (simp [plainName, overriddenIn]; done) | decide +kernel
theorem ef0 (m : MethodId) (c1 : Int64) (k1 : Int32) (h1 : Int64) (g1 : Int64) : entryFrame m #[(.long c1), (.int k1), (.long h1), (.long g1)] maxLocals = mkF m 0 #[.val (.long c1), .second, .val (.int k1), .val (.long h1), .second, .val (.long g1), .second, .unset, .unset, .unset, .unset, .unset, .unset, .unset, .unset] [] := by first | (simp [entryFrame, mkF, argsToLocals, Value.category, maxLocals]; done) | rfl
def Q0 (Z : State) (h0 : Heap) (n0 : Nat) (v : Option Value) (h : Heap) (L : List Loc) : Prop := v = some (.int 1) ∧ Fr n0 L
set_option maxRecDepth 65536 in
set_option maxHeartbeats 40000000 in
theorem rm0 (l : Launch) (Z : State) (a0 : Array Value) (hw : ∀ d ∈ tables_1, d.before a0 Z = true) (ws : List Jvm.Cond) (c1 : Int64) (k1 : Int32) (h1 : Int64) (g1 : Int64) (h0 : Heap) (n0 : Nat) (Z0 : n0 ≤ h0.size) :
    MetFree l x (head1 (Jvm.Cond.code x code maxLocals ret :: ws) room_1) (fun aa_ U_ => aa_ = #[(.long c1), (.int k1), (.long h1), (.long g1)] ∧ Z.Warmed39 U_.vm ∧ U_.heap = h0) (fun _ _ _ _ _ => True) (fun _ U_ o_ V_ => ∃ v_ L_, o_ = .returned v_ ∧ Q0 Z h0 n0 v_ V_.heap L_ ∧ FrameEnd U_ o_ V_ L_ 16 128) := by
  refine MetFree.of_bodySF (plainFor_of_name pn0) hisR ?_
  intro p e s m args below meth c s₁ Bd hml0 hP hK
  obtain ⟨rfl, hZ, hh⟩ := hP
  have hx := Bd.exec
  have hby := Bd.bytes
  have hml : c.maxLocals = 15 := hml0
  have hown : s.vm.findClass "com/example/runpulse/runpulse/KnownKeysIsFullPinLaw" = some m.cls := findClass_of_methodNamed Bd.named
  have hnm := (name_of_methodNamed Bd.named Bd.method).1
  have hlk : meth.locks = false := BodyLoose.notSynchronized Bd
  have hret : meth.sig.returnType = (some .boolean) := Bd.returns
  have X0 : Stand p l e room_1 s m #[(.long c1), (.int k1), (.long h1), (.long g1)] below meth c s₁ [] 0 0 := Stand.of_body Bd
  have e0 : s₁.heap = h0 := by rw [← hh, Bd.state]; rfl
  have N0 := Fr.nil n0
  show Go p e below s 16 128 (Q0 Z h0 n0) (s₁.setTop (entryFrame m #[(.long c1), (.int k1), (.long h1), (.long g1)] maxLocals))
  rw [ef0]
  refine Go.by (fun _ kont => XS.lloadN X0.here hx rfl (hb hby at_0) rfl (X0.ldc2Long hx hown (mvT hZ (hw _ (List.mem_of_getElem? (i := 0) rfl))) (g := (mkF m 1 #[.val (.long c1), .second, .val (.int k1), .val (.long h1), .second, .val (.long g1), .second, .unset, .unset, .unset, .unset, .unset, .unset, .unset, .unset] [(.long c1)])) rfl (hb hby at_1) _ (XS.lrem X0.here hx rfl (hb hby at_4) rfl (by decide) (XS.lstore X0.here hx rfl (hb hby at_5) rfl (l' := #[.val (.long c1), .second, .val (.int k1), .val (.long h1), .second, .val (.long g1), .second, .val (.long (c1 - (c1 / (8 : Int64)) * (8 : Int64))), .second, .unset, .unset, .unset, .unset, .unset, .unset]) rfl kont)))) ?_
  show Go _ _ _ _ _ _ _ (s₁.setTop (mkF m 7 #[.val (.long c1), .second, .val (.int k1), .val (.long h1), .second, .val (.long g1), .second, .val (.long (c1 - (c1 / (8 : Int64)) * (8 : Int64))), .second, .unset, .unset, .unset, .unset, .unset, .unset] []))
  have Bc := own_cp c1
  generalize (c1 - (c1 / (8 : Int64)) * (8 : Int64)) = cp at Bc ⊢
  have Bm := own_mm cp Bc
  obtain ⟨mm, hm⟩ : ∃ z, fMa (1 : Int64) cp = z := ⟨_, rfl⟩
  rw [hm] at Bm
  show Go _ _ _ _ _ _ _ (s₁.setTop (mkF m 7 #[.val (.long c1), .second, .val (.int k1), .val (.long h1), .second, .val (.long g1), .second, .val (.long cp), .second, .unset, .unset, .unset, .unset, .unset, .unset] []))
  refine Go.by (fun _ kont => XS.iloadN X0.here hx rfl (hb hby at_7) rfl (XS.bipush X0.here hx rfl (hb hby at_8) (XS.iand X0.here hx rfl (hb hby at_10) rfl (XS.istore X0.here hx rfl (hb hby at_11) rfl (l' := #[.val (.long c1), .second, .val (.int k1), .val (.long h1), .second, .val (.long g1), .second, .val (.long cp), .second, .val (.int (k1 &&& (7 : Int32))), .unset, .unset, .unset, .unset, .unset]) rfl kont)))) ?_
  show Go _ _ _ _ _ _ _ (s₁.setTop (mkF m 13 #[.val (.long c1), .second, .val (.int k1), .val (.long h1), .second, .val (.long g1), .second, .val (.long cp), .second, .val (.int (k1 &&& (7 : Int32))), .unset, .unset, .unset, .unset, .unset] []))
  have Bn := own_n7 k1
  generalize (k1 &&& (7 : Int32)) = nn at Bn ⊢
  show Go _ _ _ _ _ _ _ (s₁.setTop (mkF m 13 #[.val (.long c1), .second, .val (.int k1), .val (.long h1), .second, .val (.long g1), .second, .val (.long cp), .second, .val (.int nn), .unset, .unset, .unset, .unset, .unset] []))
  obtain ⟨T101, h101, X101, e101, X_101, A101, D101, -, st101⟩ := newO X0 hx hZ hown (hw _ (List.mem_of_getElem? (i := 1) rfl)) (hw _ (List.mem_of_getElem? (i := 2) rfl)) (hw _ (List.mem_of_getElem? (i := 3) rfl)) e0 (g := (mkF m 13 #[.val (.long c1), .second, .val (.int k1), .val (.long h1), .second, .val (.long g1), .second, .val (.long cp), .second, .val (.int nn), .unset, .unset, .unset, .unset, .unset] [])) rfl (hb hby at_13) (by decide) (by decide)
  obtain ⟨b101, g101⟩ : ∃ z, z = h0.size := ⟨_, rfl⟩
  rw [← g101] at A101 D101 st101
  have ge_b101 : n0 ≤ b101 := Nat.le_trans Z0 (Nat.le_of_eq g101.symm)
  have sz_b101 : h0.size ≤ b101 := Nat.le_trans (Keep.refl h0 []).1 (Nat.le_of_eq g101.symm)
  have Z102 := Nat.le_trans Z0 X_101.1
  have K102 : Keep h0 h101 [] := (Keep.refl h0 []).ext X_101
  have F101_capacity : Fld Z h101 b101 "com/example/runpulse/runpulse/KnownKeys" "capacity" "J" (.long (0 : Int64)) := D101 (Or.inr (hw _ (List.mem_of_getElem? (i := 15) rfl))) (ty := .long) (by decide)
  have F101_bits : Fld Z h101 b101 "com/example/runpulse/runpulse/KnownKeys" "bits" "[J" .null := D101 (Or.inr (hw _ (List.mem_of_getElem? (i := 24) rfl))) (ty := (.array .long)) (by decide)
  have F101_added : Fld Z h101 b101 "com/example/runpulse/runpulse/KnownKeys" "added" "J" (.long (0 : Int64)) := D101 (Or.inl (hw _ (List.mem_of_getElem? (i := 31) rfl))) (ty := .long) (by decide)
  refine Go.by st101 ?_
  show Go _ _ _ _ _ _ _ (T101.setTop (mkF m 16 #[.val (.long c1), .second, .val (.int k1), .val (.long h1), .second, .val (.long g1), .second, .val (.long cp), .second, .val (.int nn), .unset, .unset, .unset, .unset, .unset] [(.ref b101)]))
  refine Go.by (fun _ kont => XS.dup X101.here hx rfl (hb hby at_16) rfl rfl (XS.lload X101.here hx rfl (hb hby at_17) rfl kont)) ?_
  show Go _ _ _ _ _ _ _ (T101.setTop (mkF m 19 #[.val (.long c1), .second, .val (.int k1), .val (.long h1), .second, .val (.long g1), .second, .val (.long cp), .second, .val (.int nn), .unset, .unset, .unset, .unset, .unset] [(.long cp), (.ref b101), (.ref b101)]))
  obtain ⟨_, _, ⟨T103, L103, k103, n103⟩, -, X103, ⟨Lc103, hQ103, l103, y103, z103⟩, st103⟩ := X101.specialBack hx (y := (⟨"com/example/runpulse/runpulse/KnownKeys", "<init>", "(J)V"⟩ : MethodName)) rfl hown (mvT hZ (hw _ (List.mem_of_getElem? (i := 4) rfl))) (mvT hZ (hw _ (List.mem_of_getElem? (i := 5) rfl))) (mvT hZ (hw _ (List.mem_of_getElem? (i := 6) rfl))) (by decide) (backOf (W := 1) (rmI l Z a0 hw [] b101 cp mm h101 n0 Z102 A101 F101_capacity F101_bits F101_added ge_b101 hm Bm) hZ (hw _ (List.mem_of_getElem? (i := 6) rfl)) (hw _ (List.mem_of_getElem? (i := 3) rfl)) (by decide) (by decide)) (g := (mkF m 19 #[.val (.long c1), .second, .val (.int k1), .val (.long h1), .second, .val (.long g1), .second, .val (.long cp), .second, .val (.int nn), .unset, .unset, .unset, .unset, .unset] [(.long cp), (.ref b101), (.ref b101)])) rfl (by rw [hml]; rfl) (Steps.refl _) (a := b101) (argsL := [(.long cp)]) (rest := [(.ref b101)]) (lenOf pd0_0 rfl) rfl (by show 2 * 0 + _ ≤ _; exact Nat.le_of_eq rfl) (hb hby at_19) (fun _ _ => ⟨rfl, e101, (by decide : 1 + 1 ≤ _), (by decide : 3 + 2 ≤ _)⟩)
  dsimp only [Pt.U, Pt.locs, Pt.cells, Pt.slots] at X103 l103 y103 z103 st103 hQ103
  subst l103 y103 z103
  obtain ⟨bb, kcb, ln, rfl, N103q, K103, ge_bb, szc_bb, Bl, E103z, Fc103, Fb103, Fa103, V103z⟩ := hQ103
  have ne_b101_bb : b101 ≠ bb := Nat.ne_of_lt (Nat.lt_of_lt_of_le A101.lt szc_bb)
  have sz_bb : h0.size ≤ bb := Nat.le_trans K102.1 szc_bb
  have E104_b101 := A101.keep K103
  have Z104 := Nat.le_trans Z102 K103.1
  have K104 : Keep h0 T103.heap [] := Keep.trans K102 K103 (allS (Or.inr sz_b101) all0)
  have N103 := Fr.app N0 N103q
  refine Go.tr st103 ?_
  show Go _ _ _ _ _ _ _ (T103.setTop (mkF m 22 #[.val (.long c1), .second, .val (.int k1), .val (.long h1), .second, .val (.long g1), .second, .val (.long cp), .second, .val (.int nn), .unset, .unset, .unset, .unset, .unset] [(.ref b101)]))
  refine Go.by (fun _ kont => XS.astore X103.here hx rfl (hb hby at_22) rfl rfl (l' := #[.val (.long c1), .second, .val (.int k1), .val (.long h1), .second, .val (.long g1), .second, .val (.long cp), .second, .val (.int nn), .val (.ref b101), .unset, .unset, .unset, .unset]) rfl (XS.aload X103.here hx rfl (hb hby at_24) rfl rfl kont)) ?_
  show Go _ _ _ _ _ _ _ (T103.setTop (mkF m 26 #[.val (.long c1), .second, .val (.int k1), .val (.long h1), .second, .val (.long g1), .second, .val (.long cp), .second, .val (.int nn), .val (.ref b101), .unset, .unset, .unset, .unset] [(.ref b101)]))
  obtain ⟨cq105, kq105, q105a, q105b, q105c⟩ := isOf hZ rfl E103z
  obtain ⟨_, _, ⟨T105, L105, k105, n105⟩, -, X105, ⟨Lc105, hQ105, l105, y105, z105⟩, st105⟩ := X103.virtualBack hx (y := (⟨"com/example/runpulse/runpulse/KnownKeys", "isFull", "()Z"⟩ : MethodName)) (z := (⟨"com/example/runpulse/runpulse/KnownKeys", "isFull", "()Z"⟩ : MethodName)) hown (mvT hZ (hw _ (List.mem_of_getElem? (i := 25) rfl))) (mvT hZ (hw _ (List.mem_of_getElem? (i := 26) rfl))) (notFace_of_selects (args := #[]) (mvT hZ (hw _ (List.mem_of_getElem? (i := 28) rfl)))) (mvT hZ (hw _ (List.mem_of_getElem? (i := 28) rfl))) (mvT hZ (hw _ (List.mem_of_getElem? (i := 27) rfl))) (by decide) (backOf (W := 0) (rmFu l Z a0 hw [] b101 (0 : Int64) mm T103.heap n0 Z104 Fa103 Fc103) hZ (hw _ (List.mem_of_getElem? (i := 29) rfl)) (hw _ (List.mem_of_getElem? (i := 3) rfl)) (by decide) (by decide)) q105a q105c (g := (mkF m 26 #[.val (.long c1), .second, .val (.int k1), .val (.long h1), .second, .val (.long g1), .second, .val (.long cp), .second, .val (.int nn), .val (.ref b101), .unset, .unset, .unset, .unset] [(.ref b101)])) rfl (by rw [hml]; rfl) (Steps.refl _) (argsL := []) (rest := []) (lenOf pd0_1 rfl) rfl (by show 2 * 0 + _ ≤ _; exact Nat.le_of_eq rfl) (hb hby at_26) (fun _ _ => ⟨rfl, rfl, (by decide : 2 + 0 ≤ _), (by decide : 5 + 0 ≤ _)⟩)
  dsimp only [Pt.U, Pt.locs, Pt.cells, Pt.slots] at X105 l105 y105 z105 st105 hQ105
  subst l105 y105 z105
  obtain ⟨rfl, N105q, eh105⟩ := hQ105
  have N105 := Fr.app N103 N105q
  refine Go.tr st105 ?_
  show Go _ _ _ _ _ _ _ (T105.setTop (mkF m 29 #[.val (.long c1), .second, .val (.int k1), .val (.long h1), .second, .val (.long g1), .second, .val (.long cp), .second, .val (.int nn), .val (.ref b101), .unset, .unset, .unset, .unset] [(.int (fFu (0 : Int64) mm))]))
  refine Go.by (fun _ kont => XS.istore X105.here hx rfl (hb hby at_29) rfl (l' := #[.val (.long c1), .second, .val (.int k1), .val (.long h1), .second, .val (.long g1), .second, .val (.long cp), .second, .val (.int nn), .val (.ref b101), .val (.int (fFu (0 : Int64) mm)), .unset, .unset, .unset]) rfl kont) ?_
  show Go _ _ _ _ _ _ _ (T105.setTop (mkF m 31 #[.val (.long c1), .second, .val (.int k1), .val (.long h1), .second, .val (.long g1), .second, .val (.long cp), .second, .val (.int nn), .val (.ref b101), .val (.int (fFu (0 : Int64) mm)), .unset, .unset, .unset] []))
  by_cases hn0 : nn = (0 : Int32)
  · subst hn0
    show Go _ _ _ _ _ _ _ (T105.setTop (mkF m 31 #[.val (.long c1), .second, .val (.int k1), .val (.long h1), .second, .val (.long g1), .second, .val (.long cp), .second, .val (.int (0 : Int32)), .val (.ref b101), .val (.int (fFu (0 : Int64) mm)), .unset, .unset, .unset] []))
    refine Go.by (fun _ kont => XS.iload X105.here hx rfl (hb hby at_31) rfl kont) ?_
    show Go _ _ _ _ _ _ _ (T105.setTop (mkF m 33 #[.val (.long c1), .second, .val (.int k1), .val (.long h1), .second, .val (.long g1), .second, .val (.long cp), .second, .val (.int (0 : Int32)), .val (.ref b101), .val (.int (fFu (0 : Int64) mm)), .unset, .unset, .unset] [(.int (0 : Int32))]))
    refine Go.by (fun _ kont => XS.ifYes X105.here hx rfl (pc0 := 33) (pc' := 42) rfl (hb hby at_33) rfl (by decide) (by decide) (by decide) kont) ?_
    show Go _ _ _ _ _ _ _ (T105.setTop (mkF m 42 #[.val (.long c1), .second, .val (.int k1), .val (.long h1), .second, .val (.long g1), .second, .val (.long cp), .second, .val (.int (0 : Int32)), .val (.ref b101), .val (.int (fFu (0 : Int64) mm)), .unset, .unset, .unset] []))
    refine Go.by (fun _ kont => XS.iload X105.here hx rfl (hb hby at_42) rfl (XS.iconst X105.here hx rfl (hb hby at_44) kont)) ?_
    show Go _ _ _ _ _ _ _ (T105.setTop (mkF m 45 #[.val (.long c1), .second, .val (.int k1), .val (.long h1), .second, .val (.long g1), .second, .val (.long cp), .second, .val (.int (0 : Int32)), .val (.ref b101), .val (.int (fFu (0 : Int64) mm)), .unset, .unset, .unset] [(.int (1 : Int32)), (.int (0 : Int32))]))
    refine Go.by (fun _ kont => XS.icmpYes X105.here hx rfl (pc0 := 45) (pc' := 55) rfl (hb hby at_45) rfl (by decide) (by decide) (by decide) kont) ?_
    show Go _ _ _ _ _ _ _ (T105.setTop (mkF m 55 #[.val (.long c1), .second, .val (.int k1), .val (.long h1), .second, .val (.long g1), .second, .val (.long cp), .second, .val (.int (0 : Int32)), .val (.ref b101), .val (.int (fFu (0 : Int64) mm)), .unset, .unset, .unset] []))
    refine Go.by (fun _ kont => XS.iload X105.here hx rfl (hb hby at_55) rfl (XS.iconst X105.here hx rfl (hb hby at_57) kont)) ?_
    show Go _ _ _ _ _ _ _ (T105.setTop (mkF m 58 #[.val (.long c1), .second, .val (.int k1), .val (.long h1), .second, .val (.long g1), .second, .val (.long cp), .second, .val (.int (0 : Int32)), .val (.ref b101), .val (.int (fFu (0 : Int64) mm)), .unset, .unset, .unset] [(.int (2 : Int32)), (.int (0 : Int32))]))
    refine Go.by (fun _ kont => XS.icmpYes X105.here hx rfl (pc0 := 58) (pc' := 70) rfl (hb hby at_58) rfl (by decide) (by decide) (by decide) kont) ?_
    show Go _ _ _ _ _ _ _ (T105.setTop (mkF m 70 #[.val (.long c1), .second, .val (.int k1), .val (.long h1), .second, .val (.long g1), .second, .val (.long cp), .second, .val (.int (0 : Int32)), .val (.ref b101), .val (.int (fFu (0 : Int64) mm)), .unset, .unset, .unset] []))
    refine Go.by (fun _ kont => XS.iload X105.here hx rfl (hb hby at_70) rfl (XS.iconst X105.here hx rfl (hb hby at_72) kont)) ?_
    show Go _ _ _ _ _ _ _ (T105.setTop (mkF m 73 #[.val (.long c1), .second, .val (.int k1), .val (.long h1), .second, .val (.long g1), .second, .val (.long cp), .second, .val (.int (0 : Int32)), .val (.ref b101), .val (.int (fFu (0 : Int64) mm)), .unset, .unset, .unset] [(.int (3 : Int32)), (.int (0 : Int32))]))
    refine Go.by (fun _ kont => XS.icmpYes X105.here hx rfl (pc0 := 73) (pc' := 85) rfl (hb hby at_73) rfl (by decide) (by decide) (by decide) kont) ?_
    show Go _ _ _ _ _ _ _ (T105.setTop (mkF m 85 #[.val (.long c1), .second, .val (.int k1), .val (.long h1), .second, .val (.long g1), .second, .val (.long cp), .second, .val (.int (0 : Int32)), .val (.ref b101), .val (.int (fFu (0 : Int64) mm)), .unset, .unset, .unset] []))
    refine Go.by (fun _ kont => XS.iload X105.here hx rfl (hb hby at_85) rfl (XS.iconst X105.here hx rfl (hb hby at_87) kont)) ?_
    show Go _ _ _ _ _ _ _ (T105.setTop (mkF m 88 #[.val (.long c1), .second, .val (.int k1), .val (.long h1), .second, .val (.long g1), .second, .val (.long cp), .second, .val (.int (0 : Int32)), .val (.ref b101), .val (.int (fFu (0 : Int64) mm)), .unset, .unset, .unset] [(.int (4 : Int32)), (.int (0 : Int32))]))
    refine Go.by (fun _ kont => XS.icmpYes X105.here hx rfl (pc0 := 88) (pc' := 97) rfl (hb hby at_88) rfl (by decide) (by decide) (by decide) kont) ?_
    show Go _ _ _ _ _ _ _ (T105.setTop (mkF m 97 #[.val (.long c1), .second, .val (.int k1), .val (.long h1), .second, .val (.long g1), .second, .val (.long cp), .second, .val (.int (0 : Int32)), .val (.ref b101), .val (.int (fFu (0 : Int64) mm)), .unset, .unset, .unset] []))
    refine Go.by (fun _ kont => XS.iload X105.here hx rfl (hb hby at_97) rfl (XS.iconst X105.here hx rfl (hb hby at_99) kont)) ?_
    show Go _ _ _ _ _ _ _ (T105.setTop (mkF m 100 #[.val (.long c1), .second, .val (.int k1), .val (.long h1), .second, .val (.long g1), .second, .val (.long cp), .second, .val (.int (0 : Int32)), .val (.ref b101), .val (.int (fFu (0 : Int64) mm)), .unset, .unset, .unset] [(.int (5 : Int32)), (.int (0 : Int32))]))
    refine Go.by (fun _ kont => XS.icmpYes X105.here hx rfl (pc0 := 100) (pc' := 112) rfl (hb hby at_100) rfl (by decide) (by decide) (by decide) kont) ?_
    show Go _ _ _ _ _ _ _ (T105.setTop (mkF m 112 #[.val (.long c1), .second, .val (.int k1), .val (.long h1), .second, .val (.long g1), .second, .val (.long cp), .second, .val (.int (0 : Int32)), .val (.ref b101), .val (.int (fFu (0 : Int64) mm)), .unset, .unset, .unset] []))
    refine Go.by (fun _ kont => XS.iload X105.here hx rfl (hb hby at_112) rfl (XS.bipush X105.here hx rfl (hb hby at_114) kont)) ?_
    show Go _ _ _ _ _ _ _ (T105.setTop (mkF m 116 #[.val (.long c1), .second, .val (.int k1), .val (.long h1), .second, .val (.long g1), .second, .val (.long cp), .second, .val (.int (0 : Int32)), .val (.ref b101), .val (.int (fFu (0 : Int64) mm)), .unset, .unset, .unset] [(.int (6 : Int32)), (.int (0 : Int32))]))
    refine Go.by (fun _ kont => XS.icmpYes X105.here hx rfl (pc0 := 116) (pc' := 129) rfl (hb hby at_116) rfl (by decide) (by decide) (by decide) kont) ?_
    show Go _ _ _ _ _ _ _ (T105.setTop (mkF m 129 #[.val (.long c1), .second, .val (.int k1), .val (.long h1), .second, .val (.long g1), .second, .val (.long cp), .second, .val (.int (0 : Int32)), .val (.ref b101), .val (.int (fFu (0 : Int64) mm)), .unset, .unset, .unset] []))
    refine Go.by (fun _ kont => XS.lload X105.here hx rfl (hb hby at_129) rfl (XS.lconst X105.here hx rfl (hb hby at_131) (XS.lcmp X105.here hx rfl (hb hby at_132) rfl kont))) ?_
    show Go _ _ _ _ _ _ _ (T105.setTop (mkF m 133 #[.val (.long c1), .second, .val (.int k1), .val (.long h1), .second, .val (.long g1), .second, .val (.long cp), .second, .val (.int (0 : Int32)), .val (.ref b101), .val (.int (fFu (0 : Int64) mm)), .unset, .unset, .unset] [(.int (lcmpW cp (1 : Int64)))]))
    by_cases hc106 : cp < (1 : Int64)
    · refine Go.by (fun _ kont => XS.ifNo X105.here hx rfl (hb hby at_133) rfl ((if0 _ _).trans (tlt ((lw_lt _ _).mpr hc106)).2.1) kont) ?_
      show Go _ _ _ _ _ _ _ (T105.setTop (mkF m 136 #[.val (.long c1), .second, .val (.int k1), .val (.long h1), .second, .val (.long g1), .second, .val (.long cp), .second, .val (.int (0 : Int32)), .val (.ref b101), .val (.int (fFu (0 : Int64) mm)), .unset, .unset, .unset] []))
      refine Go.by (fun _ kont => XS.lconst X105.here hx rfl (hb hby at_136) (XS.goto X105.here hx rfl (pc0 := 137) (pc' := 142) rfl (hb hby at_137) (by decide) (by decide) (XS.lstore X105.here hx rfl (hb hby at_142) rfl (l' := #[.val (.long c1), .second, .val (.int k1), .val (.long h1), .second, .val (.long g1), .second, .val (.long cp), .second, .val (.int (0 : Int32)), .val (.ref b101), .val (.int (fFu (0 : Int64) mm)), .val (.long (1 : Int64)), .second, .unset]) rfl (XS.iload X105.here hx rfl (hb hby at_144) rfl (XS.i2l X105.here hx rfl (hb hby at_146) rfl kont))))) ?_
      show Go _ _ _ _ _ _ _ (T105.setTop (mkF m 147 #[.val (.long c1), .second, .val (.int k1), .val (.long h1), .second, .val (.long g1), .second, .val (.long cp), .second, .val (.int (0 : Int32)), .val (.ref b101), .val (.int (fFu (0 : Int64) mm)), .val (.long (1 : Int64)), .second, .unset] [(.long ((0 : Int32).toInt64))]))
      rw [show ((0 : Int32).toInt64) = (0 : Int64) from by decide]
      show Go _ _ _ _ _ _ _ (T105.setTop (mkF m 147 #[.val (.long c1), .second, .val (.int k1), .val (.long h1), .second, .val (.long g1), .second, .val (.long cp), .second, .val (.int (0 : Int32)), .val (.ref b101), .val (.int (fFu (0 : Int64) mm)), .val (.long (1 : Int64)), .second, .unset] [(.long (0 : Int64))]))
      refine Go.by (fun _ kont => XS.lload X105.here hx rfl (hb hby at_147) rfl (XS.lcmp X105.here hx rfl (hb hby at_149) rfl kont)) ?_
      show Go _ _ _ _ _ _ _ (T105.setTop (mkF m 150 #[.val (.long c1), .second, .val (.int k1), .val (.long h1), .second, .val (.long g1), .second, .val (.long cp), .second, .val (.int (0 : Int32)), .val (.ref b101), .val (.int (fFu (0 : Int64) mm)), .val (.long (1 : Int64)), .second, .unset] [(.int (lcmpW (0 : Int64) (1 : Int64)))]))
      have hd107 : ¬ ((1 : Int64) < (0 : Int64)) := by decide
      refine Go.by (fun _ kont => XS.ifYes X105.here hx rfl (pc0 := 150) (pc' := 157) rfl (hb hby at_150) rfl ((if0 _ _).trans (flt (fun z => hd107 ((lw_gt _ _).mp z))).2.2.2) (by decide) (by decide) kont) ?_
      show Go _ _ _ _ _ _ _ (T105.setTop (mkF m 157 #[.val (.long c1), .second, .val (.int k1), .val (.long h1), .second, .val (.long g1), .second, .val (.long cp), .second, .val (.int (0 : Int32)), .val (.ref b101), .val (.int (fFu (0 : Int64) mm)), .val (.long (1 : Int64)), .second, .unset] []))
      refine Go.by (fun _ kont => XS.iconst X105.here hx rfl (hb hby at_157) (XS.istore X105.here hx rfl (hb hby at_158) rfl (l' := #[.val (.long c1), .second, .val (.int k1), .val (.long h1), .second, .val (.long g1), .second, .val (.long cp), .second, .val (.int (0 : Int32)), .val (.ref b101), .val (.int (fFu (0 : Int64) mm)), .val (.long (1 : Int64)), .second, .val (.int (0 : Int32))]) rfl (XS.iload X105.here hx rfl (hb hby at_160) rfl kont))) ?_
      show Go _ _ _ _ _ _ _ (T105.setTop (mkF m 162 #[.val (.long c1), .second, .val (.int k1), .val (.long h1), .second, .val (.long g1), .second, .val (.long cp), .second, .val (.int (0 : Int32)), .val (.ref b101), .val (.int (fFu (0 : Int64) mm)), .val (.long (1 : Int64)), .second, .val (.int (0 : Int32))] [(.int (fFu (0 : Int64) mm))]))
      have hd108 : (fFu (0 : Int64) mm) = (0 : Int32) := own_before mm Bm
      refine Go.by (fun _ kont => XS.ifNo X105.here hx rfl (hb hby at_162) rfl ((if0 _ _).trans (teq hd108).2) kont) ?_
      show Go _ _ _ _ _ _ _ (T105.setTop (mkF m 165 #[.val (.long c1), .second, .val (.int k1), .val (.long h1), .second, .val (.long g1), .second, .val (.long cp), .second, .val (.int (0 : Int32)), .val (.ref b101), .val (.int (fFu (0 : Int64) mm)), .val (.long (1 : Int64)), .second, .val (.int (0 : Int32))] []))
      refine Go.by (fun _ kont => XS.aload X105.here hx rfl (hb hby at_165) rfl rfl kont) ?_
      show Go _ _ _ _ _ _ _ (T105.setTop (mkF m 167 #[.val (.long c1), .second, .val (.int k1), .val (.long h1), .second, .val (.long g1), .second, .val (.long cp), .second, .val (.int (0 : Int32)), .val (.ref b101), .val (.int (fFu (0 : Int64) mm)), .val (.long (1 : Int64)), .second, .val (.int (0 : Int32))] [(.ref b101)]))
      obtain ⟨cq109, kq109, q109a, q109b, q109c⟩ := isOf hZ eh105 E103z
      obtain ⟨_, _, ⟨T109, L109, k109, n109⟩, -, X109, ⟨Lc109, hQ109, l109, y109, z109⟩, st109⟩ := X105.virtualBack hx (y := (⟨"com/example/runpulse/runpulse/KnownKeys", "isFull", "()Z"⟩ : MethodName)) (z := (⟨"com/example/runpulse/runpulse/KnownKeys", "isFull", "()Z"⟩ : MethodName)) hown (mvT hZ (hw _ (List.mem_of_getElem? (i := 25) rfl))) (mvT hZ (hw _ (List.mem_of_getElem? (i := 26) rfl))) (notFace_of_selects (args := #[]) (mvT hZ (hw _ (List.mem_of_getElem? (i := 28) rfl)))) (mvT hZ (hw _ (List.mem_of_getElem? (i := 28) rfl))) (mvT hZ (hw _ (List.mem_of_getElem? (i := 27) rfl))) (by decide) (backOf (W := 0) (rmFu l Z a0 hw [] b101 (0 : Int64) mm T103.heap n0 Z104 Fa103 Fc103) hZ (hw _ (List.mem_of_getElem? (i := 29) rfl)) (hw _ (List.mem_of_getElem? (i := 3) rfl)) (by decide) (by decide)) q109a q109c (g := (mkF m 167 #[.val (.long c1), .second, .val (.int k1), .val (.long h1), .second, .val (.long g1), .second, .val (.long cp), .second, .val (.int (0 : Int32)), .val (.ref b101), .val (.int (fFu (0 : Int64) mm)), .val (.long (1 : Int64)), .second, .val (.int (0 : Int32))] [(.ref b101)])) rfl (by rw [hml]; rfl) (Steps.refl _) (argsL := []) (rest := []) (lenOf pd0_1 rfl) rfl (by show 2 * 0 + _ ≤ _; exact Nat.le_of_eq rfl) (hb hby at_167) (fun _ _ => ⟨rfl, eh105, (by decide : 2 + 0 ≤ _), (by decide : 5 + 0 ≤ _)⟩)
      dsimp only [Pt.U, Pt.locs, Pt.cells, Pt.slots] at X109 l109 y109 z109 st109 hQ109
      subst l109 y109 z109
      obtain ⟨rfl, N109q, eh109⟩ := hQ109
      have N109 := Fr.app N105 N109q
      refine Go.tr st109 ?_
      show Go _ _ _ _ _ _ _ (T109.setTop (mkF m 170 #[.val (.long c1), .second, .val (.int k1), .val (.long h1), .second, .val (.long g1), .second, .val (.long cp), .second, .val (.int (0 : Int32)), .val (.ref b101), .val (.int (fFu (0 : Int64) mm)), .val (.long (1 : Int64)), .second, .val (.int (0 : Int32))] [(.int (fFu (0 : Int64) mm))]))
      refine Go.by (fun _ kont => XS.iload X109.here hx rfl (hb hby at_170) rfl kont) ?_
      show Go _ _ _ _ _ _ _ (T109.setTop (mkF m 172 #[.val (.long c1), .second, .val (.int k1), .val (.long h1), .second, .val (.long g1), .second, .val (.long cp), .second, .val (.int (0 : Int32)), .val (.ref b101), .val (.int (fFu (0 : Int64) mm)), .val (.long (1 : Int64)), .second, .val (.int (0 : Int32))] [(.int (0 : Int32)), (.int (fFu (0 : Int64) mm))]))
      refine Go.by (fun _ kont => XS.icmpNo X109.here hx rfl (hb hby at_172) rfl (teq hd108).2 kont) ?_
      show Go _ _ _ _ _ _ _ (T109.setTop (mkF m 175 #[.val (.long c1), .second, .val (.int k1), .val (.long h1), .second, .val (.long g1), .second, .val (.long cp), .second, .val (.int (0 : Int32)), .val (.ref b101), .val (.int (fFu (0 : Int64) mm)), .val (.long (1 : Int64)), .second, .val (.int (0 : Int32))] []))
      refine Go.by (fun _ kont => XS.iconst X109.here hx rfl (hb hby at_175) (XS.goto X109.here hx rfl (pc0 := 176) (pc' := 180) rfl (hb hby at_176) (by decide) (by decide) kont)) ?_
      show Go _ _ _ _ _ _ _ (T109.setTop (mkF m 180 #[.val (.long c1), .second, .val (.int k1), .val (.long h1), .second, .val (.long g1), .second, .val (.long cp), .second, .val (.int (0 : Int32)), .val (.ref b101), .val (.int (fFu (0 : Int64) mm)), .val (.long (1 : Int64)), .second, .val (.int (0 : Int32))] [(.int (1 : Int32))]))
      refine Go.retN X109 hx (t := .boolean) hret (by simp) hlk (hb hby at_180) ?_ (by decide) (by decide)
      show Q0 Z h0 n0 (some (.int (1 : Int32))) T109.heap _
      rw [eh109]
      exact ⟨rfl, N109⟩
    · refine Go.by (fun _ kont => XS.ifYes X105.here hx rfl (pc0 := 133) (pc' := 140) rfl (hb hby at_133) rfl ((if0 _ _).trans (flt (fun z => hc106 ((lw_lt _ _).mp z))).2.1) (by decide) (by decide) kont) ?_
      show Go _ _ _ _ _ _ _ (T105.setTop (mkF m 140 #[.val (.long c1), .second, .val (.int k1), .val (.long h1), .second, .val (.long g1), .second, .val (.long cp), .second, .val (.int (0 : Int32)), .val (.ref b101), .val (.int (fFu (0 : Int64) mm)), .unset, .unset, .unset] []))
      refine Go.by (fun _ kont => XS.lload X105.here hx rfl (hb hby at_140) rfl (XS.lstore X105.here hx rfl (hb hby at_142) rfl (l' := #[.val (.long c1), .second, .val (.int k1), .val (.long h1), .second, .val (.long g1), .second, .val (.long cp), .second, .val (.int (0 : Int32)), .val (.ref b101), .val (.int (fFu (0 : Int64) mm)), .val (.long cp), .second, .unset]) rfl (XS.iload X105.here hx rfl (hb hby at_144) rfl (XS.i2l X105.here hx rfl (hb hby at_146) rfl kont)))) ?_
      show Go _ _ _ _ _ _ _ (T105.setTop (mkF m 147 #[.val (.long c1), .second, .val (.int k1), .val (.long h1), .second, .val (.long g1), .second, .val (.long cp), .second, .val (.int (0 : Int32)), .val (.ref b101), .val (.int (fFu (0 : Int64) mm)), .val (.long cp), .second, .unset] [(.long ((0 : Int32).toInt64))]))
      rw [show ((0 : Int32).toInt64) = (0 : Int64) from by decide]
      show Go _ _ _ _ _ _ _ (T105.setTop (mkF m 147 #[.val (.long c1), .second, .val (.int k1), .val (.long h1), .second, .val (.long g1), .second, .val (.long cp), .second, .val (.int (0 : Int32)), .val (.ref b101), .val (.int (fFu (0 : Int64) mm)), .val (.long cp), .second, .unset] [(.long (0 : Int64))]))
      refine Go.by (fun _ kont => XS.lload X105.here hx rfl (hb hby at_147) rfl (XS.lcmp X105.here hx rfl (hb hby at_149) rfl kont)) ?_
      show Go _ _ _ _ _ _ _ (T105.setTop (mkF m 150 #[.val (.long c1), .second, .val (.int k1), .val (.long h1), .second, .val (.long g1), .second, .val (.long cp), .second, .val (.int (0 : Int32)), .val (.ref b101), .val (.int (fFu (0 : Int64) mm)), .val (.long cp), .second, .unset] [(.int (lcmpW (0 : Int64) cp))]))
      by_cases hc110 : cp < (0 : Int64)
      · refine Go.by (fun _ kont => XS.ifNo X105.here hx rfl (hb hby at_150) rfl ((if0 _ _).trans (tlt ((lw_gt _ _).mpr hc110)).2.2.2) kont) ?_
        show Go _ _ _ _ _ _ _ (T105.setTop (mkF m 153 #[.val (.long c1), .second, .val (.int k1), .val (.long h1), .second, .val (.long g1), .second, .val (.long cp), .second, .val (.int (0 : Int32)), .val (.ref b101), .val (.int (fFu (0 : Int64) mm)), .val (.long cp), .second, .unset] []))
        refine Go.by (fun _ kont => XS.iconst X105.here hx rfl (hb hby at_153) (XS.goto X105.here hx rfl (pc0 := 154) (pc' := 158) rfl (hb hby at_154) (by decide) (by decide) (XS.istore X105.here hx rfl (hb hby at_158) rfl (l' := #[.val (.long c1), .second, .val (.int k1), .val (.long h1), .second, .val (.long g1), .second, .val (.long cp), .second, .val (.int (0 : Int32)), .val (.ref b101), .val (.int (fFu (0 : Int64) mm)), .val (.long cp), .second, .val (.int (1 : Int32))]) rfl (XS.iload X105.here hx rfl (hb hby at_160) rfl kont)))) ?_
        show Go _ _ _ _ _ _ _ (T105.setTop (mkF m 162 #[.val (.long c1), .second, .val (.int k1), .val (.long h1), .second, .val (.long g1), .second, .val (.long cp), .second, .val (.int (0 : Int32)), .val (.ref b101), .val (.int (fFu (0 : Int64) mm)), .val (.long cp), .second, .val (.int (1 : Int32))] [(.int (fFu (0 : Int64) mm))]))
        have hd111 : (fFu (0 : Int64) mm) = (0 : Int32) := own_before mm Bm
        refine Go.by (fun _ kont => XS.ifNo X105.here hx rfl (hb hby at_162) rfl ((if0 _ _).trans (teq hd111).2) kont) ?_
        show Go _ _ _ _ _ _ _ (T105.setTop (mkF m 165 #[.val (.long c1), .second, .val (.int k1), .val (.long h1), .second, .val (.long g1), .second, .val (.long cp), .second, .val (.int (0 : Int32)), .val (.ref b101), .val (.int (fFu (0 : Int64) mm)), .val (.long cp), .second, .val (.int (1 : Int32))] []))
        refine Go.by (fun _ kont => XS.aload X105.here hx rfl (hb hby at_165) rfl rfl kont) ?_
        show Go _ _ _ _ _ _ _ (T105.setTop (mkF m 167 #[.val (.long c1), .second, .val (.int k1), .val (.long h1), .second, .val (.long g1), .second, .val (.long cp), .second, .val (.int (0 : Int32)), .val (.ref b101), .val (.int (fFu (0 : Int64) mm)), .val (.long cp), .second, .val (.int (1 : Int32))] [(.ref b101)]))
        obtain ⟨cq112, kq112, q112a, q112b, q112c⟩ := isOf hZ eh105 E103z
        obtain ⟨_, _, ⟨T112, L112, k112, n112⟩, -, X112, ⟨Lc112, hQ112, l112, y112, z112⟩, st112⟩ := X105.virtualBack hx (y := (⟨"com/example/runpulse/runpulse/KnownKeys", "isFull", "()Z"⟩ : MethodName)) (z := (⟨"com/example/runpulse/runpulse/KnownKeys", "isFull", "()Z"⟩ : MethodName)) hown (mvT hZ (hw _ (List.mem_of_getElem? (i := 25) rfl))) (mvT hZ (hw _ (List.mem_of_getElem? (i := 26) rfl))) (notFace_of_selects (args := #[]) (mvT hZ (hw _ (List.mem_of_getElem? (i := 28) rfl)))) (mvT hZ (hw _ (List.mem_of_getElem? (i := 28) rfl))) (mvT hZ (hw _ (List.mem_of_getElem? (i := 27) rfl))) (by decide) (backOf (W := 0) (rmFu l Z a0 hw [] b101 (0 : Int64) mm T103.heap n0 Z104 Fa103 Fc103) hZ (hw _ (List.mem_of_getElem? (i := 29) rfl)) (hw _ (List.mem_of_getElem? (i := 3) rfl)) (by decide) (by decide)) q112a q112c (g := (mkF m 167 #[.val (.long c1), .second, .val (.int k1), .val (.long h1), .second, .val (.long g1), .second, .val (.long cp), .second, .val (.int (0 : Int32)), .val (.ref b101), .val (.int (fFu (0 : Int64) mm)), .val (.long cp), .second, .val (.int (1 : Int32))] [(.ref b101)])) rfl (by rw [hml]; rfl) (Steps.refl _) (argsL := []) (rest := []) (lenOf pd0_1 rfl) rfl (by show 2 * 0 + _ ≤ _; exact Nat.le_of_eq rfl) (hb hby at_167) (fun _ _ => ⟨rfl, eh105, (by decide : 2 + 0 ≤ _), (by decide : 5 + 0 ≤ _)⟩)
        dsimp only [Pt.U, Pt.locs, Pt.cells, Pt.slots] at X112 l112 y112 z112 st112 hQ112
        subst l112 y112 z112
        obtain ⟨rfl, N112q, eh112⟩ := hQ112
        have N112 := Fr.app N105 N112q
        refine Go.tr st112 ?_
        show Go _ _ _ _ _ _ _ (T112.setTop (mkF m 170 #[.val (.long c1), .second, .val (.int k1), .val (.long h1), .second, .val (.long g1), .second, .val (.long cp), .second, .val (.int (0 : Int32)), .val (.ref b101), .val (.int (fFu (0 : Int64) mm)), .val (.long cp), .second, .val (.int (1 : Int32))] [(.int (fFu (0 : Int64) mm))]))
        refine Go.by (fun _ kont => XS.iload X112.here hx rfl (hb hby at_170) rfl kont) ?_
        show Go _ _ _ _ _ _ _ (T112.setTop (mkF m 172 #[.val (.long c1), .second, .val (.int k1), .val (.long h1), .second, .val (.long g1), .second, .val (.long cp), .second, .val (.int (0 : Int32)), .val (.ref b101), .val (.int (fFu (0 : Int64) mm)), .val (.long cp), .second, .val (.int (1 : Int32))] [(.int (1 : Int32)), (.int (fFu (0 : Int64) mm))]))
        have hd113 : (fFu (0 : Int64) mm) = (1 : Int32) := own_fT mm (0 : Int64) (by have q := own_m2 cp mm hm hc106; rw [q]; exact hc110)
        refine Go.by (fun _ kont => XS.icmpNo X112.here hx rfl (hb hby at_172) rfl (teq hd113).2 kont) ?_
        show Go _ _ _ _ _ _ _ (T112.setTop (mkF m 175 #[.val (.long c1), .second, .val (.int k1), .val (.long h1), .second, .val (.long g1), .second, .val (.long cp), .second, .val (.int (0 : Int32)), .val (.ref b101), .val (.int (fFu (0 : Int64) mm)), .val (.long cp), .second, .val (.int (1 : Int32))] []))
        refine Go.by (fun _ kont => XS.iconst X112.here hx rfl (hb hby at_175) (XS.goto X112.here hx rfl (pc0 := 176) (pc' := 180) rfl (hb hby at_176) (by decide) (by decide) kont)) ?_
        show Go _ _ _ _ _ _ _ (T112.setTop (mkF m 180 #[.val (.long c1), .second, .val (.int k1), .val (.long h1), .second, .val (.long g1), .second, .val (.long cp), .second, .val (.int (0 : Int32)), .val (.ref b101), .val (.int (fFu (0 : Int64) mm)), .val (.long cp), .second, .val (.int (1 : Int32))] [(.int (1 : Int32))]))
        refine Go.retN X112 hx (t := .boolean) hret (by simp) hlk (hb hby at_180) ?_ (by decide) (by decide)
        show Q0 Z h0 n0 (some (.int (1 : Int32))) T112.heap _
        rw [eh112]
        exact ⟨rfl, N112⟩
      · refine Go.by (fun _ kont => XS.ifYes X105.here hx rfl (pc0 := 150) (pc' := 157) rfl (hb hby at_150) rfl ((if0 _ _).trans (flt (fun z => hc110 ((lw_gt _ _).mp z))).2.2.2) (by decide) (by decide) kont) ?_
        show Go _ _ _ _ _ _ _ (T105.setTop (mkF m 157 #[.val (.long c1), .second, .val (.int k1), .val (.long h1), .second, .val (.long g1), .second, .val (.long cp), .second, .val (.int (0 : Int32)), .val (.ref b101), .val (.int (fFu (0 : Int64) mm)), .val (.long cp), .second, .unset] []))
        refine Go.by (fun _ kont => XS.iconst X105.here hx rfl (hb hby at_157) (XS.istore X105.here hx rfl (hb hby at_158) rfl (l' := #[.val (.long c1), .second, .val (.int k1), .val (.long h1), .second, .val (.long g1), .second, .val (.long cp), .second, .val (.int (0 : Int32)), .val (.ref b101), .val (.int (fFu (0 : Int64) mm)), .val (.long cp), .second, .val (.int (0 : Int32))]) rfl (XS.iload X105.here hx rfl (hb hby at_160) rfl kont))) ?_
        show Go _ _ _ _ _ _ _ (T105.setTop (mkF m 162 #[.val (.long c1), .second, .val (.int k1), .val (.long h1), .second, .val (.long g1), .second, .val (.long cp), .second, .val (.int (0 : Int32)), .val (.ref b101), .val (.int (fFu (0 : Int64) mm)), .val (.long cp), .second, .val (.int (0 : Int32))] [(.int (fFu (0 : Int64) mm))]))
        have hd114 : (fFu (0 : Int64) mm) = (0 : Int32) := own_before mm Bm
        refine Go.by (fun _ kont => XS.ifNo X105.here hx rfl (hb hby at_162) rfl ((if0 _ _).trans (teq hd114).2) kont) ?_
        show Go _ _ _ _ _ _ _ (T105.setTop (mkF m 165 #[.val (.long c1), .second, .val (.int k1), .val (.long h1), .second, .val (.long g1), .second, .val (.long cp), .second, .val (.int (0 : Int32)), .val (.ref b101), .val (.int (fFu (0 : Int64) mm)), .val (.long cp), .second, .val (.int (0 : Int32))] []))
        refine Go.by (fun _ kont => XS.aload X105.here hx rfl (hb hby at_165) rfl rfl kont) ?_
        show Go _ _ _ _ _ _ _ (T105.setTop (mkF m 167 #[.val (.long c1), .second, .val (.int k1), .val (.long h1), .second, .val (.long g1), .second, .val (.long cp), .second, .val (.int (0 : Int32)), .val (.ref b101), .val (.int (fFu (0 : Int64) mm)), .val (.long cp), .second, .val (.int (0 : Int32))] [(.ref b101)]))
        obtain ⟨cq115, kq115, q115a, q115b, q115c⟩ := isOf hZ eh105 E103z
        obtain ⟨_, _, ⟨T115, L115, k115, n115⟩, -, X115, ⟨Lc115, hQ115, l115, y115, z115⟩, st115⟩ := X105.virtualBack hx (y := (⟨"com/example/runpulse/runpulse/KnownKeys", "isFull", "()Z"⟩ : MethodName)) (z := (⟨"com/example/runpulse/runpulse/KnownKeys", "isFull", "()Z"⟩ : MethodName)) hown (mvT hZ (hw _ (List.mem_of_getElem? (i := 25) rfl))) (mvT hZ (hw _ (List.mem_of_getElem? (i := 26) rfl))) (notFace_of_selects (args := #[]) (mvT hZ (hw _ (List.mem_of_getElem? (i := 28) rfl)))) (mvT hZ (hw _ (List.mem_of_getElem? (i := 28) rfl))) (mvT hZ (hw _ (List.mem_of_getElem? (i := 27) rfl))) (by decide) (backOf (W := 0) (rmFu l Z a0 hw [] b101 (0 : Int64) mm T103.heap n0 Z104 Fa103 Fc103) hZ (hw _ (List.mem_of_getElem? (i := 29) rfl)) (hw _ (List.mem_of_getElem? (i := 3) rfl)) (by decide) (by decide)) q115a q115c (g := (mkF m 167 #[.val (.long c1), .second, .val (.int k1), .val (.long h1), .second, .val (.long g1), .second, .val (.long cp), .second, .val (.int (0 : Int32)), .val (.ref b101), .val (.int (fFu (0 : Int64) mm)), .val (.long cp), .second, .val (.int (0 : Int32))] [(.ref b101)])) rfl (by rw [hml]; rfl) (Steps.refl _) (argsL := []) (rest := []) (lenOf pd0_1 rfl) rfl (by show 2 * 0 + _ ≤ _; exact Nat.le_of_eq rfl) (hb hby at_167) (fun _ _ => ⟨rfl, eh105, (by decide : 2 + 0 ≤ _), (by decide : 5 + 0 ≤ _)⟩)
        dsimp only [Pt.U, Pt.locs, Pt.cells, Pt.slots] at X115 l115 y115 z115 st115 hQ115
        subst l115 y115 z115
        obtain ⟨rfl, N115q, eh115⟩ := hQ115
        have N115 := Fr.app N105 N115q
        refine Go.tr st115 ?_
        show Go _ _ _ _ _ _ _ (T115.setTop (mkF m 170 #[.val (.long c1), .second, .val (.int k1), .val (.long h1), .second, .val (.long g1), .second, .val (.long cp), .second, .val (.int (0 : Int32)), .val (.ref b101), .val (.int (fFu (0 : Int64) mm)), .val (.long cp), .second, .val (.int (0 : Int32))] [(.int (fFu (0 : Int64) mm))]))
        refine Go.by (fun _ kont => XS.iload X115.here hx rfl (hb hby at_170) rfl kont) ?_
        show Go _ _ _ _ _ _ _ (T115.setTop (mkF m 172 #[.val (.long c1), .second, .val (.int k1), .val (.long h1), .second, .val (.long g1), .second, .val (.long cp), .second, .val (.int (0 : Int32)), .val (.ref b101), .val (.int (fFu (0 : Int64) mm)), .val (.long cp), .second, .val (.int (0 : Int32))] [(.int (0 : Int32)), (.int (fFu (0 : Int64) mm))]))
        refine Go.by (fun _ kont => XS.icmpNo X115.here hx rfl (hb hby at_172) rfl (teq hd114).2 kont) ?_
        show Go _ _ _ _ _ _ _ (T115.setTop (mkF m 175 #[.val (.long c1), .second, .val (.int k1), .val (.long h1), .second, .val (.long g1), .second, .val (.long cp), .second, .val (.int (0 : Int32)), .val (.ref b101), .val (.int (fFu (0 : Int64) mm)), .val (.long cp), .second, .val (.int (0 : Int32))] []))
        refine Go.by (fun _ kont => XS.iconst X115.here hx rfl (hb hby at_175) (XS.goto X115.here hx rfl (pc0 := 176) (pc' := 180) rfl (hb hby at_176) (by decide) (by decide) kont)) ?_
        show Go _ _ _ _ _ _ _ (T115.setTop (mkF m 180 #[.val (.long c1), .second, .val (.int k1), .val (.long h1), .second, .val (.long g1), .second, .val (.long cp), .second, .val (.int (0 : Int32)), .val (.ref b101), .val (.int (fFu (0 : Int64) mm)), .val (.long cp), .second, .val (.int (0 : Int32))] [(.int (1 : Int32))]))
        refine Go.retN X115 hx (t := .boolean) hret (by simp) hlk (hb hby at_180) ?_ (by decide) (by decide)
        show Q0 Z h0 n0 (some (.int (1 : Int32))) T115.heap _
        rw [eh115]
        exact ⟨rfl, N115⟩
  · have hz0 : nn.toInt ≠ 0 := fun q => hn0 (Int32.toInt_inj.mp (q.trans (by decide)))
    show Go _ _ _ _ _ _ _ (T105.setTop (mkF m 31 #[.val (.long c1), .second, .val (.int k1), .val (.long h1), .second, .val (.long g1), .second, .val (.long cp), .second, .val (.int nn), .val (.ref b101), .val (.int (fFu (0 : Int64) mm)), .unset, .unset, .unset] []))
    refine Go.by (fun _ kont => XS.iload X105.here hx rfl (hb hby at_31) rfl kont) ?_
    show Go _ _ _ _ _ _ _ (T105.setTop (mkF m 33 #[.val (.long c1), .second, .val (.int k1), .val (.long h1), .second, .val (.long g1), .second, .val (.long cp), .second, .val (.int nn), .val (.ref b101), .val (.int (fFu (0 : Int64) mm)), .unset, .unset, .unset] [(.int nn)]))
    have hd116 : (0 : Int32) < nn := by rw [Int32.lt_iff_toInt_lt, show (0 : Int32).toInt = 0 from by decide]; omega
    refine Go.by (fun _ kont => XS.ifNo X105.here hx rfl (hb hby at_33) rfl ((if0 _ _).trans (tlt hd116).2.2.2) kont) ?_
    show Go _ _ _ _ _ _ _ (T105.setTop (mkF m 36 #[.val (.long c1), .second, .val (.int k1), .val (.long h1), .second, .val (.long g1), .second, .val (.long cp), .second, .val (.int nn), .val (.ref b101), .val (.int (fFu (0 : Int64) mm)), .unset, .unset, .unset] []))
    refine Go.by (fun _ kont => XS.aload X105.here hx rfl (hb hby at_36) rfl rfl (XS.lloadN X105.here hx rfl (hb hby at_38) rfl kont)) ?_
    show Go _ _ _ _ _ _ _ (T105.setTop (mkF m 39 #[.val (.long c1), .second, .val (.int k1), .val (.long h1), .second, .val (.long g1), .second, .val (.long cp), .second, .val (.int nn), .val (.ref b101), .val (.int (fFu (0 : Int64) mm)), .unset, .unset, .unset] [(.long h1), (.ref b101)]))
    obtain ⟨cq117, kq117, q117a, q117b, q117c⟩ := isOf hZ eh105 E103z
    obtain ⟨_, _, ⟨T117, L117, k117, n117⟩, -, X117, ⟨Lc117, hQ117, l117, y117, z117⟩, st117⟩ := X105.virtualBack hx (y := (⟨"com/example/runpulse/runpulse/KnownKeys", "add", "(J)V"⟩ : MethodName)) (z := (⟨"com/example/runpulse/runpulse/KnownKeys", "add", "(J)V"⟩ : MethodName)) hown (mvT hZ (hw _ (List.mem_of_getElem? (i := 32) rfl))) (mvT hZ (hw _ (List.mem_of_getElem? (i := 33) rfl))) (notFace_of_selects (args := #[]) (mvT hZ (hw _ (List.mem_of_getElem? (i := 35) rfl)))) (mvT hZ (hw _ (List.mem_of_getElem? (i := 35) rfl))) (mvT hZ (hw _ (List.mem_of_getElem? (i := 34) rfl))) (by decide) (backOf (W := 0) (rmA l Z a0 hw [] b101 h1 mm bb (0 : Int64) kcb ln T103.heap n0 Z104 E103z Fc103 Fb103 Fa103 V103z ne_b101_bb ge_b101 ge_bb Bl) hZ (hw _ (List.mem_of_getElem? (i := 36) rfl)) (hw _ (List.mem_of_getElem? (i := 3) rfl)) (by decide) (by decide)) q117a q117c (g := (mkF m 39 #[.val (.long c1), .second, .val (.int k1), .val (.long h1), .second, .val (.long g1), .second, .val (.long cp), .second, .val (.int nn), .val (.ref b101), .val (.int (fFu (0 : Int64) mm)), .unset, .unset, .unset] [(.long h1), (.ref b101)])) rfl (by rw [hml]; rfl) (Steps.refl _) (argsL := [(.long h1)]) (rest := []) (lenOf pd0_0 rfl) rfl (by show 2 * 0 + _ ≤ _; exact Nat.le_of_eq rfl) (hb hby at_39) (fun _ _ => ⟨rfl, eh105, (by decide : 2 + 0 ≤ _), (by decide : 5 + 0 ≤ _)⟩)
    dsimp only [Pt.U, Pt.locs, Pt.cells, Pt.slots] at X117 l117 y117 z117 st117 hQ117
    subst l117 y117 z117
    obtain ⟨rfl, N117q, K117, E117z, Fc117, Fb117, Fa117, V117z⟩ := hQ117
    have E118_b101 := E103z.keep K117
    have Z118 := Nat.le_trans Z104 K117.1
    have K118 : Keep h0 T117.heap [] := Keep.trans K104 K117 (allS (Or.inr sz_b101) (allS (Or.inr sz_bb) all0))
    rw [show (0 : Int64) + 1 = (1 : Int64) from by decide] at Fa117
    have N117 := Fr.app N105 N117q
    refine Go.tr st117 ?_
    show Go _ _ _ _ _ _ _ (T117.setTop (mkF m 42 #[.val (.long c1), .second, .val (.int k1), .val (.long h1), .second, .val (.long g1), .second, .val (.long cp), .second, .val (.int nn), .val (.ref b101), .val (.int (fFu (0 : Int64) mm)), .unset, .unset, .unset] []))
    by_cases hn1 : nn = (1 : Int32)
    · subst hn1
      show Go _ _ _ _ _ _ _ (T117.setTop (mkF m 42 #[.val (.long c1), .second, .val (.int k1), .val (.long h1), .second, .val (.long g1), .second, .val (.long cp), .second, .val (.int (1 : Int32)), .val (.ref b101), .val (.int (fFu (0 : Int64) mm)), .unset, .unset, .unset] []))
      refine Go.by (fun _ kont => XS.iload X117.here hx rfl (hb hby at_42) rfl (XS.iconst X117.here hx rfl (hb hby at_44) kont)) ?_
      show Go _ _ _ _ _ _ _ (T117.setTop (mkF m 45 #[.val (.long c1), .second, .val (.int k1), .val (.long h1), .second, .val (.long g1), .second, .val (.long cp), .second, .val (.int (1 : Int32)), .val (.ref b101), .val (.int (fFu (0 : Int64) mm)), .unset, .unset, .unset] [(.int (1 : Int32)), (.int (1 : Int32))]))
      refine Go.by (fun _ kont => XS.icmpYes X117.here hx rfl (pc0 := 45) (pc' := 55) rfl (hb hby at_45) rfl (by decide) (by decide) (by decide) kont) ?_
      show Go _ _ _ _ _ _ _ (T117.setTop (mkF m 55 #[.val (.long c1), .second, .val (.int k1), .val (.long h1), .second, .val (.long g1), .second, .val (.long cp), .second, .val (.int (1 : Int32)), .val (.ref b101), .val (.int (fFu (0 : Int64) mm)), .unset, .unset, .unset] []))
      refine Go.by (fun _ kont => XS.iload X117.here hx rfl (hb hby at_55) rfl (XS.iconst X117.here hx rfl (hb hby at_57) kont)) ?_
      show Go _ _ _ _ _ _ _ (T117.setTop (mkF m 58 #[.val (.long c1), .second, .val (.int k1), .val (.long h1), .second, .val (.long g1), .second, .val (.long cp), .second, .val (.int (1 : Int32)), .val (.ref b101), .val (.int (fFu (0 : Int64) mm)), .unset, .unset, .unset] [(.int (2 : Int32)), (.int (1 : Int32))]))
      refine Go.by (fun _ kont => XS.icmpYes X117.here hx rfl (pc0 := 58) (pc' := 70) rfl (hb hby at_58) rfl (by decide) (by decide) (by decide) kont) ?_
      show Go _ _ _ _ _ _ _ (T117.setTop (mkF m 70 #[.val (.long c1), .second, .val (.int k1), .val (.long h1), .second, .val (.long g1), .second, .val (.long cp), .second, .val (.int (1 : Int32)), .val (.ref b101), .val (.int (fFu (0 : Int64) mm)), .unset, .unset, .unset] []))
      refine Go.by (fun _ kont => XS.iload X117.here hx rfl (hb hby at_70) rfl (XS.iconst X117.here hx rfl (hb hby at_72) kont)) ?_
      show Go _ _ _ _ _ _ _ (T117.setTop (mkF m 73 #[.val (.long c1), .second, .val (.int k1), .val (.long h1), .second, .val (.long g1), .second, .val (.long cp), .second, .val (.int (1 : Int32)), .val (.ref b101), .val (.int (fFu (0 : Int64) mm)), .unset, .unset, .unset] [(.int (3 : Int32)), (.int (1 : Int32))]))
      refine Go.by (fun _ kont => XS.icmpYes X117.here hx rfl (pc0 := 73) (pc' := 85) rfl (hb hby at_73) rfl (by decide) (by decide) (by decide) kont) ?_
      show Go _ _ _ _ _ _ _ (T117.setTop (mkF m 85 #[.val (.long c1), .second, .val (.int k1), .val (.long h1), .second, .val (.long g1), .second, .val (.long cp), .second, .val (.int (1 : Int32)), .val (.ref b101), .val (.int (fFu (0 : Int64) mm)), .unset, .unset, .unset] []))
      refine Go.by (fun _ kont => XS.iload X117.here hx rfl (hb hby at_85) rfl (XS.iconst X117.here hx rfl (hb hby at_87) kont)) ?_
      show Go _ _ _ _ _ _ _ (T117.setTop (mkF m 88 #[.val (.long c1), .second, .val (.int k1), .val (.long h1), .second, .val (.long g1), .second, .val (.long cp), .second, .val (.int (1 : Int32)), .val (.ref b101), .val (.int (fFu (0 : Int64) mm)), .unset, .unset, .unset] [(.int (4 : Int32)), (.int (1 : Int32))]))
      refine Go.by (fun _ kont => XS.icmpYes X117.here hx rfl (pc0 := 88) (pc' := 97) rfl (hb hby at_88) rfl (by decide) (by decide) (by decide) kont) ?_
      show Go _ _ _ _ _ _ _ (T117.setTop (mkF m 97 #[.val (.long c1), .second, .val (.int k1), .val (.long h1), .second, .val (.long g1), .second, .val (.long cp), .second, .val (.int (1 : Int32)), .val (.ref b101), .val (.int (fFu (0 : Int64) mm)), .unset, .unset, .unset] []))
      refine Go.by (fun _ kont => XS.iload X117.here hx rfl (hb hby at_97) rfl (XS.iconst X117.here hx rfl (hb hby at_99) kont)) ?_
      show Go _ _ _ _ _ _ _ (T117.setTop (mkF m 100 #[.val (.long c1), .second, .val (.int k1), .val (.long h1), .second, .val (.long g1), .second, .val (.long cp), .second, .val (.int (1 : Int32)), .val (.ref b101), .val (.int (fFu (0 : Int64) mm)), .unset, .unset, .unset] [(.int (5 : Int32)), (.int (1 : Int32))]))
      refine Go.by (fun _ kont => XS.icmpYes X117.here hx rfl (pc0 := 100) (pc' := 112) rfl (hb hby at_100) rfl (by decide) (by decide) (by decide) kont) ?_
      show Go _ _ _ _ _ _ _ (T117.setTop (mkF m 112 #[.val (.long c1), .second, .val (.int k1), .val (.long h1), .second, .val (.long g1), .second, .val (.long cp), .second, .val (.int (1 : Int32)), .val (.ref b101), .val (.int (fFu (0 : Int64) mm)), .unset, .unset, .unset] []))
      refine Go.by (fun _ kont => XS.iload X117.here hx rfl (hb hby at_112) rfl (XS.bipush X117.here hx rfl (hb hby at_114) kont)) ?_
      show Go _ _ _ _ _ _ _ (T117.setTop (mkF m 116 #[.val (.long c1), .second, .val (.int k1), .val (.long h1), .second, .val (.long g1), .second, .val (.long cp), .second, .val (.int (1 : Int32)), .val (.ref b101), .val (.int (fFu (0 : Int64) mm)), .unset, .unset, .unset] [(.int (6 : Int32)), (.int (1 : Int32))]))
      refine Go.by (fun _ kont => XS.icmpYes X117.here hx rfl (pc0 := 116) (pc' := 129) rfl (hb hby at_116) rfl (by decide) (by decide) (by decide) kont) ?_
      show Go _ _ _ _ _ _ _ (T117.setTop (mkF m 129 #[.val (.long c1), .second, .val (.int k1), .val (.long h1), .second, .val (.long g1), .second, .val (.long cp), .second, .val (.int (1 : Int32)), .val (.ref b101), .val (.int (fFu (0 : Int64) mm)), .unset, .unset, .unset] []))
      refine Go.by (fun _ kont => XS.lload X117.here hx rfl (hb hby at_129) rfl (XS.lconst X117.here hx rfl (hb hby at_131) (XS.lcmp X117.here hx rfl (hb hby at_132) rfl kont))) ?_
      show Go _ _ _ _ _ _ _ (T117.setTop (mkF m 133 #[.val (.long c1), .second, .val (.int k1), .val (.long h1), .second, .val (.long g1), .second, .val (.long cp), .second, .val (.int (1 : Int32)), .val (.ref b101), .val (.int (fFu (0 : Int64) mm)), .unset, .unset, .unset] [(.int (lcmpW cp (1 : Int64)))]))
      by_cases hc119 : cp < (1 : Int64)
      · refine Go.by (fun _ kont => XS.ifNo X117.here hx rfl (hb hby at_133) rfl ((if0 _ _).trans (tlt ((lw_lt _ _).mpr hc119)).2.1) kont) ?_
        show Go _ _ _ _ _ _ _ (T117.setTop (mkF m 136 #[.val (.long c1), .second, .val (.int k1), .val (.long h1), .second, .val (.long g1), .second, .val (.long cp), .second, .val (.int (1 : Int32)), .val (.ref b101), .val (.int (fFu (0 : Int64) mm)), .unset, .unset, .unset] []))
        refine Go.by (fun _ kont => XS.lconst X117.here hx rfl (hb hby at_136) (XS.goto X117.here hx rfl (pc0 := 137) (pc' := 142) rfl (hb hby at_137) (by decide) (by decide) (XS.lstore X117.here hx rfl (hb hby at_142) rfl (l' := #[.val (.long c1), .second, .val (.int k1), .val (.long h1), .second, .val (.long g1), .second, .val (.long cp), .second, .val (.int (1 : Int32)), .val (.ref b101), .val (.int (fFu (0 : Int64) mm)), .val (.long (1 : Int64)), .second, .unset]) rfl (XS.iload X117.here hx rfl (hb hby at_144) rfl (XS.i2l X117.here hx rfl (hb hby at_146) rfl kont))))) ?_
        show Go _ _ _ _ _ _ _ (T117.setTop (mkF m 147 #[.val (.long c1), .second, .val (.int k1), .val (.long h1), .second, .val (.long g1), .second, .val (.long cp), .second, .val (.int (1 : Int32)), .val (.ref b101), .val (.int (fFu (0 : Int64) mm)), .val (.long (1 : Int64)), .second, .unset] [(.long ((1 : Int32).toInt64))]))
        rw [show ((1 : Int32).toInt64) = (1 : Int64) from by decide]
        show Go _ _ _ _ _ _ _ (T117.setTop (mkF m 147 #[.val (.long c1), .second, .val (.int k1), .val (.long h1), .second, .val (.long g1), .second, .val (.long cp), .second, .val (.int (1 : Int32)), .val (.ref b101), .val (.int (fFu (0 : Int64) mm)), .val (.long (1 : Int64)), .second, .unset] [(.long (1 : Int64))]))
        refine Go.by (fun _ kont => XS.lload X117.here hx rfl (hb hby at_147) rfl (XS.lcmp X117.here hx rfl (hb hby at_149) rfl kont)) ?_
        show Go _ _ _ _ _ _ _ (T117.setTop (mkF m 150 #[.val (.long c1), .second, .val (.int k1), .val (.long h1), .second, .val (.long g1), .second, .val (.long cp), .second, .val (.int (1 : Int32)), .val (.ref b101), .val (.int (fFu (0 : Int64) mm)), .val (.long (1 : Int64)), .second, .unset] [(.int (lcmpW (1 : Int64) (1 : Int64)))]))
        have hd120 : ¬ ((1 : Int64) < (1 : Int64)) := by decide
        refine Go.by (fun _ kont => XS.ifYes X117.here hx rfl (pc0 := 150) (pc' := 157) rfl (hb hby at_150) rfl ((if0 _ _).trans (flt (fun z => hd120 ((lw_gt _ _).mp z))).2.2.2) (by decide) (by decide) kont) ?_
        show Go _ _ _ _ _ _ _ (T117.setTop (mkF m 157 #[.val (.long c1), .second, .val (.int k1), .val (.long h1), .second, .val (.long g1), .second, .val (.long cp), .second, .val (.int (1 : Int32)), .val (.ref b101), .val (.int (fFu (0 : Int64) mm)), .val (.long (1 : Int64)), .second, .unset] []))
        refine Go.by (fun _ kont => XS.iconst X117.here hx rfl (hb hby at_157) (XS.istore X117.here hx rfl (hb hby at_158) rfl (l' := #[.val (.long c1), .second, .val (.int k1), .val (.long h1), .second, .val (.long g1), .second, .val (.long cp), .second, .val (.int (1 : Int32)), .val (.ref b101), .val (.int (fFu (0 : Int64) mm)), .val (.long (1 : Int64)), .second, .val (.int (0 : Int32))]) rfl (XS.iload X117.here hx rfl (hb hby at_160) rfl kont))) ?_
        show Go _ _ _ _ _ _ _ (T117.setTop (mkF m 162 #[.val (.long c1), .second, .val (.int k1), .val (.long h1), .second, .val (.long g1), .second, .val (.long cp), .second, .val (.int (1 : Int32)), .val (.ref b101), .val (.int (fFu (0 : Int64) mm)), .val (.long (1 : Int64)), .second, .val (.int (0 : Int32))] [(.int (fFu (0 : Int64) mm))]))
        have hd121 : (fFu (0 : Int64) mm) = (0 : Int32) := own_before mm Bm
        refine Go.by (fun _ kont => XS.ifNo X117.here hx rfl (hb hby at_162) rfl ((if0 _ _).trans (teq hd121).2) kont) ?_
        show Go _ _ _ _ _ _ _ (T117.setTop (mkF m 165 #[.val (.long c1), .second, .val (.int k1), .val (.long h1), .second, .val (.long g1), .second, .val (.long cp), .second, .val (.int (1 : Int32)), .val (.ref b101), .val (.int (fFu (0 : Int64) mm)), .val (.long (1 : Int64)), .second, .val (.int (0 : Int32))] []))
        refine Go.by (fun _ kont => XS.aload X117.here hx rfl (hb hby at_165) rfl rfl kont) ?_
        show Go _ _ _ _ _ _ _ (T117.setTop (mkF m 167 #[.val (.long c1), .second, .val (.int k1), .val (.long h1), .second, .val (.long g1), .second, .val (.long cp), .second, .val (.int (1 : Int32)), .val (.ref b101), .val (.int (fFu (0 : Int64) mm)), .val (.long (1 : Int64)), .second, .val (.int (0 : Int32))] [(.ref b101)]))
        obtain ⟨cq122, kq122, q122a, q122b, q122c⟩ := isOf hZ rfl E117z
        obtain ⟨_, _, ⟨T122, L122, k122, n122⟩, -, X122, ⟨Lc122, hQ122, l122, y122, z122⟩, st122⟩ := X117.virtualBack hx (y := (⟨"com/example/runpulse/runpulse/KnownKeys", "isFull", "()Z"⟩ : MethodName)) (z := (⟨"com/example/runpulse/runpulse/KnownKeys", "isFull", "()Z"⟩ : MethodName)) hown (mvT hZ (hw _ (List.mem_of_getElem? (i := 25) rfl))) (mvT hZ (hw _ (List.mem_of_getElem? (i := 26) rfl))) (notFace_of_selects (args := #[]) (mvT hZ (hw _ (List.mem_of_getElem? (i := 28) rfl)))) (mvT hZ (hw _ (List.mem_of_getElem? (i := 28) rfl))) (mvT hZ (hw _ (List.mem_of_getElem? (i := 27) rfl))) (by decide) (backOf (W := 0) (rmFu l Z a0 hw [] b101 (1 : Int64) mm T117.heap n0 Z118 Fa117 Fc117) hZ (hw _ (List.mem_of_getElem? (i := 29) rfl)) (hw _ (List.mem_of_getElem? (i := 3) rfl)) (by decide) (by decide)) q122a q122c (g := (mkF m 167 #[.val (.long c1), .second, .val (.int k1), .val (.long h1), .second, .val (.long g1), .second, .val (.long cp), .second, .val (.int (1 : Int32)), .val (.ref b101), .val (.int (fFu (0 : Int64) mm)), .val (.long (1 : Int64)), .second, .val (.int (0 : Int32))] [(.ref b101)])) rfl (by rw [hml]; rfl) (Steps.refl _) (argsL := []) (rest := []) (lenOf pd0_1 rfl) rfl (by show 2 * 0 + _ ≤ _; exact Nat.le_of_eq rfl) (hb hby at_167) (fun _ _ => ⟨rfl, rfl, (by decide : 2 + 0 ≤ _), (by decide : 5 + 0 ≤ _)⟩)
        dsimp only [Pt.U, Pt.locs, Pt.cells, Pt.slots] at X122 l122 y122 z122 st122 hQ122
        subst l122 y122 z122
        obtain ⟨rfl, N122q, eh122⟩ := hQ122
        have N122 := Fr.app N117 N122q
        refine Go.tr st122 ?_
        show Go _ _ _ _ _ _ _ (T122.setTop (mkF m 170 #[.val (.long c1), .second, .val (.int k1), .val (.long h1), .second, .val (.long g1), .second, .val (.long cp), .second, .val (.int (1 : Int32)), .val (.ref b101), .val (.int (fFu (0 : Int64) mm)), .val (.long (1 : Int64)), .second, .val (.int (0 : Int32))] [(.int (fFu (1 : Int64) mm))]))
        refine Go.by (fun _ kont => XS.iload X122.here hx rfl (hb hby at_170) rfl kont) ?_
        show Go _ _ _ _ _ _ _ (T122.setTop (mkF m 172 #[.val (.long c1), .second, .val (.int k1), .val (.long h1), .second, .val (.long g1), .second, .val (.long cp), .second, .val (.int (1 : Int32)), .val (.ref b101), .val (.int (fFu (0 : Int64) mm)), .val (.long (1 : Int64)), .second, .val (.int (0 : Int32))] [(.int (0 : Int32)), (.int (fFu (1 : Int64) mm))]))
        have hd123 : (fFu (1 : Int64) mm) = (0 : Int32) := own_fF mm (1 : Int64) (by have q := own_m1 cp mm hm hc119; rw [q]; decide)
        refine Go.by (fun _ kont => XS.icmpNo X122.here hx rfl (hb hby at_172) rfl (teq hd123).2 kont) ?_
        show Go _ _ _ _ _ _ _ (T122.setTop (mkF m 175 #[.val (.long c1), .second, .val (.int k1), .val (.long h1), .second, .val (.long g1), .second, .val (.long cp), .second, .val (.int (1 : Int32)), .val (.ref b101), .val (.int (fFu (0 : Int64) mm)), .val (.long (1 : Int64)), .second, .val (.int (0 : Int32))] []))
        refine Go.by (fun _ kont => XS.iconst X122.here hx rfl (hb hby at_175) (XS.goto X122.here hx rfl (pc0 := 176) (pc' := 180) rfl (hb hby at_176) (by decide) (by decide) kont)) ?_
        show Go _ _ _ _ _ _ _ (T122.setTop (mkF m 180 #[.val (.long c1), .second, .val (.int k1), .val (.long h1), .second, .val (.long g1), .second, .val (.long cp), .second, .val (.int (1 : Int32)), .val (.ref b101), .val (.int (fFu (0 : Int64) mm)), .val (.long (1 : Int64)), .second, .val (.int (0 : Int32))] [(.int (1 : Int32))]))
        refine Go.retN X122 hx (t := .boolean) hret (by simp) hlk (hb hby at_180) ?_ (by decide) (by decide)
        show Q0 Z h0 n0 (some (.int (1 : Int32))) T122.heap _
        rw [eh122]
        exact ⟨rfl, N122⟩
      · refine Go.by (fun _ kont => XS.ifYes X117.here hx rfl (pc0 := 133) (pc' := 140) rfl (hb hby at_133) rfl ((if0 _ _).trans (flt (fun z => hc119 ((lw_lt _ _).mp z))).2.1) (by decide) (by decide) kont) ?_
        show Go _ _ _ _ _ _ _ (T117.setTop (mkF m 140 #[.val (.long c1), .second, .val (.int k1), .val (.long h1), .second, .val (.long g1), .second, .val (.long cp), .second, .val (.int (1 : Int32)), .val (.ref b101), .val (.int (fFu (0 : Int64) mm)), .unset, .unset, .unset] []))
        refine Go.by (fun _ kont => XS.lload X117.here hx rfl (hb hby at_140) rfl (XS.lstore X117.here hx rfl (hb hby at_142) rfl (l' := #[.val (.long c1), .second, .val (.int k1), .val (.long h1), .second, .val (.long g1), .second, .val (.long cp), .second, .val (.int (1 : Int32)), .val (.ref b101), .val (.int (fFu (0 : Int64) mm)), .val (.long cp), .second, .unset]) rfl (XS.iload X117.here hx rfl (hb hby at_144) rfl (XS.i2l X117.here hx rfl (hb hby at_146) rfl kont)))) ?_
        show Go _ _ _ _ _ _ _ (T117.setTop (mkF m 147 #[.val (.long c1), .second, .val (.int k1), .val (.long h1), .second, .val (.long g1), .second, .val (.long cp), .second, .val (.int (1 : Int32)), .val (.ref b101), .val (.int (fFu (0 : Int64) mm)), .val (.long cp), .second, .unset] [(.long ((1 : Int32).toInt64))]))
        rw [show ((1 : Int32).toInt64) = (1 : Int64) from by decide]
        show Go _ _ _ _ _ _ _ (T117.setTop (mkF m 147 #[.val (.long c1), .second, .val (.int k1), .val (.long h1), .second, .val (.long g1), .second, .val (.long cp), .second, .val (.int (1 : Int32)), .val (.ref b101), .val (.int (fFu (0 : Int64) mm)), .val (.long cp), .second, .unset] [(.long (1 : Int64))]))
        refine Go.by (fun _ kont => XS.lload X117.here hx rfl (hb hby at_147) rfl (XS.lcmp X117.here hx rfl (hb hby at_149) rfl kont)) ?_
        show Go _ _ _ _ _ _ _ (T117.setTop (mkF m 150 #[.val (.long c1), .second, .val (.int k1), .val (.long h1), .second, .val (.long g1), .second, .val (.long cp), .second, .val (.int (1 : Int32)), .val (.ref b101), .val (.int (fFu (0 : Int64) mm)), .val (.long cp), .second, .unset] [(.int (lcmpW (1 : Int64) cp))]))
        refine Go.by (fun _ kont => XS.ifYes X117.here hx rfl (pc0 := 150) (pc' := 157) rfl (hb hby at_150) rfl ((if0 _ _).trans (flt (fun z => hc119 ((lw_gt _ _).mp z))).2.2.2) (by decide) (by decide) kont) ?_
        show Go _ _ _ _ _ _ _ (T117.setTop (mkF m 157 #[.val (.long c1), .second, .val (.int k1), .val (.long h1), .second, .val (.long g1), .second, .val (.long cp), .second, .val (.int (1 : Int32)), .val (.ref b101), .val (.int (fFu (0 : Int64) mm)), .val (.long cp), .second, .unset] []))
        refine Go.by (fun _ kont => XS.iconst X117.here hx rfl (hb hby at_157) (XS.istore X117.here hx rfl (hb hby at_158) rfl (l' := #[.val (.long c1), .second, .val (.int k1), .val (.long h1), .second, .val (.long g1), .second, .val (.long cp), .second, .val (.int (1 : Int32)), .val (.ref b101), .val (.int (fFu (0 : Int64) mm)), .val (.long cp), .second, .val (.int (0 : Int32))]) rfl (XS.iload X117.here hx rfl (hb hby at_160) rfl kont))) ?_
        show Go _ _ _ _ _ _ _ (T117.setTop (mkF m 162 #[.val (.long c1), .second, .val (.int k1), .val (.long h1), .second, .val (.long g1), .second, .val (.long cp), .second, .val (.int (1 : Int32)), .val (.ref b101), .val (.int (fFu (0 : Int64) mm)), .val (.long cp), .second, .val (.int (0 : Int32))] [(.int (fFu (0 : Int64) mm))]))
        have hd124 : (fFu (0 : Int64) mm) = (0 : Int32) := own_before mm Bm
        refine Go.by (fun _ kont => XS.ifNo X117.here hx rfl (hb hby at_162) rfl ((if0 _ _).trans (teq hd124).2) kont) ?_
        show Go _ _ _ _ _ _ _ (T117.setTop (mkF m 165 #[.val (.long c1), .second, .val (.int k1), .val (.long h1), .second, .val (.long g1), .second, .val (.long cp), .second, .val (.int (1 : Int32)), .val (.ref b101), .val (.int (fFu (0 : Int64) mm)), .val (.long cp), .second, .val (.int (0 : Int32))] []))
        refine Go.by (fun _ kont => XS.aload X117.here hx rfl (hb hby at_165) rfl rfl kont) ?_
        show Go _ _ _ _ _ _ _ (T117.setTop (mkF m 167 #[.val (.long c1), .second, .val (.int k1), .val (.long h1), .second, .val (.long g1), .second, .val (.long cp), .second, .val (.int (1 : Int32)), .val (.ref b101), .val (.int (fFu (0 : Int64) mm)), .val (.long cp), .second, .val (.int (0 : Int32))] [(.ref b101)]))
        obtain ⟨cq125, kq125, q125a, q125b, q125c⟩ := isOf hZ rfl E117z
        obtain ⟨_, _, ⟨T125, L125, k125, n125⟩, -, X125, ⟨Lc125, hQ125, l125, y125, z125⟩, st125⟩ := X117.virtualBack hx (y := (⟨"com/example/runpulse/runpulse/KnownKeys", "isFull", "()Z"⟩ : MethodName)) (z := (⟨"com/example/runpulse/runpulse/KnownKeys", "isFull", "()Z"⟩ : MethodName)) hown (mvT hZ (hw _ (List.mem_of_getElem? (i := 25) rfl))) (mvT hZ (hw _ (List.mem_of_getElem? (i := 26) rfl))) (notFace_of_selects (args := #[]) (mvT hZ (hw _ (List.mem_of_getElem? (i := 28) rfl)))) (mvT hZ (hw _ (List.mem_of_getElem? (i := 28) rfl))) (mvT hZ (hw _ (List.mem_of_getElem? (i := 27) rfl))) (by decide) (backOf (W := 0) (rmFu l Z a0 hw [] b101 (1 : Int64) mm T117.heap n0 Z118 Fa117 Fc117) hZ (hw _ (List.mem_of_getElem? (i := 29) rfl)) (hw _ (List.mem_of_getElem? (i := 3) rfl)) (by decide) (by decide)) q125a q125c (g := (mkF m 167 #[.val (.long c1), .second, .val (.int k1), .val (.long h1), .second, .val (.long g1), .second, .val (.long cp), .second, .val (.int (1 : Int32)), .val (.ref b101), .val (.int (fFu (0 : Int64) mm)), .val (.long cp), .second, .val (.int (0 : Int32))] [(.ref b101)])) rfl (by rw [hml]; rfl) (Steps.refl _) (argsL := []) (rest := []) (lenOf pd0_1 rfl) rfl (by show 2 * 0 + _ ≤ _; exact Nat.le_of_eq rfl) (hb hby at_167) (fun _ _ => ⟨rfl, rfl, (by decide : 2 + 0 ≤ _), (by decide : 5 + 0 ≤ _)⟩)
        dsimp only [Pt.U, Pt.locs, Pt.cells, Pt.slots] at X125 l125 y125 z125 st125 hQ125
        subst l125 y125 z125
        obtain ⟨rfl, N125q, eh125⟩ := hQ125
        have N125 := Fr.app N117 N125q
        refine Go.tr st125 ?_
        show Go _ _ _ _ _ _ _ (T125.setTop (mkF m 170 #[.val (.long c1), .second, .val (.int k1), .val (.long h1), .second, .val (.long g1), .second, .val (.long cp), .second, .val (.int (1 : Int32)), .val (.ref b101), .val (.int (fFu (0 : Int64) mm)), .val (.long cp), .second, .val (.int (0 : Int32))] [(.int (fFu (1 : Int64) mm))]))
        refine Go.by (fun _ kont => XS.iload X125.here hx rfl (hb hby at_170) rfl kont) ?_
        show Go _ _ _ _ _ _ _ (T125.setTop (mkF m 172 #[.val (.long c1), .second, .val (.int k1), .val (.long h1), .second, .val (.long g1), .second, .val (.long cp), .second, .val (.int (1 : Int32)), .val (.ref b101), .val (.int (fFu (0 : Int64) mm)), .val (.long cp), .second, .val (.int (0 : Int32))] [(.int (0 : Int32)), (.int (fFu (1 : Int64) mm))]))
        have hd126 : (fFu (1 : Int64) mm) = (0 : Int32) := own_fF mm (1 : Int64) (by have q := own_m2 cp mm hm hc119; rw [q]; exact hc119)
        refine Go.by (fun _ kont => XS.icmpNo X125.here hx rfl (hb hby at_172) rfl (teq hd126).2 kont) ?_
        show Go _ _ _ _ _ _ _ (T125.setTop (mkF m 175 #[.val (.long c1), .second, .val (.int k1), .val (.long h1), .second, .val (.long g1), .second, .val (.long cp), .second, .val (.int (1 : Int32)), .val (.ref b101), .val (.int (fFu (0 : Int64) mm)), .val (.long cp), .second, .val (.int (0 : Int32))] []))
        refine Go.by (fun _ kont => XS.iconst X125.here hx rfl (hb hby at_175) (XS.goto X125.here hx rfl (pc0 := 176) (pc' := 180) rfl (hb hby at_176) (by decide) (by decide) kont)) ?_
        show Go _ _ _ _ _ _ _ (T125.setTop (mkF m 180 #[.val (.long c1), .second, .val (.int k1), .val (.long h1), .second, .val (.long g1), .second, .val (.long cp), .second, .val (.int (1 : Int32)), .val (.ref b101), .val (.int (fFu (0 : Int64) mm)), .val (.long cp), .second, .val (.int (0 : Int32))] [(.int (1 : Int32))]))
        refine Go.retN X125 hx (t := .boolean) hret (by simp) hlk (hb hby at_180) ?_ (by decide) (by decide)
        show Q0 Z h0 n0 (some (.int (1 : Int32))) T125.heap _
        rw [eh125]
        exact ⟨rfl, N125⟩
    · have hz1 : nn.toInt ≠ 1 := fun q => hn1 (Int32.toInt_inj.mp (q.trans (by decide)))
      show Go _ _ _ _ _ _ _ (T117.setTop (mkF m 42 #[.val (.long c1), .second, .val (.int k1), .val (.long h1), .second, .val (.long g1), .second, .val (.long cp), .second, .val (.int nn), .val (.ref b101), .val (.int (fFu (0 : Int64) mm)), .unset, .unset, .unset] []))
      refine Go.by (fun _ kont => XS.iload X117.here hx rfl (hb hby at_42) rfl (XS.iconst X117.here hx rfl (hb hby at_44) kont)) ?_
      show Go _ _ _ _ _ _ _ (T117.setTop (mkF m 45 #[.val (.long c1), .second, .val (.int k1), .val (.long h1), .second, .val (.long g1), .second, .val (.long cp), .second, .val (.int nn), .val (.ref b101), .val (.int (fFu (0 : Int64) mm)), .unset, .unset, .unset] [(.int (1 : Int32)), (.int nn)]))
      have hd127 : (1 : Int32) < nn := by rw [Int32.lt_iff_toInt_lt, show (1 : Int32).toInt = 1 from by decide]; omega
      refine Go.by (fun _ kont => XS.icmpNo X117.here hx rfl (hb hby at_45) rfl (tlt hd127).2.2.2 kont) ?_
      show Go _ _ _ _ _ _ _ (T117.setTop (mkF m 48 #[.val (.long c1), .second, .val (.int k1), .val (.long h1), .second, .val (.long g1), .second, .val (.long cp), .second, .val (.int nn), .val (.ref b101), .val (.int (fFu (0 : Int64) mm)), .unset, .unset, .unset] []))
      refine Go.by (fun _ kont => XS.aload X117.here hx rfl (hb hby at_48) rfl rfl (XS.lload X117.here hx rfl (hb hby at_50) rfl kont)) ?_
      show Go _ _ _ _ _ _ _ (T117.setTop (mkF m 52 #[.val (.long c1), .second, .val (.int k1), .val (.long h1), .second, .val (.long g1), .second, .val (.long cp), .second, .val (.int nn), .val (.ref b101), .val (.int (fFu (0 : Int64) mm)), .unset, .unset, .unset] [(.long g1), (.ref b101)]))
      obtain ⟨cq128, kq128, q128a, q128b, q128c⟩ := isOf hZ rfl E117z
      obtain ⟨_, _, ⟨T128, L128, k128, n128⟩, -, X128, ⟨Lc128, hQ128, l128, y128, z128⟩, st128⟩ := X117.virtualBack hx (y := (⟨"com/example/runpulse/runpulse/KnownKeys", "add", "(J)V"⟩ : MethodName)) (z := (⟨"com/example/runpulse/runpulse/KnownKeys", "add", "(J)V"⟩ : MethodName)) hown (mvT hZ (hw _ (List.mem_of_getElem? (i := 32) rfl))) (mvT hZ (hw _ (List.mem_of_getElem? (i := 33) rfl))) (notFace_of_selects (args := #[]) (mvT hZ (hw _ (List.mem_of_getElem? (i := 35) rfl)))) (mvT hZ (hw _ (List.mem_of_getElem? (i := 35) rfl))) (mvT hZ (hw _ (List.mem_of_getElem? (i := 34) rfl))) (by decide) (backOf (W := 0) (rmA l Z a0 hw [] b101 g1 mm bb (1 : Int64) kcb ln T117.heap n0 Z118 E117z Fc117 Fb117 Fa117 V117z ne_b101_bb ge_b101 ge_bb Bl) hZ (hw _ (List.mem_of_getElem? (i := 36) rfl)) (hw _ (List.mem_of_getElem? (i := 3) rfl)) (by decide) (by decide)) q128a q128c (g := (mkF m 52 #[.val (.long c1), .second, .val (.int k1), .val (.long h1), .second, .val (.long g1), .second, .val (.long cp), .second, .val (.int nn), .val (.ref b101), .val (.int (fFu (0 : Int64) mm)), .unset, .unset, .unset] [(.long g1), (.ref b101)])) rfl (by rw [hml]; rfl) (Steps.refl _) (argsL := [(.long g1)]) (rest := []) (lenOf pd0_0 rfl) rfl (by show 2 * 0 + _ ≤ _; exact Nat.le_of_eq rfl) (hb hby at_52) (fun _ _ => ⟨rfl, rfl, (by decide : 2 + 0 ≤ _), (by decide : 5 + 0 ≤ _)⟩)
      dsimp only [Pt.U, Pt.locs, Pt.cells, Pt.slots] at X128 l128 y128 z128 st128 hQ128
      subst l128 y128 z128
      obtain ⟨rfl, N128q, K128, E128z, Fc128, Fb128, Fa128, V128z⟩ := hQ128
      have E129_b101 := E117z.keep K128
      have Z129 := Nat.le_trans Z118 K128.1
      have K129 : Keep h0 T128.heap [] := Keep.trans K118 K128 (allS (Or.inr sz_b101) (allS (Or.inr sz_bb) all0))
      rw [show (1 : Int64) + 1 = (2 : Int64) from by decide] at Fa128
      have N128 := Fr.app N117 N128q
      refine Go.tr st128 ?_
      show Go _ _ _ _ _ _ _ (T128.setTop (mkF m 55 #[.val (.long c1), .second, .val (.int k1), .val (.long h1), .second, .val (.long g1), .second, .val (.long cp), .second, .val (.int nn), .val (.ref b101), .val (.int (fFu (0 : Int64) mm)), .unset, .unset, .unset] []))
      by_cases hn2 : nn = (2 : Int32)
      · subst hn2
        show Go _ _ _ _ _ _ _ (T128.setTop (mkF m 55 #[.val (.long c1), .second, .val (.int k1), .val (.long h1), .second, .val (.long g1), .second, .val (.long cp), .second, .val (.int (2 : Int32)), .val (.ref b101), .val (.int (fFu (0 : Int64) mm)), .unset, .unset, .unset] []))
        refine Go.by (fun _ kont => XS.iload X128.here hx rfl (hb hby at_55) rfl (XS.iconst X128.here hx rfl (hb hby at_57) kont)) ?_
        show Go _ _ _ _ _ _ _ (T128.setTop (mkF m 58 #[.val (.long c1), .second, .val (.int k1), .val (.long h1), .second, .val (.long g1), .second, .val (.long cp), .second, .val (.int (2 : Int32)), .val (.ref b101), .val (.int (fFu (0 : Int64) mm)), .unset, .unset, .unset] [(.int (2 : Int32)), (.int (2 : Int32))]))
        refine Go.by (fun _ kont => XS.icmpYes X128.here hx rfl (pc0 := 58) (pc' := 70) rfl (hb hby at_58) rfl (by decide) (by decide) (by decide) kont) ?_
        show Go _ _ _ _ _ _ _ (T128.setTop (mkF m 70 #[.val (.long c1), .second, .val (.int k1), .val (.long h1), .second, .val (.long g1), .second, .val (.long cp), .second, .val (.int (2 : Int32)), .val (.ref b101), .val (.int (fFu (0 : Int64) mm)), .unset, .unset, .unset] []))
        refine Go.by (fun _ kont => XS.iload X128.here hx rfl (hb hby at_70) rfl (XS.iconst X128.here hx rfl (hb hby at_72) kont)) ?_
        show Go _ _ _ _ _ _ _ (T128.setTop (mkF m 73 #[.val (.long c1), .second, .val (.int k1), .val (.long h1), .second, .val (.long g1), .second, .val (.long cp), .second, .val (.int (2 : Int32)), .val (.ref b101), .val (.int (fFu (0 : Int64) mm)), .unset, .unset, .unset] [(.int (3 : Int32)), (.int (2 : Int32))]))
        refine Go.by (fun _ kont => XS.icmpYes X128.here hx rfl (pc0 := 73) (pc' := 85) rfl (hb hby at_73) rfl (by decide) (by decide) (by decide) kont) ?_
        show Go _ _ _ _ _ _ _ (T128.setTop (mkF m 85 #[.val (.long c1), .second, .val (.int k1), .val (.long h1), .second, .val (.long g1), .second, .val (.long cp), .second, .val (.int (2 : Int32)), .val (.ref b101), .val (.int (fFu (0 : Int64) mm)), .unset, .unset, .unset] []))
        refine Go.by (fun _ kont => XS.iload X128.here hx rfl (hb hby at_85) rfl (XS.iconst X128.here hx rfl (hb hby at_87) kont)) ?_
        show Go _ _ _ _ _ _ _ (T128.setTop (mkF m 88 #[.val (.long c1), .second, .val (.int k1), .val (.long h1), .second, .val (.long g1), .second, .val (.long cp), .second, .val (.int (2 : Int32)), .val (.ref b101), .val (.int (fFu (0 : Int64) mm)), .unset, .unset, .unset] [(.int (4 : Int32)), (.int (2 : Int32))]))
        refine Go.by (fun _ kont => XS.icmpYes X128.here hx rfl (pc0 := 88) (pc' := 97) rfl (hb hby at_88) rfl (by decide) (by decide) (by decide) kont) ?_
        show Go _ _ _ _ _ _ _ (T128.setTop (mkF m 97 #[.val (.long c1), .second, .val (.int k1), .val (.long h1), .second, .val (.long g1), .second, .val (.long cp), .second, .val (.int (2 : Int32)), .val (.ref b101), .val (.int (fFu (0 : Int64) mm)), .unset, .unset, .unset] []))
        refine Go.by (fun _ kont => XS.iload X128.here hx rfl (hb hby at_97) rfl (XS.iconst X128.here hx rfl (hb hby at_99) kont)) ?_
        show Go _ _ _ _ _ _ _ (T128.setTop (mkF m 100 #[.val (.long c1), .second, .val (.int k1), .val (.long h1), .second, .val (.long g1), .second, .val (.long cp), .second, .val (.int (2 : Int32)), .val (.ref b101), .val (.int (fFu (0 : Int64) mm)), .unset, .unset, .unset] [(.int (5 : Int32)), (.int (2 : Int32))]))
        refine Go.by (fun _ kont => XS.icmpYes X128.here hx rfl (pc0 := 100) (pc' := 112) rfl (hb hby at_100) rfl (by decide) (by decide) (by decide) kont) ?_
        show Go _ _ _ _ _ _ _ (T128.setTop (mkF m 112 #[.val (.long c1), .second, .val (.int k1), .val (.long h1), .second, .val (.long g1), .second, .val (.long cp), .second, .val (.int (2 : Int32)), .val (.ref b101), .val (.int (fFu (0 : Int64) mm)), .unset, .unset, .unset] []))
        refine Go.by (fun _ kont => XS.iload X128.here hx rfl (hb hby at_112) rfl (XS.bipush X128.here hx rfl (hb hby at_114) kont)) ?_
        show Go _ _ _ _ _ _ _ (T128.setTop (mkF m 116 #[.val (.long c1), .second, .val (.int k1), .val (.long h1), .second, .val (.long g1), .second, .val (.long cp), .second, .val (.int (2 : Int32)), .val (.ref b101), .val (.int (fFu (0 : Int64) mm)), .unset, .unset, .unset] [(.int (6 : Int32)), (.int (2 : Int32))]))
        refine Go.by (fun _ kont => XS.icmpYes X128.here hx rfl (pc0 := 116) (pc' := 129) rfl (hb hby at_116) rfl (by decide) (by decide) (by decide) kont) ?_
        show Go _ _ _ _ _ _ _ (T128.setTop (mkF m 129 #[.val (.long c1), .second, .val (.int k1), .val (.long h1), .second, .val (.long g1), .second, .val (.long cp), .second, .val (.int (2 : Int32)), .val (.ref b101), .val (.int (fFu (0 : Int64) mm)), .unset, .unset, .unset] []))
        refine Go.by (fun _ kont => XS.lload X128.here hx rfl (hb hby at_129) rfl (XS.lconst X128.here hx rfl (hb hby at_131) (XS.lcmp X128.here hx rfl (hb hby at_132) rfl kont))) ?_
        show Go _ _ _ _ _ _ _ (T128.setTop (mkF m 133 #[.val (.long c1), .second, .val (.int k1), .val (.long h1), .second, .val (.long g1), .second, .val (.long cp), .second, .val (.int (2 : Int32)), .val (.ref b101), .val (.int (fFu (0 : Int64) mm)), .unset, .unset, .unset] [(.int (lcmpW cp (1 : Int64)))]))
        by_cases hc130 : cp < (1 : Int64)
        · refine Go.by (fun _ kont => XS.ifNo X128.here hx rfl (hb hby at_133) rfl ((if0 _ _).trans (tlt ((lw_lt _ _).mpr hc130)).2.1) kont) ?_
          show Go _ _ _ _ _ _ _ (T128.setTop (mkF m 136 #[.val (.long c1), .second, .val (.int k1), .val (.long h1), .second, .val (.long g1), .second, .val (.long cp), .second, .val (.int (2 : Int32)), .val (.ref b101), .val (.int (fFu (0 : Int64) mm)), .unset, .unset, .unset] []))
          refine Go.by (fun _ kont => XS.lconst X128.here hx rfl (hb hby at_136) (XS.goto X128.here hx rfl (pc0 := 137) (pc' := 142) rfl (hb hby at_137) (by decide) (by decide) (XS.lstore X128.here hx rfl (hb hby at_142) rfl (l' := #[.val (.long c1), .second, .val (.int k1), .val (.long h1), .second, .val (.long g1), .second, .val (.long cp), .second, .val (.int (2 : Int32)), .val (.ref b101), .val (.int (fFu (0 : Int64) mm)), .val (.long (1 : Int64)), .second, .unset]) rfl (XS.iload X128.here hx rfl (hb hby at_144) rfl (XS.i2l X128.here hx rfl (hb hby at_146) rfl kont))))) ?_
          show Go _ _ _ _ _ _ _ (T128.setTop (mkF m 147 #[.val (.long c1), .second, .val (.int k1), .val (.long h1), .second, .val (.long g1), .second, .val (.long cp), .second, .val (.int (2 : Int32)), .val (.ref b101), .val (.int (fFu (0 : Int64) mm)), .val (.long (1 : Int64)), .second, .unset] [(.long ((2 : Int32).toInt64))]))
          rw [show ((2 : Int32).toInt64) = (2 : Int64) from by decide]
          show Go _ _ _ _ _ _ _ (T128.setTop (mkF m 147 #[.val (.long c1), .second, .val (.int k1), .val (.long h1), .second, .val (.long g1), .second, .val (.long cp), .second, .val (.int (2 : Int32)), .val (.ref b101), .val (.int (fFu (0 : Int64) mm)), .val (.long (1 : Int64)), .second, .unset] [(.long (2 : Int64))]))
          refine Go.by (fun _ kont => XS.lload X128.here hx rfl (hb hby at_147) rfl (XS.lcmp X128.here hx rfl (hb hby at_149) rfl kont)) ?_
          show Go _ _ _ _ _ _ _ (T128.setTop (mkF m 150 #[.val (.long c1), .second, .val (.int k1), .val (.long h1), .second, .val (.long g1), .second, .val (.long cp), .second, .val (.int (2 : Int32)), .val (.ref b101), .val (.int (fFu (0 : Int64) mm)), .val (.long (1 : Int64)), .second, .unset] [(.int (lcmpW (2 : Int64) (1 : Int64)))]))
          have hd131 : (1 : Int64) < (2 : Int64) := by decide
          refine Go.by (fun _ kont => XS.ifNo X128.here hx rfl (hb hby at_150) rfl ((if0 _ _).trans (tlt ((lw_gt _ _).mpr hd131)).2.2.2) kont) ?_
          show Go _ _ _ _ _ _ _ (T128.setTop (mkF m 153 #[.val (.long c1), .second, .val (.int k1), .val (.long h1), .second, .val (.long g1), .second, .val (.long cp), .second, .val (.int (2 : Int32)), .val (.ref b101), .val (.int (fFu (0 : Int64) mm)), .val (.long (1 : Int64)), .second, .unset] []))
          refine Go.by (fun _ kont => XS.iconst X128.here hx rfl (hb hby at_153) (XS.goto X128.here hx rfl (pc0 := 154) (pc' := 158) rfl (hb hby at_154) (by decide) (by decide) (XS.istore X128.here hx rfl (hb hby at_158) rfl (l' := #[.val (.long c1), .second, .val (.int k1), .val (.long h1), .second, .val (.long g1), .second, .val (.long cp), .second, .val (.int (2 : Int32)), .val (.ref b101), .val (.int (fFu (0 : Int64) mm)), .val (.long (1 : Int64)), .second, .val (.int (1 : Int32))]) rfl (XS.iload X128.here hx rfl (hb hby at_160) rfl kont)))) ?_
          show Go _ _ _ _ _ _ _ (T128.setTop (mkF m 162 #[.val (.long c1), .second, .val (.int k1), .val (.long h1), .second, .val (.long g1), .second, .val (.long cp), .second, .val (.int (2 : Int32)), .val (.ref b101), .val (.int (fFu (0 : Int64) mm)), .val (.long (1 : Int64)), .second, .val (.int (1 : Int32))] [(.int (fFu (0 : Int64) mm))]))
          have hd132 : (fFu (0 : Int64) mm) = (0 : Int32) := own_before mm Bm
          refine Go.by (fun _ kont => XS.ifNo X128.here hx rfl (hb hby at_162) rfl ((if0 _ _).trans (teq hd132).2) kont) ?_
          show Go _ _ _ _ _ _ _ (T128.setTop (mkF m 165 #[.val (.long c1), .second, .val (.int k1), .val (.long h1), .second, .val (.long g1), .second, .val (.long cp), .second, .val (.int (2 : Int32)), .val (.ref b101), .val (.int (fFu (0 : Int64) mm)), .val (.long (1 : Int64)), .second, .val (.int (1 : Int32))] []))
          refine Go.by (fun _ kont => XS.aload X128.here hx rfl (hb hby at_165) rfl rfl kont) ?_
          show Go _ _ _ _ _ _ _ (T128.setTop (mkF m 167 #[.val (.long c1), .second, .val (.int k1), .val (.long h1), .second, .val (.long g1), .second, .val (.long cp), .second, .val (.int (2 : Int32)), .val (.ref b101), .val (.int (fFu (0 : Int64) mm)), .val (.long (1 : Int64)), .second, .val (.int (1 : Int32))] [(.ref b101)]))
          obtain ⟨cq133, kq133, q133a, q133b, q133c⟩ := isOf hZ rfl E128z
          obtain ⟨_, _, ⟨T133, L133, k133, n133⟩, -, X133, ⟨Lc133, hQ133, l133, y133, z133⟩, st133⟩ := X128.virtualBack hx (y := (⟨"com/example/runpulse/runpulse/KnownKeys", "isFull", "()Z"⟩ : MethodName)) (z := (⟨"com/example/runpulse/runpulse/KnownKeys", "isFull", "()Z"⟩ : MethodName)) hown (mvT hZ (hw _ (List.mem_of_getElem? (i := 25) rfl))) (mvT hZ (hw _ (List.mem_of_getElem? (i := 26) rfl))) (notFace_of_selects (args := #[]) (mvT hZ (hw _ (List.mem_of_getElem? (i := 28) rfl)))) (mvT hZ (hw _ (List.mem_of_getElem? (i := 28) rfl))) (mvT hZ (hw _ (List.mem_of_getElem? (i := 27) rfl))) (by decide) (backOf (W := 0) (rmFu l Z a0 hw [] b101 (2 : Int64) mm T128.heap n0 Z129 Fa128 Fc128) hZ (hw _ (List.mem_of_getElem? (i := 29) rfl)) (hw _ (List.mem_of_getElem? (i := 3) rfl)) (by decide) (by decide)) q133a q133c (g := (mkF m 167 #[.val (.long c1), .second, .val (.int k1), .val (.long h1), .second, .val (.long g1), .second, .val (.long cp), .second, .val (.int (2 : Int32)), .val (.ref b101), .val (.int (fFu (0 : Int64) mm)), .val (.long (1 : Int64)), .second, .val (.int (1 : Int32))] [(.ref b101)])) rfl (by rw [hml]; rfl) (Steps.refl _) (argsL := []) (rest := []) (lenOf pd0_1 rfl) rfl (by show 2 * 0 + _ ≤ _; exact Nat.le_of_eq rfl) (hb hby at_167) (fun _ _ => ⟨rfl, rfl, (by decide : 2 + 0 ≤ _), (by decide : 5 + 0 ≤ _)⟩)
          dsimp only [Pt.U, Pt.locs, Pt.cells, Pt.slots] at X133 l133 y133 z133 st133 hQ133
          subst l133 y133 z133
          obtain ⟨rfl, N133q, eh133⟩ := hQ133
          have N133 := Fr.app N128 N133q
          refine Go.tr st133 ?_
          show Go _ _ _ _ _ _ _ (T133.setTop (mkF m 170 #[.val (.long c1), .second, .val (.int k1), .val (.long h1), .second, .val (.long g1), .second, .val (.long cp), .second, .val (.int (2 : Int32)), .val (.ref b101), .val (.int (fFu (0 : Int64) mm)), .val (.long (1 : Int64)), .second, .val (.int (1 : Int32))] [(.int (fFu (2 : Int64) mm))]))
          refine Go.by (fun _ kont => XS.iload X133.here hx rfl (hb hby at_170) rfl kont) ?_
          show Go _ _ _ _ _ _ _ (T133.setTop (mkF m 172 #[.val (.long c1), .second, .val (.int k1), .val (.long h1), .second, .val (.long g1), .second, .val (.long cp), .second, .val (.int (2 : Int32)), .val (.ref b101), .val (.int (fFu (0 : Int64) mm)), .val (.long (1 : Int64)), .second, .val (.int (1 : Int32))] [(.int (1 : Int32)), (.int (fFu (2 : Int64) mm))]))
          have hd134 : (fFu (2 : Int64) mm) = (1 : Int32) := own_fT mm (2 : Int64) (by have q := own_m1 cp mm hm hc130; rw [q]; decide)
          refine Go.by (fun _ kont => XS.icmpNo X133.here hx rfl (hb hby at_172) rfl (teq hd134).2 kont) ?_
          show Go _ _ _ _ _ _ _ (T133.setTop (mkF m 175 #[.val (.long c1), .second, .val (.int k1), .val (.long h1), .second, .val (.long g1), .second, .val (.long cp), .second, .val (.int (2 : Int32)), .val (.ref b101), .val (.int (fFu (0 : Int64) mm)), .val (.long (1 : Int64)), .second, .val (.int (1 : Int32))] []))
          refine Go.by (fun _ kont => XS.iconst X133.here hx rfl (hb hby at_175) (XS.goto X133.here hx rfl (pc0 := 176) (pc' := 180) rfl (hb hby at_176) (by decide) (by decide) kont)) ?_
          show Go _ _ _ _ _ _ _ (T133.setTop (mkF m 180 #[.val (.long c1), .second, .val (.int k1), .val (.long h1), .second, .val (.long g1), .second, .val (.long cp), .second, .val (.int (2 : Int32)), .val (.ref b101), .val (.int (fFu (0 : Int64) mm)), .val (.long (1 : Int64)), .second, .val (.int (1 : Int32))] [(.int (1 : Int32))]))
          refine Go.retN X133 hx (t := .boolean) hret (by simp) hlk (hb hby at_180) ?_ (by decide) (by decide)
          show Q0 Z h0 n0 (some (.int (1 : Int32))) T133.heap _
          rw [eh133]
          exact ⟨rfl, N133⟩
        · refine Go.by (fun _ kont => XS.ifYes X128.here hx rfl (pc0 := 133) (pc' := 140) rfl (hb hby at_133) rfl ((if0 _ _).trans (flt (fun z => hc130 ((lw_lt _ _).mp z))).2.1) (by decide) (by decide) kont) ?_
          show Go _ _ _ _ _ _ _ (T128.setTop (mkF m 140 #[.val (.long c1), .second, .val (.int k1), .val (.long h1), .second, .val (.long g1), .second, .val (.long cp), .second, .val (.int (2 : Int32)), .val (.ref b101), .val (.int (fFu (0 : Int64) mm)), .unset, .unset, .unset] []))
          refine Go.by (fun _ kont => XS.lload X128.here hx rfl (hb hby at_140) rfl (XS.lstore X128.here hx rfl (hb hby at_142) rfl (l' := #[.val (.long c1), .second, .val (.int k1), .val (.long h1), .second, .val (.long g1), .second, .val (.long cp), .second, .val (.int (2 : Int32)), .val (.ref b101), .val (.int (fFu (0 : Int64) mm)), .val (.long cp), .second, .unset]) rfl (XS.iload X128.here hx rfl (hb hby at_144) rfl (XS.i2l X128.here hx rfl (hb hby at_146) rfl kont)))) ?_
          show Go _ _ _ _ _ _ _ (T128.setTop (mkF m 147 #[.val (.long c1), .second, .val (.int k1), .val (.long h1), .second, .val (.long g1), .second, .val (.long cp), .second, .val (.int (2 : Int32)), .val (.ref b101), .val (.int (fFu (0 : Int64) mm)), .val (.long cp), .second, .unset] [(.long ((2 : Int32).toInt64))]))
          rw [show ((2 : Int32).toInt64) = (2 : Int64) from by decide]
          show Go _ _ _ _ _ _ _ (T128.setTop (mkF m 147 #[.val (.long c1), .second, .val (.int k1), .val (.long h1), .second, .val (.long g1), .second, .val (.long cp), .second, .val (.int (2 : Int32)), .val (.ref b101), .val (.int (fFu (0 : Int64) mm)), .val (.long cp), .second, .unset] [(.long (2 : Int64))]))
          refine Go.by (fun _ kont => XS.lload X128.here hx rfl (hb hby at_147) rfl (XS.lcmp X128.here hx rfl (hb hby at_149) rfl kont)) ?_
          show Go _ _ _ _ _ _ _ (T128.setTop (mkF m 150 #[.val (.long c1), .second, .val (.int k1), .val (.long h1), .second, .val (.long g1), .second, .val (.long cp), .second, .val (.int (2 : Int32)), .val (.ref b101), .val (.int (fFu (0 : Int64) mm)), .val (.long cp), .second, .unset] [(.int (lcmpW (2 : Int64) cp))]))
          by_cases hc135 : cp < (2 : Int64)
          · refine Go.by (fun _ kont => XS.ifNo X128.here hx rfl (hb hby at_150) rfl ((if0 _ _).trans (tlt ((lw_gt _ _).mpr hc135)).2.2.2) kont) ?_
            show Go _ _ _ _ _ _ _ (T128.setTop (mkF m 153 #[.val (.long c1), .second, .val (.int k1), .val (.long h1), .second, .val (.long g1), .second, .val (.long cp), .second, .val (.int (2 : Int32)), .val (.ref b101), .val (.int (fFu (0 : Int64) mm)), .val (.long cp), .second, .unset] []))
            refine Go.by (fun _ kont => XS.iconst X128.here hx rfl (hb hby at_153) (XS.goto X128.here hx rfl (pc0 := 154) (pc' := 158) rfl (hb hby at_154) (by decide) (by decide) (XS.istore X128.here hx rfl (hb hby at_158) rfl (l' := #[.val (.long c1), .second, .val (.int k1), .val (.long h1), .second, .val (.long g1), .second, .val (.long cp), .second, .val (.int (2 : Int32)), .val (.ref b101), .val (.int (fFu (0 : Int64) mm)), .val (.long cp), .second, .val (.int (1 : Int32))]) rfl (XS.iload X128.here hx rfl (hb hby at_160) rfl kont)))) ?_
            show Go _ _ _ _ _ _ _ (T128.setTop (mkF m 162 #[.val (.long c1), .second, .val (.int k1), .val (.long h1), .second, .val (.long g1), .second, .val (.long cp), .second, .val (.int (2 : Int32)), .val (.ref b101), .val (.int (fFu (0 : Int64) mm)), .val (.long cp), .second, .val (.int (1 : Int32))] [(.int (fFu (0 : Int64) mm))]))
            have hd136 : (fFu (0 : Int64) mm) = (0 : Int32) := own_before mm Bm
            refine Go.by (fun _ kont => XS.ifNo X128.here hx rfl (hb hby at_162) rfl ((if0 _ _).trans (teq hd136).2) kont) ?_
            show Go _ _ _ _ _ _ _ (T128.setTop (mkF m 165 #[.val (.long c1), .second, .val (.int k1), .val (.long h1), .second, .val (.long g1), .second, .val (.long cp), .second, .val (.int (2 : Int32)), .val (.ref b101), .val (.int (fFu (0 : Int64) mm)), .val (.long cp), .second, .val (.int (1 : Int32))] []))
            refine Go.by (fun _ kont => XS.aload X128.here hx rfl (hb hby at_165) rfl rfl kont) ?_
            show Go _ _ _ _ _ _ _ (T128.setTop (mkF m 167 #[.val (.long c1), .second, .val (.int k1), .val (.long h1), .second, .val (.long g1), .second, .val (.long cp), .second, .val (.int (2 : Int32)), .val (.ref b101), .val (.int (fFu (0 : Int64) mm)), .val (.long cp), .second, .val (.int (1 : Int32))] [(.ref b101)]))
            obtain ⟨cq137, kq137, q137a, q137b, q137c⟩ := isOf hZ rfl E128z
            obtain ⟨_, _, ⟨T137, L137, k137, n137⟩, -, X137, ⟨Lc137, hQ137, l137, y137, z137⟩, st137⟩ := X128.virtualBack hx (y := (⟨"com/example/runpulse/runpulse/KnownKeys", "isFull", "()Z"⟩ : MethodName)) (z := (⟨"com/example/runpulse/runpulse/KnownKeys", "isFull", "()Z"⟩ : MethodName)) hown (mvT hZ (hw _ (List.mem_of_getElem? (i := 25) rfl))) (mvT hZ (hw _ (List.mem_of_getElem? (i := 26) rfl))) (notFace_of_selects (args := #[]) (mvT hZ (hw _ (List.mem_of_getElem? (i := 28) rfl)))) (mvT hZ (hw _ (List.mem_of_getElem? (i := 28) rfl))) (mvT hZ (hw _ (List.mem_of_getElem? (i := 27) rfl))) (by decide) (backOf (W := 0) (rmFu l Z a0 hw [] b101 (2 : Int64) mm T128.heap n0 Z129 Fa128 Fc128) hZ (hw _ (List.mem_of_getElem? (i := 29) rfl)) (hw _ (List.mem_of_getElem? (i := 3) rfl)) (by decide) (by decide)) q137a q137c (g := (mkF m 167 #[.val (.long c1), .second, .val (.int k1), .val (.long h1), .second, .val (.long g1), .second, .val (.long cp), .second, .val (.int (2 : Int32)), .val (.ref b101), .val (.int (fFu (0 : Int64) mm)), .val (.long cp), .second, .val (.int (1 : Int32))] [(.ref b101)])) rfl (by rw [hml]; rfl) (Steps.refl _) (argsL := []) (rest := []) (lenOf pd0_1 rfl) rfl (by show 2 * 0 + _ ≤ _; exact Nat.le_of_eq rfl) (hb hby at_167) (fun _ _ => ⟨rfl, rfl, (by decide : 2 + 0 ≤ _), (by decide : 5 + 0 ≤ _)⟩)
            dsimp only [Pt.U, Pt.locs, Pt.cells, Pt.slots] at X137 l137 y137 z137 st137 hQ137
            subst l137 y137 z137
            obtain ⟨rfl, N137q, eh137⟩ := hQ137
            have N137 := Fr.app N128 N137q
            refine Go.tr st137 ?_
            show Go _ _ _ _ _ _ _ (T137.setTop (mkF m 170 #[.val (.long c1), .second, .val (.int k1), .val (.long h1), .second, .val (.long g1), .second, .val (.long cp), .second, .val (.int (2 : Int32)), .val (.ref b101), .val (.int (fFu (0 : Int64) mm)), .val (.long cp), .second, .val (.int (1 : Int32))] [(.int (fFu (2 : Int64) mm))]))
            refine Go.by (fun _ kont => XS.iload X137.here hx rfl (hb hby at_170) rfl kont) ?_
            show Go _ _ _ _ _ _ _ (T137.setTop (mkF m 172 #[.val (.long c1), .second, .val (.int k1), .val (.long h1), .second, .val (.long g1), .second, .val (.long cp), .second, .val (.int (2 : Int32)), .val (.ref b101), .val (.int (fFu (0 : Int64) mm)), .val (.long cp), .second, .val (.int (1 : Int32))] [(.int (1 : Int32)), (.int (fFu (2 : Int64) mm))]))
            have hd138 : (fFu (2 : Int64) mm) = (1 : Int32) := own_fT mm (2 : Int64) (by have q := own_m2 cp mm hm hc130; rw [q]; exact hc135)
            refine Go.by (fun _ kont => XS.icmpNo X137.here hx rfl (hb hby at_172) rfl (teq hd138).2 kont) ?_
            show Go _ _ _ _ _ _ _ (T137.setTop (mkF m 175 #[.val (.long c1), .second, .val (.int k1), .val (.long h1), .second, .val (.long g1), .second, .val (.long cp), .second, .val (.int (2 : Int32)), .val (.ref b101), .val (.int (fFu (0 : Int64) mm)), .val (.long cp), .second, .val (.int (1 : Int32))] []))
            refine Go.by (fun _ kont => XS.iconst X137.here hx rfl (hb hby at_175) (XS.goto X137.here hx rfl (pc0 := 176) (pc' := 180) rfl (hb hby at_176) (by decide) (by decide) kont)) ?_
            show Go _ _ _ _ _ _ _ (T137.setTop (mkF m 180 #[.val (.long c1), .second, .val (.int k1), .val (.long h1), .second, .val (.long g1), .second, .val (.long cp), .second, .val (.int (2 : Int32)), .val (.ref b101), .val (.int (fFu (0 : Int64) mm)), .val (.long cp), .second, .val (.int (1 : Int32))] [(.int (1 : Int32))]))
            refine Go.retN X137 hx (t := .boolean) hret (by simp) hlk (hb hby at_180) ?_ (by decide) (by decide)
            show Q0 Z h0 n0 (some (.int (1 : Int32))) T137.heap _
            rw [eh137]
            exact ⟨rfl, N137⟩
          · refine Go.by (fun _ kont => XS.ifYes X128.here hx rfl (pc0 := 150) (pc' := 157) rfl (hb hby at_150) rfl ((if0 _ _).trans (flt (fun z => hc135 ((lw_gt _ _).mp z))).2.2.2) (by decide) (by decide) kont) ?_
            show Go _ _ _ _ _ _ _ (T128.setTop (mkF m 157 #[.val (.long c1), .second, .val (.int k1), .val (.long h1), .second, .val (.long g1), .second, .val (.long cp), .second, .val (.int (2 : Int32)), .val (.ref b101), .val (.int (fFu (0 : Int64) mm)), .val (.long cp), .second, .unset] []))
            refine Go.by (fun _ kont => XS.iconst X128.here hx rfl (hb hby at_157) (XS.istore X128.here hx rfl (hb hby at_158) rfl (l' := #[.val (.long c1), .second, .val (.int k1), .val (.long h1), .second, .val (.long g1), .second, .val (.long cp), .second, .val (.int (2 : Int32)), .val (.ref b101), .val (.int (fFu (0 : Int64) mm)), .val (.long cp), .second, .val (.int (0 : Int32))]) rfl (XS.iload X128.here hx rfl (hb hby at_160) rfl kont))) ?_
            show Go _ _ _ _ _ _ _ (T128.setTop (mkF m 162 #[.val (.long c1), .second, .val (.int k1), .val (.long h1), .second, .val (.long g1), .second, .val (.long cp), .second, .val (.int (2 : Int32)), .val (.ref b101), .val (.int (fFu (0 : Int64) mm)), .val (.long cp), .second, .val (.int (0 : Int32))] [(.int (fFu (0 : Int64) mm))]))
            have hd139 : (fFu (0 : Int64) mm) = (0 : Int32) := own_before mm Bm
            refine Go.by (fun _ kont => XS.ifNo X128.here hx rfl (hb hby at_162) rfl ((if0 _ _).trans (teq hd139).2) kont) ?_
            show Go _ _ _ _ _ _ _ (T128.setTop (mkF m 165 #[.val (.long c1), .second, .val (.int k1), .val (.long h1), .second, .val (.long g1), .second, .val (.long cp), .second, .val (.int (2 : Int32)), .val (.ref b101), .val (.int (fFu (0 : Int64) mm)), .val (.long cp), .second, .val (.int (0 : Int32))] []))
            refine Go.by (fun _ kont => XS.aload X128.here hx rfl (hb hby at_165) rfl rfl kont) ?_
            show Go _ _ _ _ _ _ _ (T128.setTop (mkF m 167 #[.val (.long c1), .second, .val (.int k1), .val (.long h1), .second, .val (.long g1), .second, .val (.long cp), .second, .val (.int (2 : Int32)), .val (.ref b101), .val (.int (fFu (0 : Int64) mm)), .val (.long cp), .second, .val (.int (0 : Int32))] [(.ref b101)]))
            obtain ⟨cq140, kq140, q140a, q140b, q140c⟩ := isOf hZ rfl E128z
            obtain ⟨_, _, ⟨T140, L140, k140, n140⟩, -, X140, ⟨Lc140, hQ140, l140, y140, z140⟩, st140⟩ := X128.virtualBack hx (y := (⟨"com/example/runpulse/runpulse/KnownKeys", "isFull", "()Z"⟩ : MethodName)) (z := (⟨"com/example/runpulse/runpulse/KnownKeys", "isFull", "()Z"⟩ : MethodName)) hown (mvT hZ (hw _ (List.mem_of_getElem? (i := 25) rfl))) (mvT hZ (hw _ (List.mem_of_getElem? (i := 26) rfl))) (notFace_of_selects (args := #[]) (mvT hZ (hw _ (List.mem_of_getElem? (i := 28) rfl)))) (mvT hZ (hw _ (List.mem_of_getElem? (i := 28) rfl))) (mvT hZ (hw _ (List.mem_of_getElem? (i := 27) rfl))) (by decide) (backOf (W := 0) (rmFu l Z a0 hw [] b101 (2 : Int64) mm T128.heap n0 Z129 Fa128 Fc128) hZ (hw _ (List.mem_of_getElem? (i := 29) rfl)) (hw _ (List.mem_of_getElem? (i := 3) rfl)) (by decide) (by decide)) q140a q140c (g := (mkF m 167 #[.val (.long c1), .second, .val (.int k1), .val (.long h1), .second, .val (.long g1), .second, .val (.long cp), .second, .val (.int (2 : Int32)), .val (.ref b101), .val (.int (fFu (0 : Int64) mm)), .val (.long cp), .second, .val (.int (0 : Int32))] [(.ref b101)])) rfl (by rw [hml]; rfl) (Steps.refl _) (argsL := []) (rest := []) (lenOf pd0_1 rfl) rfl (by show 2 * 0 + _ ≤ _; exact Nat.le_of_eq rfl) (hb hby at_167) (fun _ _ => ⟨rfl, rfl, (by decide : 2 + 0 ≤ _), (by decide : 5 + 0 ≤ _)⟩)
            dsimp only [Pt.U, Pt.locs, Pt.cells, Pt.slots] at X140 l140 y140 z140 st140 hQ140
            subst l140 y140 z140
            obtain ⟨rfl, N140q, eh140⟩ := hQ140
            have N140 := Fr.app N128 N140q
            refine Go.tr st140 ?_
            show Go _ _ _ _ _ _ _ (T140.setTop (mkF m 170 #[.val (.long c1), .second, .val (.int k1), .val (.long h1), .second, .val (.long g1), .second, .val (.long cp), .second, .val (.int (2 : Int32)), .val (.ref b101), .val (.int (fFu (0 : Int64) mm)), .val (.long cp), .second, .val (.int (0 : Int32))] [(.int (fFu (2 : Int64) mm))]))
            refine Go.by (fun _ kont => XS.iload X140.here hx rfl (hb hby at_170) rfl kont) ?_
            show Go _ _ _ _ _ _ _ (T140.setTop (mkF m 172 #[.val (.long c1), .second, .val (.int k1), .val (.long h1), .second, .val (.long g1), .second, .val (.long cp), .second, .val (.int (2 : Int32)), .val (.ref b101), .val (.int (fFu (0 : Int64) mm)), .val (.long cp), .second, .val (.int (0 : Int32))] [(.int (0 : Int32)), (.int (fFu (2 : Int64) mm))]))
            have hd141 : (fFu (2 : Int64) mm) = (0 : Int32) := own_fF mm (2 : Int64) (by have q := own_m2 cp mm hm hc130; rw [q]; exact hc135)
            refine Go.by (fun _ kont => XS.icmpNo X140.here hx rfl (hb hby at_172) rfl (teq hd141).2 kont) ?_
            show Go _ _ _ _ _ _ _ (T140.setTop (mkF m 175 #[.val (.long c1), .second, .val (.int k1), .val (.long h1), .second, .val (.long g1), .second, .val (.long cp), .second, .val (.int (2 : Int32)), .val (.ref b101), .val (.int (fFu (0 : Int64) mm)), .val (.long cp), .second, .val (.int (0 : Int32))] []))
            refine Go.by (fun _ kont => XS.iconst X140.here hx rfl (hb hby at_175) (XS.goto X140.here hx rfl (pc0 := 176) (pc' := 180) rfl (hb hby at_176) (by decide) (by decide) kont)) ?_
            show Go _ _ _ _ _ _ _ (T140.setTop (mkF m 180 #[.val (.long c1), .second, .val (.int k1), .val (.long h1), .second, .val (.long g1), .second, .val (.long cp), .second, .val (.int (2 : Int32)), .val (.ref b101), .val (.int (fFu (0 : Int64) mm)), .val (.long cp), .second, .val (.int (0 : Int32))] [(.int (1 : Int32))]))
            refine Go.retN X140 hx (t := .boolean) hret (by simp) hlk (hb hby at_180) ?_ (by decide) (by decide)
            show Q0 Z h0 n0 (some (.int (1 : Int32))) T140.heap _
            rw [eh140]
            exact ⟨rfl, N140⟩
      · have hz2 : nn.toInt ≠ 2 := fun q => hn2 (Int32.toInt_inj.mp (q.trans (by decide)))
        show Go _ _ _ _ _ _ _ (T128.setTop (mkF m 55 #[.val (.long c1), .second, .val (.int k1), .val (.long h1), .second, .val (.long g1), .second, .val (.long cp), .second, .val (.int nn), .val (.ref b101), .val (.int (fFu (0 : Int64) mm)), .unset, .unset, .unset] []))
        refine Go.by (fun _ kont => XS.iload X128.here hx rfl (hb hby at_55) rfl (XS.iconst X128.here hx rfl (hb hby at_57) kont)) ?_
        show Go _ _ _ _ _ _ _ (T128.setTop (mkF m 58 #[.val (.long c1), .second, .val (.int k1), .val (.long h1), .second, .val (.long g1), .second, .val (.long cp), .second, .val (.int nn), .val (.ref b101), .val (.int (fFu (0 : Int64) mm)), .unset, .unset, .unset] [(.int (2 : Int32)), (.int nn)]))
        have hd142 : (2 : Int32) < nn := by rw [Int32.lt_iff_toInt_lt, show (2 : Int32).toInt = 2 from by decide]; omega
        refine Go.by (fun _ kont => XS.icmpNo X128.here hx rfl (hb hby at_58) rfl (tlt hd142).2.2.2 kont) ?_
        show Go _ _ _ _ _ _ _ (T128.setTop (mkF m 61 #[.val (.long c1), .second, .val (.int k1), .val (.long h1), .second, .val (.long g1), .second, .val (.long cp), .second, .val (.int nn), .val (.ref b101), .val (.int (fFu (0 : Int64) mm)), .unset, .unset, .unset] []))
        refine Go.by (fun _ kont => XS.aload X128.here hx rfl (hb hby at_61) rfl rfl (XS.lloadN X128.here hx rfl (hb hby at_63) rfl (XS.lload X128.here hx rfl (hb hby at_64) rfl (XS.lxor X128.here hx rfl (hb hby at_66) rfl kont)))) ?_
        show Go _ _ _ _ _ _ _ (T128.setTop (mkF m 67 #[.val (.long c1), .second, .val (.int k1), .val (.long h1), .second, .val (.long g1), .second, .val (.long cp), .second, .val (.int nn), .val (.ref b101), .val (.int (fFu (0 : Int64) mm)), .unset, .unset, .unset] [(.long (h1 ^^^ g1)), (.ref b101)]))
        obtain ⟨cq143, kq143, q143a, q143b, q143c⟩ := isOf hZ rfl E128z
        obtain ⟨_, _, ⟨T143, L143, k143, n143⟩, -, X143, ⟨Lc143, hQ143, l143, y143, z143⟩, st143⟩ := X128.virtualBack hx (y := (⟨"com/example/runpulse/runpulse/KnownKeys", "add", "(J)V"⟩ : MethodName)) (z := (⟨"com/example/runpulse/runpulse/KnownKeys", "add", "(J)V"⟩ : MethodName)) hown (mvT hZ (hw _ (List.mem_of_getElem? (i := 32) rfl))) (mvT hZ (hw _ (List.mem_of_getElem? (i := 33) rfl))) (notFace_of_selects (args := #[]) (mvT hZ (hw _ (List.mem_of_getElem? (i := 35) rfl)))) (mvT hZ (hw _ (List.mem_of_getElem? (i := 35) rfl))) (mvT hZ (hw _ (List.mem_of_getElem? (i := 34) rfl))) (by decide) (backOf (W := 0) (rmA l Z a0 hw [] b101 (h1 ^^^ g1) mm bb (2 : Int64) kcb ln T128.heap n0 Z129 E128z Fc128 Fb128 Fa128 V128z ne_b101_bb ge_b101 ge_bb Bl) hZ (hw _ (List.mem_of_getElem? (i := 36) rfl)) (hw _ (List.mem_of_getElem? (i := 3) rfl)) (by decide) (by decide)) q143a q143c (g := (mkF m 67 #[.val (.long c1), .second, .val (.int k1), .val (.long h1), .second, .val (.long g1), .second, .val (.long cp), .second, .val (.int nn), .val (.ref b101), .val (.int (fFu (0 : Int64) mm)), .unset, .unset, .unset] [(.long (h1 ^^^ g1)), (.ref b101)])) rfl (by rw [hml]; rfl) (Steps.refl _) (argsL := [(.long (h1 ^^^ g1))]) (rest := []) (lenOf pd0_0 rfl) rfl (by show 2 * 0 + _ ≤ _; exact Nat.le_of_eq rfl) (hb hby at_67) (fun _ _ => ⟨rfl, rfl, (by decide : 2 + 0 ≤ _), (by decide : 5 + 0 ≤ _)⟩)
        dsimp only [Pt.U, Pt.locs, Pt.cells, Pt.slots] at X143 l143 y143 z143 st143 hQ143
        subst l143 y143 z143
        obtain ⟨rfl, N143q, K143, E143z, Fc143, Fb143, Fa143, V143z⟩ := hQ143
        have E144_b101 := E128z.keep K143
        have Z144 := Nat.le_trans Z129 K143.1
        have K144 : Keep h0 T143.heap [] := Keep.trans K129 K143 (allS (Or.inr sz_b101) (allS (Or.inr sz_bb) all0))
        rw [show (2 : Int64) + 1 = (3 : Int64) from by decide] at Fa143
        have N143 := Fr.app N128 N143q
        refine Go.tr st143 ?_
        show Go _ _ _ _ _ _ _ (T143.setTop (mkF m 70 #[.val (.long c1), .second, .val (.int k1), .val (.long h1), .second, .val (.long g1), .second, .val (.long cp), .second, .val (.int nn), .val (.ref b101), .val (.int (fFu (0 : Int64) mm)), .unset, .unset, .unset] []))
        by_cases hn3 : nn = (3 : Int32)
        · subst hn3
          show Go _ _ _ _ _ _ _ (T143.setTop (mkF m 70 #[.val (.long c1), .second, .val (.int k1), .val (.long h1), .second, .val (.long g1), .second, .val (.long cp), .second, .val (.int (3 : Int32)), .val (.ref b101), .val (.int (fFu (0 : Int64) mm)), .unset, .unset, .unset] []))
          refine Go.by (fun _ kont => XS.iload X143.here hx rfl (hb hby at_70) rfl (XS.iconst X143.here hx rfl (hb hby at_72) kont)) ?_
          show Go _ _ _ _ _ _ _ (T143.setTop (mkF m 73 #[.val (.long c1), .second, .val (.int k1), .val (.long h1), .second, .val (.long g1), .second, .val (.long cp), .second, .val (.int (3 : Int32)), .val (.ref b101), .val (.int (fFu (0 : Int64) mm)), .unset, .unset, .unset] [(.int (3 : Int32)), (.int (3 : Int32))]))
          refine Go.by (fun _ kont => XS.icmpYes X143.here hx rfl (pc0 := 73) (pc' := 85) rfl (hb hby at_73) rfl (by decide) (by decide) (by decide) kont) ?_
          show Go _ _ _ _ _ _ _ (T143.setTop (mkF m 85 #[.val (.long c1), .second, .val (.int k1), .val (.long h1), .second, .val (.long g1), .second, .val (.long cp), .second, .val (.int (3 : Int32)), .val (.ref b101), .val (.int (fFu (0 : Int64) mm)), .unset, .unset, .unset] []))
          refine Go.by (fun _ kont => XS.iload X143.here hx rfl (hb hby at_85) rfl (XS.iconst X143.here hx rfl (hb hby at_87) kont)) ?_
          show Go _ _ _ _ _ _ _ (T143.setTop (mkF m 88 #[.val (.long c1), .second, .val (.int k1), .val (.long h1), .second, .val (.long g1), .second, .val (.long cp), .second, .val (.int (3 : Int32)), .val (.ref b101), .val (.int (fFu (0 : Int64) mm)), .unset, .unset, .unset] [(.int (4 : Int32)), (.int (3 : Int32))]))
          refine Go.by (fun _ kont => XS.icmpYes X143.here hx rfl (pc0 := 88) (pc' := 97) rfl (hb hby at_88) rfl (by decide) (by decide) (by decide) kont) ?_
          show Go _ _ _ _ _ _ _ (T143.setTop (mkF m 97 #[.val (.long c1), .second, .val (.int k1), .val (.long h1), .second, .val (.long g1), .second, .val (.long cp), .second, .val (.int (3 : Int32)), .val (.ref b101), .val (.int (fFu (0 : Int64) mm)), .unset, .unset, .unset] []))
          refine Go.by (fun _ kont => XS.iload X143.here hx rfl (hb hby at_97) rfl (XS.iconst X143.here hx rfl (hb hby at_99) kont)) ?_
          show Go _ _ _ _ _ _ _ (T143.setTop (mkF m 100 #[.val (.long c1), .second, .val (.int k1), .val (.long h1), .second, .val (.long g1), .second, .val (.long cp), .second, .val (.int (3 : Int32)), .val (.ref b101), .val (.int (fFu (0 : Int64) mm)), .unset, .unset, .unset] [(.int (5 : Int32)), (.int (3 : Int32))]))
          refine Go.by (fun _ kont => XS.icmpYes X143.here hx rfl (pc0 := 100) (pc' := 112) rfl (hb hby at_100) rfl (by decide) (by decide) (by decide) kont) ?_
          show Go _ _ _ _ _ _ _ (T143.setTop (mkF m 112 #[.val (.long c1), .second, .val (.int k1), .val (.long h1), .second, .val (.long g1), .second, .val (.long cp), .second, .val (.int (3 : Int32)), .val (.ref b101), .val (.int (fFu (0 : Int64) mm)), .unset, .unset, .unset] []))
          refine Go.by (fun _ kont => XS.iload X143.here hx rfl (hb hby at_112) rfl (XS.bipush X143.here hx rfl (hb hby at_114) kont)) ?_
          show Go _ _ _ _ _ _ _ (T143.setTop (mkF m 116 #[.val (.long c1), .second, .val (.int k1), .val (.long h1), .second, .val (.long g1), .second, .val (.long cp), .second, .val (.int (3 : Int32)), .val (.ref b101), .val (.int (fFu (0 : Int64) mm)), .unset, .unset, .unset] [(.int (6 : Int32)), (.int (3 : Int32))]))
          refine Go.by (fun _ kont => XS.icmpYes X143.here hx rfl (pc0 := 116) (pc' := 129) rfl (hb hby at_116) rfl (by decide) (by decide) (by decide) kont) ?_
          show Go _ _ _ _ _ _ _ (T143.setTop (mkF m 129 #[.val (.long c1), .second, .val (.int k1), .val (.long h1), .second, .val (.long g1), .second, .val (.long cp), .second, .val (.int (3 : Int32)), .val (.ref b101), .val (.int (fFu (0 : Int64) mm)), .unset, .unset, .unset] []))
          refine Go.by (fun _ kont => XS.lload X143.here hx rfl (hb hby at_129) rfl (XS.lconst X143.here hx rfl (hb hby at_131) (XS.lcmp X143.here hx rfl (hb hby at_132) rfl kont))) ?_
          show Go _ _ _ _ _ _ _ (T143.setTop (mkF m 133 #[.val (.long c1), .second, .val (.int k1), .val (.long h1), .second, .val (.long g1), .second, .val (.long cp), .second, .val (.int (3 : Int32)), .val (.ref b101), .val (.int (fFu (0 : Int64) mm)), .unset, .unset, .unset] [(.int (lcmpW cp (1 : Int64)))]))
          by_cases hc145 : cp < (1 : Int64)
          · refine Go.by (fun _ kont => XS.ifNo X143.here hx rfl (hb hby at_133) rfl ((if0 _ _).trans (tlt ((lw_lt _ _).mpr hc145)).2.1) kont) ?_
            show Go _ _ _ _ _ _ _ (T143.setTop (mkF m 136 #[.val (.long c1), .second, .val (.int k1), .val (.long h1), .second, .val (.long g1), .second, .val (.long cp), .second, .val (.int (3 : Int32)), .val (.ref b101), .val (.int (fFu (0 : Int64) mm)), .unset, .unset, .unset] []))
            refine Go.by (fun _ kont => XS.lconst X143.here hx rfl (hb hby at_136) (XS.goto X143.here hx rfl (pc0 := 137) (pc' := 142) rfl (hb hby at_137) (by decide) (by decide) (XS.lstore X143.here hx rfl (hb hby at_142) rfl (l' := #[.val (.long c1), .second, .val (.int k1), .val (.long h1), .second, .val (.long g1), .second, .val (.long cp), .second, .val (.int (3 : Int32)), .val (.ref b101), .val (.int (fFu (0 : Int64) mm)), .val (.long (1 : Int64)), .second, .unset]) rfl (XS.iload X143.here hx rfl (hb hby at_144) rfl (XS.i2l X143.here hx rfl (hb hby at_146) rfl kont))))) ?_
            show Go _ _ _ _ _ _ _ (T143.setTop (mkF m 147 #[.val (.long c1), .second, .val (.int k1), .val (.long h1), .second, .val (.long g1), .second, .val (.long cp), .second, .val (.int (3 : Int32)), .val (.ref b101), .val (.int (fFu (0 : Int64) mm)), .val (.long (1 : Int64)), .second, .unset] [(.long ((3 : Int32).toInt64))]))
            rw [show ((3 : Int32).toInt64) = (3 : Int64) from by decide]
            show Go _ _ _ _ _ _ _ (T143.setTop (mkF m 147 #[.val (.long c1), .second, .val (.int k1), .val (.long h1), .second, .val (.long g1), .second, .val (.long cp), .second, .val (.int (3 : Int32)), .val (.ref b101), .val (.int (fFu (0 : Int64) mm)), .val (.long (1 : Int64)), .second, .unset] [(.long (3 : Int64))]))
            refine Go.by (fun _ kont => XS.lload X143.here hx rfl (hb hby at_147) rfl (XS.lcmp X143.here hx rfl (hb hby at_149) rfl kont)) ?_
            show Go _ _ _ _ _ _ _ (T143.setTop (mkF m 150 #[.val (.long c1), .second, .val (.int k1), .val (.long h1), .second, .val (.long g1), .second, .val (.long cp), .second, .val (.int (3 : Int32)), .val (.ref b101), .val (.int (fFu (0 : Int64) mm)), .val (.long (1 : Int64)), .second, .unset] [(.int (lcmpW (3 : Int64) (1 : Int64)))]))
            have hd146 : (1 : Int64) < (3 : Int64) := by decide
            refine Go.by (fun _ kont => XS.ifNo X143.here hx rfl (hb hby at_150) rfl ((if0 _ _).trans (tlt ((lw_gt _ _).mpr hd146)).2.2.2) kont) ?_
            show Go _ _ _ _ _ _ _ (T143.setTop (mkF m 153 #[.val (.long c1), .second, .val (.int k1), .val (.long h1), .second, .val (.long g1), .second, .val (.long cp), .second, .val (.int (3 : Int32)), .val (.ref b101), .val (.int (fFu (0 : Int64) mm)), .val (.long (1 : Int64)), .second, .unset] []))
            refine Go.by (fun _ kont => XS.iconst X143.here hx rfl (hb hby at_153) (XS.goto X143.here hx rfl (pc0 := 154) (pc' := 158) rfl (hb hby at_154) (by decide) (by decide) (XS.istore X143.here hx rfl (hb hby at_158) rfl (l' := #[.val (.long c1), .second, .val (.int k1), .val (.long h1), .second, .val (.long g1), .second, .val (.long cp), .second, .val (.int (3 : Int32)), .val (.ref b101), .val (.int (fFu (0 : Int64) mm)), .val (.long (1 : Int64)), .second, .val (.int (1 : Int32))]) rfl (XS.iload X143.here hx rfl (hb hby at_160) rfl kont)))) ?_
            show Go _ _ _ _ _ _ _ (T143.setTop (mkF m 162 #[.val (.long c1), .second, .val (.int k1), .val (.long h1), .second, .val (.long g1), .second, .val (.long cp), .second, .val (.int (3 : Int32)), .val (.ref b101), .val (.int (fFu (0 : Int64) mm)), .val (.long (1 : Int64)), .second, .val (.int (1 : Int32))] [(.int (fFu (0 : Int64) mm))]))
            have hd147 : (fFu (0 : Int64) mm) = (0 : Int32) := own_before mm Bm
            refine Go.by (fun _ kont => XS.ifNo X143.here hx rfl (hb hby at_162) rfl ((if0 _ _).trans (teq hd147).2) kont) ?_
            show Go _ _ _ _ _ _ _ (T143.setTop (mkF m 165 #[.val (.long c1), .second, .val (.int k1), .val (.long h1), .second, .val (.long g1), .second, .val (.long cp), .second, .val (.int (3 : Int32)), .val (.ref b101), .val (.int (fFu (0 : Int64) mm)), .val (.long (1 : Int64)), .second, .val (.int (1 : Int32))] []))
            refine Go.by (fun _ kont => XS.aload X143.here hx rfl (hb hby at_165) rfl rfl kont) ?_
            show Go _ _ _ _ _ _ _ (T143.setTop (mkF m 167 #[.val (.long c1), .second, .val (.int k1), .val (.long h1), .second, .val (.long g1), .second, .val (.long cp), .second, .val (.int (3 : Int32)), .val (.ref b101), .val (.int (fFu (0 : Int64) mm)), .val (.long (1 : Int64)), .second, .val (.int (1 : Int32))] [(.ref b101)]))
            obtain ⟨cq148, kq148, q148a, q148b, q148c⟩ := isOf hZ rfl E143z
            obtain ⟨_, _, ⟨T148, L148, k148, n148⟩, -, X148, ⟨Lc148, hQ148, l148, y148, z148⟩, st148⟩ := X143.virtualBack hx (y := (⟨"com/example/runpulse/runpulse/KnownKeys", "isFull", "()Z"⟩ : MethodName)) (z := (⟨"com/example/runpulse/runpulse/KnownKeys", "isFull", "()Z"⟩ : MethodName)) hown (mvT hZ (hw _ (List.mem_of_getElem? (i := 25) rfl))) (mvT hZ (hw _ (List.mem_of_getElem? (i := 26) rfl))) (notFace_of_selects (args := #[]) (mvT hZ (hw _ (List.mem_of_getElem? (i := 28) rfl)))) (mvT hZ (hw _ (List.mem_of_getElem? (i := 28) rfl))) (mvT hZ (hw _ (List.mem_of_getElem? (i := 27) rfl))) (by decide) (backOf (W := 0) (rmFu l Z a0 hw [] b101 (3 : Int64) mm T143.heap n0 Z144 Fa143 Fc143) hZ (hw _ (List.mem_of_getElem? (i := 29) rfl)) (hw _ (List.mem_of_getElem? (i := 3) rfl)) (by decide) (by decide)) q148a q148c (g := (mkF m 167 #[.val (.long c1), .second, .val (.int k1), .val (.long h1), .second, .val (.long g1), .second, .val (.long cp), .second, .val (.int (3 : Int32)), .val (.ref b101), .val (.int (fFu (0 : Int64) mm)), .val (.long (1 : Int64)), .second, .val (.int (1 : Int32))] [(.ref b101)])) rfl (by rw [hml]; rfl) (Steps.refl _) (argsL := []) (rest := []) (lenOf pd0_1 rfl) rfl (by show 2 * 0 + _ ≤ _; exact Nat.le_of_eq rfl) (hb hby at_167) (fun _ _ => ⟨rfl, rfl, (by decide : 2 + 0 ≤ _), (by decide : 5 + 0 ≤ _)⟩)
            dsimp only [Pt.U, Pt.locs, Pt.cells, Pt.slots] at X148 l148 y148 z148 st148 hQ148
            subst l148 y148 z148
            obtain ⟨rfl, N148q, eh148⟩ := hQ148
            have N148 := Fr.app N143 N148q
            refine Go.tr st148 ?_
            show Go _ _ _ _ _ _ _ (T148.setTop (mkF m 170 #[.val (.long c1), .second, .val (.int k1), .val (.long h1), .second, .val (.long g1), .second, .val (.long cp), .second, .val (.int (3 : Int32)), .val (.ref b101), .val (.int (fFu (0 : Int64) mm)), .val (.long (1 : Int64)), .second, .val (.int (1 : Int32))] [(.int (fFu (3 : Int64) mm))]))
            refine Go.by (fun _ kont => XS.iload X148.here hx rfl (hb hby at_170) rfl kont) ?_
            show Go _ _ _ _ _ _ _ (T148.setTop (mkF m 172 #[.val (.long c1), .second, .val (.int k1), .val (.long h1), .second, .val (.long g1), .second, .val (.long cp), .second, .val (.int (3 : Int32)), .val (.ref b101), .val (.int (fFu (0 : Int64) mm)), .val (.long (1 : Int64)), .second, .val (.int (1 : Int32))] [(.int (1 : Int32)), (.int (fFu (3 : Int64) mm))]))
            have hd149 : (fFu (3 : Int64) mm) = (1 : Int32) := own_fT mm (3 : Int64) (by have q := own_m1 cp mm hm hc145; rw [q]; decide)
            refine Go.by (fun _ kont => XS.icmpNo X148.here hx rfl (hb hby at_172) rfl (teq hd149).2 kont) ?_
            show Go _ _ _ _ _ _ _ (T148.setTop (mkF m 175 #[.val (.long c1), .second, .val (.int k1), .val (.long h1), .second, .val (.long g1), .second, .val (.long cp), .second, .val (.int (3 : Int32)), .val (.ref b101), .val (.int (fFu (0 : Int64) mm)), .val (.long (1 : Int64)), .second, .val (.int (1 : Int32))] []))
            refine Go.by (fun _ kont => XS.iconst X148.here hx rfl (hb hby at_175) (XS.goto X148.here hx rfl (pc0 := 176) (pc' := 180) rfl (hb hby at_176) (by decide) (by decide) kont)) ?_
            show Go _ _ _ _ _ _ _ (T148.setTop (mkF m 180 #[.val (.long c1), .second, .val (.int k1), .val (.long h1), .second, .val (.long g1), .second, .val (.long cp), .second, .val (.int (3 : Int32)), .val (.ref b101), .val (.int (fFu (0 : Int64) mm)), .val (.long (1 : Int64)), .second, .val (.int (1 : Int32))] [(.int (1 : Int32))]))
            refine Go.retN X148 hx (t := .boolean) hret (by simp) hlk (hb hby at_180) ?_ (by decide) (by decide)
            show Q0 Z h0 n0 (some (.int (1 : Int32))) T148.heap _
            rw [eh148]
            exact ⟨rfl, N148⟩
          · refine Go.by (fun _ kont => XS.ifYes X143.here hx rfl (pc0 := 133) (pc' := 140) rfl (hb hby at_133) rfl ((if0 _ _).trans (flt (fun z => hc145 ((lw_lt _ _).mp z))).2.1) (by decide) (by decide) kont) ?_
            show Go _ _ _ _ _ _ _ (T143.setTop (mkF m 140 #[.val (.long c1), .second, .val (.int k1), .val (.long h1), .second, .val (.long g1), .second, .val (.long cp), .second, .val (.int (3 : Int32)), .val (.ref b101), .val (.int (fFu (0 : Int64) mm)), .unset, .unset, .unset] []))
            refine Go.by (fun _ kont => XS.lload X143.here hx rfl (hb hby at_140) rfl (XS.lstore X143.here hx rfl (hb hby at_142) rfl (l' := #[.val (.long c1), .second, .val (.int k1), .val (.long h1), .second, .val (.long g1), .second, .val (.long cp), .second, .val (.int (3 : Int32)), .val (.ref b101), .val (.int (fFu (0 : Int64) mm)), .val (.long cp), .second, .unset]) rfl (XS.iload X143.here hx rfl (hb hby at_144) rfl (XS.i2l X143.here hx rfl (hb hby at_146) rfl kont)))) ?_
            show Go _ _ _ _ _ _ _ (T143.setTop (mkF m 147 #[.val (.long c1), .second, .val (.int k1), .val (.long h1), .second, .val (.long g1), .second, .val (.long cp), .second, .val (.int (3 : Int32)), .val (.ref b101), .val (.int (fFu (0 : Int64) mm)), .val (.long cp), .second, .unset] [(.long ((3 : Int32).toInt64))]))
            rw [show ((3 : Int32).toInt64) = (3 : Int64) from by decide]
            show Go _ _ _ _ _ _ _ (T143.setTop (mkF m 147 #[.val (.long c1), .second, .val (.int k1), .val (.long h1), .second, .val (.long g1), .second, .val (.long cp), .second, .val (.int (3 : Int32)), .val (.ref b101), .val (.int (fFu (0 : Int64) mm)), .val (.long cp), .second, .unset] [(.long (3 : Int64))]))
            refine Go.by (fun _ kont => XS.lload X143.here hx rfl (hb hby at_147) rfl (XS.lcmp X143.here hx rfl (hb hby at_149) rfl kont)) ?_
            show Go _ _ _ _ _ _ _ (T143.setTop (mkF m 150 #[.val (.long c1), .second, .val (.int k1), .val (.long h1), .second, .val (.long g1), .second, .val (.long cp), .second, .val (.int (3 : Int32)), .val (.ref b101), .val (.int (fFu (0 : Int64) mm)), .val (.long cp), .second, .unset] [(.int (lcmpW (3 : Int64) cp))]))
            by_cases hc150 : cp < (3 : Int64)
            · refine Go.by (fun _ kont => XS.ifNo X143.here hx rfl (hb hby at_150) rfl ((if0 _ _).trans (tlt ((lw_gt _ _).mpr hc150)).2.2.2) kont) ?_
              show Go _ _ _ _ _ _ _ (T143.setTop (mkF m 153 #[.val (.long c1), .second, .val (.int k1), .val (.long h1), .second, .val (.long g1), .second, .val (.long cp), .second, .val (.int (3 : Int32)), .val (.ref b101), .val (.int (fFu (0 : Int64) mm)), .val (.long cp), .second, .unset] []))
              refine Go.by (fun _ kont => XS.iconst X143.here hx rfl (hb hby at_153) (XS.goto X143.here hx rfl (pc0 := 154) (pc' := 158) rfl (hb hby at_154) (by decide) (by decide) (XS.istore X143.here hx rfl (hb hby at_158) rfl (l' := #[.val (.long c1), .second, .val (.int k1), .val (.long h1), .second, .val (.long g1), .second, .val (.long cp), .second, .val (.int (3 : Int32)), .val (.ref b101), .val (.int (fFu (0 : Int64) mm)), .val (.long cp), .second, .val (.int (1 : Int32))]) rfl (XS.iload X143.here hx rfl (hb hby at_160) rfl kont)))) ?_
              show Go _ _ _ _ _ _ _ (T143.setTop (mkF m 162 #[.val (.long c1), .second, .val (.int k1), .val (.long h1), .second, .val (.long g1), .second, .val (.long cp), .second, .val (.int (3 : Int32)), .val (.ref b101), .val (.int (fFu (0 : Int64) mm)), .val (.long cp), .second, .val (.int (1 : Int32))] [(.int (fFu (0 : Int64) mm))]))
              have hd151 : (fFu (0 : Int64) mm) = (0 : Int32) := own_before mm Bm
              refine Go.by (fun _ kont => XS.ifNo X143.here hx rfl (hb hby at_162) rfl ((if0 _ _).trans (teq hd151).2) kont) ?_
              show Go _ _ _ _ _ _ _ (T143.setTop (mkF m 165 #[.val (.long c1), .second, .val (.int k1), .val (.long h1), .second, .val (.long g1), .second, .val (.long cp), .second, .val (.int (3 : Int32)), .val (.ref b101), .val (.int (fFu (0 : Int64) mm)), .val (.long cp), .second, .val (.int (1 : Int32))] []))
              refine Go.by (fun _ kont => XS.aload X143.here hx rfl (hb hby at_165) rfl rfl kont) ?_
              show Go _ _ _ _ _ _ _ (T143.setTop (mkF m 167 #[.val (.long c1), .second, .val (.int k1), .val (.long h1), .second, .val (.long g1), .second, .val (.long cp), .second, .val (.int (3 : Int32)), .val (.ref b101), .val (.int (fFu (0 : Int64) mm)), .val (.long cp), .second, .val (.int (1 : Int32))] [(.ref b101)]))
              obtain ⟨cq152, kq152, q152a, q152b, q152c⟩ := isOf hZ rfl E143z
              obtain ⟨_, _, ⟨T152, L152, k152, n152⟩, -, X152, ⟨Lc152, hQ152, l152, y152, z152⟩, st152⟩ := X143.virtualBack hx (y := (⟨"com/example/runpulse/runpulse/KnownKeys", "isFull", "()Z"⟩ : MethodName)) (z := (⟨"com/example/runpulse/runpulse/KnownKeys", "isFull", "()Z"⟩ : MethodName)) hown (mvT hZ (hw _ (List.mem_of_getElem? (i := 25) rfl))) (mvT hZ (hw _ (List.mem_of_getElem? (i := 26) rfl))) (notFace_of_selects (args := #[]) (mvT hZ (hw _ (List.mem_of_getElem? (i := 28) rfl)))) (mvT hZ (hw _ (List.mem_of_getElem? (i := 28) rfl))) (mvT hZ (hw _ (List.mem_of_getElem? (i := 27) rfl))) (by decide) (backOf (W := 0) (rmFu l Z a0 hw [] b101 (3 : Int64) mm T143.heap n0 Z144 Fa143 Fc143) hZ (hw _ (List.mem_of_getElem? (i := 29) rfl)) (hw _ (List.mem_of_getElem? (i := 3) rfl)) (by decide) (by decide)) q152a q152c (g := (mkF m 167 #[.val (.long c1), .second, .val (.int k1), .val (.long h1), .second, .val (.long g1), .second, .val (.long cp), .second, .val (.int (3 : Int32)), .val (.ref b101), .val (.int (fFu (0 : Int64) mm)), .val (.long cp), .second, .val (.int (1 : Int32))] [(.ref b101)])) rfl (by rw [hml]; rfl) (Steps.refl _) (argsL := []) (rest := []) (lenOf pd0_1 rfl) rfl (by show 2 * 0 + _ ≤ _; exact Nat.le_of_eq rfl) (hb hby at_167) (fun _ _ => ⟨rfl, rfl, (by decide : 2 + 0 ≤ _), (by decide : 5 + 0 ≤ _)⟩)
              dsimp only [Pt.U, Pt.locs, Pt.cells, Pt.slots] at X152 l152 y152 z152 st152 hQ152
              subst l152 y152 z152
              obtain ⟨rfl, N152q, eh152⟩ := hQ152
              have N152 := Fr.app N143 N152q
              refine Go.tr st152 ?_
              show Go _ _ _ _ _ _ _ (T152.setTop (mkF m 170 #[.val (.long c1), .second, .val (.int k1), .val (.long h1), .second, .val (.long g1), .second, .val (.long cp), .second, .val (.int (3 : Int32)), .val (.ref b101), .val (.int (fFu (0 : Int64) mm)), .val (.long cp), .second, .val (.int (1 : Int32))] [(.int (fFu (3 : Int64) mm))]))
              refine Go.by (fun _ kont => XS.iload X152.here hx rfl (hb hby at_170) rfl kont) ?_
              show Go _ _ _ _ _ _ _ (T152.setTop (mkF m 172 #[.val (.long c1), .second, .val (.int k1), .val (.long h1), .second, .val (.long g1), .second, .val (.long cp), .second, .val (.int (3 : Int32)), .val (.ref b101), .val (.int (fFu (0 : Int64) mm)), .val (.long cp), .second, .val (.int (1 : Int32))] [(.int (1 : Int32)), (.int (fFu (3 : Int64) mm))]))
              have hd153 : (fFu (3 : Int64) mm) = (1 : Int32) := own_fT mm (3 : Int64) (by have q := own_m2 cp mm hm hc145; rw [q]; exact hc150)
              refine Go.by (fun _ kont => XS.icmpNo X152.here hx rfl (hb hby at_172) rfl (teq hd153).2 kont) ?_
              show Go _ _ _ _ _ _ _ (T152.setTop (mkF m 175 #[.val (.long c1), .second, .val (.int k1), .val (.long h1), .second, .val (.long g1), .second, .val (.long cp), .second, .val (.int (3 : Int32)), .val (.ref b101), .val (.int (fFu (0 : Int64) mm)), .val (.long cp), .second, .val (.int (1 : Int32))] []))
              refine Go.by (fun _ kont => XS.iconst X152.here hx rfl (hb hby at_175) (XS.goto X152.here hx rfl (pc0 := 176) (pc' := 180) rfl (hb hby at_176) (by decide) (by decide) kont)) ?_
              show Go _ _ _ _ _ _ _ (T152.setTop (mkF m 180 #[.val (.long c1), .second, .val (.int k1), .val (.long h1), .second, .val (.long g1), .second, .val (.long cp), .second, .val (.int (3 : Int32)), .val (.ref b101), .val (.int (fFu (0 : Int64) mm)), .val (.long cp), .second, .val (.int (1 : Int32))] [(.int (1 : Int32))]))
              refine Go.retN X152 hx (t := .boolean) hret (by simp) hlk (hb hby at_180) ?_ (by decide) (by decide)
              show Q0 Z h0 n0 (some (.int (1 : Int32))) T152.heap _
              rw [eh152]
              exact ⟨rfl, N152⟩
            · refine Go.by (fun _ kont => XS.ifYes X143.here hx rfl (pc0 := 150) (pc' := 157) rfl (hb hby at_150) rfl ((if0 _ _).trans (flt (fun z => hc150 ((lw_gt _ _).mp z))).2.2.2) (by decide) (by decide) kont) ?_
              show Go _ _ _ _ _ _ _ (T143.setTop (mkF m 157 #[.val (.long c1), .second, .val (.int k1), .val (.long h1), .second, .val (.long g1), .second, .val (.long cp), .second, .val (.int (3 : Int32)), .val (.ref b101), .val (.int (fFu (0 : Int64) mm)), .val (.long cp), .second, .unset] []))
              refine Go.by (fun _ kont => XS.iconst X143.here hx rfl (hb hby at_157) (XS.istore X143.here hx rfl (hb hby at_158) rfl (l' := #[.val (.long c1), .second, .val (.int k1), .val (.long h1), .second, .val (.long g1), .second, .val (.long cp), .second, .val (.int (3 : Int32)), .val (.ref b101), .val (.int (fFu (0 : Int64) mm)), .val (.long cp), .second, .val (.int (0 : Int32))]) rfl (XS.iload X143.here hx rfl (hb hby at_160) rfl kont))) ?_
              show Go _ _ _ _ _ _ _ (T143.setTop (mkF m 162 #[.val (.long c1), .second, .val (.int k1), .val (.long h1), .second, .val (.long g1), .second, .val (.long cp), .second, .val (.int (3 : Int32)), .val (.ref b101), .val (.int (fFu (0 : Int64) mm)), .val (.long cp), .second, .val (.int (0 : Int32))] [(.int (fFu (0 : Int64) mm))]))
              have hd154 : (fFu (0 : Int64) mm) = (0 : Int32) := own_before mm Bm
              refine Go.by (fun _ kont => XS.ifNo X143.here hx rfl (hb hby at_162) rfl ((if0 _ _).trans (teq hd154).2) kont) ?_
              show Go _ _ _ _ _ _ _ (T143.setTop (mkF m 165 #[.val (.long c1), .second, .val (.int k1), .val (.long h1), .second, .val (.long g1), .second, .val (.long cp), .second, .val (.int (3 : Int32)), .val (.ref b101), .val (.int (fFu (0 : Int64) mm)), .val (.long cp), .second, .val (.int (0 : Int32))] []))
              refine Go.by (fun _ kont => XS.aload X143.here hx rfl (hb hby at_165) rfl rfl kont) ?_
              show Go _ _ _ _ _ _ _ (T143.setTop (mkF m 167 #[.val (.long c1), .second, .val (.int k1), .val (.long h1), .second, .val (.long g1), .second, .val (.long cp), .second, .val (.int (3 : Int32)), .val (.ref b101), .val (.int (fFu (0 : Int64) mm)), .val (.long cp), .second, .val (.int (0 : Int32))] [(.ref b101)]))
              obtain ⟨cq155, kq155, q155a, q155b, q155c⟩ := isOf hZ rfl E143z
              obtain ⟨_, _, ⟨T155, L155, k155, n155⟩, -, X155, ⟨Lc155, hQ155, l155, y155, z155⟩, st155⟩ := X143.virtualBack hx (y := (⟨"com/example/runpulse/runpulse/KnownKeys", "isFull", "()Z"⟩ : MethodName)) (z := (⟨"com/example/runpulse/runpulse/KnownKeys", "isFull", "()Z"⟩ : MethodName)) hown (mvT hZ (hw _ (List.mem_of_getElem? (i := 25) rfl))) (mvT hZ (hw _ (List.mem_of_getElem? (i := 26) rfl))) (notFace_of_selects (args := #[]) (mvT hZ (hw _ (List.mem_of_getElem? (i := 28) rfl)))) (mvT hZ (hw _ (List.mem_of_getElem? (i := 28) rfl))) (mvT hZ (hw _ (List.mem_of_getElem? (i := 27) rfl))) (by decide) (backOf (W := 0) (rmFu l Z a0 hw [] b101 (3 : Int64) mm T143.heap n0 Z144 Fa143 Fc143) hZ (hw _ (List.mem_of_getElem? (i := 29) rfl)) (hw _ (List.mem_of_getElem? (i := 3) rfl)) (by decide) (by decide)) q155a q155c (g := (mkF m 167 #[.val (.long c1), .second, .val (.int k1), .val (.long h1), .second, .val (.long g1), .second, .val (.long cp), .second, .val (.int (3 : Int32)), .val (.ref b101), .val (.int (fFu (0 : Int64) mm)), .val (.long cp), .second, .val (.int (0 : Int32))] [(.ref b101)])) rfl (by rw [hml]; rfl) (Steps.refl _) (argsL := []) (rest := []) (lenOf pd0_1 rfl) rfl (by show 2 * 0 + _ ≤ _; exact Nat.le_of_eq rfl) (hb hby at_167) (fun _ _ => ⟨rfl, rfl, (by decide : 2 + 0 ≤ _), (by decide : 5 + 0 ≤ _)⟩)
              dsimp only [Pt.U, Pt.locs, Pt.cells, Pt.slots] at X155 l155 y155 z155 st155 hQ155
              subst l155 y155 z155
              obtain ⟨rfl, N155q, eh155⟩ := hQ155
              have N155 := Fr.app N143 N155q
              refine Go.tr st155 ?_
              show Go _ _ _ _ _ _ _ (T155.setTop (mkF m 170 #[.val (.long c1), .second, .val (.int k1), .val (.long h1), .second, .val (.long g1), .second, .val (.long cp), .second, .val (.int (3 : Int32)), .val (.ref b101), .val (.int (fFu (0 : Int64) mm)), .val (.long cp), .second, .val (.int (0 : Int32))] [(.int (fFu (3 : Int64) mm))]))
              refine Go.by (fun _ kont => XS.iload X155.here hx rfl (hb hby at_170) rfl kont) ?_
              show Go _ _ _ _ _ _ _ (T155.setTop (mkF m 172 #[.val (.long c1), .second, .val (.int k1), .val (.long h1), .second, .val (.long g1), .second, .val (.long cp), .second, .val (.int (3 : Int32)), .val (.ref b101), .val (.int (fFu (0 : Int64) mm)), .val (.long cp), .second, .val (.int (0 : Int32))] [(.int (0 : Int32)), (.int (fFu (3 : Int64) mm))]))
              have hd156 : (fFu (3 : Int64) mm) = (0 : Int32) := own_fF mm (3 : Int64) (by have q := own_m2 cp mm hm hc145; rw [q]; exact hc150)
              refine Go.by (fun _ kont => XS.icmpNo X155.here hx rfl (hb hby at_172) rfl (teq hd156).2 kont) ?_
              show Go _ _ _ _ _ _ _ (T155.setTop (mkF m 175 #[.val (.long c1), .second, .val (.int k1), .val (.long h1), .second, .val (.long g1), .second, .val (.long cp), .second, .val (.int (3 : Int32)), .val (.ref b101), .val (.int (fFu (0 : Int64) mm)), .val (.long cp), .second, .val (.int (0 : Int32))] []))
              refine Go.by (fun _ kont => XS.iconst X155.here hx rfl (hb hby at_175) (XS.goto X155.here hx rfl (pc0 := 176) (pc' := 180) rfl (hb hby at_176) (by decide) (by decide) kont)) ?_
              show Go _ _ _ _ _ _ _ (T155.setTop (mkF m 180 #[.val (.long c1), .second, .val (.int k1), .val (.long h1), .second, .val (.long g1), .second, .val (.long cp), .second, .val (.int (3 : Int32)), .val (.ref b101), .val (.int (fFu (0 : Int64) mm)), .val (.long cp), .second, .val (.int (0 : Int32))] [(.int (1 : Int32))]))
              refine Go.retN X155 hx (t := .boolean) hret (by simp) hlk (hb hby at_180) ?_ (by decide) (by decide)
              show Q0 Z h0 n0 (some (.int (1 : Int32))) T155.heap _
              rw [eh155]
              exact ⟨rfl, N155⟩
        · have hz3 : nn.toInt ≠ 3 := fun q => hn3 (Int32.toInt_inj.mp (q.trans (by decide)))
          show Go _ _ _ _ _ _ _ (T143.setTop (mkF m 70 #[.val (.long c1), .second, .val (.int k1), .val (.long h1), .second, .val (.long g1), .second, .val (.long cp), .second, .val (.int nn), .val (.ref b101), .val (.int (fFu (0 : Int64) mm)), .unset, .unset, .unset] []))
          refine Go.by (fun _ kont => XS.iload X143.here hx rfl (hb hby at_70) rfl (XS.iconst X143.here hx rfl (hb hby at_72) kont)) ?_
          show Go _ _ _ _ _ _ _ (T143.setTop (mkF m 73 #[.val (.long c1), .second, .val (.int k1), .val (.long h1), .second, .val (.long g1), .second, .val (.long cp), .second, .val (.int nn), .val (.ref b101), .val (.int (fFu (0 : Int64) mm)), .unset, .unset, .unset] [(.int (3 : Int32)), (.int nn)]))
          have hd157 : (3 : Int32) < nn := by rw [Int32.lt_iff_toInt_lt, show (3 : Int32).toInt = 3 from by decide]; omega
          refine Go.by (fun _ kont => XS.icmpNo X143.here hx rfl (hb hby at_73) rfl (tlt hd157).2.2.2 kont) ?_
          show Go _ _ _ _ _ _ _ (T143.setTop (mkF m 76 #[.val (.long c1), .second, .val (.int k1), .val (.long h1), .second, .val (.long g1), .second, .val (.long cp), .second, .val (.int nn), .val (.ref b101), .val (.int (fFu (0 : Int64) mm)), .unset, .unset, .unset] []))
          refine Go.by (fun _ kont => XS.aload X143.here hx rfl (hb hby at_76) rfl rfl (XS.lloadN X143.here hx rfl (hb hby at_78) rfl (XS.lload X143.here hx rfl (hb hby at_79) rfl (XS.ladd X143.here hx rfl (hb hby at_81) rfl kont)))) ?_
          show Go _ _ _ _ _ _ _ (T143.setTop (mkF m 82 #[.val (.long c1), .second, .val (.int k1), .val (.long h1), .second, .val (.long g1), .second, .val (.long cp), .second, .val (.int nn), .val (.ref b101), .val (.int (fFu (0 : Int64) mm)), .unset, .unset, .unset] [(.long (h1 + g1)), (.ref b101)]))
          obtain ⟨cq158, kq158, q158a, q158b, q158c⟩ := isOf hZ rfl E143z
          obtain ⟨_, _, ⟨T158, L158, k158, n158⟩, -, X158, ⟨Lc158, hQ158, l158, y158, z158⟩, st158⟩ := X143.virtualBack hx (y := (⟨"com/example/runpulse/runpulse/KnownKeys", "add", "(J)V"⟩ : MethodName)) (z := (⟨"com/example/runpulse/runpulse/KnownKeys", "add", "(J)V"⟩ : MethodName)) hown (mvT hZ (hw _ (List.mem_of_getElem? (i := 32) rfl))) (mvT hZ (hw _ (List.mem_of_getElem? (i := 33) rfl))) (notFace_of_selects (args := #[]) (mvT hZ (hw _ (List.mem_of_getElem? (i := 35) rfl)))) (mvT hZ (hw _ (List.mem_of_getElem? (i := 35) rfl))) (mvT hZ (hw _ (List.mem_of_getElem? (i := 34) rfl))) (by decide) (backOf (W := 0) (rmA l Z a0 hw [] b101 (h1 + g1) mm bb (3 : Int64) kcb ln T143.heap n0 Z144 E143z Fc143 Fb143 Fa143 V143z ne_b101_bb ge_b101 ge_bb Bl) hZ (hw _ (List.mem_of_getElem? (i := 36) rfl)) (hw _ (List.mem_of_getElem? (i := 3) rfl)) (by decide) (by decide)) q158a q158c (g := (mkF m 82 #[.val (.long c1), .second, .val (.int k1), .val (.long h1), .second, .val (.long g1), .second, .val (.long cp), .second, .val (.int nn), .val (.ref b101), .val (.int (fFu (0 : Int64) mm)), .unset, .unset, .unset] [(.long (h1 + g1)), (.ref b101)])) rfl (by rw [hml]; rfl) (Steps.refl _) (argsL := [(.long (h1 + g1))]) (rest := []) (lenOf pd0_0 rfl) rfl (by show 2 * 0 + _ ≤ _; exact Nat.le_of_eq rfl) (hb hby at_82) (fun _ _ => ⟨rfl, rfl, (by decide : 2 + 0 ≤ _), (by decide : 5 + 0 ≤ _)⟩)
          dsimp only [Pt.U, Pt.locs, Pt.cells, Pt.slots] at X158 l158 y158 z158 st158 hQ158
          subst l158 y158 z158
          obtain ⟨rfl, N158q, K158, E158z, Fc158, Fb158, Fa158, V158z⟩ := hQ158
          have E159_b101 := E143z.keep K158
          have Z159 := Nat.le_trans Z144 K158.1
          have K159 : Keep h0 T158.heap [] := Keep.trans K144 K158 (allS (Or.inr sz_b101) (allS (Or.inr sz_bb) all0))
          rw [show (3 : Int64) + 1 = (4 : Int64) from by decide] at Fa158
          have N158 := Fr.app N143 N158q
          refine Go.tr st158 ?_
          show Go _ _ _ _ _ _ _ (T158.setTop (mkF m 85 #[.val (.long c1), .second, .val (.int k1), .val (.long h1), .second, .val (.long g1), .second, .val (.long cp), .second, .val (.int nn), .val (.ref b101), .val (.int (fFu (0 : Int64) mm)), .unset, .unset, .unset] []))
          by_cases hn4 : nn = (4 : Int32)
          · subst hn4
            show Go _ _ _ _ _ _ _ (T158.setTop (mkF m 85 #[.val (.long c1), .second, .val (.int k1), .val (.long h1), .second, .val (.long g1), .second, .val (.long cp), .second, .val (.int (4 : Int32)), .val (.ref b101), .val (.int (fFu (0 : Int64) mm)), .unset, .unset, .unset] []))
            refine Go.by (fun _ kont => XS.iload X158.here hx rfl (hb hby at_85) rfl (XS.iconst X158.here hx rfl (hb hby at_87) kont)) ?_
            show Go _ _ _ _ _ _ _ (T158.setTop (mkF m 88 #[.val (.long c1), .second, .val (.int k1), .val (.long h1), .second, .val (.long g1), .second, .val (.long cp), .second, .val (.int (4 : Int32)), .val (.ref b101), .val (.int (fFu (0 : Int64) mm)), .unset, .unset, .unset] [(.int (4 : Int32)), (.int (4 : Int32))]))
            refine Go.by (fun _ kont => XS.icmpYes X158.here hx rfl (pc0 := 88) (pc' := 97) rfl (hb hby at_88) rfl (by decide) (by decide) (by decide) kont) ?_
            show Go _ _ _ _ _ _ _ (T158.setTop (mkF m 97 #[.val (.long c1), .second, .val (.int k1), .val (.long h1), .second, .val (.long g1), .second, .val (.long cp), .second, .val (.int (4 : Int32)), .val (.ref b101), .val (.int (fFu (0 : Int64) mm)), .unset, .unset, .unset] []))
            refine Go.by (fun _ kont => XS.iload X158.here hx rfl (hb hby at_97) rfl (XS.iconst X158.here hx rfl (hb hby at_99) kont)) ?_
            show Go _ _ _ _ _ _ _ (T158.setTop (mkF m 100 #[.val (.long c1), .second, .val (.int k1), .val (.long h1), .second, .val (.long g1), .second, .val (.long cp), .second, .val (.int (4 : Int32)), .val (.ref b101), .val (.int (fFu (0 : Int64) mm)), .unset, .unset, .unset] [(.int (5 : Int32)), (.int (4 : Int32))]))
            refine Go.by (fun _ kont => XS.icmpYes X158.here hx rfl (pc0 := 100) (pc' := 112) rfl (hb hby at_100) rfl (by decide) (by decide) (by decide) kont) ?_
            show Go _ _ _ _ _ _ _ (T158.setTop (mkF m 112 #[.val (.long c1), .second, .val (.int k1), .val (.long h1), .second, .val (.long g1), .second, .val (.long cp), .second, .val (.int (4 : Int32)), .val (.ref b101), .val (.int (fFu (0 : Int64) mm)), .unset, .unset, .unset] []))
            refine Go.by (fun _ kont => XS.iload X158.here hx rfl (hb hby at_112) rfl (XS.bipush X158.here hx rfl (hb hby at_114) kont)) ?_
            show Go _ _ _ _ _ _ _ (T158.setTop (mkF m 116 #[.val (.long c1), .second, .val (.int k1), .val (.long h1), .second, .val (.long g1), .second, .val (.long cp), .second, .val (.int (4 : Int32)), .val (.ref b101), .val (.int (fFu (0 : Int64) mm)), .unset, .unset, .unset] [(.int (6 : Int32)), (.int (4 : Int32))]))
            refine Go.by (fun _ kont => XS.icmpYes X158.here hx rfl (pc0 := 116) (pc' := 129) rfl (hb hby at_116) rfl (by decide) (by decide) (by decide) kont) ?_
            show Go _ _ _ _ _ _ _ (T158.setTop (mkF m 129 #[.val (.long c1), .second, .val (.int k1), .val (.long h1), .second, .val (.long g1), .second, .val (.long cp), .second, .val (.int (4 : Int32)), .val (.ref b101), .val (.int (fFu (0 : Int64) mm)), .unset, .unset, .unset] []))
            refine Go.by (fun _ kont => XS.lload X158.here hx rfl (hb hby at_129) rfl (XS.lconst X158.here hx rfl (hb hby at_131) (XS.lcmp X158.here hx rfl (hb hby at_132) rfl kont))) ?_
            show Go _ _ _ _ _ _ _ (T158.setTop (mkF m 133 #[.val (.long c1), .second, .val (.int k1), .val (.long h1), .second, .val (.long g1), .second, .val (.long cp), .second, .val (.int (4 : Int32)), .val (.ref b101), .val (.int (fFu (0 : Int64) mm)), .unset, .unset, .unset] [(.int (lcmpW cp (1 : Int64)))]))
            by_cases hc160 : cp < (1 : Int64)
            · refine Go.by (fun _ kont => XS.ifNo X158.here hx rfl (hb hby at_133) rfl ((if0 _ _).trans (tlt ((lw_lt _ _).mpr hc160)).2.1) kont) ?_
              show Go _ _ _ _ _ _ _ (T158.setTop (mkF m 136 #[.val (.long c1), .second, .val (.int k1), .val (.long h1), .second, .val (.long g1), .second, .val (.long cp), .second, .val (.int (4 : Int32)), .val (.ref b101), .val (.int (fFu (0 : Int64) mm)), .unset, .unset, .unset] []))
              refine Go.by (fun _ kont => XS.lconst X158.here hx rfl (hb hby at_136) (XS.goto X158.here hx rfl (pc0 := 137) (pc' := 142) rfl (hb hby at_137) (by decide) (by decide) (XS.lstore X158.here hx rfl (hb hby at_142) rfl (l' := #[.val (.long c1), .second, .val (.int k1), .val (.long h1), .second, .val (.long g1), .second, .val (.long cp), .second, .val (.int (4 : Int32)), .val (.ref b101), .val (.int (fFu (0 : Int64) mm)), .val (.long (1 : Int64)), .second, .unset]) rfl (XS.iload X158.here hx rfl (hb hby at_144) rfl (XS.i2l X158.here hx rfl (hb hby at_146) rfl kont))))) ?_
              show Go _ _ _ _ _ _ _ (T158.setTop (mkF m 147 #[.val (.long c1), .second, .val (.int k1), .val (.long h1), .second, .val (.long g1), .second, .val (.long cp), .second, .val (.int (4 : Int32)), .val (.ref b101), .val (.int (fFu (0 : Int64) mm)), .val (.long (1 : Int64)), .second, .unset] [(.long ((4 : Int32).toInt64))]))
              rw [show ((4 : Int32).toInt64) = (4 : Int64) from by decide]
              show Go _ _ _ _ _ _ _ (T158.setTop (mkF m 147 #[.val (.long c1), .second, .val (.int k1), .val (.long h1), .second, .val (.long g1), .second, .val (.long cp), .second, .val (.int (4 : Int32)), .val (.ref b101), .val (.int (fFu (0 : Int64) mm)), .val (.long (1 : Int64)), .second, .unset] [(.long (4 : Int64))]))
              refine Go.by (fun _ kont => XS.lload X158.here hx rfl (hb hby at_147) rfl (XS.lcmp X158.here hx rfl (hb hby at_149) rfl kont)) ?_
              show Go _ _ _ _ _ _ _ (T158.setTop (mkF m 150 #[.val (.long c1), .second, .val (.int k1), .val (.long h1), .second, .val (.long g1), .second, .val (.long cp), .second, .val (.int (4 : Int32)), .val (.ref b101), .val (.int (fFu (0 : Int64) mm)), .val (.long (1 : Int64)), .second, .unset] [(.int (lcmpW (4 : Int64) (1 : Int64)))]))
              have hd161 : (1 : Int64) < (4 : Int64) := by decide
              refine Go.by (fun _ kont => XS.ifNo X158.here hx rfl (hb hby at_150) rfl ((if0 _ _).trans (tlt ((lw_gt _ _).mpr hd161)).2.2.2) kont) ?_
              show Go _ _ _ _ _ _ _ (T158.setTop (mkF m 153 #[.val (.long c1), .second, .val (.int k1), .val (.long h1), .second, .val (.long g1), .second, .val (.long cp), .second, .val (.int (4 : Int32)), .val (.ref b101), .val (.int (fFu (0 : Int64) mm)), .val (.long (1 : Int64)), .second, .unset] []))
              refine Go.by (fun _ kont => XS.iconst X158.here hx rfl (hb hby at_153) (XS.goto X158.here hx rfl (pc0 := 154) (pc' := 158) rfl (hb hby at_154) (by decide) (by decide) (XS.istore X158.here hx rfl (hb hby at_158) rfl (l' := #[.val (.long c1), .second, .val (.int k1), .val (.long h1), .second, .val (.long g1), .second, .val (.long cp), .second, .val (.int (4 : Int32)), .val (.ref b101), .val (.int (fFu (0 : Int64) mm)), .val (.long (1 : Int64)), .second, .val (.int (1 : Int32))]) rfl (XS.iload X158.here hx rfl (hb hby at_160) rfl kont)))) ?_
              show Go _ _ _ _ _ _ _ (T158.setTop (mkF m 162 #[.val (.long c1), .second, .val (.int k1), .val (.long h1), .second, .val (.long g1), .second, .val (.long cp), .second, .val (.int (4 : Int32)), .val (.ref b101), .val (.int (fFu (0 : Int64) mm)), .val (.long (1 : Int64)), .second, .val (.int (1 : Int32))] [(.int (fFu (0 : Int64) mm))]))
              have hd162 : (fFu (0 : Int64) mm) = (0 : Int32) := own_before mm Bm
              refine Go.by (fun _ kont => XS.ifNo X158.here hx rfl (hb hby at_162) rfl ((if0 _ _).trans (teq hd162).2) kont) ?_
              show Go _ _ _ _ _ _ _ (T158.setTop (mkF m 165 #[.val (.long c1), .second, .val (.int k1), .val (.long h1), .second, .val (.long g1), .second, .val (.long cp), .second, .val (.int (4 : Int32)), .val (.ref b101), .val (.int (fFu (0 : Int64) mm)), .val (.long (1 : Int64)), .second, .val (.int (1 : Int32))] []))
              refine Go.by (fun _ kont => XS.aload X158.here hx rfl (hb hby at_165) rfl rfl kont) ?_
              show Go _ _ _ _ _ _ _ (T158.setTop (mkF m 167 #[.val (.long c1), .second, .val (.int k1), .val (.long h1), .second, .val (.long g1), .second, .val (.long cp), .second, .val (.int (4 : Int32)), .val (.ref b101), .val (.int (fFu (0 : Int64) mm)), .val (.long (1 : Int64)), .second, .val (.int (1 : Int32))] [(.ref b101)]))
              obtain ⟨cq163, kq163, q163a, q163b, q163c⟩ := isOf hZ rfl E158z
              obtain ⟨_, _, ⟨T163, L163, k163, n163⟩, -, X163, ⟨Lc163, hQ163, l163, y163, z163⟩, st163⟩ := X158.virtualBack hx (y := (⟨"com/example/runpulse/runpulse/KnownKeys", "isFull", "()Z"⟩ : MethodName)) (z := (⟨"com/example/runpulse/runpulse/KnownKeys", "isFull", "()Z"⟩ : MethodName)) hown (mvT hZ (hw _ (List.mem_of_getElem? (i := 25) rfl))) (mvT hZ (hw _ (List.mem_of_getElem? (i := 26) rfl))) (notFace_of_selects (args := #[]) (mvT hZ (hw _ (List.mem_of_getElem? (i := 28) rfl)))) (mvT hZ (hw _ (List.mem_of_getElem? (i := 28) rfl))) (mvT hZ (hw _ (List.mem_of_getElem? (i := 27) rfl))) (by decide) (backOf (W := 0) (rmFu l Z a0 hw [] b101 (4 : Int64) mm T158.heap n0 Z159 Fa158 Fc158) hZ (hw _ (List.mem_of_getElem? (i := 29) rfl)) (hw _ (List.mem_of_getElem? (i := 3) rfl)) (by decide) (by decide)) q163a q163c (g := (mkF m 167 #[.val (.long c1), .second, .val (.int k1), .val (.long h1), .second, .val (.long g1), .second, .val (.long cp), .second, .val (.int (4 : Int32)), .val (.ref b101), .val (.int (fFu (0 : Int64) mm)), .val (.long (1 : Int64)), .second, .val (.int (1 : Int32))] [(.ref b101)])) rfl (by rw [hml]; rfl) (Steps.refl _) (argsL := []) (rest := []) (lenOf pd0_1 rfl) rfl (by show 2 * 0 + _ ≤ _; exact Nat.le_of_eq rfl) (hb hby at_167) (fun _ _ => ⟨rfl, rfl, (by decide : 2 + 0 ≤ _), (by decide : 5 + 0 ≤ _)⟩)
              dsimp only [Pt.U, Pt.locs, Pt.cells, Pt.slots] at X163 l163 y163 z163 st163 hQ163
              subst l163 y163 z163
              obtain ⟨rfl, N163q, eh163⟩ := hQ163
              have N163 := Fr.app N158 N163q
              refine Go.tr st163 ?_
              show Go _ _ _ _ _ _ _ (T163.setTop (mkF m 170 #[.val (.long c1), .second, .val (.int k1), .val (.long h1), .second, .val (.long g1), .second, .val (.long cp), .second, .val (.int (4 : Int32)), .val (.ref b101), .val (.int (fFu (0 : Int64) mm)), .val (.long (1 : Int64)), .second, .val (.int (1 : Int32))] [(.int (fFu (4 : Int64) mm))]))
              refine Go.by (fun _ kont => XS.iload X163.here hx rfl (hb hby at_170) rfl kont) ?_
              show Go _ _ _ _ _ _ _ (T163.setTop (mkF m 172 #[.val (.long c1), .second, .val (.int k1), .val (.long h1), .second, .val (.long g1), .second, .val (.long cp), .second, .val (.int (4 : Int32)), .val (.ref b101), .val (.int (fFu (0 : Int64) mm)), .val (.long (1 : Int64)), .second, .val (.int (1 : Int32))] [(.int (1 : Int32)), (.int (fFu (4 : Int64) mm))]))
              have hd164 : (fFu (4 : Int64) mm) = (1 : Int32) := own_fT mm (4 : Int64) (by have q := own_m1 cp mm hm hc160; rw [q]; decide)
              refine Go.by (fun _ kont => XS.icmpNo X163.here hx rfl (hb hby at_172) rfl (teq hd164).2 kont) ?_
              show Go _ _ _ _ _ _ _ (T163.setTop (mkF m 175 #[.val (.long c1), .second, .val (.int k1), .val (.long h1), .second, .val (.long g1), .second, .val (.long cp), .second, .val (.int (4 : Int32)), .val (.ref b101), .val (.int (fFu (0 : Int64) mm)), .val (.long (1 : Int64)), .second, .val (.int (1 : Int32))] []))
              refine Go.by (fun _ kont => XS.iconst X163.here hx rfl (hb hby at_175) (XS.goto X163.here hx rfl (pc0 := 176) (pc' := 180) rfl (hb hby at_176) (by decide) (by decide) kont)) ?_
              show Go _ _ _ _ _ _ _ (T163.setTop (mkF m 180 #[.val (.long c1), .second, .val (.int k1), .val (.long h1), .second, .val (.long g1), .second, .val (.long cp), .second, .val (.int (4 : Int32)), .val (.ref b101), .val (.int (fFu (0 : Int64) mm)), .val (.long (1 : Int64)), .second, .val (.int (1 : Int32))] [(.int (1 : Int32))]))
              refine Go.retN X163 hx (t := .boolean) hret (by simp) hlk (hb hby at_180) ?_ (by decide) (by decide)
              show Q0 Z h0 n0 (some (.int (1 : Int32))) T163.heap _
              rw [eh163]
              exact ⟨rfl, N163⟩
            · refine Go.by (fun _ kont => XS.ifYes X158.here hx rfl (pc0 := 133) (pc' := 140) rfl (hb hby at_133) rfl ((if0 _ _).trans (flt (fun z => hc160 ((lw_lt _ _).mp z))).2.1) (by decide) (by decide) kont) ?_
              show Go _ _ _ _ _ _ _ (T158.setTop (mkF m 140 #[.val (.long c1), .second, .val (.int k1), .val (.long h1), .second, .val (.long g1), .second, .val (.long cp), .second, .val (.int (4 : Int32)), .val (.ref b101), .val (.int (fFu (0 : Int64) mm)), .unset, .unset, .unset] []))
              refine Go.by (fun _ kont => XS.lload X158.here hx rfl (hb hby at_140) rfl (XS.lstore X158.here hx rfl (hb hby at_142) rfl (l' := #[.val (.long c1), .second, .val (.int k1), .val (.long h1), .second, .val (.long g1), .second, .val (.long cp), .second, .val (.int (4 : Int32)), .val (.ref b101), .val (.int (fFu (0 : Int64) mm)), .val (.long cp), .second, .unset]) rfl (XS.iload X158.here hx rfl (hb hby at_144) rfl (XS.i2l X158.here hx rfl (hb hby at_146) rfl kont)))) ?_
              show Go _ _ _ _ _ _ _ (T158.setTop (mkF m 147 #[.val (.long c1), .second, .val (.int k1), .val (.long h1), .second, .val (.long g1), .second, .val (.long cp), .second, .val (.int (4 : Int32)), .val (.ref b101), .val (.int (fFu (0 : Int64) mm)), .val (.long cp), .second, .unset] [(.long ((4 : Int32).toInt64))]))
              rw [show ((4 : Int32).toInt64) = (4 : Int64) from by decide]
              show Go _ _ _ _ _ _ _ (T158.setTop (mkF m 147 #[.val (.long c1), .second, .val (.int k1), .val (.long h1), .second, .val (.long g1), .second, .val (.long cp), .second, .val (.int (4 : Int32)), .val (.ref b101), .val (.int (fFu (0 : Int64) mm)), .val (.long cp), .second, .unset] [(.long (4 : Int64))]))
              refine Go.by (fun _ kont => XS.lload X158.here hx rfl (hb hby at_147) rfl (XS.lcmp X158.here hx rfl (hb hby at_149) rfl kont)) ?_
              show Go _ _ _ _ _ _ _ (T158.setTop (mkF m 150 #[.val (.long c1), .second, .val (.int k1), .val (.long h1), .second, .val (.long g1), .second, .val (.long cp), .second, .val (.int (4 : Int32)), .val (.ref b101), .val (.int (fFu (0 : Int64) mm)), .val (.long cp), .second, .unset] [(.int (lcmpW (4 : Int64) cp))]))
              by_cases hc165 : cp < (4 : Int64)
              · refine Go.by (fun _ kont => XS.ifNo X158.here hx rfl (hb hby at_150) rfl ((if0 _ _).trans (tlt ((lw_gt _ _).mpr hc165)).2.2.2) kont) ?_
                show Go _ _ _ _ _ _ _ (T158.setTop (mkF m 153 #[.val (.long c1), .second, .val (.int k1), .val (.long h1), .second, .val (.long g1), .second, .val (.long cp), .second, .val (.int (4 : Int32)), .val (.ref b101), .val (.int (fFu (0 : Int64) mm)), .val (.long cp), .second, .unset] []))
                refine Go.by (fun _ kont => XS.iconst X158.here hx rfl (hb hby at_153) (XS.goto X158.here hx rfl (pc0 := 154) (pc' := 158) rfl (hb hby at_154) (by decide) (by decide) (XS.istore X158.here hx rfl (hb hby at_158) rfl (l' := #[.val (.long c1), .second, .val (.int k1), .val (.long h1), .second, .val (.long g1), .second, .val (.long cp), .second, .val (.int (4 : Int32)), .val (.ref b101), .val (.int (fFu (0 : Int64) mm)), .val (.long cp), .second, .val (.int (1 : Int32))]) rfl (XS.iload X158.here hx rfl (hb hby at_160) rfl kont)))) ?_
                show Go _ _ _ _ _ _ _ (T158.setTop (mkF m 162 #[.val (.long c1), .second, .val (.int k1), .val (.long h1), .second, .val (.long g1), .second, .val (.long cp), .second, .val (.int (4 : Int32)), .val (.ref b101), .val (.int (fFu (0 : Int64) mm)), .val (.long cp), .second, .val (.int (1 : Int32))] [(.int (fFu (0 : Int64) mm))]))
                have hd166 : (fFu (0 : Int64) mm) = (0 : Int32) := own_before mm Bm
                refine Go.by (fun _ kont => XS.ifNo X158.here hx rfl (hb hby at_162) rfl ((if0 _ _).trans (teq hd166).2) kont) ?_
                show Go _ _ _ _ _ _ _ (T158.setTop (mkF m 165 #[.val (.long c1), .second, .val (.int k1), .val (.long h1), .second, .val (.long g1), .second, .val (.long cp), .second, .val (.int (4 : Int32)), .val (.ref b101), .val (.int (fFu (0 : Int64) mm)), .val (.long cp), .second, .val (.int (1 : Int32))] []))
                refine Go.by (fun _ kont => XS.aload X158.here hx rfl (hb hby at_165) rfl rfl kont) ?_
                show Go _ _ _ _ _ _ _ (T158.setTop (mkF m 167 #[.val (.long c1), .second, .val (.int k1), .val (.long h1), .second, .val (.long g1), .second, .val (.long cp), .second, .val (.int (4 : Int32)), .val (.ref b101), .val (.int (fFu (0 : Int64) mm)), .val (.long cp), .second, .val (.int (1 : Int32))] [(.ref b101)]))
                obtain ⟨cq167, kq167, q167a, q167b, q167c⟩ := isOf hZ rfl E158z
                obtain ⟨_, _, ⟨T167, L167, k167, n167⟩, -, X167, ⟨Lc167, hQ167, l167, y167, z167⟩, st167⟩ := X158.virtualBack hx (y := (⟨"com/example/runpulse/runpulse/KnownKeys", "isFull", "()Z"⟩ : MethodName)) (z := (⟨"com/example/runpulse/runpulse/KnownKeys", "isFull", "()Z"⟩ : MethodName)) hown (mvT hZ (hw _ (List.mem_of_getElem? (i := 25) rfl))) (mvT hZ (hw _ (List.mem_of_getElem? (i := 26) rfl))) (notFace_of_selects (args := #[]) (mvT hZ (hw _ (List.mem_of_getElem? (i := 28) rfl)))) (mvT hZ (hw _ (List.mem_of_getElem? (i := 28) rfl))) (mvT hZ (hw _ (List.mem_of_getElem? (i := 27) rfl))) (by decide) (backOf (W := 0) (rmFu l Z a0 hw [] b101 (4 : Int64) mm T158.heap n0 Z159 Fa158 Fc158) hZ (hw _ (List.mem_of_getElem? (i := 29) rfl)) (hw _ (List.mem_of_getElem? (i := 3) rfl)) (by decide) (by decide)) q167a q167c (g := (mkF m 167 #[.val (.long c1), .second, .val (.int k1), .val (.long h1), .second, .val (.long g1), .second, .val (.long cp), .second, .val (.int (4 : Int32)), .val (.ref b101), .val (.int (fFu (0 : Int64) mm)), .val (.long cp), .second, .val (.int (1 : Int32))] [(.ref b101)])) rfl (by rw [hml]; rfl) (Steps.refl _) (argsL := []) (rest := []) (lenOf pd0_1 rfl) rfl (by show 2 * 0 + _ ≤ _; exact Nat.le_of_eq rfl) (hb hby at_167) (fun _ _ => ⟨rfl, rfl, (by decide : 2 + 0 ≤ _), (by decide : 5 + 0 ≤ _)⟩)
                dsimp only [Pt.U, Pt.locs, Pt.cells, Pt.slots] at X167 l167 y167 z167 st167 hQ167
                subst l167 y167 z167
                obtain ⟨rfl, N167q, eh167⟩ := hQ167
                have N167 := Fr.app N158 N167q
                refine Go.tr st167 ?_
                show Go _ _ _ _ _ _ _ (T167.setTop (mkF m 170 #[.val (.long c1), .second, .val (.int k1), .val (.long h1), .second, .val (.long g1), .second, .val (.long cp), .second, .val (.int (4 : Int32)), .val (.ref b101), .val (.int (fFu (0 : Int64) mm)), .val (.long cp), .second, .val (.int (1 : Int32))] [(.int (fFu (4 : Int64) mm))]))
                refine Go.by (fun _ kont => XS.iload X167.here hx rfl (hb hby at_170) rfl kont) ?_
                show Go _ _ _ _ _ _ _ (T167.setTop (mkF m 172 #[.val (.long c1), .second, .val (.int k1), .val (.long h1), .second, .val (.long g1), .second, .val (.long cp), .second, .val (.int (4 : Int32)), .val (.ref b101), .val (.int (fFu (0 : Int64) mm)), .val (.long cp), .second, .val (.int (1 : Int32))] [(.int (1 : Int32)), (.int (fFu (4 : Int64) mm))]))
                have hd168 : (fFu (4 : Int64) mm) = (1 : Int32) := own_fT mm (4 : Int64) (by have q := own_m2 cp mm hm hc160; rw [q]; exact hc165)
                refine Go.by (fun _ kont => XS.icmpNo X167.here hx rfl (hb hby at_172) rfl (teq hd168).2 kont) ?_
                show Go _ _ _ _ _ _ _ (T167.setTop (mkF m 175 #[.val (.long c1), .second, .val (.int k1), .val (.long h1), .second, .val (.long g1), .second, .val (.long cp), .second, .val (.int (4 : Int32)), .val (.ref b101), .val (.int (fFu (0 : Int64) mm)), .val (.long cp), .second, .val (.int (1 : Int32))] []))
                refine Go.by (fun _ kont => XS.iconst X167.here hx rfl (hb hby at_175) (XS.goto X167.here hx rfl (pc0 := 176) (pc' := 180) rfl (hb hby at_176) (by decide) (by decide) kont)) ?_
                show Go _ _ _ _ _ _ _ (T167.setTop (mkF m 180 #[.val (.long c1), .second, .val (.int k1), .val (.long h1), .second, .val (.long g1), .second, .val (.long cp), .second, .val (.int (4 : Int32)), .val (.ref b101), .val (.int (fFu (0 : Int64) mm)), .val (.long cp), .second, .val (.int (1 : Int32))] [(.int (1 : Int32))]))
                refine Go.retN X167 hx (t := .boolean) hret (by simp) hlk (hb hby at_180) ?_ (by decide) (by decide)
                show Q0 Z h0 n0 (some (.int (1 : Int32))) T167.heap _
                rw [eh167]
                exact ⟨rfl, N167⟩
              · refine Go.by (fun _ kont => XS.ifYes X158.here hx rfl (pc0 := 150) (pc' := 157) rfl (hb hby at_150) rfl ((if0 _ _).trans (flt (fun z => hc165 ((lw_gt _ _).mp z))).2.2.2) (by decide) (by decide) kont) ?_
                show Go _ _ _ _ _ _ _ (T158.setTop (mkF m 157 #[.val (.long c1), .second, .val (.int k1), .val (.long h1), .second, .val (.long g1), .second, .val (.long cp), .second, .val (.int (4 : Int32)), .val (.ref b101), .val (.int (fFu (0 : Int64) mm)), .val (.long cp), .second, .unset] []))
                refine Go.by (fun _ kont => XS.iconst X158.here hx rfl (hb hby at_157) (XS.istore X158.here hx rfl (hb hby at_158) rfl (l' := #[.val (.long c1), .second, .val (.int k1), .val (.long h1), .second, .val (.long g1), .second, .val (.long cp), .second, .val (.int (4 : Int32)), .val (.ref b101), .val (.int (fFu (0 : Int64) mm)), .val (.long cp), .second, .val (.int (0 : Int32))]) rfl (XS.iload X158.here hx rfl (hb hby at_160) rfl kont))) ?_
                show Go _ _ _ _ _ _ _ (T158.setTop (mkF m 162 #[.val (.long c1), .second, .val (.int k1), .val (.long h1), .second, .val (.long g1), .second, .val (.long cp), .second, .val (.int (4 : Int32)), .val (.ref b101), .val (.int (fFu (0 : Int64) mm)), .val (.long cp), .second, .val (.int (0 : Int32))] [(.int (fFu (0 : Int64) mm))]))
                have hd169 : (fFu (0 : Int64) mm) = (0 : Int32) := own_before mm Bm
                refine Go.by (fun _ kont => XS.ifNo X158.here hx rfl (hb hby at_162) rfl ((if0 _ _).trans (teq hd169).2) kont) ?_
                show Go _ _ _ _ _ _ _ (T158.setTop (mkF m 165 #[.val (.long c1), .second, .val (.int k1), .val (.long h1), .second, .val (.long g1), .second, .val (.long cp), .second, .val (.int (4 : Int32)), .val (.ref b101), .val (.int (fFu (0 : Int64) mm)), .val (.long cp), .second, .val (.int (0 : Int32))] []))
                refine Go.by (fun _ kont => XS.aload X158.here hx rfl (hb hby at_165) rfl rfl kont) ?_
                show Go _ _ _ _ _ _ _ (T158.setTop (mkF m 167 #[.val (.long c1), .second, .val (.int k1), .val (.long h1), .second, .val (.long g1), .second, .val (.long cp), .second, .val (.int (4 : Int32)), .val (.ref b101), .val (.int (fFu (0 : Int64) mm)), .val (.long cp), .second, .val (.int (0 : Int32))] [(.ref b101)]))
                obtain ⟨cq170, kq170, q170a, q170b, q170c⟩ := isOf hZ rfl E158z
                obtain ⟨_, _, ⟨T170, L170, k170, n170⟩, -, X170, ⟨Lc170, hQ170, l170, y170, z170⟩, st170⟩ := X158.virtualBack hx (y := (⟨"com/example/runpulse/runpulse/KnownKeys", "isFull", "()Z"⟩ : MethodName)) (z := (⟨"com/example/runpulse/runpulse/KnownKeys", "isFull", "()Z"⟩ : MethodName)) hown (mvT hZ (hw _ (List.mem_of_getElem? (i := 25) rfl))) (mvT hZ (hw _ (List.mem_of_getElem? (i := 26) rfl))) (notFace_of_selects (args := #[]) (mvT hZ (hw _ (List.mem_of_getElem? (i := 28) rfl)))) (mvT hZ (hw _ (List.mem_of_getElem? (i := 28) rfl))) (mvT hZ (hw _ (List.mem_of_getElem? (i := 27) rfl))) (by decide) (backOf (W := 0) (rmFu l Z a0 hw [] b101 (4 : Int64) mm T158.heap n0 Z159 Fa158 Fc158) hZ (hw _ (List.mem_of_getElem? (i := 29) rfl)) (hw _ (List.mem_of_getElem? (i := 3) rfl)) (by decide) (by decide)) q170a q170c (g := (mkF m 167 #[.val (.long c1), .second, .val (.int k1), .val (.long h1), .second, .val (.long g1), .second, .val (.long cp), .second, .val (.int (4 : Int32)), .val (.ref b101), .val (.int (fFu (0 : Int64) mm)), .val (.long cp), .second, .val (.int (0 : Int32))] [(.ref b101)])) rfl (by rw [hml]; rfl) (Steps.refl _) (argsL := []) (rest := []) (lenOf pd0_1 rfl) rfl (by show 2 * 0 + _ ≤ _; exact Nat.le_of_eq rfl) (hb hby at_167) (fun _ _ => ⟨rfl, rfl, (by decide : 2 + 0 ≤ _), (by decide : 5 + 0 ≤ _)⟩)
                dsimp only [Pt.U, Pt.locs, Pt.cells, Pt.slots] at X170 l170 y170 z170 st170 hQ170
                subst l170 y170 z170
                obtain ⟨rfl, N170q, eh170⟩ := hQ170
                have N170 := Fr.app N158 N170q
                refine Go.tr st170 ?_
                show Go _ _ _ _ _ _ _ (T170.setTop (mkF m 170 #[.val (.long c1), .second, .val (.int k1), .val (.long h1), .second, .val (.long g1), .second, .val (.long cp), .second, .val (.int (4 : Int32)), .val (.ref b101), .val (.int (fFu (0 : Int64) mm)), .val (.long cp), .second, .val (.int (0 : Int32))] [(.int (fFu (4 : Int64) mm))]))
                refine Go.by (fun _ kont => XS.iload X170.here hx rfl (hb hby at_170) rfl kont) ?_
                show Go _ _ _ _ _ _ _ (T170.setTop (mkF m 172 #[.val (.long c1), .second, .val (.int k1), .val (.long h1), .second, .val (.long g1), .second, .val (.long cp), .second, .val (.int (4 : Int32)), .val (.ref b101), .val (.int (fFu (0 : Int64) mm)), .val (.long cp), .second, .val (.int (0 : Int32))] [(.int (0 : Int32)), (.int (fFu (4 : Int64) mm))]))
                have hd171 : (fFu (4 : Int64) mm) = (0 : Int32) := own_fF mm (4 : Int64) (by have q := own_m2 cp mm hm hc160; rw [q]; exact hc165)
                refine Go.by (fun _ kont => XS.icmpNo X170.here hx rfl (hb hby at_172) rfl (teq hd171).2 kont) ?_
                show Go _ _ _ _ _ _ _ (T170.setTop (mkF m 175 #[.val (.long c1), .second, .val (.int k1), .val (.long h1), .second, .val (.long g1), .second, .val (.long cp), .second, .val (.int (4 : Int32)), .val (.ref b101), .val (.int (fFu (0 : Int64) mm)), .val (.long cp), .second, .val (.int (0 : Int32))] []))
                refine Go.by (fun _ kont => XS.iconst X170.here hx rfl (hb hby at_175) (XS.goto X170.here hx rfl (pc0 := 176) (pc' := 180) rfl (hb hby at_176) (by decide) (by decide) kont)) ?_
                show Go _ _ _ _ _ _ _ (T170.setTop (mkF m 180 #[.val (.long c1), .second, .val (.int k1), .val (.long h1), .second, .val (.long g1), .second, .val (.long cp), .second, .val (.int (4 : Int32)), .val (.ref b101), .val (.int (fFu (0 : Int64) mm)), .val (.long cp), .second, .val (.int (0 : Int32))] [(.int (1 : Int32))]))
                refine Go.retN X170 hx (t := .boolean) hret (by simp) hlk (hb hby at_180) ?_ (by decide) (by decide)
                show Q0 Z h0 n0 (some (.int (1 : Int32))) T170.heap _
                rw [eh170]
                exact ⟨rfl, N170⟩
          · have hz4 : nn.toInt ≠ 4 := fun q => hn4 (Int32.toInt_inj.mp (q.trans (by decide)))
            show Go _ _ _ _ _ _ _ (T158.setTop (mkF m 85 #[.val (.long c1), .second, .val (.int k1), .val (.long h1), .second, .val (.long g1), .second, .val (.long cp), .second, .val (.int nn), .val (.ref b101), .val (.int (fFu (0 : Int64) mm)), .unset, .unset, .unset] []))
            refine Go.by (fun _ kont => XS.iload X158.here hx rfl (hb hby at_85) rfl (XS.iconst X158.here hx rfl (hb hby at_87) kont)) ?_
            show Go _ _ _ _ _ _ _ (T158.setTop (mkF m 88 #[.val (.long c1), .second, .val (.int k1), .val (.long h1), .second, .val (.long g1), .second, .val (.long cp), .second, .val (.int nn), .val (.ref b101), .val (.int (fFu (0 : Int64) mm)), .unset, .unset, .unset] [(.int (4 : Int32)), (.int nn)]))
            have hd172 : (4 : Int32) < nn := by rw [Int32.lt_iff_toInt_lt, show (4 : Int32).toInt = 4 from by decide]; omega
            refine Go.by (fun _ kont => XS.icmpNo X158.here hx rfl (hb hby at_88) rfl (tlt hd172).2.2.2 kont) ?_
            show Go _ _ _ _ _ _ _ (T158.setTop (mkF m 91 #[.val (.long c1), .second, .val (.int k1), .val (.long h1), .second, .val (.long g1), .second, .val (.long cp), .second, .val (.int nn), .val (.ref b101), .val (.int (fFu (0 : Int64) mm)), .unset, .unset, .unset] []))
            refine Go.by (fun _ kont => XS.aload X158.here hx rfl (hb hby at_91) rfl rfl (XS.lloadN X158.here hx rfl (hb hby at_93) rfl kont)) ?_
            show Go _ _ _ _ _ _ _ (T158.setTop (mkF m 94 #[.val (.long c1), .second, .val (.int k1), .val (.long h1), .second, .val (.long g1), .second, .val (.long cp), .second, .val (.int nn), .val (.ref b101), .val (.int (fFu (0 : Int64) mm)), .unset, .unset, .unset] [(.long h1), (.ref b101)]))
            obtain ⟨cq173, kq173, q173a, q173b, q173c⟩ := isOf hZ rfl E158z
            obtain ⟨_, _, ⟨T173, L173, k173, n173⟩, -, X173, ⟨Lc173, hQ173, l173, y173, z173⟩, st173⟩ := X158.virtualBack hx (y := (⟨"com/example/runpulse/runpulse/KnownKeys", "add", "(J)V"⟩ : MethodName)) (z := (⟨"com/example/runpulse/runpulse/KnownKeys", "add", "(J)V"⟩ : MethodName)) hown (mvT hZ (hw _ (List.mem_of_getElem? (i := 32) rfl))) (mvT hZ (hw _ (List.mem_of_getElem? (i := 33) rfl))) (notFace_of_selects (args := #[]) (mvT hZ (hw _ (List.mem_of_getElem? (i := 35) rfl)))) (mvT hZ (hw _ (List.mem_of_getElem? (i := 35) rfl))) (mvT hZ (hw _ (List.mem_of_getElem? (i := 34) rfl))) (by decide) (backOf (W := 0) (rmA l Z a0 hw [] b101 h1 mm bb (4 : Int64) kcb ln T158.heap n0 Z159 E158z Fc158 Fb158 Fa158 V158z ne_b101_bb ge_b101 ge_bb Bl) hZ (hw _ (List.mem_of_getElem? (i := 36) rfl)) (hw _ (List.mem_of_getElem? (i := 3) rfl)) (by decide) (by decide)) q173a q173c (g := (mkF m 94 #[.val (.long c1), .second, .val (.int k1), .val (.long h1), .second, .val (.long g1), .second, .val (.long cp), .second, .val (.int nn), .val (.ref b101), .val (.int (fFu (0 : Int64) mm)), .unset, .unset, .unset] [(.long h1), (.ref b101)])) rfl (by rw [hml]; rfl) (Steps.refl _) (argsL := [(.long h1)]) (rest := []) (lenOf pd0_0 rfl) rfl (by show 2 * 0 + _ ≤ _; exact Nat.le_of_eq rfl) (hb hby at_94) (fun _ _ => ⟨rfl, rfl, (by decide : 2 + 0 ≤ _), (by decide : 5 + 0 ≤ _)⟩)
            dsimp only [Pt.U, Pt.locs, Pt.cells, Pt.slots] at X173 l173 y173 z173 st173 hQ173
            subst l173 y173 z173
            obtain ⟨rfl, N173q, K173, E173z, Fc173, Fb173, Fa173, V173z⟩ := hQ173
            have E174_b101 := E158z.keep K173
            have Z174 := Nat.le_trans Z159 K173.1
            have K174 : Keep h0 T173.heap [] := Keep.trans K159 K173 (allS (Or.inr sz_b101) (allS (Or.inr sz_bb) all0))
            rw [show (4 : Int64) + 1 = (5 : Int64) from by decide] at Fa173
            have N173 := Fr.app N158 N173q
            refine Go.tr st173 ?_
            show Go _ _ _ _ _ _ _ (T173.setTop (mkF m 97 #[.val (.long c1), .second, .val (.int k1), .val (.long h1), .second, .val (.long g1), .second, .val (.long cp), .second, .val (.int nn), .val (.ref b101), .val (.int (fFu (0 : Int64) mm)), .unset, .unset, .unset] []))
            by_cases hn5 : nn = (5 : Int32)
            · subst hn5
              show Go _ _ _ _ _ _ _ (T173.setTop (mkF m 97 #[.val (.long c1), .second, .val (.int k1), .val (.long h1), .second, .val (.long g1), .second, .val (.long cp), .second, .val (.int (5 : Int32)), .val (.ref b101), .val (.int (fFu (0 : Int64) mm)), .unset, .unset, .unset] []))
              refine Go.by (fun _ kont => XS.iload X173.here hx rfl (hb hby at_97) rfl (XS.iconst X173.here hx rfl (hb hby at_99) kont)) ?_
              show Go _ _ _ _ _ _ _ (T173.setTop (mkF m 100 #[.val (.long c1), .second, .val (.int k1), .val (.long h1), .second, .val (.long g1), .second, .val (.long cp), .second, .val (.int (5 : Int32)), .val (.ref b101), .val (.int (fFu (0 : Int64) mm)), .unset, .unset, .unset] [(.int (5 : Int32)), (.int (5 : Int32))]))
              refine Go.by (fun _ kont => XS.icmpYes X173.here hx rfl (pc0 := 100) (pc' := 112) rfl (hb hby at_100) rfl (by decide) (by decide) (by decide) kont) ?_
              show Go _ _ _ _ _ _ _ (T173.setTop (mkF m 112 #[.val (.long c1), .second, .val (.int k1), .val (.long h1), .second, .val (.long g1), .second, .val (.long cp), .second, .val (.int (5 : Int32)), .val (.ref b101), .val (.int (fFu (0 : Int64) mm)), .unset, .unset, .unset] []))
              refine Go.by (fun _ kont => XS.iload X173.here hx rfl (hb hby at_112) rfl (XS.bipush X173.here hx rfl (hb hby at_114) kont)) ?_
              show Go _ _ _ _ _ _ _ (T173.setTop (mkF m 116 #[.val (.long c1), .second, .val (.int k1), .val (.long h1), .second, .val (.long g1), .second, .val (.long cp), .second, .val (.int (5 : Int32)), .val (.ref b101), .val (.int (fFu (0 : Int64) mm)), .unset, .unset, .unset] [(.int (6 : Int32)), (.int (5 : Int32))]))
              refine Go.by (fun _ kont => XS.icmpYes X173.here hx rfl (pc0 := 116) (pc' := 129) rfl (hb hby at_116) rfl (by decide) (by decide) (by decide) kont) ?_
              show Go _ _ _ _ _ _ _ (T173.setTop (mkF m 129 #[.val (.long c1), .second, .val (.int k1), .val (.long h1), .second, .val (.long g1), .second, .val (.long cp), .second, .val (.int (5 : Int32)), .val (.ref b101), .val (.int (fFu (0 : Int64) mm)), .unset, .unset, .unset] []))
              refine Go.by (fun _ kont => XS.lload X173.here hx rfl (hb hby at_129) rfl (XS.lconst X173.here hx rfl (hb hby at_131) (XS.lcmp X173.here hx rfl (hb hby at_132) rfl kont))) ?_
              show Go _ _ _ _ _ _ _ (T173.setTop (mkF m 133 #[.val (.long c1), .second, .val (.int k1), .val (.long h1), .second, .val (.long g1), .second, .val (.long cp), .second, .val (.int (5 : Int32)), .val (.ref b101), .val (.int (fFu (0 : Int64) mm)), .unset, .unset, .unset] [(.int (lcmpW cp (1 : Int64)))]))
              by_cases hc175 : cp < (1 : Int64)
              · refine Go.by (fun _ kont => XS.ifNo X173.here hx rfl (hb hby at_133) rfl ((if0 _ _).trans (tlt ((lw_lt _ _).mpr hc175)).2.1) kont) ?_
                show Go _ _ _ _ _ _ _ (T173.setTop (mkF m 136 #[.val (.long c1), .second, .val (.int k1), .val (.long h1), .second, .val (.long g1), .second, .val (.long cp), .second, .val (.int (5 : Int32)), .val (.ref b101), .val (.int (fFu (0 : Int64) mm)), .unset, .unset, .unset] []))
                refine Go.by (fun _ kont => XS.lconst X173.here hx rfl (hb hby at_136) (XS.goto X173.here hx rfl (pc0 := 137) (pc' := 142) rfl (hb hby at_137) (by decide) (by decide) (XS.lstore X173.here hx rfl (hb hby at_142) rfl (l' := #[.val (.long c1), .second, .val (.int k1), .val (.long h1), .second, .val (.long g1), .second, .val (.long cp), .second, .val (.int (5 : Int32)), .val (.ref b101), .val (.int (fFu (0 : Int64) mm)), .val (.long (1 : Int64)), .second, .unset]) rfl (XS.iload X173.here hx rfl (hb hby at_144) rfl (XS.i2l X173.here hx rfl (hb hby at_146) rfl kont))))) ?_
                show Go _ _ _ _ _ _ _ (T173.setTop (mkF m 147 #[.val (.long c1), .second, .val (.int k1), .val (.long h1), .second, .val (.long g1), .second, .val (.long cp), .second, .val (.int (5 : Int32)), .val (.ref b101), .val (.int (fFu (0 : Int64) mm)), .val (.long (1 : Int64)), .second, .unset] [(.long ((5 : Int32).toInt64))]))
                rw [show ((5 : Int32).toInt64) = (5 : Int64) from by decide]
                show Go _ _ _ _ _ _ _ (T173.setTop (mkF m 147 #[.val (.long c1), .second, .val (.int k1), .val (.long h1), .second, .val (.long g1), .second, .val (.long cp), .second, .val (.int (5 : Int32)), .val (.ref b101), .val (.int (fFu (0 : Int64) mm)), .val (.long (1 : Int64)), .second, .unset] [(.long (5 : Int64))]))
                refine Go.by (fun _ kont => XS.lload X173.here hx rfl (hb hby at_147) rfl (XS.lcmp X173.here hx rfl (hb hby at_149) rfl kont)) ?_
                show Go _ _ _ _ _ _ _ (T173.setTop (mkF m 150 #[.val (.long c1), .second, .val (.int k1), .val (.long h1), .second, .val (.long g1), .second, .val (.long cp), .second, .val (.int (5 : Int32)), .val (.ref b101), .val (.int (fFu (0 : Int64) mm)), .val (.long (1 : Int64)), .second, .unset] [(.int (lcmpW (5 : Int64) (1 : Int64)))]))
                have hd176 : (1 : Int64) < (5 : Int64) := by decide
                refine Go.by (fun _ kont => XS.ifNo X173.here hx rfl (hb hby at_150) rfl ((if0 _ _).trans (tlt ((lw_gt _ _).mpr hd176)).2.2.2) kont) ?_
                show Go _ _ _ _ _ _ _ (T173.setTop (mkF m 153 #[.val (.long c1), .second, .val (.int k1), .val (.long h1), .second, .val (.long g1), .second, .val (.long cp), .second, .val (.int (5 : Int32)), .val (.ref b101), .val (.int (fFu (0 : Int64) mm)), .val (.long (1 : Int64)), .second, .unset] []))
                refine Go.by (fun _ kont => XS.iconst X173.here hx rfl (hb hby at_153) (XS.goto X173.here hx rfl (pc0 := 154) (pc' := 158) rfl (hb hby at_154) (by decide) (by decide) (XS.istore X173.here hx rfl (hb hby at_158) rfl (l' := #[.val (.long c1), .second, .val (.int k1), .val (.long h1), .second, .val (.long g1), .second, .val (.long cp), .second, .val (.int (5 : Int32)), .val (.ref b101), .val (.int (fFu (0 : Int64) mm)), .val (.long (1 : Int64)), .second, .val (.int (1 : Int32))]) rfl (XS.iload X173.here hx rfl (hb hby at_160) rfl kont)))) ?_
                show Go _ _ _ _ _ _ _ (T173.setTop (mkF m 162 #[.val (.long c1), .second, .val (.int k1), .val (.long h1), .second, .val (.long g1), .second, .val (.long cp), .second, .val (.int (5 : Int32)), .val (.ref b101), .val (.int (fFu (0 : Int64) mm)), .val (.long (1 : Int64)), .second, .val (.int (1 : Int32))] [(.int (fFu (0 : Int64) mm))]))
                have hd177 : (fFu (0 : Int64) mm) = (0 : Int32) := own_before mm Bm
                refine Go.by (fun _ kont => XS.ifNo X173.here hx rfl (hb hby at_162) rfl ((if0 _ _).trans (teq hd177).2) kont) ?_
                show Go _ _ _ _ _ _ _ (T173.setTop (mkF m 165 #[.val (.long c1), .second, .val (.int k1), .val (.long h1), .second, .val (.long g1), .second, .val (.long cp), .second, .val (.int (5 : Int32)), .val (.ref b101), .val (.int (fFu (0 : Int64) mm)), .val (.long (1 : Int64)), .second, .val (.int (1 : Int32))] []))
                refine Go.by (fun _ kont => XS.aload X173.here hx rfl (hb hby at_165) rfl rfl kont) ?_
                show Go _ _ _ _ _ _ _ (T173.setTop (mkF m 167 #[.val (.long c1), .second, .val (.int k1), .val (.long h1), .second, .val (.long g1), .second, .val (.long cp), .second, .val (.int (5 : Int32)), .val (.ref b101), .val (.int (fFu (0 : Int64) mm)), .val (.long (1 : Int64)), .second, .val (.int (1 : Int32))] [(.ref b101)]))
                obtain ⟨cq178, kq178, q178a, q178b, q178c⟩ := isOf hZ rfl E173z
                obtain ⟨_, _, ⟨T178, L178, k178, n178⟩, -, X178, ⟨Lc178, hQ178, l178, y178, z178⟩, st178⟩ := X173.virtualBack hx (y := (⟨"com/example/runpulse/runpulse/KnownKeys", "isFull", "()Z"⟩ : MethodName)) (z := (⟨"com/example/runpulse/runpulse/KnownKeys", "isFull", "()Z"⟩ : MethodName)) hown (mvT hZ (hw _ (List.mem_of_getElem? (i := 25) rfl))) (mvT hZ (hw _ (List.mem_of_getElem? (i := 26) rfl))) (notFace_of_selects (args := #[]) (mvT hZ (hw _ (List.mem_of_getElem? (i := 28) rfl)))) (mvT hZ (hw _ (List.mem_of_getElem? (i := 28) rfl))) (mvT hZ (hw _ (List.mem_of_getElem? (i := 27) rfl))) (by decide) (backOf (W := 0) (rmFu l Z a0 hw [] b101 (5 : Int64) mm T173.heap n0 Z174 Fa173 Fc173) hZ (hw _ (List.mem_of_getElem? (i := 29) rfl)) (hw _ (List.mem_of_getElem? (i := 3) rfl)) (by decide) (by decide)) q178a q178c (g := (mkF m 167 #[.val (.long c1), .second, .val (.int k1), .val (.long h1), .second, .val (.long g1), .second, .val (.long cp), .second, .val (.int (5 : Int32)), .val (.ref b101), .val (.int (fFu (0 : Int64) mm)), .val (.long (1 : Int64)), .second, .val (.int (1 : Int32))] [(.ref b101)])) rfl (by rw [hml]; rfl) (Steps.refl _) (argsL := []) (rest := []) (lenOf pd0_1 rfl) rfl (by show 2 * 0 + _ ≤ _; exact Nat.le_of_eq rfl) (hb hby at_167) (fun _ _ => ⟨rfl, rfl, (by decide : 2 + 0 ≤ _), (by decide : 5 + 0 ≤ _)⟩)
                dsimp only [Pt.U, Pt.locs, Pt.cells, Pt.slots] at X178 l178 y178 z178 st178 hQ178
                subst l178 y178 z178
                obtain ⟨rfl, N178q, eh178⟩ := hQ178
                have N178 := Fr.app N173 N178q
                refine Go.tr st178 ?_
                show Go _ _ _ _ _ _ _ (T178.setTop (mkF m 170 #[.val (.long c1), .second, .val (.int k1), .val (.long h1), .second, .val (.long g1), .second, .val (.long cp), .second, .val (.int (5 : Int32)), .val (.ref b101), .val (.int (fFu (0 : Int64) mm)), .val (.long (1 : Int64)), .second, .val (.int (1 : Int32))] [(.int (fFu (5 : Int64) mm))]))
                refine Go.by (fun _ kont => XS.iload X178.here hx rfl (hb hby at_170) rfl kont) ?_
                show Go _ _ _ _ _ _ _ (T178.setTop (mkF m 172 #[.val (.long c1), .second, .val (.int k1), .val (.long h1), .second, .val (.long g1), .second, .val (.long cp), .second, .val (.int (5 : Int32)), .val (.ref b101), .val (.int (fFu (0 : Int64) mm)), .val (.long (1 : Int64)), .second, .val (.int (1 : Int32))] [(.int (1 : Int32)), (.int (fFu (5 : Int64) mm))]))
                have hd179 : (fFu (5 : Int64) mm) = (1 : Int32) := own_fT mm (5 : Int64) (by have q := own_m1 cp mm hm hc175; rw [q]; decide)
                refine Go.by (fun _ kont => XS.icmpNo X178.here hx rfl (hb hby at_172) rfl (teq hd179).2 kont) ?_
                show Go _ _ _ _ _ _ _ (T178.setTop (mkF m 175 #[.val (.long c1), .second, .val (.int k1), .val (.long h1), .second, .val (.long g1), .second, .val (.long cp), .second, .val (.int (5 : Int32)), .val (.ref b101), .val (.int (fFu (0 : Int64) mm)), .val (.long (1 : Int64)), .second, .val (.int (1 : Int32))] []))
                refine Go.by (fun _ kont => XS.iconst X178.here hx rfl (hb hby at_175) (XS.goto X178.here hx rfl (pc0 := 176) (pc' := 180) rfl (hb hby at_176) (by decide) (by decide) kont)) ?_
                show Go _ _ _ _ _ _ _ (T178.setTop (mkF m 180 #[.val (.long c1), .second, .val (.int k1), .val (.long h1), .second, .val (.long g1), .second, .val (.long cp), .second, .val (.int (5 : Int32)), .val (.ref b101), .val (.int (fFu (0 : Int64) mm)), .val (.long (1 : Int64)), .second, .val (.int (1 : Int32))] [(.int (1 : Int32))]))
                refine Go.retN X178 hx (t := .boolean) hret (by simp) hlk (hb hby at_180) ?_ (by decide) (by decide)
                show Q0 Z h0 n0 (some (.int (1 : Int32))) T178.heap _
                rw [eh178]
                exact ⟨rfl, N178⟩
              · refine Go.by (fun _ kont => XS.ifYes X173.here hx rfl (pc0 := 133) (pc' := 140) rfl (hb hby at_133) rfl ((if0 _ _).trans (flt (fun z => hc175 ((lw_lt _ _).mp z))).2.1) (by decide) (by decide) kont) ?_
                show Go _ _ _ _ _ _ _ (T173.setTop (mkF m 140 #[.val (.long c1), .second, .val (.int k1), .val (.long h1), .second, .val (.long g1), .second, .val (.long cp), .second, .val (.int (5 : Int32)), .val (.ref b101), .val (.int (fFu (0 : Int64) mm)), .unset, .unset, .unset] []))
                refine Go.by (fun _ kont => XS.lload X173.here hx rfl (hb hby at_140) rfl (XS.lstore X173.here hx rfl (hb hby at_142) rfl (l' := #[.val (.long c1), .second, .val (.int k1), .val (.long h1), .second, .val (.long g1), .second, .val (.long cp), .second, .val (.int (5 : Int32)), .val (.ref b101), .val (.int (fFu (0 : Int64) mm)), .val (.long cp), .second, .unset]) rfl (XS.iload X173.here hx rfl (hb hby at_144) rfl (XS.i2l X173.here hx rfl (hb hby at_146) rfl kont)))) ?_
                show Go _ _ _ _ _ _ _ (T173.setTop (mkF m 147 #[.val (.long c1), .second, .val (.int k1), .val (.long h1), .second, .val (.long g1), .second, .val (.long cp), .second, .val (.int (5 : Int32)), .val (.ref b101), .val (.int (fFu (0 : Int64) mm)), .val (.long cp), .second, .unset] [(.long ((5 : Int32).toInt64))]))
                rw [show ((5 : Int32).toInt64) = (5 : Int64) from by decide]
                show Go _ _ _ _ _ _ _ (T173.setTop (mkF m 147 #[.val (.long c1), .second, .val (.int k1), .val (.long h1), .second, .val (.long g1), .second, .val (.long cp), .second, .val (.int (5 : Int32)), .val (.ref b101), .val (.int (fFu (0 : Int64) mm)), .val (.long cp), .second, .unset] [(.long (5 : Int64))]))
                refine Go.by (fun _ kont => XS.lload X173.here hx rfl (hb hby at_147) rfl (XS.lcmp X173.here hx rfl (hb hby at_149) rfl kont)) ?_
                show Go _ _ _ _ _ _ _ (T173.setTop (mkF m 150 #[.val (.long c1), .second, .val (.int k1), .val (.long h1), .second, .val (.long g1), .second, .val (.long cp), .second, .val (.int (5 : Int32)), .val (.ref b101), .val (.int (fFu (0 : Int64) mm)), .val (.long cp), .second, .unset] [(.int (lcmpW (5 : Int64) cp))]))
                by_cases hc180 : cp < (5 : Int64)
                · refine Go.by (fun _ kont => XS.ifNo X173.here hx rfl (hb hby at_150) rfl ((if0 _ _).trans (tlt ((lw_gt _ _).mpr hc180)).2.2.2) kont) ?_
                  show Go _ _ _ _ _ _ _ (T173.setTop (mkF m 153 #[.val (.long c1), .second, .val (.int k1), .val (.long h1), .second, .val (.long g1), .second, .val (.long cp), .second, .val (.int (5 : Int32)), .val (.ref b101), .val (.int (fFu (0 : Int64) mm)), .val (.long cp), .second, .unset] []))
                  refine Go.by (fun _ kont => XS.iconst X173.here hx rfl (hb hby at_153) (XS.goto X173.here hx rfl (pc0 := 154) (pc' := 158) rfl (hb hby at_154) (by decide) (by decide) (XS.istore X173.here hx rfl (hb hby at_158) rfl (l' := #[.val (.long c1), .second, .val (.int k1), .val (.long h1), .second, .val (.long g1), .second, .val (.long cp), .second, .val (.int (5 : Int32)), .val (.ref b101), .val (.int (fFu (0 : Int64) mm)), .val (.long cp), .second, .val (.int (1 : Int32))]) rfl (XS.iload X173.here hx rfl (hb hby at_160) rfl kont)))) ?_
                  show Go _ _ _ _ _ _ _ (T173.setTop (mkF m 162 #[.val (.long c1), .second, .val (.int k1), .val (.long h1), .second, .val (.long g1), .second, .val (.long cp), .second, .val (.int (5 : Int32)), .val (.ref b101), .val (.int (fFu (0 : Int64) mm)), .val (.long cp), .second, .val (.int (1 : Int32))] [(.int (fFu (0 : Int64) mm))]))
                  have hd181 : (fFu (0 : Int64) mm) = (0 : Int32) := own_before mm Bm
                  refine Go.by (fun _ kont => XS.ifNo X173.here hx rfl (hb hby at_162) rfl ((if0 _ _).trans (teq hd181).2) kont) ?_
                  show Go _ _ _ _ _ _ _ (T173.setTop (mkF m 165 #[.val (.long c1), .second, .val (.int k1), .val (.long h1), .second, .val (.long g1), .second, .val (.long cp), .second, .val (.int (5 : Int32)), .val (.ref b101), .val (.int (fFu (0 : Int64) mm)), .val (.long cp), .second, .val (.int (1 : Int32))] []))
                  refine Go.by (fun _ kont => XS.aload X173.here hx rfl (hb hby at_165) rfl rfl kont) ?_
                  show Go _ _ _ _ _ _ _ (T173.setTop (mkF m 167 #[.val (.long c1), .second, .val (.int k1), .val (.long h1), .second, .val (.long g1), .second, .val (.long cp), .second, .val (.int (5 : Int32)), .val (.ref b101), .val (.int (fFu (0 : Int64) mm)), .val (.long cp), .second, .val (.int (1 : Int32))] [(.ref b101)]))
                  obtain ⟨cq182, kq182, q182a, q182b, q182c⟩ := isOf hZ rfl E173z
                  obtain ⟨_, _, ⟨T182, L182, k182, n182⟩, -, X182, ⟨Lc182, hQ182, l182, y182, z182⟩, st182⟩ := X173.virtualBack hx (y := (⟨"com/example/runpulse/runpulse/KnownKeys", "isFull", "()Z"⟩ : MethodName)) (z := (⟨"com/example/runpulse/runpulse/KnownKeys", "isFull", "()Z"⟩ : MethodName)) hown (mvT hZ (hw _ (List.mem_of_getElem? (i := 25) rfl))) (mvT hZ (hw _ (List.mem_of_getElem? (i := 26) rfl))) (notFace_of_selects (args := #[]) (mvT hZ (hw _ (List.mem_of_getElem? (i := 28) rfl)))) (mvT hZ (hw _ (List.mem_of_getElem? (i := 28) rfl))) (mvT hZ (hw _ (List.mem_of_getElem? (i := 27) rfl))) (by decide) (backOf (W := 0) (rmFu l Z a0 hw [] b101 (5 : Int64) mm T173.heap n0 Z174 Fa173 Fc173) hZ (hw _ (List.mem_of_getElem? (i := 29) rfl)) (hw _ (List.mem_of_getElem? (i := 3) rfl)) (by decide) (by decide)) q182a q182c (g := (mkF m 167 #[.val (.long c1), .second, .val (.int k1), .val (.long h1), .second, .val (.long g1), .second, .val (.long cp), .second, .val (.int (5 : Int32)), .val (.ref b101), .val (.int (fFu (0 : Int64) mm)), .val (.long cp), .second, .val (.int (1 : Int32))] [(.ref b101)])) rfl (by rw [hml]; rfl) (Steps.refl _) (argsL := []) (rest := []) (lenOf pd0_1 rfl) rfl (by show 2 * 0 + _ ≤ _; exact Nat.le_of_eq rfl) (hb hby at_167) (fun _ _ => ⟨rfl, rfl, (by decide : 2 + 0 ≤ _), (by decide : 5 + 0 ≤ _)⟩)
                  dsimp only [Pt.U, Pt.locs, Pt.cells, Pt.slots] at X182 l182 y182 z182 st182 hQ182
                  subst l182 y182 z182
                  obtain ⟨rfl, N182q, eh182⟩ := hQ182
                  have N182 := Fr.app N173 N182q
                  refine Go.tr st182 ?_
                  show Go _ _ _ _ _ _ _ (T182.setTop (mkF m 170 #[.val (.long c1), .second, .val (.int k1), .val (.long h1), .second, .val (.long g1), .second, .val (.long cp), .second, .val (.int (5 : Int32)), .val (.ref b101), .val (.int (fFu (0 : Int64) mm)), .val (.long cp), .second, .val (.int (1 : Int32))] [(.int (fFu (5 : Int64) mm))]))
                  refine Go.by (fun _ kont => XS.iload X182.here hx rfl (hb hby at_170) rfl kont) ?_
                  show Go _ _ _ _ _ _ _ (T182.setTop (mkF m 172 #[.val (.long c1), .second, .val (.int k1), .val (.long h1), .second, .val (.long g1), .second, .val (.long cp), .second, .val (.int (5 : Int32)), .val (.ref b101), .val (.int (fFu (0 : Int64) mm)), .val (.long cp), .second, .val (.int (1 : Int32))] [(.int (1 : Int32)), (.int (fFu (5 : Int64) mm))]))
                  have hd183 : (fFu (5 : Int64) mm) = (1 : Int32) := own_fT mm (5 : Int64) (by have q := own_m2 cp mm hm hc175; rw [q]; exact hc180)
                  refine Go.by (fun _ kont => XS.icmpNo X182.here hx rfl (hb hby at_172) rfl (teq hd183).2 kont) ?_
                  show Go _ _ _ _ _ _ _ (T182.setTop (mkF m 175 #[.val (.long c1), .second, .val (.int k1), .val (.long h1), .second, .val (.long g1), .second, .val (.long cp), .second, .val (.int (5 : Int32)), .val (.ref b101), .val (.int (fFu (0 : Int64) mm)), .val (.long cp), .second, .val (.int (1 : Int32))] []))
                  refine Go.by (fun _ kont => XS.iconst X182.here hx rfl (hb hby at_175) (XS.goto X182.here hx rfl (pc0 := 176) (pc' := 180) rfl (hb hby at_176) (by decide) (by decide) kont)) ?_
                  show Go _ _ _ _ _ _ _ (T182.setTop (mkF m 180 #[.val (.long c1), .second, .val (.int k1), .val (.long h1), .second, .val (.long g1), .second, .val (.long cp), .second, .val (.int (5 : Int32)), .val (.ref b101), .val (.int (fFu (0 : Int64) mm)), .val (.long cp), .second, .val (.int (1 : Int32))] [(.int (1 : Int32))]))
                  refine Go.retN X182 hx (t := .boolean) hret (by simp) hlk (hb hby at_180) ?_ (by decide) (by decide)
                  show Q0 Z h0 n0 (some (.int (1 : Int32))) T182.heap _
                  rw [eh182]
                  exact ⟨rfl, N182⟩
                · refine Go.by (fun _ kont => XS.ifYes X173.here hx rfl (pc0 := 150) (pc' := 157) rfl (hb hby at_150) rfl ((if0 _ _).trans (flt (fun z => hc180 ((lw_gt _ _).mp z))).2.2.2) (by decide) (by decide) kont) ?_
                  show Go _ _ _ _ _ _ _ (T173.setTop (mkF m 157 #[.val (.long c1), .second, .val (.int k1), .val (.long h1), .second, .val (.long g1), .second, .val (.long cp), .second, .val (.int (5 : Int32)), .val (.ref b101), .val (.int (fFu (0 : Int64) mm)), .val (.long cp), .second, .unset] []))
                  refine Go.by (fun _ kont => XS.iconst X173.here hx rfl (hb hby at_157) (XS.istore X173.here hx rfl (hb hby at_158) rfl (l' := #[.val (.long c1), .second, .val (.int k1), .val (.long h1), .second, .val (.long g1), .second, .val (.long cp), .second, .val (.int (5 : Int32)), .val (.ref b101), .val (.int (fFu (0 : Int64) mm)), .val (.long cp), .second, .val (.int (0 : Int32))]) rfl (XS.iload X173.here hx rfl (hb hby at_160) rfl kont))) ?_
                  show Go _ _ _ _ _ _ _ (T173.setTop (mkF m 162 #[.val (.long c1), .second, .val (.int k1), .val (.long h1), .second, .val (.long g1), .second, .val (.long cp), .second, .val (.int (5 : Int32)), .val (.ref b101), .val (.int (fFu (0 : Int64) mm)), .val (.long cp), .second, .val (.int (0 : Int32))] [(.int (fFu (0 : Int64) mm))]))
                  have hd184 : (fFu (0 : Int64) mm) = (0 : Int32) := own_before mm Bm
                  refine Go.by (fun _ kont => XS.ifNo X173.here hx rfl (hb hby at_162) rfl ((if0 _ _).trans (teq hd184).2) kont) ?_
                  show Go _ _ _ _ _ _ _ (T173.setTop (mkF m 165 #[.val (.long c1), .second, .val (.int k1), .val (.long h1), .second, .val (.long g1), .second, .val (.long cp), .second, .val (.int (5 : Int32)), .val (.ref b101), .val (.int (fFu (0 : Int64) mm)), .val (.long cp), .second, .val (.int (0 : Int32))] []))
                  refine Go.by (fun _ kont => XS.aload X173.here hx rfl (hb hby at_165) rfl rfl kont) ?_
                  show Go _ _ _ _ _ _ _ (T173.setTop (mkF m 167 #[.val (.long c1), .second, .val (.int k1), .val (.long h1), .second, .val (.long g1), .second, .val (.long cp), .second, .val (.int (5 : Int32)), .val (.ref b101), .val (.int (fFu (0 : Int64) mm)), .val (.long cp), .second, .val (.int (0 : Int32))] [(.ref b101)]))
                  obtain ⟨cq185, kq185, q185a, q185b, q185c⟩ := isOf hZ rfl E173z
                  obtain ⟨_, _, ⟨T185, L185, k185, n185⟩, -, X185, ⟨Lc185, hQ185, l185, y185, z185⟩, st185⟩ := X173.virtualBack hx (y := (⟨"com/example/runpulse/runpulse/KnownKeys", "isFull", "()Z"⟩ : MethodName)) (z := (⟨"com/example/runpulse/runpulse/KnownKeys", "isFull", "()Z"⟩ : MethodName)) hown (mvT hZ (hw _ (List.mem_of_getElem? (i := 25) rfl))) (mvT hZ (hw _ (List.mem_of_getElem? (i := 26) rfl))) (notFace_of_selects (args := #[]) (mvT hZ (hw _ (List.mem_of_getElem? (i := 28) rfl)))) (mvT hZ (hw _ (List.mem_of_getElem? (i := 28) rfl))) (mvT hZ (hw _ (List.mem_of_getElem? (i := 27) rfl))) (by decide) (backOf (W := 0) (rmFu l Z a0 hw [] b101 (5 : Int64) mm T173.heap n0 Z174 Fa173 Fc173) hZ (hw _ (List.mem_of_getElem? (i := 29) rfl)) (hw _ (List.mem_of_getElem? (i := 3) rfl)) (by decide) (by decide)) q185a q185c (g := (mkF m 167 #[.val (.long c1), .second, .val (.int k1), .val (.long h1), .second, .val (.long g1), .second, .val (.long cp), .second, .val (.int (5 : Int32)), .val (.ref b101), .val (.int (fFu (0 : Int64) mm)), .val (.long cp), .second, .val (.int (0 : Int32))] [(.ref b101)])) rfl (by rw [hml]; rfl) (Steps.refl _) (argsL := []) (rest := []) (lenOf pd0_1 rfl) rfl (by show 2 * 0 + _ ≤ _; exact Nat.le_of_eq rfl) (hb hby at_167) (fun _ _ => ⟨rfl, rfl, (by decide : 2 + 0 ≤ _), (by decide : 5 + 0 ≤ _)⟩)
                  dsimp only [Pt.U, Pt.locs, Pt.cells, Pt.slots] at X185 l185 y185 z185 st185 hQ185
                  subst l185 y185 z185
                  obtain ⟨rfl, N185q, eh185⟩ := hQ185
                  have N185 := Fr.app N173 N185q
                  refine Go.tr st185 ?_
                  show Go _ _ _ _ _ _ _ (T185.setTop (mkF m 170 #[.val (.long c1), .second, .val (.int k1), .val (.long h1), .second, .val (.long g1), .second, .val (.long cp), .second, .val (.int (5 : Int32)), .val (.ref b101), .val (.int (fFu (0 : Int64) mm)), .val (.long cp), .second, .val (.int (0 : Int32))] [(.int (fFu (5 : Int64) mm))]))
                  refine Go.by (fun _ kont => XS.iload X185.here hx rfl (hb hby at_170) rfl kont) ?_
                  show Go _ _ _ _ _ _ _ (T185.setTop (mkF m 172 #[.val (.long c1), .second, .val (.int k1), .val (.long h1), .second, .val (.long g1), .second, .val (.long cp), .second, .val (.int (5 : Int32)), .val (.ref b101), .val (.int (fFu (0 : Int64) mm)), .val (.long cp), .second, .val (.int (0 : Int32))] [(.int (0 : Int32)), (.int (fFu (5 : Int64) mm))]))
                  have hd186 : (fFu (5 : Int64) mm) = (0 : Int32) := own_fF mm (5 : Int64) (by have q := own_m2 cp mm hm hc175; rw [q]; exact hc180)
                  refine Go.by (fun _ kont => XS.icmpNo X185.here hx rfl (hb hby at_172) rfl (teq hd186).2 kont) ?_
                  show Go _ _ _ _ _ _ _ (T185.setTop (mkF m 175 #[.val (.long c1), .second, .val (.int k1), .val (.long h1), .second, .val (.long g1), .second, .val (.long cp), .second, .val (.int (5 : Int32)), .val (.ref b101), .val (.int (fFu (0 : Int64) mm)), .val (.long cp), .second, .val (.int (0 : Int32))] []))
                  refine Go.by (fun _ kont => XS.iconst X185.here hx rfl (hb hby at_175) (XS.goto X185.here hx rfl (pc0 := 176) (pc' := 180) rfl (hb hby at_176) (by decide) (by decide) kont)) ?_
                  show Go _ _ _ _ _ _ _ (T185.setTop (mkF m 180 #[.val (.long c1), .second, .val (.int k1), .val (.long h1), .second, .val (.long g1), .second, .val (.long cp), .second, .val (.int (5 : Int32)), .val (.ref b101), .val (.int (fFu (0 : Int64) mm)), .val (.long cp), .second, .val (.int (0 : Int32))] [(.int (1 : Int32))]))
                  refine Go.retN X185 hx (t := .boolean) hret (by simp) hlk (hb hby at_180) ?_ (by decide) (by decide)
                  show Q0 Z h0 n0 (some (.int (1 : Int32))) T185.heap _
                  rw [eh185]
                  exact ⟨rfl, N185⟩
            · have hz5 : nn.toInt ≠ 5 := fun q => hn5 (Int32.toInt_inj.mp (q.trans (by decide)))
              show Go _ _ _ _ _ _ _ (T173.setTop (mkF m 97 #[.val (.long c1), .second, .val (.int k1), .val (.long h1), .second, .val (.long g1), .second, .val (.long cp), .second, .val (.int nn), .val (.ref b101), .val (.int (fFu (0 : Int64) mm)), .unset, .unset, .unset] []))
              refine Go.by (fun _ kont => XS.iload X173.here hx rfl (hb hby at_97) rfl (XS.iconst X173.here hx rfl (hb hby at_99) kont)) ?_
              show Go _ _ _ _ _ _ _ (T173.setTop (mkF m 100 #[.val (.long c1), .second, .val (.int k1), .val (.long h1), .second, .val (.long g1), .second, .val (.long cp), .second, .val (.int nn), .val (.ref b101), .val (.int (fFu (0 : Int64) mm)), .unset, .unset, .unset] [(.int (5 : Int32)), (.int nn)]))
              have hd187 : (5 : Int32) < nn := by rw [Int32.lt_iff_toInt_lt, show (5 : Int32).toInt = 5 from by decide]; omega
              refine Go.by (fun _ kont => XS.icmpNo X173.here hx rfl (hb hby at_100) rfl (tlt hd187).2.2.2 kont) ?_
              show Go _ _ _ _ _ _ _ (T173.setTop (mkF m 103 #[.val (.long c1), .second, .val (.int k1), .val (.long h1), .second, .val (.long g1), .second, .val (.long cp), .second, .val (.int nn), .val (.ref b101), .val (.int (fFu (0 : Int64) mm)), .unset, .unset, .unset] []))
              refine Go.by (fun _ kont => XS.aload X173.here hx rfl (hb hby at_103) rfl rfl (XS.lload X173.here hx rfl (hb hby at_105) rfl (XS.lloadN X173.here hx rfl (hb hby at_107) rfl (XS.lsub X173.here hx rfl (hb hby at_108) rfl kont)))) ?_
              show Go _ _ _ _ _ _ _ (T173.setTop (mkF m 109 #[.val (.long c1), .second, .val (.int k1), .val (.long h1), .second, .val (.long g1), .second, .val (.long cp), .second, .val (.int nn), .val (.ref b101), .val (.int (fFu (0 : Int64) mm)), .unset, .unset, .unset] [(.long (g1 - h1)), (.ref b101)]))
              obtain ⟨cq188, kq188, q188a, q188b, q188c⟩ := isOf hZ rfl E173z
              obtain ⟨_, _, ⟨T188, L188, k188, n188⟩, -, X188, ⟨Lc188, hQ188, l188, y188, z188⟩, st188⟩ := X173.virtualBack hx (y := (⟨"com/example/runpulse/runpulse/KnownKeys", "add", "(J)V"⟩ : MethodName)) (z := (⟨"com/example/runpulse/runpulse/KnownKeys", "add", "(J)V"⟩ : MethodName)) hown (mvT hZ (hw _ (List.mem_of_getElem? (i := 32) rfl))) (mvT hZ (hw _ (List.mem_of_getElem? (i := 33) rfl))) (notFace_of_selects (args := #[]) (mvT hZ (hw _ (List.mem_of_getElem? (i := 35) rfl)))) (mvT hZ (hw _ (List.mem_of_getElem? (i := 35) rfl))) (mvT hZ (hw _ (List.mem_of_getElem? (i := 34) rfl))) (by decide) (backOf (W := 0) (rmA l Z a0 hw [] b101 (g1 - h1) mm bb (5 : Int64) kcb ln T173.heap n0 Z174 E173z Fc173 Fb173 Fa173 V173z ne_b101_bb ge_b101 ge_bb Bl) hZ (hw _ (List.mem_of_getElem? (i := 36) rfl)) (hw _ (List.mem_of_getElem? (i := 3) rfl)) (by decide) (by decide)) q188a q188c (g := (mkF m 109 #[.val (.long c1), .second, .val (.int k1), .val (.long h1), .second, .val (.long g1), .second, .val (.long cp), .second, .val (.int nn), .val (.ref b101), .val (.int (fFu (0 : Int64) mm)), .unset, .unset, .unset] [(.long (g1 - h1)), (.ref b101)])) rfl (by rw [hml]; rfl) (Steps.refl _) (argsL := [(.long (g1 - h1))]) (rest := []) (lenOf pd0_0 rfl) rfl (by show 2 * 0 + _ ≤ _; exact Nat.le_of_eq rfl) (hb hby at_109) (fun _ _ => ⟨rfl, rfl, (by decide : 2 + 0 ≤ _), (by decide : 5 + 0 ≤ _)⟩)
              dsimp only [Pt.U, Pt.locs, Pt.cells, Pt.slots] at X188 l188 y188 z188 st188 hQ188
              subst l188 y188 z188
              obtain ⟨rfl, N188q, K188, E188z, Fc188, Fb188, Fa188, V188z⟩ := hQ188
              have E189_b101 := E173z.keep K188
              have Z189 := Nat.le_trans Z174 K188.1
              have K189 : Keep h0 T188.heap [] := Keep.trans K174 K188 (allS (Or.inr sz_b101) (allS (Or.inr sz_bb) all0))
              rw [show (5 : Int64) + 1 = (6 : Int64) from by decide] at Fa188
              have N188 := Fr.app N173 N188q
              refine Go.tr st188 ?_
              show Go _ _ _ _ _ _ _ (T188.setTop (mkF m 112 #[.val (.long c1), .second, .val (.int k1), .val (.long h1), .second, .val (.long g1), .second, .val (.long cp), .second, .val (.int nn), .val (.ref b101), .val (.int (fFu (0 : Int64) mm)), .unset, .unset, .unset] []))
              by_cases hn6 : nn = (6 : Int32)
              · subst hn6
                show Go _ _ _ _ _ _ _ (T188.setTop (mkF m 112 #[.val (.long c1), .second, .val (.int k1), .val (.long h1), .second, .val (.long g1), .second, .val (.long cp), .second, .val (.int (6 : Int32)), .val (.ref b101), .val (.int (fFu (0 : Int64) mm)), .unset, .unset, .unset] []))
                refine Go.by (fun _ kont => XS.iload X188.here hx rfl (hb hby at_112) rfl (XS.bipush X188.here hx rfl (hb hby at_114) kont)) ?_
                show Go _ _ _ _ _ _ _ (T188.setTop (mkF m 116 #[.val (.long c1), .second, .val (.int k1), .val (.long h1), .second, .val (.long g1), .second, .val (.long cp), .second, .val (.int (6 : Int32)), .val (.ref b101), .val (.int (fFu (0 : Int64) mm)), .unset, .unset, .unset] [(.int (6 : Int32)), (.int (6 : Int32))]))
                refine Go.by (fun _ kont => XS.icmpYes X188.here hx rfl (pc0 := 116) (pc' := 129) rfl (hb hby at_116) rfl (by decide) (by decide) (by decide) kont) ?_
                show Go _ _ _ _ _ _ _ (T188.setTop (mkF m 129 #[.val (.long c1), .second, .val (.int k1), .val (.long h1), .second, .val (.long g1), .second, .val (.long cp), .second, .val (.int (6 : Int32)), .val (.ref b101), .val (.int (fFu (0 : Int64) mm)), .unset, .unset, .unset] []))
                refine Go.by (fun _ kont => XS.lload X188.here hx rfl (hb hby at_129) rfl (XS.lconst X188.here hx rfl (hb hby at_131) (XS.lcmp X188.here hx rfl (hb hby at_132) rfl kont))) ?_
                show Go _ _ _ _ _ _ _ (T188.setTop (mkF m 133 #[.val (.long c1), .second, .val (.int k1), .val (.long h1), .second, .val (.long g1), .second, .val (.long cp), .second, .val (.int (6 : Int32)), .val (.ref b101), .val (.int (fFu (0 : Int64) mm)), .unset, .unset, .unset] [(.int (lcmpW cp (1 : Int64)))]))
                by_cases hc190 : cp < (1 : Int64)
                · refine Go.by (fun _ kont => XS.ifNo X188.here hx rfl (hb hby at_133) rfl ((if0 _ _).trans (tlt ((lw_lt _ _).mpr hc190)).2.1) kont) ?_
                  show Go _ _ _ _ _ _ _ (T188.setTop (mkF m 136 #[.val (.long c1), .second, .val (.int k1), .val (.long h1), .second, .val (.long g1), .second, .val (.long cp), .second, .val (.int (6 : Int32)), .val (.ref b101), .val (.int (fFu (0 : Int64) mm)), .unset, .unset, .unset] []))
                  refine Go.by (fun _ kont => XS.lconst X188.here hx rfl (hb hby at_136) (XS.goto X188.here hx rfl (pc0 := 137) (pc' := 142) rfl (hb hby at_137) (by decide) (by decide) (XS.lstore X188.here hx rfl (hb hby at_142) rfl (l' := #[.val (.long c1), .second, .val (.int k1), .val (.long h1), .second, .val (.long g1), .second, .val (.long cp), .second, .val (.int (6 : Int32)), .val (.ref b101), .val (.int (fFu (0 : Int64) mm)), .val (.long (1 : Int64)), .second, .unset]) rfl (XS.iload X188.here hx rfl (hb hby at_144) rfl (XS.i2l X188.here hx rfl (hb hby at_146) rfl kont))))) ?_
                  show Go _ _ _ _ _ _ _ (T188.setTop (mkF m 147 #[.val (.long c1), .second, .val (.int k1), .val (.long h1), .second, .val (.long g1), .second, .val (.long cp), .second, .val (.int (6 : Int32)), .val (.ref b101), .val (.int (fFu (0 : Int64) mm)), .val (.long (1 : Int64)), .second, .unset] [(.long ((6 : Int32).toInt64))]))
                  rw [show ((6 : Int32).toInt64) = (6 : Int64) from by decide]
                  show Go _ _ _ _ _ _ _ (T188.setTop (mkF m 147 #[.val (.long c1), .second, .val (.int k1), .val (.long h1), .second, .val (.long g1), .second, .val (.long cp), .second, .val (.int (6 : Int32)), .val (.ref b101), .val (.int (fFu (0 : Int64) mm)), .val (.long (1 : Int64)), .second, .unset] [(.long (6 : Int64))]))
                  refine Go.by (fun _ kont => XS.lload X188.here hx rfl (hb hby at_147) rfl (XS.lcmp X188.here hx rfl (hb hby at_149) rfl kont)) ?_
                  show Go _ _ _ _ _ _ _ (T188.setTop (mkF m 150 #[.val (.long c1), .second, .val (.int k1), .val (.long h1), .second, .val (.long g1), .second, .val (.long cp), .second, .val (.int (6 : Int32)), .val (.ref b101), .val (.int (fFu (0 : Int64) mm)), .val (.long (1 : Int64)), .second, .unset] [(.int (lcmpW (6 : Int64) (1 : Int64)))]))
                  have hd191 : (1 : Int64) < (6 : Int64) := by decide
                  refine Go.by (fun _ kont => XS.ifNo X188.here hx rfl (hb hby at_150) rfl ((if0 _ _).trans (tlt ((lw_gt _ _).mpr hd191)).2.2.2) kont) ?_
                  show Go _ _ _ _ _ _ _ (T188.setTop (mkF m 153 #[.val (.long c1), .second, .val (.int k1), .val (.long h1), .second, .val (.long g1), .second, .val (.long cp), .second, .val (.int (6 : Int32)), .val (.ref b101), .val (.int (fFu (0 : Int64) mm)), .val (.long (1 : Int64)), .second, .unset] []))
                  refine Go.by (fun _ kont => XS.iconst X188.here hx rfl (hb hby at_153) (XS.goto X188.here hx rfl (pc0 := 154) (pc' := 158) rfl (hb hby at_154) (by decide) (by decide) (XS.istore X188.here hx rfl (hb hby at_158) rfl (l' := #[.val (.long c1), .second, .val (.int k1), .val (.long h1), .second, .val (.long g1), .second, .val (.long cp), .second, .val (.int (6 : Int32)), .val (.ref b101), .val (.int (fFu (0 : Int64) mm)), .val (.long (1 : Int64)), .second, .val (.int (1 : Int32))]) rfl (XS.iload X188.here hx rfl (hb hby at_160) rfl kont)))) ?_
                  show Go _ _ _ _ _ _ _ (T188.setTop (mkF m 162 #[.val (.long c1), .second, .val (.int k1), .val (.long h1), .second, .val (.long g1), .second, .val (.long cp), .second, .val (.int (6 : Int32)), .val (.ref b101), .val (.int (fFu (0 : Int64) mm)), .val (.long (1 : Int64)), .second, .val (.int (1 : Int32))] [(.int (fFu (0 : Int64) mm))]))
                  have hd192 : (fFu (0 : Int64) mm) = (0 : Int32) := own_before mm Bm
                  refine Go.by (fun _ kont => XS.ifNo X188.here hx rfl (hb hby at_162) rfl ((if0 _ _).trans (teq hd192).2) kont) ?_
                  show Go _ _ _ _ _ _ _ (T188.setTop (mkF m 165 #[.val (.long c1), .second, .val (.int k1), .val (.long h1), .second, .val (.long g1), .second, .val (.long cp), .second, .val (.int (6 : Int32)), .val (.ref b101), .val (.int (fFu (0 : Int64) mm)), .val (.long (1 : Int64)), .second, .val (.int (1 : Int32))] []))
                  refine Go.by (fun _ kont => XS.aload X188.here hx rfl (hb hby at_165) rfl rfl kont) ?_
                  show Go _ _ _ _ _ _ _ (T188.setTop (mkF m 167 #[.val (.long c1), .second, .val (.int k1), .val (.long h1), .second, .val (.long g1), .second, .val (.long cp), .second, .val (.int (6 : Int32)), .val (.ref b101), .val (.int (fFu (0 : Int64) mm)), .val (.long (1 : Int64)), .second, .val (.int (1 : Int32))] [(.ref b101)]))
                  obtain ⟨cq193, kq193, q193a, q193b, q193c⟩ := isOf hZ rfl E188z
                  obtain ⟨_, _, ⟨T193, L193, k193, n193⟩, -, X193, ⟨Lc193, hQ193, l193, y193, z193⟩, st193⟩ := X188.virtualBack hx (y := (⟨"com/example/runpulse/runpulse/KnownKeys", "isFull", "()Z"⟩ : MethodName)) (z := (⟨"com/example/runpulse/runpulse/KnownKeys", "isFull", "()Z"⟩ : MethodName)) hown (mvT hZ (hw _ (List.mem_of_getElem? (i := 25) rfl))) (mvT hZ (hw _ (List.mem_of_getElem? (i := 26) rfl))) (notFace_of_selects (args := #[]) (mvT hZ (hw _ (List.mem_of_getElem? (i := 28) rfl)))) (mvT hZ (hw _ (List.mem_of_getElem? (i := 28) rfl))) (mvT hZ (hw _ (List.mem_of_getElem? (i := 27) rfl))) (by decide) (backOf (W := 0) (rmFu l Z a0 hw [] b101 (6 : Int64) mm T188.heap n0 Z189 Fa188 Fc188) hZ (hw _ (List.mem_of_getElem? (i := 29) rfl)) (hw _ (List.mem_of_getElem? (i := 3) rfl)) (by decide) (by decide)) q193a q193c (g := (mkF m 167 #[.val (.long c1), .second, .val (.int k1), .val (.long h1), .second, .val (.long g1), .second, .val (.long cp), .second, .val (.int (6 : Int32)), .val (.ref b101), .val (.int (fFu (0 : Int64) mm)), .val (.long (1 : Int64)), .second, .val (.int (1 : Int32))] [(.ref b101)])) rfl (by rw [hml]; rfl) (Steps.refl _) (argsL := []) (rest := []) (lenOf pd0_1 rfl) rfl (by show 2 * 0 + _ ≤ _; exact Nat.le_of_eq rfl) (hb hby at_167) (fun _ _ => ⟨rfl, rfl, (by decide : 2 + 0 ≤ _), (by decide : 5 + 0 ≤ _)⟩)
                  dsimp only [Pt.U, Pt.locs, Pt.cells, Pt.slots] at X193 l193 y193 z193 st193 hQ193
                  subst l193 y193 z193
                  obtain ⟨rfl, N193q, eh193⟩ := hQ193
                  have N193 := Fr.app N188 N193q
                  refine Go.tr st193 ?_
                  show Go _ _ _ _ _ _ _ (T193.setTop (mkF m 170 #[.val (.long c1), .second, .val (.int k1), .val (.long h1), .second, .val (.long g1), .second, .val (.long cp), .second, .val (.int (6 : Int32)), .val (.ref b101), .val (.int (fFu (0 : Int64) mm)), .val (.long (1 : Int64)), .second, .val (.int (1 : Int32))] [(.int (fFu (6 : Int64) mm))]))
                  refine Go.by (fun _ kont => XS.iload X193.here hx rfl (hb hby at_170) rfl kont) ?_
                  show Go _ _ _ _ _ _ _ (T193.setTop (mkF m 172 #[.val (.long c1), .second, .val (.int k1), .val (.long h1), .second, .val (.long g1), .second, .val (.long cp), .second, .val (.int (6 : Int32)), .val (.ref b101), .val (.int (fFu (0 : Int64) mm)), .val (.long (1 : Int64)), .second, .val (.int (1 : Int32))] [(.int (1 : Int32)), (.int (fFu (6 : Int64) mm))]))
                  have hd194 : (fFu (6 : Int64) mm) = (1 : Int32) := own_fT mm (6 : Int64) (by have q := own_m1 cp mm hm hc190; rw [q]; decide)
                  refine Go.by (fun _ kont => XS.icmpNo X193.here hx rfl (hb hby at_172) rfl (teq hd194).2 kont) ?_
                  show Go _ _ _ _ _ _ _ (T193.setTop (mkF m 175 #[.val (.long c1), .second, .val (.int k1), .val (.long h1), .second, .val (.long g1), .second, .val (.long cp), .second, .val (.int (6 : Int32)), .val (.ref b101), .val (.int (fFu (0 : Int64) mm)), .val (.long (1 : Int64)), .second, .val (.int (1 : Int32))] []))
                  refine Go.by (fun _ kont => XS.iconst X193.here hx rfl (hb hby at_175) (XS.goto X193.here hx rfl (pc0 := 176) (pc' := 180) rfl (hb hby at_176) (by decide) (by decide) kont)) ?_
                  show Go _ _ _ _ _ _ _ (T193.setTop (mkF m 180 #[.val (.long c1), .second, .val (.int k1), .val (.long h1), .second, .val (.long g1), .second, .val (.long cp), .second, .val (.int (6 : Int32)), .val (.ref b101), .val (.int (fFu (0 : Int64) mm)), .val (.long (1 : Int64)), .second, .val (.int (1 : Int32))] [(.int (1 : Int32))]))
                  refine Go.retN X193 hx (t := .boolean) hret (by simp) hlk (hb hby at_180) ?_ (by decide) (by decide)
                  show Q0 Z h0 n0 (some (.int (1 : Int32))) T193.heap _
                  rw [eh193]
                  exact ⟨rfl, N193⟩
                · refine Go.by (fun _ kont => XS.ifYes X188.here hx rfl (pc0 := 133) (pc' := 140) rfl (hb hby at_133) rfl ((if0 _ _).trans (flt (fun z => hc190 ((lw_lt _ _).mp z))).2.1) (by decide) (by decide) kont) ?_
                  show Go _ _ _ _ _ _ _ (T188.setTop (mkF m 140 #[.val (.long c1), .second, .val (.int k1), .val (.long h1), .second, .val (.long g1), .second, .val (.long cp), .second, .val (.int (6 : Int32)), .val (.ref b101), .val (.int (fFu (0 : Int64) mm)), .unset, .unset, .unset] []))
                  refine Go.by (fun _ kont => XS.lload X188.here hx rfl (hb hby at_140) rfl (XS.lstore X188.here hx rfl (hb hby at_142) rfl (l' := #[.val (.long c1), .second, .val (.int k1), .val (.long h1), .second, .val (.long g1), .second, .val (.long cp), .second, .val (.int (6 : Int32)), .val (.ref b101), .val (.int (fFu (0 : Int64) mm)), .val (.long cp), .second, .unset]) rfl (XS.iload X188.here hx rfl (hb hby at_144) rfl (XS.i2l X188.here hx rfl (hb hby at_146) rfl kont)))) ?_
                  show Go _ _ _ _ _ _ _ (T188.setTop (mkF m 147 #[.val (.long c1), .second, .val (.int k1), .val (.long h1), .second, .val (.long g1), .second, .val (.long cp), .second, .val (.int (6 : Int32)), .val (.ref b101), .val (.int (fFu (0 : Int64) mm)), .val (.long cp), .second, .unset] [(.long ((6 : Int32).toInt64))]))
                  rw [show ((6 : Int32).toInt64) = (6 : Int64) from by decide]
                  show Go _ _ _ _ _ _ _ (T188.setTop (mkF m 147 #[.val (.long c1), .second, .val (.int k1), .val (.long h1), .second, .val (.long g1), .second, .val (.long cp), .second, .val (.int (6 : Int32)), .val (.ref b101), .val (.int (fFu (0 : Int64) mm)), .val (.long cp), .second, .unset] [(.long (6 : Int64))]))
                  refine Go.by (fun _ kont => XS.lload X188.here hx rfl (hb hby at_147) rfl (XS.lcmp X188.here hx rfl (hb hby at_149) rfl kont)) ?_
                  show Go _ _ _ _ _ _ _ (T188.setTop (mkF m 150 #[.val (.long c1), .second, .val (.int k1), .val (.long h1), .second, .val (.long g1), .second, .val (.long cp), .second, .val (.int (6 : Int32)), .val (.ref b101), .val (.int (fFu (0 : Int64) mm)), .val (.long cp), .second, .unset] [(.int (lcmpW (6 : Int64) cp))]))
                  by_cases hc195 : cp < (6 : Int64)
                  · refine Go.by (fun _ kont => XS.ifNo X188.here hx rfl (hb hby at_150) rfl ((if0 _ _).trans (tlt ((lw_gt _ _).mpr hc195)).2.2.2) kont) ?_
                    show Go _ _ _ _ _ _ _ (T188.setTop (mkF m 153 #[.val (.long c1), .second, .val (.int k1), .val (.long h1), .second, .val (.long g1), .second, .val (.long cp), .second, .val (.int (6 : Int32)), .val (.ref b101), .val (.int (fFu (0 : Int64) mm)), .val (.long cp), .second, .unset] []))
                    refine Go.by (fun _ kont => XS.iconst X188.here hx rfl (hb hby at_153) (XS.goto X188.here hx rfl (pc0 := 154) (pc' := 158) rfl (hb hby at_154) (by decide) (by decide) (XS.istore X188.here hx rfl (hb hby at_158) rfl (l' := #[.val (.long c1), .second, .val (.int k1), .val (.long h1), .second, .val (.long g1), .second, .val (.long cp), .second, .val (.int (6 : Int32)), .val (.ref b101), .val (.int (fFu (0 : Int64) mm)), .val (.long cp), .second, .val (.int (1 : Int32))]) rfl (XS.iload X188.here hx rfl (hb hby at_160) rfl kont)))) ?_
                    show Go _ _ _ _ _ _ _ (T188.setTop (mkF m 162 #[.val (.long c1), .second, .val (.int k1), .val (.long h1), .second, .val (.long g1), .second, .val (.long cp), .second, .val (.int (6 : Int32)), .val (.ref b101), .val (.int (fFu (0 : Int64) mm)), .val (.long cp), .second, .val (.int (1 : Int32))] [(.int (fFu (0 : Int64) mm))]))
                    have hd196 : (fFu (0 : Int64) mm) = (0 : Int32) := own_before mm Bm
                    refine Go.by (fun _ kont => XS.ifNo X188.here hx rfl (hb hby at_162) rfl ((if0 _ _).trans (teq hd196).2) kont) ?_
                    show Go _ _ _ _ _ _ _ (T188.setTop (mkF m 165 #[.val (.long c1), .second, .val (.int k1), .val (.long h1), .second, .val (.long g1), .second, .val (.long cp), .second, .val (.int (6 : Int32)), .val (.ref b101), .val (.int (fFu (0 : Int64) mm)), .val (.long cp), .second, .val (.int (1 : Int32))] []))
                    refine Go.by (fun _ kont => XS.aload X188.here hx rfl (hb hby at_165) rfl rfl kont) ?_
                    show Go _ _ _ _ _ _ _ (T188.setTop (mkF m 167 #[.val (.long c1), .second, .val (.int k1), .val (.long h1), .second, .val (.long g1), .second, .val (.long cp), .second, .val (.int (6 : Int32)), .val (.ref b101), .val (.int (fFu (0 : Int64) mm)), .val (.long cp), .second, .val (.int (1 : Int32))] [(.ref b101)]))
                    obtain ⟨cq197, kq197, q197a, q197b, q197c⟩ := isOf hZ rfl E188z
                    obtain ⟨_, _, ⟨T197, L197, k197, n197⟩, -, X197, ⟨Lc197, hQ197, l197, y197, z197⟩, st197⟩ := X188.virtualBack hx (y := (⟨"com/example/runpulse/runpulse/KnownKeys", "isFull", "()Z"⟩ : MethodName)) (z := (⟨"com/example/runpulse/runpulse/KnownKeys", "isFull", "()Z"⟩ : MethodName)) hown (mvT hZ (hw _ (List.mem_of_getElem? (i := 25) rfl))) (mvT hZ (hw _ (List.mem_of_getElem? (i := 26) rfl))) (notFace_of_selects (args := #[]) (mvT hZ (hw _ (List.mem_of_getElem? (i := 28) rfl)))) (mvT hZ (hw _ (List.mem_of_getElem? (i := 28) rfl))) (mvT hZ (hw _ (List.mem_of_getElem? (i := 27) rfl))) (by decide) (backOf (W := 0) (rmFu l Z a0 hw [] b101 (6 : Int64) mm T188.heap n0 Z189 Fa188 Fc188) hZ (hw _ (List.mem_of_getElem? (i := 29) rfl)) (hw _ (List.mem_of_getElem? (i := 3) rfl)) (by decide) (by decide)) q197a q197c (g := (mkF m 167 #[.val (.long c1), .second, .val (.int k1), .val (.long h1), .second, .val (.long g1), .second, .val (.long cp), .second, .val (.int (6 : Int32)), .val (.ref b101), .val (.int (fFu (0 : Int64) mm)), .val (.long cp), .second, .val (.int (1 : Int32))] [(.ref b101)])) rfl (by rw [hml]; rfl) (Steps.refl _) (argsL := []) (rest := []) (lenOf pd0_1 rfl) rfl (by show 2 * 0 + _ ≤ _; exact Nat.le_of_eq rfl) (hb hby at_167) (fun _ _ => ⟨rfl, rfl, (by decide : 2 + 0 ≤ _), (by decide : 5 + 0 ≤ _)⟩)
                    dsimp only [Pt.U, Pt.locs, Pt.cells, Pt.slots] at X197 l197 y197 z197 st197 hQ197
                    subst l197 y197 z197
                    obtain ⟨rfl, N197q, eh197⟩ := hQ197
                    have N197 := Fr.app N188 N197q
                    refine Go.tr st197 ?_
                    show Go _ _ _ _ _ _ _ (T197.setTop (mkF m 170 #[.val (.long c1), .second, .val (.int k1), .val (.long h1), .second, .val (.long g1), .second, .val (.long cp), .second, .val (.int (6 : Int32)), .val (.ref b101), .val (.int (fFu (0 : Int64) mm)), .val (.long cp), .second, .val (.int (1 : Int32))] [(.int (fFu (6 : Int64) mm))]))
                    refine Go.by (fun _ kont => XS.iload X197.here hx rfl (hb hby at_170) rfl kont) ?_
                    show Go _ _ _ _ _ _ _ (T197.setTop (mkF m 172 #[.val (.long c1), .second, .val (.int k1), .val (.long h1), .second, .val (.long g1), .second, .val (.long cp), .second, .val (.int (6 : Int32)), .val (.ref b101), .val (.int (fFu (0 : Int64) mm)), .val (.long cp), .second, .val (.int (1 : Int32))] [(.int (1 : Int32)), (.int (fFu (6 : Int64) mm))]))
                    have hd198 : (fFu (6 : Int64) mm) = (1 : Int32) := own_fT mm (6 : Int64) (by have q := own_m2 cp mm hm hc190; rw [q]; exact hc195)
                    refine Go.by (fun _ kont => XS.icmpNo X197.here hx rfl (hb hby at_172) rfl (teq hd198).2 kont) ?_
                    show Go _ _ _ _ _ _ _ (T197.setTop (mkF m 175 #[.val (.long c1), .second, .val (.int k1), .val (.long h1), .second, .val (.long g1), .second, .val (.long cp), .second, .val (.int (6 : Int32)), .val (.ref b101), .val (.int (fFu (0 : Int64) mm)), .val (.long cp), .second, .val (.int (1 : Int32))] []))
                    refine Go.by (fun _ kont => XS.iconst X197.here hx rfl (hb hby at_175) (XS.goto X197.here hx rfl (pc0 := 176) (pc' := 180) rfl (hb hby at_176) (by decide) (by decide) kont)) ?_
                    show Go _ _ _ _ _ _ _ (T197.setTop (mkF m 180 #[.val (.long c1), .second, .val (.int k1), .val (.long h1), .second, .val (.long g1), .second, .val (.long cp), .second, .val (.int (6 : Int32)), .val (.ref b101), .val (.int (fFu (0 : Int64) mm)), .val (.long cp), .second, .val (.int (1 : Int32))] [(.int (1 : Int32))]))
                    refine Go.retN X197 hx (t := .boolean) hret (by simp) hlk (hb hby at_180) ?_ (by decide) (by decide)
                    show Q0 Z h0 n0 (some (.int (1 : Int32))) T197.heap _
                    rw [eh197]
                    exact ⟨rfl, N197⟩
                  · refine Go.by (fun _ kont => XS.ifYes X188.here hx rfl (pc0 := 150) (pc' := 157) rfl (hb hby at_150) rfl ((if0 _ _).trans (flt (fun z => hc195 ((lw_gt _ _).mp z))).2.2.2) (by decide) (by decide) kont) ?_
                    show Go _ _ _ _ _ _ _ (T188.setTop (mkF m 157 #[.val (.long c1), .second, .val (.int k1), .val (.long h1), .second, .val (.long g1), .second, .val (.long cp), .second, .val (.int (6 : Int32)), .val (.ref b101), .val (.int (fFu (0 : Int64) mm)), .val (.long cp), .second, .unset] []))
                    refine Go.by (fun _ kont => XS.iconst X188.here hx rfl (hb hby at_157) (XS.istore X188.here hx rfl (hb hby at_158) rfl (l' := #[.val (.long c1), .second, .val (.int k1), .val (.long h1), .second, .val (.long g1), .second, .val (.long cp), .second, .val (.int (6 : Int32)), .val (.ref b101), .val (.int (fFu (0 : Int64) mm)), .val (.long cp), .second, .val (.int (0 : Int32))]) rfl (XS.iload X188.here hx rfl (hb hby at_160) rfl kont))) ?_
                    show Go _ _ _ _ _ _ _ (T188.setTop (mkF m 162 #[.val (.long c1), .second, .val (.int k1), .val (.long h1), .second, .val (.long g1), .second, .val (.long cp), .second, .val (.int (6 : Int32)), .val (.ref b101), .val (.int (fFu (0 : Int64) mm)), .val (.long cp), .second, .val (.int (0 : Int32))] [(.int (fFu (0 : Int64) mm))]))
                    have hd199 : (fFu (0 : Int64) mm) = (0 : Int32) := own_before mm Bm
                    refine Go.by (fun _ kont => XS.ifNo X188.here hx rfl (hb hby at_162) rfl ((if0 _ _).trans (teq hd199).2) kont) ?_
                    show Go _ _ _ _ _ _ _ (T188.setTop (mkF m 165 #[.val (.long c1), .second, .val (.int k1), .val (.long h1), .second, .val (.long g1), .second, .val (.long cp), .second, .val (.int (6 : Int32)), .val (.ref b101), .val (.int (fFu (0 : Int64) mm)), .val (.long cp), .second, .val (.int (0 : Int32))] []))
                    refine Go.by (fun _ kont => XS.aload X188.here hx rfl (hb hby at_165) rfl rfl kont) ?_
                    show Go _ _ _ _ _ _ _ (T188.setTop (mkF m 167 #[.val (.long c1), .second, .val (.int k1), .val (.long h1), .second, .val (.long g1), .second, .val (.long cp), .second, .val (.int (6 : Int32)), .val (.ref b101), .val (.int (fFu (0 : Int64) mm)), .val (.long cp), .second, .val (.int (0 : Int32))] [(.ref b101)]))
                    obtain ⟨cq200, kq200, q200a, q200b, q200c⟩ := isOf hZ rfl E188z
                    obtain ⟨_, _, ⟨T200, L200, k200, n200⟩, -, X200, ⟨Lc200, hQ200, l200, y200, z200⟩, st200⟩ := X188.virtualBack hx (y := (⟨"com/example/runpulse/runpulse/KnownKeys", "isFull", "()Z"⟩ : MethodName)) (z := (⟨"com/example/runpulse/runpulse/KnownKeys", "isFull", "()Z"⟩ : MethodName)) hown (mvT hZ (hw _ (List.mem_of_getElem? (i := 25) rfl))) (mvT hZ (hw _ (List.mem_of_getElem? (i := 26) rfl))) (notFace_of_selects (args := #[]) (mvT hZ (hw _ (List.mem_of_getElem? (i := 28) rfl)))) (mvT hZ (hw _ (List.mem_of_getElem? (i := 28) rfl))) (mvT hZ (hw _ (List.mem_of_getElem? (i := 27) rfl))) (by decide) (backOf (W := 0) (rmFu l Z a0 hw [] b101 (6 : Int64) mm T188.heap n0 Z189 Fa188 Fc188) hZ (hw _ (List.mem_of_getElem? (i := 29) rfl)) (hw _ (List.mem_of_getElem? (i := 3) rfl)) (by decide) (by decide)) q200a q200c (g := (mkF m 167 #[.val (.long c1), .second, .val (.int k1), .val (.long h1), .second, .val (.long g1), .second, .val (.long cp), .second, .val (.int (6 : Int32)), .val (.ref b101), .val (.int (fFu (0 : Int64) mm)), .val (.long cp), .second, .val (.int (0 : Int32))] [(.ref b101)])) rfl (by rw [hml]; rfl) (Steps.refl _) (argsL := []) (rest := []) (lenOf pd0_1 rfl) rfl (by show 2 * 0 + _ ≤ _; exact Nat.le_of_eq rfl) (hb hby at_167) (fun _ _ => ⟨rfl, rfl, (by decide : 2 + 0 ≤ _), (by decide : 5 + 0 ≤ _)⟩)
                    dsimp only [Pt.U, Pt.locs, Pt.cells, Pt.slots] at X200 l200 y200 z200 st200 hQ200
                    subst l200 y200 z200
                    obtain ⟨rfl, N200q, eh200⟩ := hQ200
                    have N200 := Fr.app N188 N200q
                    refine Go.tr st200 ?_
                    show Go _ _ _ _ _ _ _ (T200.setTop (mkF m 170 #[.val (.long c1), .second, .val (.int k1), .val (.long h1), .second, .val (.long g1), .second, .val (.long cp), .second, .val (.int (6 : Int32)), .val (.ref b101), .val (.int (fFu (0 : Int64) mm)), .val (.long cp), .second, .val (.int (0 : Int32))] [(.int (fFu (6 : Int64) mm))]))
                    refine Go.by (fun _ kont => XS.iload X200.here hx rfl (hb hby at_170) rfl kont) ?_
                    show Go _ _ _ _ _ _ _ (T200.setTop (mkF m 172 #[.val (.long c1), .second, .val (.int k1), .val (.long h1), .second, .val (.long g1), .second, .val (.long cp), .second, .val (.int (6 : Int32)), .val (.ref b101), .val (.int (fFu (0 : Int64) mm)), .val (.long cp), .second, .val (.int (0 : Int32))] [(.int (0 : Int32)), (.int (fFu (6 : Int64) mm))]))
                    have hd201 : (fFu (6 : Int64) mm) = (0 : Int32) := own_fF mm (6 : Int64) (by have q := own_m2 cp mm hm hc190; rw [q]; exact hc195)
                    refine Go.by (fun _ kont => XS.icmpNo X200.here hx rfl (hb hby at_172) rfl (teq hd201).2 kont) ?_
                    show Go _ _ _ _ _ _ _ (T200.setTop (mkF m 175 #[.val (.long c1), .second, .val (.int k1), .val (.long h1), .second, .val (.long g1), .second, .val (.long cp), .second, .val (.int (6 : Int32)), .val (.ref b101), .val (.int (fFu (0 : Int64) mm)), .val (.long cp), .second, .val (.int (0 : Int32))] []))
                    refine Go.by (fun _ kont => XS.iconst X200.here hx rfl (hb hby at_175) (XS.goto X200.here hx rfl (pc0 := 176) (pc' := 180) rfl (hb hby at_176) (by decide) (by decide) kont)) ?_
                    show Go _ _ _ _ _ _ _ (T200.setTop (mkF m 180 #[.val (.long c1), .second, .val (.int k1), .val (.long h1), .second, .val (.long g1), .second, .val (.long cp), .second, .val (.int (6 : Int32)), .val (.ref b101), .val (.int (fFu (0 : Int64) mm)), .val (.long cp), .second, .val (.int (0 : Int32))] [(.int (1 : Int32))]))
                    refine Go.retN X200 hx (t := .boolean) hret (by simp) hlk (hb hby at_180) ?_ (by decide) (by decide)
                    show Q0 Z h0 n0 (some (.int (1 : Int32))) T200.heap _
                    rw [eh200]
                    exact ⟨rfl, N200⟩
              · have hz6 : nn.toInt ≠ 6 := fun q => hn6 (Int32.toInt_inj.mp (q.trans (by decide)))
                show Go _ _ _ _ _ _ _ (T188.setTop (mkF m 112 #[.val (.long c1), .second, .val (.int k1), .val (.long h1), .second, .val (.long g1), .second, .val (.long cp), .second, .val (.int nn), .val (.ref b101), .val (.int (fFu (0 : Int64) mm)), .unset, .unset, .unset] []))
                refine Go.by (fun _ kont => XS.iload X188.here hx rfl (hb hby at_112) rfl (XS.bipush X188.here hx rfl (hb hby at_114) kont)) ?_
                show Go _ _ _ _ _ _ _ (T188.setTop (mkF m 116 #[.val (.long c1), .second, .val (.int k1), .val (.long h1), .second, .val (.long g1), .second, .val (.long cp), .second, .val (.int nn), .val (.ref b101), .val (.int (fFu (0 : Int64) mm)), .unset, .unset, .unset] [(.int (6 : Int32)), (.int nn)]))
                have hd202 : (6 : Int32) < nn := by rw [Int32.lt_iff_toInt_lt, show (6 : Int32).toInt = 6 from by decide]; omega
                refine Go.by (fun _ kont => XS.icmpNo X188.here hx rfl (hb hby at_116) rfl (tlt hd202).2.2.2 kont) ?_
                show Go _ _ _ _ _ _ _ (T188.setTop (mkF m 119 #[.val (.long c1), .second, .val (.int k1), .val (.long h1), .second, .val (.long g1), .second, .val (.long cp), .second, .val (.int nn), .val (.ref b101), .val (.int (fFu (0 : Int64) mm)), .unset, .unset, .unset] []))
                refine Go.by (fun _ kont => XS.aload X188.here hx rfl (hb hby at_119) rfl rfl (XS.lloadN X188.here hx rfl (hb hby at_121) rfl (X188.ldc2Long hx hown (mvT hZ (hw _ (List.mem_of_getElem? (i := 46) rfl))) (g := (mkF m 122 #[.val (.long c1), .second, .val (.int k1), .val (.long h1), .second, .val (.long g1), .second, .val (.long cp), .second, .val (.int nn), .val (.ref b101), .val (.int (fFu (0 : Int64) mm)), .unset, .unset, .unset] [(.long h1), (.ref b101)])) rfl (hb hby at_122) _ (XS.lxor X188.here hx rfl (hb hby at_125) rfl kont)))) ?_
                show Go _ _ _ _ _ _ _ (T188.setTop (mkF m 126 #[.val (.long c1), .second, .val (.int k1), .val (.long h1), .second, .val (.long g1), .second, .val (.long cp), .second, .val (.int nn), .val (.ref b101), .val (.int (fFu (0 : Int64) mm)), .unset, .unset, .unset] [(.long (h1 ^^^ (-1 : Int64))), (.ref b101)]))
                obtain ⟨cq203, kq203, q203a, q203b, q203c⟩ := isOf hZ rfl E188z
                obtain ⟨_, _, ⟨T203, L203, k203, n203⟩, -, X203, ⟨Lc203, hQ203, l203, y203, z203⟩, st203⟩ := X188.virtualBack hx (y := (⟨"com/example/runpulse/runpulse/KnownKeys", "add", "(J)V"⟩ : MethodName)) (z := (⟨"com/example/runpulse/runpulse/KnownKeys", "add", "(J)V"⟩ : MethodName)) hown (mvT hZ (hw _ (List.mem_of_getElem? (i := 32) rfl))) (mvT hZ (hw _ (List.mem_of_getElem? (i := 33) rfl))) (notFace_of_selects (args := #[]) (mvT hZ (hw _ (List.mem_of_getElem? (i := 35) rfl)))) (mvT hZ (hw _ (List.mem_of_getElem? (i := 35) rfl))) (mvT hZ (hw _ (List.mem_of_getElem? (i := 34) rfl))) (by decide) (backOf (W := 0) (rmA l Z a0 hw [] b101 (h1 ^^^ (-1 : Int64)) mm bb (6 : Int64) kcb ln T188.heap n0 Z189 E188z Fc188 Fb188 Fa188 V188z ne_b101_bb ge_b101 ge_bb Bl) hZ (hw _ (List.mem_of_getElem? (i := 36) rfl)) (hw _ (List.mem_of_getElem? (i := 3) rfl)) (by decide) (by decide)) q203a q203c (g := (mkF m 126 #[.val (.long c1), .second, .val (.int k1), .val (.long h1), .second, .val (.long g1), .second, .val (.long cp), .second, .val (.int nn), .val (.ref b101), .val (.int (fFu (0 : Int64) mm)), .unset, .unset, .unset] [(.long (h1 ^^^ (-1 : Int64))), (.ref b101)])) rfl (by rw [hml]; rfl) (Steps.refl _) (argsL := [(.long (h1 ^^^ (-1 : Int64)))]) (rest := []) (lenOf pd0_0 rfl) rfl (by show 2 * 0 + _ ≤ _; exact Nat.le_of_eq rfl) (hb hby at_126) (fun _ _ => ⟨rfl, rfl, (by decide : 2 + 0 ≤ _), (by decide : 5 + 0 ≤ _)⟩)
                dsimp only [Pt.U, Pt.locs, Pt.cells, Pt.slots] at X203 l203 y203 z203 st203 hQ203
                subst l203 y203 z203
                obtain ⟨rfl, N203q, K203, E203z, Fc203, Fb203, Fa203, V203z⟩ := hQ203
                have E204_b101 := E188z.keep K203
                have Z204 := Nat.le_trans Z189 K203.1
                have K204 : Keep h0 T203.heap [] := Keep.trans K189 K203 (allS (Or.inr sz_b101) (allS (Or.inr sz_bb) all0))
                rw [show (6 : Int64) + 1 = (7 : Int64) from by decide] at Fa203
                have N203 := Fr.app N188 N203q
                refine Go.tr st203 ?_
                show Go _ _ _ _ _ _ _ (T203.setTop (mkF m 129 #[.val (.long c1), .second, .val (.int k1), .val (.long h1), .second, .val (.long g1), .second, .val (.long cp), .second, .val (.int nn), .val (.ref b101), .val (.int (fFu (0 : Int64) mm)), .unset, .unset, .unset] []))
                have hn7 : nn = (7 : Int32) := Int32.toInt_inj.mp (by rw [show (7 : Int32).toInt = 7 from by decide]; omega)
                subst hn7
                show Go _ _ _ _ _ _ _ (T203.setTop (mkF m 129 #[.val (.long c1), .second, .val (.int k1), .val (.long h1), .second, .val (.long g1), .second, .val (.long cp), .second, .val (.int (7 : Int32)), .val (.ref b101), .val (.int (fFu (0 : Int64) mm)), .unset, .unset, .unset] []))
                refine Go.by (fun _ kont => XS.lload X203.here hx rfl (hb hby at_129) rfl (XS.lconst X203.here hx rfl (hb hby at_131) (XS.lcmp X203.here hx rfl (hb hby at_132) rfl kont))) ?_
                show Go _ _ _ _ _ _ _ (T203.setTop (mkF m 133 #[.val (.long c1), .second, .val (.int k1), .val (.long h1), .second, .val (.long g1), .second, .val (.long cp), .second, .val (.int (7 : Int32)), .val (.ref b101), .val (.int (fFu (0 : Int64) mm)), .unset, .unset, .unset] [(.int (lcmpW cp (1 : Int64)))]))
                by_cases hc205 : cp < (1 : Int64)
                · refine Go.by (fun _ kont => XS.ifNo X203.here hx rfl (hb hby at_133) rfl ((if0 _ _).trans (tlt ((lw_lt _ _).mpr hc205)).2.1) kont) ?_
                  show Go _ _ _ _ _ _ _ (T203.setTop (mkF m 136 #[.val (.long c1), .second, .val (.int k1), .val (.long h1), .second, .val (.long g1), .second, .val (.long cp), .second, .val (.int (7 : Int32)), .val (.ref b101), .val (.int (fFu (0 : Int64) mm)), .unset, .unset, .unset] []))
                  refine Go.by (fun _ kont => XS.lconst X203.here hx rfl (hb hby at_136) (XS.goto X203.here hx rfl (pc0 := 137) (pc' := 142) rfl (hb hby at_137) (by decide) (by decide) (XS.lstore X203.here hx rfl (hb hby at_142) rfl (l' := #[.val (.long c1), .second, .val (.int k1), .val (.long h1), .second, .val (.long g1), .second, .val (.long cp), .second, .val (.int (7 : Int32)), .val (.ref b101), .val (.int (fFu (0 : Int64) mm)), .val (.long (1 : Int64)), .second, .unset]) rfl (XS.iload X203.here hx rfl (hb hby at_144) rfl (XS.i2l X203.here hx rfl (hb hby at_146) rfl kont))))) ?_
                  show Go _ _ _ _ _ _ _ (T203.setTop (mkF m 147 #[.val (.long c1), .second, .val (.int k1), .val (.long h1), .second, .val (.long g1), .second, .val (.long cp), .second, .val (.int (7 : Int32)), .val (.ref b101), .val (.int (fFu (0 : Int64) mm)), .val (.long (1 : Int64)), .second, .unset] [(.long ((7 : Int32).toInt64))]))
                  rw [show ((7 : Int32).toInt64) = (7 : Int64) from by decide]
                  show Go _ _ _ _ _ _ _ (T203.setTop (mkF m 147 #[.val (.long c1), .second, .val (.int k1), .val (.long h1), .second, .val (.long g1), .second, .val (.long cp), .second, .val (.int (7 : Int32)), .val (.ref b101), .val (.int (fFu (0 : Int64) mm)), .val (.long (1 : Int64)), .second, .unset] [(.long (7 : Int64))]))
                  refine Go.by (fun _ kont => XS.lload X203.here hx rfl (hb hby at_147) rfl (XS.lcmp X203.here hx rfl (hb hby at_149) rfl kont)) ?_
                  show Go _ _ _ _ _ _ _ (T203.setTop (mkF m 150 #[.val (.long c1), .second, .val (.int k1), .val (.long h1), .second, .val (.long g1), .second, .val (.long cp), .second, .val (.int (7 : Int32)), .val (.ref b101), .val (.int (fFu (0 : Int64) mm)), .val (.long (1 : Int64)), .second, .unset] [(.int (lcmpW (7 : Int64) (1 : Int64)))]))
                  have hd206 : (1 : Int64) < (7 : Int64) := by decide
                  refine Go.by (fun _ kont => XS.ifNo X203.here hx rfl (hb hby at_150) rfl ((if0 _ _).trans (tlt ((lw_gt _ _).mpr hd206)).2.2.2) kont) ?_
                  show Go _ _ _ _ _ _ _ (T203.setTop (mkF m 153 #[.val (.long c1), .second, .val (.int k1), .val (.long h1), .second, .val (.long g1), .second, .val (.long cp), .second, .val (.int (7 : Int32)), .val (.ref b101), .val (.int (fFu (0 : Int64) mm)), .val (.long (1 : Int64)), .second, .unset] []))
                  refine Go.by (fun _ kont => XS.iconst X203.here hx rfl (hb hby at_153) (XS.goto X203.here hx rfl (pc0 := 154) (pc' := 158) rfl (hb hby at_154) (by decide) (by decide) (XS.istore X203.here hx rfl (hb hby at_158) rfl (l' := #[.val (.long c1), .second, .val (.int k1), .val (.long h1), .second, .val (.long g1), .second, .val (.long cp), .second, .val (.int (7 : Int32)), .val (.ref b101), .val (.int (fFu (0 : Int64) mm)), .val (.long (1 : Int64)), .second, .val (.int (1 : Int32))]) rfl (XS.iload X203.here hx rfl (hb hby at_160) rfl kont)))) ?_
                  show Go _ _ _ _ _ _ _ (T203.setTop (mkF m 162 #[.val (.long c1), .second, .val (.int k1), .val (.long h1), .second, .val (.long g1), .second, .val (.long cp), .second, .val (.int (7 : Int32)), .val (.ref b101), .val (.int (fFu (0 : Int64) mm)), .val (.long (1 : Int64)), .second, .val (.int (1 : Int32))] [(.int (fFu (0 : Int64) mm))]))
                  have hd207 : (fFu (0 : Int64) mm) = (0 : Int32) := own_before mm Bm
                  refine Go.by (fun _ kont => XS.ifNo X203.here hx rfl (hb hby at_162) rfl ((if0 _ _).trans (teq hd207).2) kont) ?_
                  show Go _ _ _ _ _ _ _ (T203.setTop (mkF m 165 #[.val (.long c1), .second, .val (.int k1), .val (.long h1), .second, .val (.long g1), .second, .val (.long cp), .second, .val (.int (7 : Int32)), .val (.ref b101), .val (.int (fFu (0 : Int64) mm)), .val (.long (1 : Int64)), .second, .val (.int (1 : Int32))] []))
                  refine Go.by (fun _ kont => XS.aload X203.here hx rfl (hb hby at_165) rfl rfl kont) ?_
                  show Go _ _ _ _ _ _ _ (T203.setTop (mkF m 167 #[.val (.long c1), .second, .val (.int k1), .val (.long h1), .second, .val (.long g1), .second, .val (.long cp), .second, .val (.int (7 : Int32)), .val (.ref b101), .val (.int (fFu (0 : Int64) mm)), .val (.long (1 : Int64)), .second, .val (.int (1 : Int32))] [(.ref b101)]))
                  obtain ⟨cq208, kq208, q208a, q208b, q208c⟩ := isOf hZ rfl E203z
                  obtain ⟨_, _, ⟨T208, L208, k208, n208⟩, -, X208, ⟨Lc208, hQ208, l208, y208, z208⟩, st208⟩ := X203.virtualBack hx (y := (⟨"com/example/runpulse/runpulse/KnownKeys", "isFull", "()Z"⟩ : MethodName)) (z := (⟨"com/example/runpulse/runpulse/KnownKeys", "isFull", "()Z"⟩ : MethodName)) hown (mvT hZ (hw _ (List.mem_of_getElem? (i := 25) rfl))) (mvT hZ (hw _ (List.mem_of_getElem? (i := 26) rfl))) (notFace_of_selects (args := #[]) (mvT hZ (hw _ (List.mem_of_getElem? (i := 28) rfl)))) (mvT hZ (hw _ (List.mem_of_getElem? (i := 28) rfl))) (mvT hZ (hw _ (List.mem_of_getElem? (i := 27) rfl))) (by decide) (backOf (W := 0) (rmFu l Z a0 hw [] b101 (7 : Int64) mm T203.heap n0 Z204 Fa203 Fc203) hZ (hw _ (List.mem_of_getElem? (i := 29) rfl)) (hw _ (List.mem_of_getElem? (i := 3) rfl)) (by decide) (by decide)) q208a q208c (g := (mkF m 167 #[.val (.long c1), .second, .val (.int k1), .val (.long h1), .second, .val (.long g1), .second, .val (.long cp), .second, .val (.int (7 : Int32)), .val (.ref b101), .val (.int (fFu (0 : Int64) mm)), .val (.long (1 : Int64)), .second, .val (.int (1 : Int32))] [(.ref b101)])) rfl (by rw [hml]; rfl) (Steps.refl _) (argsL := []) (rest := []) (lenOf pd0_1 rfl) rfl (by show 2 * 0 + _ ≤ _; exact Nat.le_of_eq rfl) (hb hby at_167) (fun _ _ => ⟨rfl, rfl, (by decide : 2 + 0 ≤ _), (by decide : 5 + 0 ≤ _)⟩)
                  dsimp only [Pt.U, Pt.locs, Pt.cells, Pt.slots] at X208 l208 y208 z208 st208 hQ208
                  subst l208 y208 z208
                  obtain ⟨rfl, N208q, eh208⟩ := hQ208
                  have N208 := Fr.app N203 N208q
                  refine Go.tr st208 ?_
                  show Go _ _ _ _ _ _ _ (T208.setTop (mkF m 170 #[.val (.long c1), .second, .val (.int k1), .val (.long h1), .second, .val (.long g1), .second, .val (.long cp), .second, .val (.int (7 : Int32)), .val (.ref b101), .val (.int (fFu (0 : Int64) mm)), .val (.long (1 : Int64)), .second, .val (.int (1 : Int32))] [(.int (fFu (7 : Int64) mm))]))
                  refine Go.by (fun _ kont => XS.iload X208.here hx rfl (hb hby at_170) rfl kont) ?_
                  show Go _ _ _ _ _ _ _ (T208.setTop (mkF m 172 #[.val (.long c1), .second, .val (.int k1), .val (.long h1), .second, .val (.long g1), .second, .val (.long cp), .second, .val (.int (7 : Int32)), .val (.ref b101), .val (.int (fFu (0 : Int64) mm)), .val (.long (1 : Int64)), .second, .val (.int (1 : Int32))] [(.int (1 : Int32)), (.int (fFu (7 : Int64) mm))]))
                  have hd209 : (fFu (7 : Int64) mm) = (1 : Int32) := own_fT mm (7 : Int64) (by have q := own_m1 cp mm hm hc205; rw [q]; decide)
                  refine Go.by (fun _ kont => XS.icmpNo X208.here hx rfl (hb hby at_172) rfl (teq hd209).2 kont) ?_
                  show Go _ _ _ _ _ _ _ (T208.setTop (mkF m 175 #[.val (.long c1), .second, .val (.int k1), .val (.long h1), .second, .val (.long g1), .second, .val (.long cp), .second, .val (.int (7 : Int32)), .val (.ref b101), .val (.int (fFu (0 : Int64) mm)), .val (.long (1 : Int64)), .second, .val (.int (1 : Int32))] []))
                  refine Go.by (fun _ kont => XS.iconst X208.here hx rfl (hb hby at_175) (XS.goto X208.here hx rfl (pc0 := 176) (pc' := 180) rfl (hb hby at_176) (by decide) (by decide) kont)) ?_
                  show Go _ _ _ _ _ _ _ (T208.setTop (mkF m 180 #[.val (.long c1), .second, .val (.int k1), .val (.long h1), .second, .val (.long g1), .second, .val (.long cp), .second, .val (.int (7 : Int32)), .val (.ref b101), .val (.int (fFu (0 : Int64) mm)), .val (.long (1 : Int64)), .second, .val (.int (1 : Int32))] [(.int (1 : Int32))]))
                  refine Go.retN X208 hx (t := .boolean) hret (by simp) hlk (hb hby at_180) ?_ (by decide) (by decide)
                  show Q0 Z h0 n0 (some (.int (1 : Int32))) T208.heap _
                  rw [eh208]
                  exact ⟨rfl, N208⟩
                · refine Go.by (fun _ kont => XS.ifYes X203.here hx rfl (pc0 := 133) (pc' := 140) rfl (hb hby at_133) rfl ((if0 _ _).trans (flt (fun z => hc205 ((lw_lt _ _).mp z))).2.1) (by decide) (by decide) kont) ?_
                  show Go _ _ _ _ _ _ _ (T203.setTop (mkF m 140 #[.val (.long c1), .second, .val (.int k1), .val (.long h1), .second, .val (.long g1), .second, .val (.long cp), .second, .val (.int (7 : Int32)), .val (.ref b101), .val (.int (fFu (0 : Int64) mm)), .unset, .unset, .unset] []))
                  refine Go.by (fun _ kont => XS.lload X203.here hx rfl (hb hby at_140) rfl (XS.lstore X203.here hx rfl (hb hby at_142) rfl (l' := #[.val (.long c1), .second, .val (.int k1), .val (.long h1), .second, .val (.long g1), .second, .val (.long cp), .second, .val (.int (7 : Int32)), .val (.ref b101), .val (.int (fFu (0 : Int64) mm)), .val (.long cp), .second, .unset]) rfl (XS.iload X203.here hx rfl (hb hby at_144) rfl (XS.i2l X203.here hx rfl (hb hby at_146) rfl kont)))) ?_
                  show Go _ _ _ _ _ _ _ (T203.setTop (mkF m 147 #[.val (.long c1), .second, .val (.int k1), .val (.long h1), .second, .val (.long g1), .second, .val (.long cp), .second, .val (.int (7 : Int32)), .val (.ref b101), .val (.int (fFu (0 : Int64) mm)), .val (.long cp), .second, .unset] [(.long ((7 : Int32).toInt64))]))
                  rw [show ((7 : Int32).toInt64) = (7 : Int64) from by decide]
                  show Go _ _ _ _ _ _ _ (T203.setTop (mkF m 147 #[.val (.long c1), .second, .val (.int k1), .val (.long h1), .second, .val (.long g1), .second, .val (.long cp), .second, .val (.int (7 : Int32)), .val (.ref b101), .val (.int (fFu (0 : Int64) mm)), .val (.long cp), .second, .unset] [(.long (7 : Int64))]))
                  refine Go.by (fun _ kont => XS.lload X203.here hx rfl (hb hby at_147) rfl (XS.lcmp X203.here hx rfl (hb hby at_149) rfl kont)) ?_
                  show Go _ _ _ _ _ _ _ (T203.setTop (mkF m 150 #[.val (.long c1), .second, .val (.int k1), .val (.long h1), .second, .val (.long g1), .second, .val (.long cp), .second, .val (.int (7 : Int32)), .val (.ref b101), .val (.int (fFu (0 : Int64) mm)), .val (.long cp), .second, .unset] [(.int (lcmpW (7 : Int64) cp))]))
                  by_cases hc210 : cp < (7 : Int64)
                  · refine Go.by (fun _ kont => XS.ifNo X203.here hx rfl (hb hby at_150) rfl ((if0 _ _).trans (tlt ((lw_gt _ _).mpr hc210)).2.2.2) kont) ?_
                    show Go _ _ _ _ _ _ _ (T203.setTop (mkF m 153 #[.val (.long c1), .second, .val (.int k1), .val (.long h1), .second, .val (.long g1), .second, .val (.long cp), .second, .val (.int (7 : Int32)), .val (.ref b101), .val (.int (fFu (0 : Int64) mm)), .val (.long cp), .second, .unset] []))
                    refine Go.by (fun _ kont => XS.iconst X203.here hx rfl (hb hby at_153) (XS.goto X203.here hx rfl (pc0 := 154) (pc' := 158) rfl (hb hby at_154) (by decide) (by decide) (XS.istore X203.here hx rfl (hb hby at_158) rfl (l' := #[.val (.long c1), .second, .val (.int k1), .val (.long h1), .second, .val (.long g1), .second, .val (.long cp), .second, .val (.int (7 : Int32)), .val (.ref b101), .val (.int (fFu (0 : Int64) mm)), .val (.long cp), .second, .val (.int (1 : Int32))]) rfl (XS.iload X203.here hx rfl (hb hby at_160) rfl kont)))) ?_
                    show Go _ _ _ _ _ _ _ (T203.setTop (mkF m 162 #[.val (.long c1), .second, .val (.int k1), .val (.long h1), .second, .val (.long g1), .second, .val (.long cp), .second, .val (.int (7 : Int32)), .val (.ref b101), .val (.int (fFu (0 : Int64) mm)), .val (.long cp), .second, .val (.int (1 : Int32))] [(.int (fFu (0 : Int64) mm))]))
                    have hd211 : (fFu (0 : Int64) mm) = (0 : Int32) := own_before mm Bm
                    refine Go.by (fun _ kont => XS.ifNo X203.here hx rfl (hb hby at_162) rfl ((if0 _ _).trans (teq hd211).2) kont) ?_
                    show Go _ _ _ _ _ _ _ (T203.setTop (mkF m 165 #[.val (.long c1), .second, .val (.int k1), .val (.long h1), .second, .val (.long g1), .second, .val (.long cp), .second, .val (.int (7 : Int32)), .val (.ref b101), .val (.int (fFu (0 : Int64) mm)), .val (.long cp), .second, .val (.int (1 : Int32))] []))
                    refine Go.by (fun _ kont => XS.aload X203.here hx rfl (hb hby at_165) rfl rfl kont) ?_
                    show Go _ _ _ _ _ _ _ (T203.setTop (mkF m 167 #[.val (.long c1), .second, .val (.int k1), .val (.long h1), .second, .val (.long g1), .second, .val (.long cp), .second, .val (.int (7 : Int32)), .val (.ref b101), .val (.int (fFu (0 : Int64) mm)), .val (.long cp), .second, .val (.int (1 : Int32))] [(.ref b101)]))
                    obtain ⟨cq212, kq212, q212a, q212b, q212c⟩ := isOf hZ rfl E203z
                    obtain ⟨_, _, ⟨T212, L212, k212, n212⟩, -, X212, ⟨Lc212, hQ212, l212, y212, z212⟩, st212⟩ := X203.virtualBack hx (y := (⟨"com/example/runpulse/runpulse/KnownKeys", "isFull", "()Z"⟩ : MethodName)) (z := (⟨"com/example/runpulse/runpulse/KnownKeys", "isFull", "()Z"⟩ : MethodName)) hown (mvT hZ (hw _ (List.mem_of_getElem? (i := 25) rfl))) (mvT hZ (hw _ (List.mem_of_getElem? (i := 26) rfl))) (notFace_of_selects (args := #[]) (mvT hZ (hw _ (List.mem_of_getElem? (i := 28) rfl)))) (mvT hZ (hw _ (List.mem_of_getElem? (i := 28) rfl))) (mvT hZ (hw _ (List.mem_of_getElem? (i := 27) rfl))) (by decide) (backOf (W := 0) (rmFu l Z a0 hw [] b101 (7 : Int64) mm T203.heap n0 Z204 Fa203 Fc203) hZ (hw _ (List.mem_of_getElem? (i := 29) rfl)) (hw _ (List.mem_of_getElem? (i := 3) rfl)) (by decide) (by decide)) q212a q212c (g := (mkF m 167 #[.val (.long c1), .second, .val (.int k1), .val (.long h1), .second, .val (.long g1), .second, .val (.long cp), .second, .val (.int (7 : Int32)), .val (.ref b101), .val (.int (fFu (0 : Int64) mm)), .val (.long cp), .second, .val (.int (1 : Int32))] [(.ref b101)])) rfl (by rw [hml]; rfl) (Steps.refl _) (argsL := []) (rest := []) (lenOf pd0_1 rfl) rfl (by show 2 * 0 + _ ≤ _; exact Nat.le_of_eq rfl) (hb hby at_167) (fun _ _ => ⟨rfl, rfl, (by decide : 2 + 0 ≤ _), (by decide : 5 + 0 ≤ _)⟩)
                    dsimp only [Pt.U, Pt.locs, Pt.cells, Pt.slots] at X212 l212 y212 z212 st212 hQ212
                    subst l212 y212 z212
                    obtain ⟨rfl, N212q, eh212⟩ := hQ212
                    have N212 := Fr.app N203 N212q
                    refine Go.tr st212 ?_
                    show Go _ _ _ _ _ _ _ (T212.setTop (mkF m 170 #[.val (.long c1), .second, .val (.int k1), .val (.long h1), .second, .val (.long g1), .second, .val (.long cp), .second, .val (.int (7 : Int32)), .val (.ref b101), .val (.int (fFu (0 : Int64) mm)), .val (.long cp), .second, .val (.int (1 : Int32))] [(.int (fFu (7 : Int64) mm))]))
                    refine Go.by (fun _ kont => XS.iload X212.here hx rfl (hb hby at_170) rfl kont) ?_
                    show Go _ _ _ _ _ _ _ (T212.setTop (mkF m 172 #[.val (.long c1), .second, .val (.int k1), .val (.long h1), .second, .val (.long g1), .second, .val (.long cp), .second, .val (.int (7 : Int32)), .val (.ref b101), .val (.int (fFu (0 : Int64) mm)), .val (.long cp), .second, .val (.int (1 : Int32))] [(.int (1 : Int32)), (.int (fFu (7 : Int64) mm))]))
                    have hd213 : (fFu (7 : Int64) mm) = (1 : Int32) := own_fT mm (7 : Int64) (by have q := own_m2 cp mm hm hc205; rw [q]; exact hc210)
                    refine Go.by (fun _ kont => XS.icmpNo X212.here hx rfl (hb hby at_172) rfl (teq hd213).2 kont) ?_
                    show Go _ _ _ _ _ _ _ (T212.setTop (mkF m 175 #[.val (.long c1), .second, .val (.int k1), .val (.long h1), .second, .val (.long g1), .second, .val (.long cp), .second, .val (.int (7 : Int32)), .val (.ref b101), .val (.int (fFu (0 : Int64) mm)), .val (.long cp), .second, .val (.int (1 : Int32))] []))
                    refine Go.by (fun _ kont => XS.iconst X212.here hx rfl (hb hby at_175) (XS.goto X212.here hx rfl (pc0 := 176) (pc' := 180) rfl (hb hby at_176) (by decide) (by decide) kont)) ?_
                    show Go _ _ _ _ _ _ _ (T212.setTop (mkF m 180 #[.val (.long c1), .second, .val (.int k1), .val (.long h1), .second, .val (.long g1), .second, .val (.long cp), .second, .val (.int (7 : Int32)), .val (.ref b101), .val (.int (fFu (0 : Int64) mm)), .val (.long cp), .second, .val (.int (1 : Int32))] [(.int (1 : Int32))]))
                    refine Go.retN X212 hx (t := .boolean) hret (by simp) hlk (hb hby at_180) ?_ (by decide) (by decide)
                    show Q0 Z h0 n0 (some (.int (1 : Int32))) T212.heap _
                    rw [eh212]
                    exact ⟨rfl, N212⟩
                  · refine Go.by (fun _ kont => XS.ifYes X203.here hx rfl (pc0 := 150) (pc' := 157) rfl (hb hby at_150) rfl ((if0 _ _).trans (flt (fun z => hc210 ((lw_gt _ _).mp z))).2.2.2) (by decide) (by decide) kont) ?_
                    show Go _ _ _ _ _ _ _ (T203.setTop (mkF m 157 #[.val (.long c1), .second, .val (.int k1), .val (.long h1), .second, .val (.long g1), .second, .val (.long cp), .second, .val (.int (7 : Int32)), .val (.ref b101), .val (.int (fFu (0 : Int64) mm)), .val (.long cp), .second, .unset] []))
                    refine Go.by (fun _ kont => XS.iconst X203.here hx rfl (hb hby at_157) (XS.istore X203.here hx rfl (hb hby at_158) rfl (l' := #[.val (.long c1), .second, .val (.int k1), .val (.long h1), .second, .val (.long g1), .second, .val (.long cp), .second, .val (.int (7 : Int32)), .val (.ref b101), .val (.int (fFu (0 : Int64) mm)), .val (.long cp), .second, .val (.int (0 : Int32))]) rfl (XS.iload X203.here hx rfl (hb hby at_160) rfl kont))) ?_
                    show Go _ _ _ _ _ _ _ (T203.setTop (mkF m 162 #[.val (.long c1), .second, .val (.int k1), .val (.long h1), .second, .val (.long g1), .second, .val (.long cp), .second, .val (.int (7 : Int32)), .val (.ref b101), .val (.int (fFu (0 : Int64) mm)), .val (.long cp), .second, .val (.int (0 : Int32))] [(.int (fFu (0 : Int64) mm))]))
                    have hd214 : (fFu (0 : Int64) mm) = (0 : Int32) := own_before mm Bm
                    refine Go.by (fun _ kont => XS.ifNo X203.here hx rfl (hb hby at_162) rfl ((if0 _ _).trans (teq hd214).2) kont) ?_
                    show Go _ _ _ _ _ _ _ (T203.setTop (mkF m 165 #[.val (.long c1), .second, .val (.int k1), .val (.long h1), .second, .val (.long g1), .second, .val (.long cp), .second, .val (.int (7 : Int32)), .val (.ref b101), .val (.int (fFu (0 : Int64) mm)), .val (.long cp), .second, .val (.int (0 : Int32))] []))
                    refine Go.by (fun _ kont => XS.aload X203.here hx rfl (hb hby at_165) rfl rfl kont) ?_
                    show Go _ _ _ _ _ _ _ (T203.setTop (mkF m 167 #[.val (.long c1), .second, .val (.int k1), .val (.long h1), .second, .val (.long g1), .second, .val (.long cp), .second, .val (.int (7 : Int32)), .val (.ref b101), .val (.int (fFu (0 : Int64) mm)), .val (.long cp), .second, .val (.int (0 : Int32))] [(.ref b101)]))
                    obtain ⟨cq215, kq215, q215a, q215b, q215c⟩ := isOf hZ rfl E203z
                    obtain ⟨_, _, ⟨T215, L215, k215, n215⟩, -, X215, ⟨Lc215, hQ215, l215, y215, z215⟩, st215⟩ := X203.virtualBack hx (y := (⟨"com/example/runpulse/runpulse/KnownKeys", "isFull", "()Z"⟩ : MethodName)) (z := (⟨"com/example/runpulse/runpulse/KnownKeys", "isFull", "()Z"⟩ : MethodName)) hown (mvT hZ (hw _ (List.mem_of_getElem? (i := 25) rfl))) (mvT hZ (hw _ (List.mem_of_getElem? (i := 26) rfl))) (notFace_of_selects (args := #[]) (mvT hZ (hw _ (List.mem_of_getElem? (i := 28) rfl)))) (mvT hZ (hw _ (List.mem_of_getElem? (i := 28) rfl))) (mvT hZ (hw _ (List.mem_of_getElem? (i := 27) rfl))) (by decide) (backOf (W := 0) (rmFu l Z a0 hw [] b101 (7 : Int64) mm T203.heap n0 Z204 Fa203 Fc203) hZ (hw _ (List.mem_of_getElem? (i := 29) rfl)) (hw _ (List.mem_of_getElem? (i := 3) rfl)) (by decide) (by decide)) q215a q215c (g := (mkF m 167 #[.val (.long c1), .second, .val (.int k1), .val (.long h1), .second, .val (.long g1), .second, .val (.long cp), .second, .val (.int (7 : Int32)), .val (.ref b101), .val (.int (fFu (0 : Int64) mm)), .val (.long cp), .second, .val (.int (0 : Int32))] [(.ref b101)])) rfl (by rw [hml]; rfl) (Steps.refl _) (argsL := []) (rest := []) (lenOf pd0_1 rfl) rfl (by show 2 * 0 + _ ≤ _; exact Nat.le_of_eq rfl) (hb hby at_167) (fun _ _ => ⟨rfl, rfl, (by decide : 2 + 0 ≤ _), (by decide : 5 + 0 ≤ _)⟩)
                    dsimp only [Pt.U, Pt.locs, Pt.cells, Pt.slots] at X215 l215 y215 z215 st215 hQ215
                    subst l215 y215 z215
                    obtain ⟨rfl, N215q, eh215⟩ := hQ215
                    have N215 := Fr.app N203 N215q
                    refine Go.tr st215 ?_
                    show Go _ _ _ _ _ _ _ (T215.setTop (mkF m 170 #[.val (.long c1), .second, .val (.int k1), .val (.long h1), .second, .val (.long g1), .second, .val (.long cp), .second, .val (.int (7 : Int32)), .val (.ref b101), .val (.int (fFu (0 : Int64) mm)), .val (.long cp), .second, .val (.int (0 : Int32))] [(.int (fFu (7 : Int64) mm))]))
                    refine Go.by (fun _ kont => XS.iload X215.here hx rfl (hb hby at_170) rfl kont) ?_
                    show Go _ _ _ _ _ _ _ (T215.setTop (mkF m 172 #[.val (.long c1), .second, .val (.int k1), .val (.long h1), .second, .val (.long g1), .second, .val (.long cp), .second, .val (.int (7 : Int32)), .val (.ref b101), .val (.int (fFu (0 : Int64) mm)), .val (.long cp), .second, .val (.int (0 : Int32))] [(.int (0 : Int32)), (.int (fFu (7 : Int64) mm))]))
                    have hd216 : (fFu (7 : Int64) mm) = (0 : Int32) := own_fF mm (7 : Int64) (by have q := own_m2 cp mm hm hc205; rw [q]; exact hc210)
                    refine Go.by (fun _ kont => XS.icmpNo X215.here hx rfl (hb hby at_172) rfl (teq hd216).2 kont) ?_
                    show Go _ _ _ _ _ _ _ (T215.setTop (mkF m 175 #[.val (.long c1), .second, .val (.int k1), .val (.long h1), .second, .val (.long g1), .second, .val (.long cp), .second, .val (.int (7 : Int32)), .val (.ref b101), .val (.int (fFu (0 : Int64) mm)), .val (.long cp), .second, .val (.int (0 : Int32))] []))
                    refine Go.by (fun _ kont => XS.iconst X215.here hx rfl (hb hby at_175) (XS.goto X215.here hx rfl (pc0 := 176) (pc' := 180) rfl (hb hby at_176) (by decide) (by decide) kont)) ?_
                    show Go _ _ _ _ _ _ _ (T215.setTop (mkF m 180 #[.val (.long c1), .second, .val (.int k1), .val (.long h1), .second, .val (.long g1), .second, .val (.long cp), .second, .val (.int (7 : Int32)), .val (.ref b101), .val (.int (fFu (0 : Int64) mm)), .val (.long cp), .second, .val (.int (0 : Int32))] [(.int (1 : Int32))]))
                    refine Go.retN X215 hx (t := .boolean) hret (by simp) hlk (hb hby at_180) ?_ (by decide) (by decide)
                    show Q0 Z h0 n0 (some (.int (1 : Int32))) T215.heap _
                    rw [eh215]
                    exact ⟨rfl, N215⟩

set_option maxRecDepth 65536 in
set_option maxHeartbeats 40000000 in
theorem comes_1 {Post : Tables → Env → Array Value → State → Outcome → State → Prop} (hpost : ∀ tb e args s v u, (limb_1_1.after args s (.returned v) u = true ∧ limb_1_2.after args s (.returned v) u = true ∧ True) → FrameEnd s (.returned v) u (Jvm.fieldLocs frame_1_writes args s ++ Jvm.arrayLocs frame_1_arrays args s ++ Jvm.staticLocs frame_1_statics s) 16 128 → Post tb e args s (.returned v) u) :
    ArmFor flags0 classFile x code maxLocals ret World_1 tables_1 room_1 Calls_1 rest_1 Pre_1 Post := by
  intro l hfl _ _ p e ha hc hk s m args below hf hA hF happ hP
  obtain ⟨hcalls, hrest, hpre⟩ := hP
  obtain ⟨-, -, -, hnamed, -, -, -, hat⟩ := (Spec.applies_iff hf).mp happ
  obtain ⟨hg, hn⟩ := and_e (Cond.before_iff.mp (show (Jvm.Cond.and given_1 narrow_1).before args s = true from hpre))
  obtain ⟨hh1, hh2⟩ := and_e hg
  obtain ⟨hh3, hh4⟩ := and_e hh2
  obtain ⟨hh5, hh6⟩ := and_e hh4
  obtain ⟨hh7, hh8⟩ := and_e hh6
  obtain ⟨w0, w1, w2, w3, rfl⟩ : ∃ w0 w1 w2 w3 : Value, args = #[w0, w1, w2, w3] := by
    have hs : args.size = 4 := by simpa [Cond.value, given_1] using hh1
    obtain ⟨L⟩ := args
    match L, hs with
    | [w0, w1, w2, w3], _ => exact ⟨w0, w1, w2, w3, rfl⟩
  have hw := fun d (hd : d ∈ tables_1) => atoms_spec (ws := Jvm.Cond.code x code maxLocals ret :: tables_1) hat d (List.mem_cons_of_mem _ hd)
  obtain ⟨i0, ei0⟩ := isL_v hh3
  obtain rfl : w0 = (.long i0) := Option.some.inj ei0
  obtain ⟨i1, ei1⟩ := is_v hh5
  obtain rfl : w1 = (.int i1) := Option.some.inj ei1
  obtain ⟨i2, ei2⟩ := isL_v hh7
  obtain rfl : w2 = (.long i2) := Option.some.inj ei2
  obtain ⟨i3, ei3⟩ := isL_v hh8
  obtain rfl : w3 = (.long i3) := Option.some.inj ei3
  obtain ⟨n, o, h1, h2, h3, _, L, rfl, ⟨rfl, N⟩, hq⟩ := rm0 l s _ hw tables_1 i0 i1 i2 i3  s.heap s.heap.size (Nat.le_refl _)  p e ha hc hk s m _ below hf ((Spec.applies_iff_loose hf).mp happ).1 ⟨rfl, State.Warmed39.refl s, rfl⟩ trivial
  refine ⟨n, _, h1, h2, h3, hpost _ _ _ _ _ _ ⟨Cond.after_iff.mpr rfl, Cond.after_iff.mpr (eq_i res_at (Term.int_eval (1)) rfl), trivial⟩ ⟨hq.1, hq.2.1, (hq.2.2.sift fun y hy => Or.inr (N y hy)).mono (by decide) (by decide)⟩⟩
theorem main_1_1 : Claimed_1_1 := comes_1 fun _ _ _ _ _ _ h hF => ⟨h.1, hF⟩
theorem main_1_2 : Claimed_1_2 := comes_1 fun _ _ _ _ _ _ h hF => ⟨h.2.1, hF⟩

end Jvm.Pilot.@@N@@
namespace Jvm.Pilot.@@N@@
open Jvm Jvm.ClassFile Sem Op Lib Jvm.Free Jvm.Stand Jvm.Pilot.@@N@@.Jvm.D
/-! MADE BY PROGRAM (witnessworld.py) out of the Statement's table words and the real class files: 17 classes; the members and pool entries that the words name. The judged class is class 1, her method 1. -/
namespace start1
open Jvm.ClassFile
def u (s : String) : CpInfo := .utf8 (stringToUtf16 s)
/-- a pool by its gaps: so many unusable entries, then the entry; so many at the end -/
def gap : Nat → List CpInfo → List CpInfo
  | 0, r => r
  | n + 1, r => .unusable :: gap n r
def poolList (es : List (Nat × CpInfo)) (last : Nat) : List CpInfo := es.foldr (fun e r => gap e.1 (e.2 :: r)) (gap last [])
def pool (es : List (Nat × CpInfo)) (last : Nat) : Array CpInfo := ⟨poolList es last⟩
def fileOf (pool : Array CpInfo) (this : Nat) (attrs : Array Attribute := #[]) (ms : Array MethodInfo := #[]) (fl : Nat := 33) (sup : Nat := 0) (ifs : Array Nat := #[]) (fds : Array FieldInfo := #[]) : ClassFile where
  minorVersion := 0
  majorVersion := 65
  constantPool := pool
  accessFlags := fl
  thisClass := this
  superClass := sup
  interfaces := ifs
  fields := fds
  methods := ms
  attributes := attrs
def plain (name : String) (sup : Option ClassId) : Class where
  name := name
  kind := .ordinary
  loader := none
  accessFlags := 33
  super := sup
  interfaces := #[]
  cf := none
  fields := #[]
  methods := #[]
  instanceTypes := #[]
  staticTypes := #[]
  resolved := #[]
  callSites := []
  init := .initialized
  statics := none
  mirror := none

def pool0 : Array CpInfo := pool [(5, u "<init>"), (0, u "()V"), (1, .class_ 10), (1, u "java/lang/Object")] 113

def k0c0 : Code := { maxStack := 0, maxLocals := 1, code := object_method_1_code, exceptionTable := #[], attributes := #[] }
def k0m0 : Method := { name := "<init>", desc := "()V", sig := { parameters := [], returnType := none }, accessFlags := 1, code := some k0c0 }
/-- java/lang/Object -/
def k0 : Class := { plain "java/lang/Object" none with
  accessFlags := 33
  interfaces := #[]
  cf := some (fileOf pool0 8 #[] #[{ accessFlags := 1, nameIndex := 5, descriptorIndex := 6, attributes := #[] }] 33 0 #[] #[])
  fields := #[]
  methods := #[k0m0]
  instanceTypes := #[]
  staticTypes := #[]
  resolved := Array.replicate 124 none
  statics := none }

def pool1 : Array CpInfo := pool [(2, .class_ 4), (1, u "java/lang/Object"), (0, u "<init>"), (0, u "()V"), (0, .long 8), (1, .class_ 10), (0, u "com/example/runpulse/runpulse/KnownKeys"), (0, .methodref 9 12), (0, .nameAndType 5 13), (0, u "(J)V"), (0, .methodref 9 15), (0, .nameAndType 16 17), (0, u "isFull"), (0, u "()Z"), (0, .methodref 9 19), (0, .nameAndType 20 13), (0, u "add"), (0, .long 18446744073709551615), (1, .class_ 24), (0, u "com/example/runpulse/runpulse/KnownKeysIsFullPinLaw"), (2, u "law"), (0, u "(JIJJ)Z")] 3

def k1m0 : Method := { name := "<init>", desc := "()V", sig := { parameters := [], returnType := none }, accessFlags := 1, code := none }
def k1c1 : Code := { maxStack := 5, maxLocals := 15, code := code, exceptionTable := #[], attributes := #[] }
def k1m1 : Method := { name := "law", desc := "(JIJJ)Z", sig := { parameters := [.long, .int, .long, .long], returnType := some .boolean }, accessFlags := 9, code := some k1c1 }
/-- com/example/runpulse/runpulse/KnownKeysIsFullPinLaw -/
def k1 : Class := { plain "com/example/runpulse/runpulse/KnownKeysIsFullPinLaw" (some 0) with
  accessFlags := 49
  interfaces := #[]
  cf := some (fileOf pool1 23 #[] #[{ accessFlags := 1, nameIndex := 5, descriptorIndex := 6, attributes := #[] }, { accessFlags := 9, nameIndex := 27, descriptorIndex := 28, attributes := #[] }] 49 2 #[] #[])
  fields := #[]
  methods := #[k1m0, k1m1]
  instanceTypes := #[]
  staticTypes := #[]
  resolved := Array.replicate 32 none
  statics := none }

def pool2 : Array CpInfo := pool [(1, .methodref 2 3), (0, .class_ 4), (0, .nameAndType 5 6), (0, u "java/lang/Object"), (0, u "<init>"), (0, u "()V"), (0, .methodref 8 9), (0, .class_ 10), (0, .nameAndType 11 12), (0, u "java/lang/Math"), (0, u "max"), (0, u "(JJ)J"), (0, .fieldref 14 15), (0, .class_ 16), (0, .nameAndType 17 18), (0, u "com/example/runpulse/runpulse/KnownKeys"), (0, u "capacity"), (0, u "J"), (0, .long 33554432), (1, .long 10), (1, .long 64), (1, .methodref 8 26), (0, .nameAndType 27 12), (0, u "min"), (0, .fieldref 14 29), (0, .nameAndType 30 31), (0, u "bits"), (0, u "[J"), (0, .fieldref 14 33), (0, .nameAndType 34 18), (0, u "added"), (8, u "add"), (0, u "(J)V"), (0, .methodref 14 46), (0, .nameAndType 47 48), (0, u "bit"), (0, u "(JI)J"), (0, .methodref 50 51), (0, .class_ 52), (0, .nameAndType 53 54), (0, u "java/lang/Integer"), (0, u "toUnsignedLong"), (0, u "(I)J"), (2, u "BITS_PER_KEY"), (0, u "I"), (2, u "PROBES"), (1, u "MOST_WORDS"), (3, u "isFull"), (0, u "()Z")] 6

def k2c0 : Code := { maxStack := 7, maxLocals := 3, code := prog_23_method_1_code, exceptionTable := #[], attributes := #[] }
def k2m0 : Method := { name := "<init>", desc := "(J)V", sig := { parameters := [.long], returnType := none }, accessFlags := 0, code := some k2c0 }
def k2c1 : Code := { maxStack := 4, maxLocals := 1, code := prog_23_method_2_code, exceptionTable := #[], attributes := #[] }
def k2m1 : Method := { name := "isFull", desc := "()Z", sig := { parameters := [], returnType := some .boolean }, accessFlags := 0, code := some k2c1 }
def k2c2 : Code := { maxStack := 8, maxLocals := 6, code := prog_23_method_4_code, exceptionTable := #[], attributes := #[] }
def k2m2 : Method := { name := "add", desc := "(J)V", sig := { parameters := [.long], returnType := none }, accessFlags := 0, code := some k2c2 }
def k2c3 : Code := { maxStack := 6, maxLocals := 5, code := prog_23_method_6_code, exceptionTable := #[], attributes := #[] }
def k2m3 : Method := { name := "bit", desc := "(JI)J", sig := { parameters := [.long, .int], returnType := some .long }, accessFlags := 2, code := some k2c3 }
/-- com/example/runpulse/runpulse/KnownKeys -/
def k2 : Class := { plain "com/example/runpulse/runpulse/KnownKeys" (some 0) with
  accessFlags := 48
  interfaces := #[]
  cf := some (fileOf pool2 14 #[] #[{ accessFlags := 0, nameIndex := 5, descriptorIndex := 44, attributes := #[] }, { accessFlags := 0, nameIndex := 67, descriptorIndex := 68, attributes := #[] }, { accessFlags := 0, nameIndex := 43, descriptorIndex := 44, attributes := #[] }, { accessFlags := 2, nameIndex := 47, descriptorIndex := 48, attributes := #[] }] 48 2 #[] #[{ accessFlags := 26, nameIndex := 57, descriptorIndex := 58, attributes := #[] }, { accessFlags := 26, nameIndex := 61, descriptorIndex := 58, attributes := #[] }, { accessFlags := 26, nameIndex := 63, descriptorIndex := 58, attributes := #[] }, { accessFlags := 18, nameIndex := 30, descriptorIndex := 31, attributes := #[] }, { accessFlags := 18, nameIndex := 17, descriptorIndex := 18, attributes := #[] }, { accessFlags := 2, nameIndex := 34, descriptorIndex := 18, attributes := #[] }])
  fields := #[{ name := "BITS_PER_KEY", type := .int, accessFlags := 26, slot := 0, constantValue := 0 }, { name := "PROBES", type := .int, accessFlags := 26, slot := 1, constantValue := 0 }, { name := "MOST_WORDS", type := .int, accessFlags := 26, slot := 2, constantValue := 0 }, { name := "bits", type := (.array .long), accessFlags := 18, slot := 0, constantValue := 0 }, { name := "capacity", type := .long, accessFlags := 18, slot := 1, constantValue := 0 }, { name := "added", type := .long, accessFlags := 2, slot := 2, constantValue := 0 }]
  methods := #[k2m0, k2m1, k2m2, k2m3]
  instanceTypes := #[(.array .long), .long, .long]
  staticTypes := #[.int, .int, .int]
  resolved := Array.replicate 75 none
  statics := none }

def pool3 : Array CpInfo := pool [(1, .class_ 2), (0, u "java/lang/Math"), (1, .class_ 6), (1, u "java/lang/Object"), (0, u "<init>"), (0, u "()V"), (89, .class_ 100), (1, u "java/lang/Math$RandomNumberGeneratorHolder"), (20, u "(JJ)J"), (50, u "negativeZeroFloatBits"), (0, u "J"), (2, u "negativeZeroDoubleBits"), (21, u "max"), (2, u "min"), (43, u "$assertionsDisabled"), (0, u "Z"), (91, u "twoToTheDoubleScaleDown"), (0, u "D"), (4, u "twoToTheDoubleScaleUp"), (9, u "E"), (3, u "PI"), (2, u "TAU"), (2, u "DEGREES_TO_RADIANS"), (0, u "RADIANS_TO_DEGREES")] 94

def k3m0 : Method := { name := "<init>", desc := "()V", sig := { parameters := [], returnType := none }, accessFlags := 2, code := none }
def k3c1 : Code := { maxStack := 4, maxLocals := 4, code := jdk_29_method_66_code, exceptionTable := #[], attributes := #[] }
def k3m1 : Method := { name := "max", desc := "(JJ)J", sig := { parameters := [.long, .long], returnType := some .long }, accessFlags := 9, code := some k3c1 }
def k3c2 : Code := { maxStack := 4, maxLocals := 4, code := jdk_29_method_70_code, exceptionTable := #[], attributes := #[] }
def k3m2 : Method := { name := "min", desc := "(JJ)J", sig := { parameters := [.long, .long], returnType := some .long }, accessFlags := 9, code := some k3c2 }
/-- java/lang/Math -/
def k3 : Class := { plain "java/lang/Math" (some 0) with
  accessFlags := 49
  interfaces := #[]
  cf := some (fileOf pool3 1 #[.nestMembers #[98]] #[{ accessFlags := 2, nameIndex := 7, descriptorIndex := 8, attributes := #[] }, { accessFlags := 9, nameIndex := 198, descriptorIndex := 121, attributes := #[] }, { accessFlags := 9, nameIndex := 201, descriptorIndex := 121, attributes := #[] }] 49 4 #[] #[{ accessFlags := 25, nameIndex := 354, descriptorIndex := 339, attributes := #[] }, { accessFlags := 25, nameIndex := 358, descriptorIndex := 339, attributes := #[] }, { accessFlags := 25, nameIndex := 361, descriptorIndex := 339, attributes := #[] }, { accessFlags := 26, nameIndex := 364, descriptorIndex := 339, attributes := #[] }, { accessFlags := 26, nameIndex := 365, descriptorIndex := 339, attributes := #[] }, { accessFlags := 26, nameIndex := 172, descriptorIndex := 173, attributes := #[] }, { accessFlags := 26, nameIndex := 176, descriptorIndex := 173, attributes := #[] }, { accessFlags := 8, nameIndex := 344, descriptorIndex := 339, attributes := #[] }, { accessFlags := 8, nameIndex := 338, descriptorIndex := 339, attributes := #[] }, { accessFlags := 4120, nameIndex := 245, descriptorIndex := 246, attributes := #[] }])
  fields := #[{ name := "E", type := .double, accessFlags := 25, slot := 0, constantValue := 0 }, { name := "PI", type := .double, accessFlags := 25, slot := 1, constantValue := 0 }, { name := "TAU", type := .double, accessFlags := 25, slot := 2, constantValue := 0 }, { name := "DEGREES_TO_RADIANS", type := .double, accessFlags := 26, slot := 3, constantValue := 0 }, { name := "RADIANS_TO_DEGREES", type := .double, accessFlags := 26, slot := 4, constantValue := 0 }, { name := "negativeZeroFloatBits", type := .long, accessFlags := 26, slot := 5, constantValue := 0 }, { name := "negativeZeroDoubleBits", type := .long, accessFlags := 26, slot := 6, constantValue := 0 }, { name := "twoToTheDoubleScaleUp", type := .double, accessFlags := 8, slot := 7, constantValue := 0 }, { name := "twoToTheDoubleScaleDown", type := .double, accessFlags := 8, slot := 8, constantValue := 0 }, { name := "$assertionsDisabled", type := .boolean, accessFlags := 4120, slot := 9, constantValue := 0 }]
  methods := #[k3m0, k3m1, k3m2]
  instanceTypes := #[]
  staticTypes := #[.double, .double, .double, .double, .double, .long, .long, .double, .double, .boolean]
  resolved := Array.replicate 460 none
  statics := none }

def pool4 : Array CpInfo := pool [(1, .class_ 2), (0, u "java/io/Serializable"), (0, .class_ 4), (0, u "java/lang/Object")] 2

/-- java/io/Serializable -/
def k4 : Class := { plain "java/io/Serializable" (some 0) with
  accessFlags := 1537
  interfaces := #[]
  cf := some (fileOf pool4 1 #[] #[] 1537 3 #[] #[])
  fields := #[]
  methods := #[]
  instanceTypes := #[]
  staticTypes := #[]
  resolved := Array.replicate 7 none
  statics := none }

def pool5 : Array CpInfo := pool [(2, .class_ 4), (1, u "java/lang/Object"), (0, u "<init>"), (0, u "()V"), (1, .class_ 10), (1, u "java/lang/Number"), (2, .class_ 14), (0, u "java/io/Serializable"), (0, u "serialVersionUID"), (0, u "J")] 20

def k5m0 : Method := { name := "<init>", desc := "()V", sig := { parameters := [], returnType := none }, accessFlags := 1, code := none }
/-- java/lang/Number -/
def k5 : Class := { plain "java/lang/Number" (some 0) with
  accessFlags := 1057
  interfaces := #[4]
  cf := some (fileOf pool5 8 #[] #[{ accessFlags := 1, nameIndex := 5, descriptorIndex := 6, attributes := #[] }] 1057 2 #[13] #[{ accessFlags := 26, nameIndex := 15, descriptorIndex := 16, attributes := #[] }])
  fields := #[{ name := "serialVersionUID", type := .long, accessFlags := 26, slot := 0, constantValue := 0 }]
  methods := #[k5m0]
  instanceTypes := #[]
  staticTypes := #[.long]
  resolved := Array.replicate 37 none
  statics := none }

def pool6 : Array CpInfo := pool [(1, .class_ 2), (0, u "java/lang/Comparable"), (0, .class_ 4), (0, u "java/lang/Object")] 7

/-- java/lang/Comparable -/
def k6 : Class := { plain "java/lang/Comparable" (some 0) with
  accessFlags := 1537
  interfaces := #[]
  cf := some (fileOf pool6 1 #[] #[] 1537 3 #[] #[])
  fields := #[]
  methods := #[]
  instanceTypes := #[]
  staticTypes := #[]
  resolved := Array.replicate 12 none
  statics := none }

def pool7 : Array CpInfo := pool [(1, .class_ 2), (0, u "java/lang/constant/Constable"), (0, .class_ 4), (0, u "java/lang/Object")] 6

/-- java/lang/constant/Constable -/
def k7 : Class := { plain "java/lang/constant/Constable" (some 0) with
  accessFlags := 1537
  interfaces := #[]
  cf := some (fileOf pool7 1 #[] #[] 1537 3 #[] #[])
  fields := #[]
  methods := #[]
  instanceTypes := #[]
  staticTypes := #[]
  resolved := Array.replicate 11 none
  statics := none }

def pool8 : Array CpInfo := pool [(1, .class_ 2), (0, u "java/lang/constant/ConstantDesc"), (0, .class_ 4), (0, u "java/lang/Object")] 32

/-- java/lang/constant/ConstantDesc -/
def k8 : Class := { plain "java/lang/constant/ConstantDesc" (some 0) with
  accessFlags := 1537
  interfaces := #[]
  cf := some (fileOf pool8 1 #[] #[] 1537 3 #[] #[])
  fields := #[]
  methods := #[]
  instanceTypes := #[]
  staticTypes := #[]
  resolved := Array.replicate 37 none
  statics := none }

def pool9 : Array CpInfo := pool [(1, .class_ 2), (0, u "java/lang/Integer"), (16, u "digits"), (0, u "[C"), (19, u "toUnsignedLong"), (0, u "(I)J"), (43, u "DigitOnes"), (0, u "[B"), (2, u "DigitTens"), (99, .class_ 190), (0, u "java/lang/Integer$IntegerCache"), (3, u "I"), (8, .class_ 204), (0, u "java/lang/Number"), (2, u "value"), (54, .long 4294967295), (39, u "TYPE"), (0, u "Ljava/lang/Class;"), (0, .class_ 305), (0, u "java/lang/Comparable"), (0, .class_ 307), (0, u "java/lang/constant/Constable"), (0, .class_ 309), (0, u "java/lang/constant/ConstantDesc"), (0, u "MIN_VALUE"), (1, u "MAX_VALUE"), (3, u "SIZE"), (1, u "BYTES"), (1, u "serialVersionUID"), (0, u "J")] 131

def k9c0 : Code := { maxStack := 4, maxLocals := 1, code := jdk_33_method_42_code, exceptionTable := #[], attributes := #[] }
def k9m0 : Method := { name := "toUnsignedLong", desc := "(I)J", sig := { parameters := [.int], returnType := some .long }, accessFlags := 9, code := some k9c0 }
/-- java/lang/Integer -/
def k9 : Class := { plain "java/lang/Integer" (some 5) with
  accessFlags := 49
  interfaces := #[6, 7, 8]
  cf := some (fileOf pool9 1 #[.nestMembers #[189]] #[{ accessFlags := 9, nameIndex := 40, descriptorIndex := 41, attributes := #[] }] 49 203 #[304, 306, 308] #[{ accessFlags := 25, nameIndex := 310, descriptorIndex := 194, attributes := #[] }, { accessFlags := 25, nameIndex := 312, descriptorIndex := 194, attributes := #[] }, { accessFlags := 25, nameIndex := 302, descriptorIndex := 303, attributes := #[] }, { accessFlags := 24, nameIndex := 19, descriptorIndex := 20, attributes := #[] }, { accessFlags := 24, nameIndex := 89, descriptorIndex := 86, attributes := #[] }, { accessFlags := 24, nameIndex := 85, descriptorIndex := 86, attributes := #[] }, { accessFlags := 18, nameIndex := 207, descriptorIndex := 194, attributes := #[] }, { accessFlags := 25, nameIndex := 316, descriptorIndex := 194, attributes := #[] }, { accessFlags := 25, nameIndex := 318, descriptorIndex := 194, attributes := #[] }, { accessFlags := 26, nameIndex := 320, descriptorIndex := 321, attributes := #[] }])
  fields := #[{ name := "MIN_VALUE", type := .int, accessFlags := 25, slot := 0, constantValue := 0 }, { name := "MAX_VALUE", type := .int, accessFlags := 25, slot := 1, constantValue := 0 }, { name := "TYPE", type := (.object "java/lang/Class"), accessFlags := 25, slot := 2, constantValue := 0 }, { name := "digits", type := (.array .char), accessFlags := 24, slot := 3, constantValue := 0 }, { name := "DigitTens", type := (.array .byte), accessFlags := 24, slot := 4, constantValue := 0 }, { name := "DigitOnes", type := (.array .byte), accessFlags := 24, slot := 5, constantValue := 0 }, { name := "value", type := .int, accessFlags := 18, slot := 0, constantValue := 0 }, { name := "SIZE", type := .int, accessFlags := 25, slot := 6, constantValue := 0 }, { name := "BYTES", type := .int, accessFlags := 25, slot := 7, constantValue := 0 }, { name := "serialVersionUID", type := .long, accessFlags := 26, slot := 8, constantValue := 0 }]
  methods := #[k9m0]
  instanceTypes := #[.int]
  staticTypes := #[.int, .int, (.object "java/lang/Class"), (.array .char), (.array .byte), (.array .byte), .int, .int, .long]
  resolved := Array.replicate 453 none
  statics := none }

def pool10 : Array CpInfo := pool [(1, u "java/lang/Cloneable"), (0, .class_ 1), (0, u "java/lang/Object"), (0, .class_ 3)] 3

/-- java/lang/Cloneable -/
def k10 : Class := { plain "java/lang/Cloneable" (some 0) with
  accessFlags := 1537
  interfaces := #[]
  cf := some (fileOf pool10 2 #[] #[] 1537 4 #[] #[])
  fields := #[]
  methods := #[]
  instanceTypes := #[]
  staticTypes := #[]
  resolved := Array.replicate 8 none
  statics := none }

/-- the primitive byte -/
def k11 : Class := { plain "byte" none with kind := .primitive 'B', accessFlags := 0x411 }
/-- [B -/
def k12 : Class := { plain "[B" (some 0) with kind := .array 11 .byte, interfaces := #[10, 4], accessFlags := 1041 }

/-- the primitive int -/
def k13 : Class := { plain "int" none with kind := .primitive 'I', accessFlags := 0x411 }
/-- [I -/
def k14 : Class := { plain "[I" (some 0) with kind := .array 13 .int, interfaces := #[10, 4], accessFlags := 1041 }

/-- the primitive long -/
def k15 : Class := { plain "long" none with kind := .primitive 'J', accessFlags := 0x411 }
/-- [J -/
def k16 : Class := { plain "[J" (some 0) with kind := .array 15 .long, interfaces := #[10, 4], accessFlags := 1041 }

def heap : Heap := #[]
def classes : Array Class := #[k0, k1, k2, k3, k4, k5, k6, k7, k8, k9, k10, k11, k12, k13, k14, k15, k16]
def interned : List (Array UInt16 × Addr) := []
def slotsUsed : Nat := 0
def theMethod : MethodId := ⟨1, 1⟩
def args0 : Array Value := #[.long 5, .int 3, .long 77, .long 88]
def aboutOver (below : List Frame) : State where
  vm := { classes := classes, interned := interned.toArray }
  heap := heap
  slotsUsed := slotsUsed
  threads := #[{ frames := .invoking theMethod args0 :: below }]
def below0 : List Frame := [.native { method := ⟨0, 0⟩, args := #[] }]
def about1 : State := aboutOver below0
def p0 : Program := .bare "" "" ""
def e0 : Env := launch0.env 0 0 0
theorem w_frames : about1.frames = Frame.invoking theMethod args0 :: below0 := rfl
set_option maxRecDepth 65536 in
theorem w_args : argsFit about1.vm theMethod args0 = true := by decide +kernel
set_option maxRecDepth 65536 in
theorem w_heap : heapFits about1 = true := by decide +kernel
set_option maxRecDepth 65536 in
theorem w_runnable : about1.curStatus? = some .runnable := by decide +kernel
set_option maxRecDepth 65536 in
theorem w_alone : about1.alone = true := by decide +kernel
set_option maxRecDepth 65536 in
theorem w_named : about1.methodNamed? x = some theMethod := by decide +kernel
set_option maxRecDepth 65536 in
theorem w_hears : about1.hears theMethod below0 = true := by decide +kernel
set_option maxRecDepth 65536 in
theorem w_ripe : about1.ripe theMethod args0 below0 = true := by decide +kernel
theorem w_running : about1.status = .running := rfl
set_option maxRecDepth 65536 in
theorem w_room : about1.hasRoom e0.platform room_1 = true :=
  launch0.hasRoom_least _ room_1 (by decide +kernel) (by decide +kernel) (by decide +kernel) (by decide +kernel) (by decide +kernel) (by decide +kernel)
theorem allAtoms_all (ts : List Jvm.Cond) (a : Array Jvm.Value) (st : Jvm.State) : (allAtoms ts).before a st = ts.all (fun c => c.before a st) := by
  induction ts with
  | nil => rfl
  | cons c t ih =>
    show (Jvm.Cond.and c (allAtoms t)).before a st = _
    rw [Jvm.Cond.before_and, ih, List.all_cons]
def words1 : List Jvm.Cond := Jvm.Cond.code x code maxLocals ret :: tables_1
/-- a 'code' word, met by the world's own term for the bytes: nothing is compared byte by byte -/
theorem code_word {y : MethodName} {bytes : ByteArray} {mx : Nat} {rt : Option FieldType} {a : Array Value} {s : State} {m : MethodId} {meth : Method} {c : Code} (h1 : s.methodNamed? y = some m) (h2 : s.vm.method? m = some meth) (h3 : meth.code = some c) (h4 : c.code = bytes)
    (h5 : (c.maxLocals == mx && c.exceptionTable.isEmpty && decide (c.maxStack ≤ mostOperands) && decide (meth.sig.returnType = rt) && !meth.locks && decide (parseMethodDescriptor y.desc = some meth.sig)) = true) : (Jvm.Cond.code y bytes mx rt).before a s = true := by
  simp only [Bool.and_eq_true, beq_iff_eq, Bool.not_eq_true', decide_eq_true_eq] at h5
  obtain ⟨⟨⟨⟨⟨g1, g2⟩, g3⟩, g4⟩, g5⟩, g6⟩ := h5
  simp [Cond.before, Cond.holds, Cond.value, h1, h2, h3, h4, g1, g2, g3, g4, g5, g6]
def isCode : Jvm.Cond → Bool
  | .code _ _ _ _ => true
  | _ => false
theorem all_split {L : List Jvm.Cond} {P : Jvm.Cond → Bool} (h1 : L.all (fun c => isCode c || P c) = true) (h2 : ∀ c ∈ L.filter isCode, P c = true) : L.all P = true := by
  refine List.all_eq_true.mpr fun c hc => ?_
  have h := List.all_eq_true.mp h1 c hc
  rcases Bool.eq_false_or_eq_true (isCode c) with hi | hi
  · exact h2 c (List.mem_filter.mpr ⟨hc, hi⟩)
  · simpa [hi] using h
set_option maxRecDepth 65536 in
theorem w_c0 : (Jvm.Cond.code x code maxLocals ret).before args0 about1 = true := code_word (m := ⟨1, 1⟩) (meth := k1m1) (c := k1c1) (by decide +kernel) rfl rfl rfl (by decide +kernel)
set_option maxRecDepth 65536 in
theorem w_c1 : (Jvm.Cond.code ({ cls := "com/example/runpulse/runpulse/KnownKeys", name := "<init>", desc := "(J)V" } : Jvm.MethodName) prog_23_method_1_code (3 : Nat) (Option.none : Option Jvm.ClassFile.FieldType)).before args0 about1 = true := code_word (m := ⟨2, 0⟩) (meth := k2m0) (c := k2c0) (by decide +kernel) rfl rfl rfl (by decide +kernel)
set_option maxRecDepth 65536 in
theorem w_c2 : (Jvm.Cond.code ({ cls := "java/lang/Object", name := "<init>", desc := "()V" } : Jvm.MethodName) object_method_1_code (1 : Nat) (Option.none : Option Jvm.ClassFile.FieldType)).before args0 about1 = true := code_word (m := ⟨0, 0⟩) (meth := k0m0) (c := k0c0) (by decide +kernel) rfl rfl rfl (by decide +kernel)
set_option maxRecDepth 65536 in
theorem w_c3 : (Jvm.Cond.code ({ cls := "java/lang/Math", name := "max", desc := "(JJ)J" } : Jvm.MethodName) jdk_29_method_66_code (4 : Nat) (Option.some Jvm.ClassFile.FieldType.long)).before args0 about1 = true := code_word (m := ⟨3, 1⟩) (meth := k3m1) (c := k3c1) (by decide +kernel) rfl rfl rfl (by decide +kernel)
set_option maxRecDepth 65536 in
theorem w_c4 : (Jvm.Cond.code ({ cls := "java/lang/Math", name := "min", desc := "(JJ)J" } : Jvm.MethodName) jdk_29_method_70_code (4 : Nat) (Option.some Jvm.ClassFile.FieldType.long)).before args0 about1 = true := code_word (m := ⟨3, 2⟩) (meth := k3m2) (c := k3c2) (by decide +kernel) rfl rfl rfl (by decide +kernel)
set_option maxRecDepth 65536 in
theorem w_c5 : (Jvm.Cond.code ({ cls := "com/example/runpulse/runpulse/KnownKeys", name := "isFull", desc := "()Z" } : Jvm.MethodName) prog_23_method_2_code (1 : Nat) (Option.some Jvm.ClassFile.FieldType.boolean)).before args0 about1 = true := code_word (m := ⟨2, 1⟩) (meth := k2m1) (c := k2c1) (by decide +kernel) rfl rfl rfl (by decide +kernel)
set_option maxRecDepth 65536 in
theorem w_c6 : (Jvm.Cond.code ({ cls := "com/example/runpulse/runpulse/KnownKeys", name := "add", desc := "(J)V" } : Jvm.MethodName) prog_23_method_4_code (6 : Nat) (Option.none : Option Jvm.ClassFile.FieldType)).before args0 about1 = true := code_word (m := ⟨2, 2⟩) (meth := k2m2) (c := k2c2) (by decide +kernel) rfl rfl rfl (by decide +kernel)
set_option maxRecDepth 65536 in
theorem w_c7 : (Jvm.Cond.code ({ cls := "com/example/runpulse/runpulse/KnownKeys", name := "bit", desc := "(JI)J" } : Jvm.MethodName) prog_23_method_6_code (5 : Nat) (Option.some Jvm.ClassFile.FieldType.long)).before args0 about1 = true := code_word (m := ⟨2, 3⟩) (meth := k2m3) (c := k2c3) (by decide +kernel) rfl rfl rfl (by decide +kernel)
set_option maxRecDepth 65536 in
theorem w_c8 : (Jvm.Cond.code ({ cls := "java/lang/Integer", name := "toUnsignedLong", desc := "(I)J" } : Jvm.MethodName) jdk_33_method_42_code (1 : Nat) (Option.some Jvm.ClassFile.FieldType.long)).before args0 about1 = true := code_word (m := ⟨9, 0⟩) (meth := k9m0) (c := k9c0) (by decide +kernel) rfl rfl rfl (by decide +kernel)
def codes1 : List Jvm.Cond := [Jvm.Cond.code x code maxLocals ret, Jvm.Cond.code ({ cls := "com/example/runpulse/runpulse/KnownKeys", name := "<init>", desc := "(J)V" } : Jvm.MethodName) prog_23_method_1_code (3 : Nat) (Option.none : Option Jvm.ClassFile.FieldType), Jvm.Cond.code ({ cls := "java/lang/Object", name := "<init>", desc := "()V" } : Jvm.MethodName) object_method_1_code (1 : Nat) (Option.none : Option Jvm.ClassFile.FieldType), Jvm.Cond.code ({ cls := "java/lang/Math", name := "max", desc := "(JJ)J" } : Jvm.MethodName) jdk_29_method_66_code (4 : Nat) (Option.some Jvm.ClassFile.FieldType.long), Jvm.Cond.code ({ cls := "java/lang/Math", name := "min", desc := "(JJ)J" } : Jvm.MethodName) jdk_29_method_70_code (4 : Nat) (Option.some Jvm.ClassFile.FieldType.long), Jvm.Cond.code ({ cls := "com/example/runpulse/runpulse/KnownKeys", name := "isFull", desc := "()Z" } : Jvm.MethodName) prog_23_method_2_code (1 : Nat) (Option.some Jvm.ClassFile.FieldType.boolean), Jvm.Cond.code ({ cls := "com/example/runpulse/runpulse/KnownKeys", name := "add", desc := "(J)V" } : Jvm.MethodName) prog_23_method_4_code (6 : Nat) (Option.none : Option Jvm.ClassFile.FieldType), Jvm.Cond.code ({ cls := "com/example/runpulse/runpulse/KnownKeys", name := "bit", desc := "(JI)J" } : Jvm.MethodName) prog_23_method_6_code (5 : Nat) (Option.some Jvm.ClassFile.FieldType.long), Jvm.Cond.code ({ cls := "java/lang/Integer", name := "toUnsignedLong", desc := "(I)J" } : Jvm.MethodName) jdk_33_method_42_code (1 : Nat) (Option.some Jvm.ClassFile.FieldType.long)]
set_option maxRecDepth 65536 in
theorem codes_eq : words1.filter isCode = codes1 := rfl
theorem w_codes : ∀ c ∈ words1.filter isCode, c.before args0 about1 = true := by
  rw [codes_eq]
  intro c hc
  simp only [codes1, List.mem_cons, List.not_mem_nil, or_false] at hc
  rcases hc with rfl | rfl | rfl | rfl | rfl | rfl | rfl | rfl | rfl
  · exact w_c0
  · exact w_c1
  · exact w_c2
  · exact w_c3
  · exact w_c4
  · exact w_c5
  · exact w_c6
  · exact w_c7
  · exact w_c8
set_option maxRecDepth 65536 in
theorem w_t1 : (words1.take 24).all (fun c => isCode c || c.before args0 about1) = true := by decide +kernel
set_option maxRecDepth 65536 in
theorem w_t2 : (words1.drop 24).all (fun c => isCode c || c.before args0 about1) = true := by decide +kernel
theorem w_tables : (allAtoms (Jvm.Cond.code x code maxLocals ret :: tables_1)).before args0 about1 = true := by
  rw [allAtoms_all]
  show words1.all (fun c => c.before args0 about1) = true
  refine all_split ?_ w_codes
  rw [← List.take_append_drop 24 words1, List.all_append, w_t1, w_t2]
  rfl
set_option maxRecDepth 65536 in
theorem w_case : (Jvm.Cond.and given_1 narrow_1).before args0 about1 = true := by decide +kernel
theorem w_applies : (headSpec (Jvm.Cond.code x code maxLocals ret :: tables_1) room_1).applies x e0.platform about1 = true :=
  (Spec.applies_iff w_frames).mpr ⟨w_running, w_runnable, w_alone, w_named, w_hears, w_ripe, w_room, w_tables⟩
theorem atStart : AtStart classFile x code maxLocals ret World_1 tables_1 room_1 Calls_1 rest_1 Pre_1 launch0 p0 e0 about1 theMethod args0 below0 :=
  ⟨lists_1, trivial, launch0.admits_env _ _ _, launch0.least_env, fairChoices_fair.cas, fairChoices_fair.clock, w_frames, w_args, w_heap, w_applies, trivial, trivial, w_case⟩
end start1
theorem witness_1 : WitnessClaimed_1 := ⟨start1.p0, start1.e0, start1.about1, start1.theMethod, start1.args0, start1.below0, start1.atStart⟩
end Jvm.Pilot.@@N@@
