import JvmDerived
import JvmDerived.Pilot.@@N@@Statement
import JvmDerived.Pilot.@@N@@Code
set_option linter.unusedVariables false
set_option linter.unusedSimpArgs false
namespace Jvm.RoadKit
open Sem ClassFile Op Lib Jvm.Stand Jvm.Free Jvm.LawKit
section OwnGo
variable {p : Program} {l : Launch} {e : Env} {R : Room} {s : State} {m : MethodId} {args : Array Value} {below : List Frame} {meth : Method} {c : Code} {T T' : State} {locs : List Loc} {cells slots ck sk : Nat} {Q : Option Value → Heap → List Loc → Prop}
/-- from the state T the body comes to its end, with Q -/
def Go (p : Program) (e : Env) (below : List Frame) (s : State) (ck sk : Nat) (Q : Option Value → Heap → List Loc → Prop) (T : State) : Prop :=
  ∃ s₂ o, Steps p.tables e below T s₂ ∧ s₂.status = .running ∧ Ended s₂ below o ∧ ∃ v L, o = .returned v ∧ Q v s₂.heap L ∧ FrameEnd s o s₂ L ck sk
theorem Go.by (h : ∀ t, Steps p.tables e below T' t → Steps p.tables e below T t) (g : Go p e below s ck sk Q T') : Go p e below s ck sk Q T := by
  obtain ⟨s₂, o, h1, r⟩ := g
  exact ⟨s₂, o, h _ h1, r⟩
theorem Go.tr (h : Steps p.tables e below T T') (g : Go p e below s ck sk Q T') : Go p e below s ck sk Q T := by
  obtain ⟨s₂, o, h1, r⟩ := g
  exact ⟨s₂, o, h.trans h1, r⟩
theorem Go.fin (X : Stand p l e R s m args below meth c T locs cells slots) {v : Option Value} (hv : meth.sig.returnType = none → v = none) (hlk : meth.locks = false)
    (st : ∀ fs : List Frame, (∀ (f : JFrame) (acts : List Action), f.method = m → f.locked = none → f.entered = [] → (doReturn e (T.setTop f) acts v).1 = T.setFrames fs) → Steps p.tables e below T' (T.setFrames fs))
    (hq : Q v T.heap locs) (hc : cells ≤ ck) (hs : slots ≤ sk) : Go p e below s ck sk Q T' := by
  obtain ⟨fs, hr, hrun, hended, hW, hsame⟩ := X.leave hv hlk
  exact ⟨_, _, st fs hr, hrun, hended, _, _, rfl, hq, ⟨_, rfl⟩, hW, hsame.mono hc hs⟩
theorem Go.retV (X : Stand p l e R s m args below meth c T locs cells slots) (hx : p.tables.exec = Jvm.exec) {pc : Nat} {Ls : Array Slot} (hret : meth.sig.returnType = none) (hlk : meth.locks = false) (hd : decode c.code pc = .ok (.return_, 1))
    (hq : Q none T.heap locs) (hc : cells ≤ ck) (hs : slots ≤ sk) : Go p e below s ck sk Q (T.setTop (mkF m pc Ls [])) :=
  Go.fin X (fun _ => rfl) hlk (fun fs hr => X.returnOut hx hret hd hr) hq hc hs
theorem Go.retN (X : Stand p l e R s m args below meth c T locs cells slots) (hx : p.tables.exec = Jvm.exec) {pc : Nat} {Ls : Array Slot} {z : Int32} {t : FieldType} {rest : List Value} (hret : meth.sig.returnType = some t) (ht : t = .boolean ∨ t = .byte ∨ t = .char ∨ t = .short) (hlk : meth.locks = false) (hd : decode c.code pc = .ok (.ireturn, 1))
    (hq : Q (some (.int (nar t z))) T.heap locs) (hc : cells ≤ ck) (hs : slots ≤ sk) : Go p e below s ck sk Q (T.setTop (mkF m pc Ls (.int z :: rest))) :=
  Go.fin X (fun h => by rw [hret] at h; cases h) hlk (fun fs hr => Jvm.RoadKit.retN X hx hret ht hd hr) hq hc hs
theorem Go.retI (X : Stand p l e R s m args below meth c T locs cells slots) (hx : p.tables.exec = Jvm.exec) {pc : Nat} {Ls : Array Slot} {z : Int32} {rest : List Value} (hret : meth.sig.returnType = some .int) (hlk : meth.locks = false) (hd : decode c.code pc = .ok (.ireturn, 1))
    (hq : Q (some (.int z)) T.heap locs) (hc : cells ≤ ck) (hs : slots ≤ sk) : Go p e below s ck sk Q (T.setTop (mkF m pc Ls (.int z :: rest))) :=
  Go.fin X (fun h => by rw [hret] at h; cases h) hlk (fun fs hr => retOut X hx hret rfl (Or.inl ⟨rfl, Or.inl rfl, z, rfl⟩) hd hr) hq hc hs
theorem Go.retJ (X : Stand p l e R s m args below meth c T locs cells slots) (hx : p.tables.exec = Jvm.exec) {pc : Nat} {Ls : Array Slot} {z : Int64} {rest : List Value} (hret : meth.sig.returnType = some .long) (hlk : meth.locks = false) (hd : decode c.code pc = .ok (.lreturn, 1))
    (hq : Q (some (.long z)) T.heap locs) (hc : cells ≤ ck) (hs : slots ≤ sk) : Go p e below s ck sk Q (T.setTop (mkF m pc Ls (.long z :: rest))) :=
  Go.fin X (fun h => by rw [hret] at h; cases h) hlk (fun fs hr => retOut X hx hret rfl (Or.inr (Or.inl ⟨rfl, rfl, z, rfl⟩)) hd hr) hq hc hs
theorem Go.retR (X : Stand p l e R s m args below meth c T locs cells slots) (hx : p.tables.exec = Jvm.exec) {pc : Nat} {Ls : Array Slot} {w : Value} {t : FieldType} {rest : List Value} (hret : meth.sig.returnType = some t) (ht : t.isReference = true) (hw : w.isRef = true) (hlk : meth.locks = false) (hd : decode c.code pc = .ok (.areturn, 1))
    (hq : Q (some w) T.heap locs) (hc : cells ≤ ck) (hs : slots ≤ sk) : Go p e below s ck sk Q (T.setTop (mkF m pc Ls (w :: rest))) := by
  refine Go.fin X (fun h => by rw [hret] at h; cases h) hlk (fun fs hr => retOut X hx hret ?_ (Or.inr (Or.inr (Or.inr (Or.inr ⟨rfl, ht, hw⟩)))) hd hr) hq hc hs
  rcases ref_cases hw with rfl | ⟨a, rfl⟩ <;> cases t <;> first | rfl | cases ht
/-- the same where Strings may be interned on the way -/
def GoW (p : Program) (e : Env) (below : List Frame) (s : State) (ck sk : Nat) (Q : Option Value → Heap → List Loc → Prop) (T : State) : Prop :=
  ∃ s₂ o, Steps p.tables e below T s₂ ∧ s₂.status = .running ∧ Ended s₂ below o ∧ ∃ v L, o = .returned v ∧ Q v s₂.heap L ∧ ReturnedEndW s o s₂ L ck sk
theorem GoW.by (h : ∀ t, Steps p.tables e below T' t → Steps p.tables e below T t) (g : GoW p e below s ck sk Q T') : GoW p e below s ck sk Q T := by
  obtain ⟨s₂, o, h1, r⟩ := g
  exact ⟨s₂, o, h _ h1, r⟩
theorem GoW.tr (h : Steps p.tables e below T T') (g : GoW p e below s ck sk Q T') : GoW p e below s ck sk Q T := by
  obtain ⟨s₂, o, h1, r⟩ := g
  exact ⟨s₂, o, h.trans h1, r⟩
theorem GoW.fin {vm1 : Vm} {k1 : Nat} (X : Stand p l e R (s.setVm vm1) m args below meth c T locs cells slots) (hS : s.Since vm1 k1) (hk : k1 ≤ T.heap.size) {v : Option Value} (hv : meth.sig.returnType = none → v = none) (hlk : meth.locks = false)
    (st : ∀ fs : List Frame, (∀ (f : JFrame) (acts : List Action), f.method = m → f.locked = none → f.entered = [] → (doReturn e (T.setTop f) acts v).1 = T.setFrames fs) → Steps p.tables e below T' (T.setFrames fs))
    (hq : Q v T.heap locs) (hc : cells ≤ ck) (hs : slots ≤ sk) : GoW p e below s ck sk Q T' := by
  obtain ⟨fs, hr, hrun, hended, hW, hsame⟩ := X.leave hv hlk
  obtain ⟨q1, q2, q3⟩ := hS.ended (U := T.setFrames fs) hW hk hsame
  exact ⟨_, _, st fs hr, hrun, hended, _, _, rfl, hq, ⟨_, rfl⟩, q1, q2, q3.mono hc hs⟩
theorem GoW.retV {vm1 : Vm} {k1 : Nat} (X : Stand p l e R (s.setVm vm1) m args below meth c T locs cells slots) (hS : s.Since vm1 k1) (hk : k1 ≤ T.heap.size) (hx : p.tables.exec = Jvm.exec) {pc : Nat} {Ls : Array Slot} (hret : meth.sig.returnType = none) (hlk : meth.locks = false) (hd : decode c.code pc = .ok (.return_, 1))
    (hq : Q none T.heap locs) (hc : cells ≤ ck) (hs : slots ≤ sk) : GoW p e below s ck sk Q (T.setTop (mkF m pc Ls [])) :=
  GoW.fin X hS hk (fun _ => rfl) hlk (fun fs hr => X.returnOut hx hret hd hr) hq hc hs
theorem GoW.retN {vm1 : Vm} {k1 : Nat} (X : Stand p l e R (s.setVm vm1) m args below meth c T locs cells slots) (hS : s.Since vm1 k1) (hk : k1 ≤ T.heap.size) (hx : p.tables.exec = Jvm.exec) {pc : Nat} {Ls : Array Slot} {z : Int32} {t : FieldType} {rest : List Value} (hret : meth.sig.returnType = some t) (ht : t = .boolean ∨ t = .byte ∨ t = .char ∨ t = .short) (hlk : meth.locks = false) (hd : decode c.code pc = .ok (.ireturn, 1))
    (hq : Q (some (.int (nar t z))) T.heap locs) (hc : cells ≤ ck) (hs : slots ≤ sk) : GoW p e below s ck sk Q (T.setTop (mkF m pc Ls (.int z :: rest))) :=
  GoW.fin X hS hk (fun h => by rw [hret] at h; cases h) hlk (fun fs hr => Jvm.RoadKit.retN X hx hret ht hd hr) hq hc hs
theorem GoW.retR {vm1 : Vm} {k1 : Nat} (X : Stand p l e R (s.setVm vm1) m args below meth c T locs cells slots) (hS : s.Since vm1 k1) (hk : k1 ≤ T.heap.size) (hx : p.tables.exec = Jvm.exec) {pc : Nat} {Ls : Array Slot} {w : Value} {t : FieldType} {rest : List Value} (hret : meth.sig.returnType = some t) (ht : t.isReference = true) (hw : w.isRef = true) (hlk : meth.locks = false) (hd : decode c.code pc = .ok (.areturn, 1))
    (hq : Q (some w) T.heap locs) (hc : cells ≤ ck) (hs : slots ≤ sk) : GoW p e below s ck sk Q (T.setTop (mkF m pc Ls (w :: rest))) := by
  refine GoW.fin X hS hk (fun h => by rw [hret] at h; cases h) hlk (fun fs hr => retOut X hx hret ?_ (Or.inr (Or.inr (Or.inr (Or.inr ⟨rfl, ht, hw⟩)))) hd hr) hq hc hs
  rcases ref_cases hw with rfl | ⟨a, rfl⟩ <;> cases t <;> first | rfl | cases ht
end OwnGo
theorem own_selp {Z s : State} {a0 args : Array Value} {y : MethodName} {n : Nat} (hZ : Z.Warmed39 s.vm) (wi : (Cond.instantiable y.cls n).before a0 Z = true) (wp : (Cond.privateMethod y).before a0 Z = true) (wm : (Cond.instanceMethod y).before a0 Z = true) (hy : y.cls ≠ "java/lang/invoke/MethodHandle" ∧ y.cls ≠ "java/lang/invoke/VarHandle") : (Cond.selects y.cls y y).before args s = true := by
  obtain ⟨c, k, h1, h2, -, h4, -⟩ := Cond.instantiable_spec (mv (args := args) hZ wi)
  exact selects_self_of_private h1 h2 (by simpa using (Bool.or_eq_false_iff.mp h4).1) (Cond.privateMethod_at (mvP (args := args) hZ wp)) (mv hZ wm) hy
theorem own_zn {z : Int32} (h : z = (0 : Int32) ∨ z = (1 : Int32)) : narrow .boolean (.int z) = .int z := by rcases h with rfl | rfl <;> rfl
theorem own_zf {z : Int32} (h : z = (0 : Int32) ∨ z = (1 : Int32)) : fits .boolean (.int z) = true := by rcases h with rfl | rfl <;> rfl
theorem own_ns {Z : State} {h : Heap} {b : Addr} {C : String} (E : Exa Z h b C) : ∀ cell : Cell, h[b]? = some cell → cell.vm.isStatics = false := fun cell hc => by
  obtain ⟨c, _, h1, -, -, h4, -⟩ := E
  cases h1.symm.trans hc
  exact h4
theorem own_stakeep {Z : State} {h h' : Heap} {C n d : String} {v : Value} {ws : List Addr} (F : Sta Z h C n d v) (K : Keep h h' ws) (q : ∀ x ∈ ws, ∀ cell : Cell, h[x]? = some cell → cell.vm.isStatics = false) : Sta Z h' C n d v := by
  obtain ⟨cf, i, k, f, st, cell, h1, h2, h3, h4, h5, h6, h7⟩ := F
  refine ⟨cf, i, k, f, st, cell, h1, h2, h3, h4, K.2.1 st cell h5 fun z => ?_, h6, h7⟩
  rw [q st z cell h5] at h6
  cases h6
section OwnLong
variable {Z : State} {h h' : Heap} {a b : Addr} {k : ClassId} {n j : Int32} {x : Int64} {ws : List Addr} {sl : Nat} {v : Value}
/-- a long[] of the length n, whatever it holds -/
def LA (Z : State) (h : Heap) (a : Addr) (k : ClassId) (n : Int32) : Prop := ∃ c : Cell, Arr Z h a c .long ∧ c.cls = k ∧ c.slots.size = n.toNatClampNeg ∧ ¬ n < 0 ∧ ∀ i, i < c.slots.size → ∃ x : Int64, c.slots[i]? = some (.long x)
theorem LA.lt (F : LA Z h a k n) : a < h.size := by obtain ⟨c, A, -⟩ := F; exact A.lt
theorem LA.ext (F : LA Z h a k n) (E : Ext h h') : LA Z h' a k n := by obtain ⟨c, A, r⟩ := F; exact ⟨c, A.ext E, r⟩
theorem LA.other (F : LA Z h b k n) (W : Wr h h' a sl v) (q : b ≠ a) : LA Z h' b k n := by obtain ⟨c, A, r⟩ := F; exact ⟨c, A.other W q, r⟩
theorem LA.keep (F : LA Z h a k n) (K : Keep h h' ws) (q : a ∉ ws) : LA Z h' a k n := by obtain ⟨c, A, r⟩ := F; exact ⟨c, ⟨K.2.1 a c A.1 q, A.2⟩, r⟩
theorem LA.new (A : Arr Z h a (newA k .long n) .long) (q : ¬ n < 0) : LA Z h a k n := ⟨_, A, rfl, sz_new _ _ _, q, fun i hi => ⟨0, by
  have hi' : i < n.toNatClampNeg := by rw [sz_new] at hi; exact hi
  show (Array.replicate n.toNatClampNeg (defaultValue .long))[i]? = _
  simp [hi', defaultValue]⟩⟩
theorem LA.set {c : Cell} (A : Arr Z h a c .long) (q1 : c.cls = k) (S : c.slots.size = n.toNatClampNeg) (q3 : ¬ n < 0) (G : ∀ i, i < c.slots.size → ∃ x : Int64, c.slots[i]? = some (.long x)) (W : Wr h h' a sl (.long x)) : LA Z h' a k n := by
  refine ⟨_, A.same W, q1, by rw [sz_set]; exact S, q3, fun i hi => ?_⟩
  rw [sz_set] at hi
  by_cases e : sl = i
  · subst e; exact ⟨x, by simp [Cell.setSlot, hi]⟩
  · obtain ⟨y, hy⟩ := G i hi
    exact ⟨y, by rw [← hy]; exact Array.getElem?_setIfInBounds_ne e⟩
end OwnLong
section OwnStart
variable {args : Array Value} {s : State} {a b t : Term}
theorem own_eqI {n : Int32} (h : (Cond.eq a (.int n)).value args s none s [] = some true) : a.eval args s none [] s = some (.int n) := by
  cases ha : a.eval args s none [] s with
  | none => simp [Cond.value, ha] at h
  | some x => cases x <;> simp [Cond.value, ha, Term.eval] at h ⊢ <;> exact h
theorem own_eqL {n : Int64} (h : (Cond.eq a (.long n)).value args s none s [] = some true) : a.eval args s none [] s = some (.long n) := by
  cases ha : a.eval args s none [] s with
  | none => simp [Cond.value, ha] at h
  | some x => cases x <;> simp [Cond.value, ha, Term.eval] at h ⊢ <;> exact h
theorem own_eqR {x : Addr} (h : (Cond.eq a b).value args s none s [] = some true) (hb : b.eval args s none [] s = some (.ref x)) : a.eval args s none [] s = some (.ref x) := by
  cases ha : a.eval args s none [] s with
  | none => simp [Cond.value, ha] at h
  | some y => cases y <;> simp [Cond.value, ha, hb] at h ⊢ <;> exact h
theorem own_neR {x y : Addr} (h : (Cond.not (Cond.eq a b)).value args s none s [] = some true) (ha : a.eval args s none [] s = some (.ref x)) (hb : b.eval args s none [] s = some (.ref y)) : x ≠ y := by
  intro e
  subst e
  simp [Cond.value, ha, hb] at h
theorem own_lenv {n : Int32} {x : Addr} {cl : Cell} (h : (Term.length t).eval args s none [] s = some (.int n)) (ht : t.eval args s none [] s = some (.ref x)) (hc : s.heap[x]? = some cl) : cl.slots.size < 2 ^ 31 ∧ cl.slots.size.toInt32 = n := by
  obtain ⟨a', cell, e1, e2, e3⟩ := Term.length_spec h
  cases ht.symm.trans e1
  have hcl : cell = cl := by
    simp only [State.arrayAt?, hc, Option.bind_eq_bind, Option.bind_some] at e2
    cases hk : s.vm.classes[cl.cls]? with
    | none => simp [hk] at e2
    | some k =>
      simp only [hk, Option.bind_some] at e2
      split at e2
      · cases e2
      · split at e2
        · exact (Option.some.inj e2).symm
        · cases e2
  subst hcl
  refine ⟨?_, (Value.int.inj e3).symm⟩
  simp only [Term.eval, ht, e2, Option.bind_eq_bind, Option.bind_some] at h
  split at h
  · assumption
  · cases h
end OwnStart
end Jvm.RoadKit
namespace Jvm.Pilot.@@N@@
open Jvm Jvm.ClassFile Sem Op Lib Jvm.Free Jvm.Stand Jvm.LawKit Jvm.RoadKit Bundle Jvm.Pilot.@@N@@.Jvm.D
theorem dHx_0 : decode method_2_code 0 = .ok (.iload_n 0, 1) := by decide +kernel
theorem dHx_1 : decode method_2_code 1 = .ok (.bipush 10, 2) := by decide +kernel
theorem dHx_3 : decode method_2_code 3 = .ok (.if_icmp .ge 9, 3) := by decide +kernel
theorem dHx_6 : decode method_2_code 6 = .ok (.bipush 48, 2) := by decide +kernel
theorem dHx_8 : decode method_2_code 8 = .ok (.iload_n 0, 1) := by decide +kernel
theorem dHx_9 : decode method_2_code 9 = .ok (.iadd, 1) := by decide +kernel
theorem dHx_10 : decode method_2_code 10 = .ok (.i2c, 1) := by decide +kernel
theorem dHx_11 : decode method_2_code 11 = .ok (.ireturn, 1) := by decide +kernel
theorem dHx_12 : decode method_2_code 12 = .ok (.bipush 65, 2) := by decide +kernel
theorem dHx_14 : decode method_2_code 14 = .ok (.iload_n 0, 1) := by decide +kernel
theorem dHx_15 : decode method_2_code 15 = .ok (.bipush 10, 2) := by decide +kernel
theorem dHx_17 : decode method_2_code 17 = .ok (.isub, 1) := by decide +kernel
theorem dHx_18 : decode method_2_code 18 = .ok (.iadd, 1) := by decide +kernel
theorem dHx_19 : decode method_2_code 19 = .ok (.i2c, 1) := by decide +kernel
theorem dHx_20 : decode method_2_code 20 = .ok (.ireturn, 1) := by decide +kernel
theorem pnHx : plainName "com/example/pctenc/pctenc/EscapeWritePinLaw" = true := by first | (simp [plainName, overriddenIn]; done) | decide +kernel
theorem efHx (m : MethodId) (dg : Int32) : entryFrame m #[(.int dg)] 1 = mkF m 0 #[.val (.int dg)] [] := by first | (simp [entryFrame, mkF, argsToLocals, Value.category]; done) | rfl
def fHx (dg : Int32) : Int32 := (if dg < (10 : Int32) then (nar .char (((48 : Int32) + dg).toUInt32.toUInt16.toUInt32.toInt32)) else (nar .char (((65 : Int32) + (dg - (10 : Int32))).toUInt32.toUInt16.toUInt32.toInt32)))
def QHx (Z : State) (dg : Int32) (h0 : Heap) (n0 : Nat) (v : Option Value) (h : Heap) (L : List Loc) : Prop := v = some (.int (fHx dg)) ∧ Fr n0 L ∧ h = h0
set_option maxRecDepth 65536 in
set_option maxHeartbeats 40000000 in
theorem rmHx (l : Launch) (Z : State) (a0 : Array Value) (hw : ∀ d ∈ tables_1, d.before a0 Z = true) (ws : List Jvm.Cond) (dg : Int32) (h0 : Heap) (n0 : Nat) (Z0 : n0 ≤ h0.size) :
    MetFree l (⟨"com/example/pctenc/pctenc/EscapeWritePinLaw", "hex", "(I)C"⟩ : MethodName) (head1 (Jvm.Cond.code (⟨"com/example/pctenc/pctenc/EscapeWritePinLaw", "hex", "(I)C"⟩ : MethodName) method_2_code 1 (some .char) :: ws) ({ frames := 0, cells := 0, slots := 0, locals := 0 } : Room)) (fun aa_ U_ => aa_ = #[(.int dg)] ∧ Z.Warmed39 U_.vm ∧ U_.heap = h0) (fun _ _ _ _ _ => True) (fun _ U_ o_ V_ => ∃ v_ L_, o_ = .returned v_ ∧ QHx Z dg h0 n0 v_ V_.heap L_ ∧ FrameEnd U_ o_ V_ L_ ({ frames := 0, cells := 0, slots := 0, locals := 0 } : Room).cells ({ frames := 0, cells := 0, slots := 0, locals := 0 } : Room).slots) := by
  refine MetFree.of_bodySF (plainFor_of_name pnHx) hisR ?_
  intro p e s m args below meth c s₁ Bd hml0 hP hK
  obtain ⟨rfl, hZ, hh⟩ := hP
  have hx := Bd.exec
  have hby := Bd.bytes
  have hml : c.maxLocals = 1 := hml0
  have hown : s.vm.findClass "com/example/pctenc/pctenc/EscapeWritePinLaw" = some m.cls := findClass_of_methodNamed Bd.named
  have hnm := (name_of_methodNamed Bd.named Bd.method).1
  have hlk : meth.locks = false := BodyLoose.notSynchronized Bd
  have hret : meth.sig.returnType = (some .char) := Bd.returns
  have X0 : Stand p l e ({ frames := 0, cells := 0, slots := 0, locals := 0 } : Room) s m #[(.int dg)] below meth c s₁ [] 0 0 := Stand.of_body Bd
  have e0 : s₁.heap = h0 := by rw [← hh, Bd.state]; rfl
  have N0 := Fr.nil n0
  show Go p e below s ({ frames := 0, cells := 0, slots := 0, locals := 0 } : Room).cells ({ frames := 0, cells := 0, slots := 0, locals := 0 } : Room).slots (QHx Z dg h0 n0) (s₁.setTop (entryFrame m #[(.int dg)] 1))
  rw [efHx]
  refine Go.by (fun _ kont => XS.iloadN X0.here hx rfl (hb hby dHx_0) rfl (XS.bipush X0.here hx rfl (hb hby dHx_1) kont)) ?_
  show Go _ _ _ _ _ _ _ (s₁.setTop (mkF m 3 #[.val (.int dg)] [(.int (10 : Int32)), (.int dg)]))
  by_cases hc101 : dg < (10 : Int32)
  · refine Go.by (fun _ kont => XS.icmpNo X0.here hx rfl (hb hby dHx_3) rfl (tlt hc101).2.1 kont) ?_
    show Go _ _ _ _ _ _ _ (s₁.setTop (mkF m 6 #[.val (.int dg)] []))
    refine Go.by (fun _ kont => XS.bipush X0.here hx rfl (hb hby dHx_6) (XS.iloadN X0.here hx rfl (hb hby dHx_8) rfl (XS.iadd X0.here hx rfl (hb hby dHx_9) rfl (XS.i2c X0.here hx rfl (hb hby dHx_10) rfl kont)))) ?_
    show Go _ _ _ _ _ _ _ (s₁.setTop (mkF m 11 #[.val (.int dg)] [(.int (((48 : Int32) + dg).toUInt32.toUInt16.toUInt32.toInt32))]))
    refine Go.retN X0 hx (t := .char) hret (by simp) hlk (hb hby dHx_11) ?_ (by decide) (by decide)
    show QHx Z dg h0 n0 (some (.int (nar .char (((48 : Int32) + dg).toUInt32.toUInt16.toUInt32.toInt32)))) s₁.heap _
    rw [e0]
    refine ⟨?_, N0, rfl⟩
    unfold fHx
    rw [if_pos hc101]
  · refine Go.by (fun _ kont => XS.icmpYes X0.here hx rfl (pc0 := 3) (pc' := 12) rfl (hb hby dHx_3) rfl (flt hc101).2.1 (by decide) (by decide) kont) ?_
    show Go _ _ _ _ _ _ _ (s₁.setTop (mkF m 12 #[.val (.int dg)] []))
    refine Go.by (fun _ kont => XS.bipush X0.here hx rfl (hb hby dHx_12) (XS.iloadN X0.here hx rfl (hb hby dHx_14) rfl (XS.bipush X0.here hx rfl (hb hby dHx_15) (XS.isub X0.here hx rfl (hb hby dHx_17) rfl (XS.iadd X0.here hx rfl (hb hby dHx_18) rfl (XS.i2c X0.here hx rfl (hb hby dHx_19) rfl kont)))))) ?_
    show Go _ _ _ _ _ _ _ (s₁.setTop (mkF m 20 #[.val (.int dg)] [(.int (((65 : Int32) + (dg - (10 : Int32))).toUInt32.toUInt16.toUInt32.toInt32))]))
    refine Go.retN X0 hx (t := .char) hret (by simp) hlk (hb hby dHx_20) ?_ (by decide) (by decide)
    show QHx Z dg h0 n0 (some (.int (nar .char (((65 : Int32) + (dg - (10 : Int32))).toUInt32.toUInt16.toUInt32.toInt32)))) s₁.heap _
    rw [e0]
    refine ⟨?_, N0, rfl⟩
    unfold fHx
    rw [if_neg hc101]

def own_hx (j : Int32) : Int32 := if j < 10 then j + 48 else j + 55
/-- the table of the sixteen signs -/
def HX (Z : State) (h : Heap) (a : Addr) (k : ClassId) : Prop := ∃ c : Cell, Arr Z h a c .char ∧ c.cls = k ∧ c.slots.size = (16 : Int32).toNatClampNeg ∧ ∀ j : Int32, ¬ (j < 0 ∨ c.slots.size ≤ j.toNatClampNeg) → c.slots[j.toNatClampNeg]? = some (.int (own_hx j))
theorem HX.lt {Z : State} {h : Heap} {a : Addr} {k : ClassId} (F : HX Z h a k) : a < h.size := by obtain ⟨c, A, -⟩ := F; exact A.lt
theorem HX.ext {Z : State} {h h' : Heap} {a : Addr} {k : ClassId} (F : HX Z h a k) (E : Ext h h') : HX Z h' a k := by obtain ⟨c, A, r⟩ := F; exact ⟨c, A.ext E, r⟩
theorem HX.other {Z : State} {h h' : Heap} {a b : Addr} {k : ClassId} {sl : Nat} {v : Value} (F : HX Z h b k) (W : Wr h h' a sl v) (q : b ≠ a) : HX Z h' b k := by obtain ⟨c, A, r⟩ := F; exact ⟨c, A.other W q, r⟩
theorem HX.keep {Z : State} {h h' : Heap} {a : Addr} {k : ClassId} {ws : List Addr} (F : HX Z h a k) (K : Keep h h' ws) (q : a ∉ ws) : HX Z h' a k := by obtain ⟨c, A, r⟩ := F; exact ⟨c, ⟨K.2.1 a c A.1 q, A.2⟩, r⟩
theorem own_e6 (y : Int32) : (y &&& (7 : Int32)) % (6 : Int32) = 0 ∨ (y &&& (7 : Int32)) % (6 : Int32) = 1 ∨ (y &&& (7 : Int32)) % (6 : Int32) = 2 ∨ (y &&& (7 : Int32)) % (6 : Int32) = 3 ∨ (y &&& (7 : Int32)) % (6 : Int32) = 4 ∨ (y &&& (7 : Int32)) % (6 : Int32) = 5 := by
  have h1 := c_mask y 7 3 (by decide) (by decide)
  have h2 := (c_irem (y &&& 7) 6 6 (by decide)).1 (by rw [h1]; omega)
  simp only [← Int32.toInt_inj, h2]
  have e0 : (0 : Int32).toInt = 0 := by decide
  have e1 : (1 : Int32).toInt = 1 := by decide
  have e2 : (2 : Int32).toInt = 2 := by decide
  have e3 : (3 : Int32).toInt = 3 := by decide
  have e4 : (4 : Int32).toInt = 4 := by decide
  have e5 : (5 : Int32).toInt = 5 := by decide
  rw [e0, e1, e2, e3, e4, e5]; omega
theorem own_b (y : Int32) : 0 ≤ (y &&& (255 : Int32)).toInt ∧ (y &&& (255 : Int32)).toInt < 256 := by
  have h := c_mask y 255 8 (by decide) (by decide)
  rw [h]; omega
theorem own_sen (y : Int32) : nar .char (y.toUInt32.toUInt16.toUInt32.toInt32) = y.toUInt32.toUInt16.toUInt32.toInt32 := by
  show (y.toUInt32.toUInt16.toUInt32.toInt32).toUInt32.toUInt16.toUInt32.toInt32 = _
  rw [UInt32.toUInt32_toInt32, UInt16.toUInt16_toUInt32]
theorem own_h64 (z j : Int32) (a : Int64) (b : Int32) (ha : 0 ≤ a.toInt ∧ a.toInt < 100) (hb : b.toInt = a.toInt) (B : 0 ≤ j.toInt ∧ j.toInt < 16) (h : z.toInt64 = j.toInt64 + a) : z = j + b := by
  have h1 := congrArg Int64.toInt h
  have h2 := c_ladd j.toInt64 a
  have h3 := c_iadd j b
  have r1 := rng32 z
  have r2 := rng32 (j + b)
  have r3 := rng64 (j.toInt64 + a)
  rw [c_i2l] at h1 h2
  rw [← Int32.toInt_inj]
  omega
theorem own_hiB (bb : Int32) (B : 0 ≤ bb.toInt ∧ bb.toInt < 256) : 0 ≤ ((bb.toUInt32 >>> ((4 : Int32) &&& 31).toUInt32).toInt32).toInt ∧ ((bb.toUInt32 >>> ((4 : Int32) &&& 31).toUInt32).toInt32).toInt < 16 := by
  have h := c_iushr bb 4 4 (by decide) (by decide)
  rw [h]; omega
theorem own_loB (bb : Int32) : 0 ≤ (bb &&& (15 : Int32)).toInt ∧ (bb &&& (15 : Int32)).toInt < 16 := by
  have h := c_mask bb 15 4 (by decide) (by decide)
  rw [h]; omega
theorem own_in {j : Int32} (B : 0 ≤ j.toInt ∧ j.toInt < 16) : ¬ j < 0 ∧ j < 16 := by
  rw [Int32.lt_iff_toInt_lt, Int32.lt_iff_toInt_lt, show (0 : Int32).toInt = 0 from by decide, show (16 : Int32).toInt = 16 from by decide]; omega
theorem own_dig (j : Int32) (B : 0 ≤ j.toInt ∧ j.toInt < 16) : nar .char (own_hx j) = fHx j := by
  have key : ∀ n : Fin 16, nar .char (own_hx (Int32.ofInt n.val)) = fHx (Int32.ofInt n.val) := by decide +kernel
  have h := key ⟨j.toInt.toNat, by omega⟩
  have e : ((j.toInt.toNat : Nat) : Int) = j.toInt := by omega
  simp only [e, Int32.ofInt_toInt] at h
  exact h
theorem own_hi (bb : Int32) (B : 0 ≤ bb.toInt ∧ bb.toInt < 256) : nar .char (own_hx ((bb.toUInt32 >>> ((4 : Int32) &&& 31).toUInt32).toInt32)) = fHx (bb >>> ((4 : Int32) &&& 31)) := by
  have h1 := c_iushr bb 4 4 (by decide) (by decide)
  have h2 := c_ishr bb 4 4 (by decide)
  have e : ((bb.toUInt32 >>> ((4 : Int32) &&& 31).toUInt32).toInt32) = (bb >>> ((4 : Int32) &&& 31)) := by
    rw [← Int32.toInt_inj, h1, h2]; omega
  rw [← e]
  exact own_dig _ (own_hiB bb B)

theorem dW0_0 : decode prog_4_method_3_code 0 = .ok (.aload_n 0, 1) := by decide +kernel
theorem dW0_1 : decode prog_4_method_3_code 1 = .ok (.iload_n 1, 1) := by decide +kernel
theorem dW0_2 : decode prog_4_method_3_code 2 = .ok (.bipush 37, 2) := by decide +kernel
theorem dW0_4 : decode prog_4_method_3_code 4 = .ok (.castore, 1) := by decide +kernel
theorem dW0_5 : decode prog_4_method_3_code 5 = .ok (.aload_n 0, 1) := by decide +kernel
theorem dW0_6 : decode prog_4_method_3_code 6 = .ok (.iload_n 1, 1) := by decide +kernel
theorem dW0_7 : decode prog_4_method_3_code 7 = .ok (.iconst 1, 1) := by decide +kernel
theorem dW0_8 : decode prog_4_method_3_code 8 = .ok (.iadd, 1) := by decide +kernel
theorem dW0_9 : decode prog_4_method_3_code 9 = .ok (.getstatic 13, 3) := by decide +kernel
theorem dW0_12 : decode prog_4_method_3_code 12 = .ok (.iload_n 2, 1) := by decide +kernel
theorem dW0_13 : decode prog_4_method_3_code 13 = .ok (.iconst 4, 1) := by decide +kernel
theorem dW0_14 : decode prog_4_method_3_code 14 = .ok (.iushr, 1) := by decide +kernel
theorem dW0_15 : decode prog_4_method_3_code 15 = .ok (.caload, 1) := by decide +kernel
theorem dW0_16 : decode prog_4_method_3_code 16 = .ok (.castore, 1) := by decide +kernel
theorem dW0_17 : decode prog_4_method_3_code 17 = .ok (.aload_n 0, 1) := by decide +kernel
theorem dW0_18 : decode prog_4_method_3_code 18 = .ok (.iload_n 1, 1) := by decide +kernel
theorem dW0_19 : decode prog_4_method_3_code 19 = .ok (.iconst 2, 1) := by decide +kernel
theorem dW0_20 : decode prog_4_method_3_code 20 = .ok (.iadd, 1) := by decide +kernel
theorem dW0_21 : decode prog_4_method_3_code 21 = .ok (.getstatic 13, 3) := by decide +kernel
theorem dW0_24 : decode prog_4_method_3_code 24 = .ok (.iload_n 2, 1) := by decide +kernel
theorem dW0_25 : decode prog_4_method_3_code 25 = .ok (.bipush 15, 2) := by decide +kernel
theorem dW0_27 : decode prog_4_method_3_code 27 = .ok (.iand, 1) := by decide +kernel
theorem dW0_28 : decode prog_4_method_3_code 28 = .ok (.caload, 1) := by decide +kernel
theorem dW0_29 : decode prog_4_method_3_code 29 = .ok (.castore, 1) := by decide +kernel
theorem dW0_30 : decode prog_4_method_3_code 30 = .ok (.iload_n 1, 1) := by decide +kernel
theorem dW0_31 : decode prog_4_method_3_code 31 = .ok (.iconst 3, 1) := by decide +kernel
theorem dW0_32 : decode prog_4_method_3_code 32 = .ok (.iadd, 1) := by decide +kernel
theorem dW0_33 : decode prog_4_method_3_code 33 = .ok (.ireturn, 1) := by decide +kernel
theorem pnW0 : plainName "com/example/pctenc/pctenc/Escape" = true := by first | (simp [plainName, overriddenIn]; done) | decide +kernel
theorem efW0 (m : MethodId) (o : Addr) (bb : Int32) : entryFrame m #[(.ref o), (.int (0 : Int32)), (.int bb)] 3 = mkF m 0 #[.val (.ref o), .val (.int (0 : Int32)), .val (.int bb)] [] := by first | (simp [entryFrame, mkF, argsToLocals, Value.category]; done) | rfl
def QW0 (Z : State) (o : Addr) (bb : Int32) (kc : ClassId) (v0 : Int32) (v1 : Int32) (v2 : Int32) (v3 : Int32) (v4 : Int32) (v5 : Int32) (v6 : Int32) (v7 : Int32) (h0 : Heap) (n0 : Nat) (v : Option Value) (h : Heap) (L : List Loc) : Prop := v = some (.int (3 : Int32)) ∧ Fr n0 L ∧ Keep h0 h [o] ∧ Arv Z h o kc .char (8 : Int32) [(.int (nar .char (37 : Int32))), (.int (nar .char (own_hx ((bb.toUInt32 >>> ((4 : Int32) &&& 31).toUInt32).toInt32)))), (.int (nar .char (own_hx (bb &&& (15 : Int32))))), (.int v3), (.int v4), (.int v5), (.int v6), (.int v7)] (.int (0 : Int32))
set_option maxRecDepth 65536 in
set_option maxHeartbeats 40000000 in
theorem rmW0 (l : Launch) (Z : State) (a0 : Array Value) (hw : ∀ d ∈ tables_1, d.before a0 Z = true) (ws : List Jvm.Cond) (o : Addr) (bb : Int32) (kc : ClassId) (hxa : Addr) (kh : ClassId) (v0 : Int32) (v1 : Int32) (v2 : Int32) (v3 : Int32) (v4 : Int32) (v5 : Int32) (v6 : Int32) (v7 : Int32) (h0 : Heap) (n0 : Nat) (Z0 : n0 ≤ h0.size) (Vo : Arv Z h0 o kc .char (8 : Int32) [(.int v0), (.int v1), (.int v2), (.int v3), (.int v4), (.int v5), (.int v6), (.int v7)] (.int (0 : Int32))) (Vh : HX Z h0 hxa kh) (Sh : Sta Z h0 "com/example/pctenc/pctenc/Escape" "UPPER_HEX" "[C" (.ref hxa)) (neh : hxa ≠ o) (go : n0 ≤ o) (Bb : 0 ≤ bb.toInt ∧ bb.toInt < 256) :
    MetFree l (⟨"com/example/pctenc/pctenc/Escape", "write", "([CII)I"⟩ : MethodName) (head1 (Jvm.Cond.code (⟨"com/example/pctenc/pctenc/Escape", "write", "([CII)I"⟩ : MethodName) prog_4_method_3_code 3 (some .int) :: ws) ({ frames := 0, cells := 0, slots := 0, locals := 0 } : Room)) (fun aa_ U_ => aa_ = #[(.ref o), (.int (0 : Int32)), (.int bb)] ∧ Z.Warmed39 U_.vm ∧ U_.heap = h0) (fun _ _ _ _ _ => True) (fun _ U_ o_ V_ => ∃ v_ L_, o_ = .returned v_ ∧ QW0 Z o bb kc v0 v1 v2 v3 v4 v5 v6 v7 h0 n0 v_ V_.heap L_ ∧ FrameEnd U_ o_ V_ L_ ({ frames := 0, cells := 0, slots := 0, locals := 0 } : Room).cells ({ frames := 0, cells := 0, slots := 0, locals := 0 } : Room).slots) := by
  refine MetFree.of_bodySF (plainFor_of_name pnW0) hisR ?_
  intro p e s m args below meth c s₁ Bd hml0 hP hK
  obtain ⟨rfl, hZ, hh⟩ := hP
  have hx := Bd.exec
  have hby := Bd.bytes
  have hml : c.maxLocals = 3 := hml0
  have hown : s.vm.findClass "com/example/pctenc/pctenc/Escape" = some m.cls := findClass_of_methodNamed Bd.named
  have hnm := (name_of_methodNamed Bd.named Bd.method).1
  have hlk : meth.locks = false := BodyLoose.notSynchronized Bd
  have hret : meth.sig.returnType = (some .int) := Bd.returns
  have X0 : Stand p l e ({ frames := 0, cells := 0, slots := 0, locals := 0 } : Room) s m #[(.ref o), (.int (0 : Int32)), (.int bb)] below meth c s₁ [] 0 0 := Stand.of_body Bd
  have e0 : s₁.heap = h0 := by rw [← hh, Bd.state]; rfl
  have N0 := Fr.nil n0
  show Go p e below s ({ frames := 0, cells := 0, slots := 0, locals := 0 } : Room).cells ({ frames := 0, cells := 0, slots := 0, locals := 0 } : Room).slots (QW0 Z o bb kc v0 v1 v2 v3 v4 v5 v6 v7 h0 n0) (s₁.setTop (entryFrame m #[(.ref o), (.int (0 : Int32)), (.int bb)] 3))
  rw [efW0]
  refine Go.by (fun _ kont => XS.aloadN X0.here hx rfl (hb hby dW0_0) rfl rfl (XS.iloadN X0.here hx rfl (hb hby dW0_1) rfl (XS.bipush X0.here hx rfl (hb hby dW0_2) kont))) ?_
  show Go _ _ _ _ _ _ _ (s₁.setTop (mkF m 4 #[.val (.ref o), .val (.int (0 : Int32)), .val (.int bb)] [(.int (37 : Int32)), (.int (0 : Int32)), (.ref o)]))
  obtain ⟨cl_q101, Ar_q101, q1_q101, S_q101, N_q101, H_q101, G_q101⟩ := id Vo
  have hin_q101 : ¬ ((0 : Int32) < 0 ∨ cl_q101.slots.size ≤ ((0 : Int32)).toNatClampNeg) := inb_of S_q101 ⟨by decide, by decide⟩
  obtain ⟨T102, h102, X102, e102, W102, st102⟩ := stC X0 hx hZ e0 Ar_q101 (j := (0 : Int32)) hin_q101 (g := (mkF m 4 #[.val (.ref o), .val (.int (0 : Int32)), .val (.int bb)] [(.int (37 : Int32)), (.int (0 : Int32)), (.ref o)])) rfl rfl (hb hby dW0_4)
  have V102 : Arv Z h102 o kc .char (8 : Int32) [(.int (nar .char (37 : Int32))), (.int v1), (.int v2), (.int v3), (.int v4), (.int v5), (.int v6), (.int v7)] (.int (0 : Int32)) := Arv.set Ar_q101 q1_q101 S_q101 N_q101 H_q101 G_q101 (fits_nar_char _) W102 0 rfl (Nat.le_of_ble_eq_true rfl)
  have V103_hxa := Vh.other W102 neh
  have S103_UPPER_HEX := Sh.wr W102
  have Z103 := Nat.le_trans Z0 (Keep.of_wr W102).1
  have K103 : Keep h0 h102 [o] := (Keep.refl h0 [o]).wr W102 (Or.inl (by simp))
  have N102 := Fr.snoc X102 N0 go
  refine Go.by st102 ?_
  show Go _ _ _ _ _ _ _ (T102.setTop (mkF m 5 #[.val (.ref o), .val (.int (0 : Int32)), .val (.int bb)] []))
  refine Go.by (fun _ kont => XS.aloadN X102.here hx rfl (hb hby dW0_5) rfl rfl (XS.iloadN X102.here hx rfl (hb hby dW0_6) rfl (XS.iconst X102.here hx rfl (hb hby dW0_7) (XS.iadd X102.here hx rfl (hb hby dW0_8) rfl kont)))) ?_
  show Go _ _ _ _ _ _ _ (T102.setTop (mkF m 9 #[.val (.ref o), .val (.int (0 : Int32)), .val (.int bb)] [(.int ((0 : Int32) + (1 : Int32))), (.ref o)]))
  rw [show ((0 : Int32) + (1 : Int32)) = (1 : Int32) from by decide]
  show Go _ _ _ _ _ _ _ (T102.setTop (mkF m 9 #[.val (.ref o), .val (.int (0 : Int32)), .val (.int bb)] [(.int (1 : Int32)), (.ref o)]))
  obtain ⟨T104, X104, e104, st104⟩ := getS2 X102 hx hZ hown (host := "") (Or.inl (hw _ (List.mem_of_getElem? (i := 6) rfl))) Via.refl e102 S103_UPPER_HEX (g := (mkF m 9 #[.val (.ref o), .val (.int (0 : Int32)), .val (.int bb)] [(.int (1 : Int32)), (.ref o)])) rfl (hb hby dW0_9)
  refine Go.by st104 ?_
  show Go _ _ _ _ _ _ _ (T104.setTop (mkF m 12 #[.val (.ref o), .val (.int (0 : Int32)), .val (.int bb)] [(.ref hxa), (.int (1 : Int32)), (.ref o)]))
  refine Go.by (fun _ kont => XS.iloadN X104.here hx rfl (hb hby dW0_12) rfl (XS.iconst X104.here hx rfl (hb hby dW0_13) (XS.iushr X104.here hx rfl (hb hby dW0_14) rfl kont))) ?_
  show Go _ _ _ _ _ _ _ (T104.setTop (mkF m 15 #[.val (.ref o), .val (.int (0 : Int32)), .val (.int bb)] [(.int ((bb.toUInt32 >>> ((4 : Int32) &&& 31).toUInt32).toInt32)), (.ref hxa), (.int (1 : Int32)), (.ref o)]))
  obtain ⟨cl_q105, Ar_q105, q1_q105, S_q105, G_q105⟩ := id V103_hxa
  have hin_q105 : ¬ (((bb.toUInt32 >>> ((4 : Int32) &&& 31).toUInt32).toInt32) < 0 ∨ cl_q105.slots.size ≤ (((bb.toUInt32 >>> ((4 : Int32) &&& 31).toUInt32).toInt32)).toNatClampNeg) := inb_of S_q105 ⟨(own_in (own_hiB bb Bb)).1, (own_in (own_hiB bb Bb)).2⟩
  have hat_q105 := G_q105 ((bb.toUInt32 >>> ((4 : Int32) &&& 31).toUInt32).toInt32) hin_q105
  refine Go.by (X104.caload hx (j := ((bb.toUInt32 >>> ((4 : Int32) &&& 31).toUInt32).toInt32)) (v := (.int (own_hx ((bb.toUInt32 >>> ((4 : Int32) &&& 31).toUInt32).toInt32)))) (by first | exact Ar_q105.1 | (rw [e104]; exact Ar_q105.1)) (State.isArrayOf_alike hZ.alike Ar_q105.2.1) Ar_q105.2.2 hin_q105 hat_q105 (g := (mkF m 15 #[.val (.ref o), .val (.int (0 : Int32)), .val (.int bb)] [(.int ((bb.toUInt32 >>> ((4 : Int32) &&& 31).toUInt32).toInt32)), (.ref hxa), (.int (1 : Int32)), (.ref o)])) rfl rfl (hb hby dW0_15)) ?_
  show Go _ _ _ _ _ _ _ (T104.setTop (mkF m 16 #[.val (.ref o), .val (.int (0 : Int32)), .val (.int bb)] [(.int (own_hx ((bb.toUInt32 >>> ((4 : Int32) &&& 31).toUInt32).toInt32))), (.int (1 : Int32)), (.ref o)]))
  obtain ⟨cl_q106, Ar_q106, q1_q106, S_q106, N_q106, H_q106, G_q106⟩ := id V102
  have hin_q106 : ¬ ((1 : Int32) < 0 ∨ cl_q106.slots.size ≤ ((1 : Int32)).toNatClampNeg) := inb_of S_q106 ⟨by decide, by decide⟩
  obtain ⟨T107, h107, X107, e107, W107, st107⟩ := stC X104 hx hZ e104 Ar_q106 (j := (1 : Int32)) hin_q106 (g := (mkF m 16 #[.val (.ref o), .val (.int (0 : Int32)), .val (.int bb)] [(.int (own_hx ((bb.toUInt32 >>> ((4 : Int32) &&& 31).toUInt32).toInt32))), (.int (1 : Int32)), (.ref o)])) rfl rfl (hb hby dW0_16)
  have V107 : Arv Z h107 o kc .char (8 : Int32) [(.int (nar .char (37 : Int32))), (.int (nar .char (own_hx ((bb.toUInt32 >>> ((4 : Int32) &&& 31).toUInt32).toInt32)))), (.int v2), (.int v3), (.int v4), (.int v5), (.int v6), (.int v7)] (.int (0 : Int32)) := Arv.set Ar_q106 q1_q106 S_q106 N_q106 H_q106 G_q106 (fits_nar_char _) W107 1 rfl (Nat.le_of_ble_eq_true rfl)
  have V108_hxa := V103_hxa.other W107 neh
  have S108_UPPER_HEX := S103_UPPER_HEX.wr W107
  have Z108 := Nat.le_trans Z103 (Keep.of_wr W107).1
  have K108 : Keep h0 h107 [o] := K103.wr W107 (Or.inl (by simp))
  have N107 := Fr.snoc X107 N102 go
  refine Go.by st107 ?_
  show Go _ _ _ _ _ _ _ (T107.setTop (mkF m 17 #[.val (.ref o), .val (.int (0 : Int32)), .val (.int bb)] []))
  refine Go.by (fun _ kont => XS.aloadN X107.here hx rfl (hb hby dW0_17) rfl rfl (XS.iloadN X107.here hx rfl (hb hby dW0_18) rfl (XS.iconst X107.here hx rfl (hb hby dW0_19) (XS.iadd X107.here hx rfl (hb hby dW0_20) rfl kont)))) ?_
  show Go _ _ _ _ _ _ _ (T107.setTop (mkF m 21 #[.val (.ref o), .val (.int (0 : Int32)), .val (.int bb)] [(.int ((0 : Int32) + (2 : Int32))), (.ref o)]))
  rw [show ((0 : Int32) + (2 : Int32)) = (2 : Int32) from by decide]
  show Go _ _ _ _ _ _ _ (T107.setTop (mkF m 21 #[.val (.ref o), .val (.int (0 : Int32)), .val (.int bb)] [(.int (2 : Int32)), (.ref o)]))
  obtain ⟨T109, X109, e109, st109⟩ := getS2 X107 hx hZ hown (host := "") (Or.inl (hw _ (List.mem_of_getElem? (i := 6) rfl))) Via.refl e107 S108_UPPER_HEX (g := (mkF m 21 #[.val (.ref o), .val (.int (0 : Int32)), .val (.int bb)] [(.int (2 : Int32)), (.ref o)])) rfl (hb hby dW0_21)
  refine Go.by st109 ?_
  show Go _ _ _ _ _ _ _ (T109.setTop (mkF m 24 #[.val (.ref o), .val (.int (0 : Int32)), .val (.int bb)] [(.ref hxa), (.int (2 : Int32)), (.ref o)]))
  refine Go.by (fun _ kont => XS.iloadN X109.here hx rfl (hb hby dW0_24) rfl (XS.bipush X109.here hx rfl (hb hby dW0_25) (XS.iand X109.here hx rfl (hb hby dW0_27) rfl kont))) ?_
  show Go _ _ _ _ _ _ _ (T109.setTop (mkF m 28 #[.val (.ref o), .val (.int (0 : Int32)), .val (.int bb)] [(.int (bb &&& (15 : Int32))), (.ref hxa), (.int (2 : Int32)), (.ref o)]))
  obtain ⟨cl_q110, Ar_q110, q1_q110, S_q110, G_q110⟩ := id V108_hxa
  have hin_q110 : ¬ ((bb &&& (15 : Int32)) < 0 ∨ cl_q110.slots.size ≤ ((bb &&& (15 : Int32))).toNatClampNeg) := inb_of S_q110 ⟨(own_in (own_loB bb)).1, (own_in (own_loB bb)).2⟩
  have hat_q110 := G_q110 (bb &&& (15 : Int32)) hin_q110
  refine Go.by (X109.caload hx (j := (bb &&& (15 : Int32))) (v := (.int (own_hx (bb &&& (15 : Int32))))) (by first | exact Ar_q110.1 | (rw [e109]; exact Ar_q110.1)) (State.isArrayOf_alike hZ.alike Ar_q110.2.1) Ar_q110.2.2 hin_q110 hat_q110 (g := (mkF m 28 #[.val (.ref o), .val (.int (0 : Int32)), .val (.int bb)] [(.int (bb &&& (15 : Int32))), (.ref hxa), (.int (2 : Int32)), (.ref o)])) rfl rfl (hb hby dW0_28)) ?_
  show Go _ _ _ _ _ _ _ (T109.setTop (mkF m 29 #[.val (.ref o), .val (.int (0 : Int32)), .val (.int bb)] [(.int (own_hx (bb &&& (15 : Int32)))), (.int (2 : Int32)), (.ref o)]))
  obtain ⟨cl_q111, Ar_q111, q1_q111, S_q111, N_q111, H_q111, G_q111⟩ := id V107
  have hin_q111 : ¬ ((2 : Int32) < 0 ∨ cl_q111.slots.size ≤ ((2 : Int32)).toNatClampNeg) := inb_of S_q111 ⟨by decide, by decide⟩
  obtain ⟨T112, h112, X112, e112, W112, st112⟩ := stC X109 hx hZ e109 Ar_q111 (j := (2 : Int32)) hin_q111 (g := (mkF m 29 #[.val (.ref o), .val (.int (0 : Int32)), .val (.int bb)] [(.int (own_hx (bb &&& (15 : Int32)))), (.int (2 : Int32)), (.ref o)])) rfl rfl (hb hby dW0_29)
  have V112 : Arv Z h112 o kc .char (8 : Int32) [(.int (nar .char (37 : Int32))), (.int (nar .char (own_hx ((bb.toUInt32 >>> ((4 : Int32) &&& 31).toUInt32).toInt32)))), (.int (nar .char (own_hx (bb &&& (15 : Int32))))), (.int v3), (.int v4), (.int v5), (.int v6), (.int v7)] (.int (0 : Int32)) := Arv.set Ar_q111 q1_q111 S_q111 N_q111 H_q111 G_q111 (fits_nar_char _) W112 2 rfl (Nat.le_of_ble_eq_true rfl)
  have V113_hxa := V108_hxa.other W112 neh
  have S113_UPPER_HEX := S108_UPPER_HEX.wr W112
  have Z113 := Nat.le_trans Z108 (Keep.of_wr W112).1
  have K113 : Keep h0 h112 [o] := K108.wr W112 (Or.inl (by simp))
  have N112 := Fr.snoc X112 N107 go
  refine Go.by st112 ?_
  show Go _ _ _ _ _ _ _ (T112.setTop (mkF m 30 #[.val (.ref o), .val (.int (0 : Int32)), .val (.int bb)] []))
  refine Go.by (fun _ kont => XS.iloadN X112.here hx rfl (hb hby dW0_30) rfl (XS.iconst X112.here hx rfl (hb hby dW0_31) (XS.iadd X112.here hx rfl (hb hby dW0_32) rfl kont))) ?_
  show Go _ _ _ _ _ _ _ (T112.setTop (mkF m 33 #[.val (.ref o), .val (.int (0 : Int32)), .val (.int bb)] [(.int ((0 : Int32) + (3 : Int32)))]))
  rw [show ((0 : Int32) + (3 : Int32)) = (3 : Int32) from by decide]
  show Go _ _ _ _ _ _ _ (T112.setTop (mkF m 33 #[.val (.ref o), .val (.int (0 : Int32)), .val (.int bb)] [(.int (3 : Int32))]))
  refine Go.retI X112 hx hret hlk (hb hby dW0_33) ?_ (by decide) (by decide)
  show QW0 Z o bb kc v0 v1 v2 v3 v4 v5 v6 v7 h0 n0 (some (.int (3 : Int32))) T112.heap _
  rw [e112]
  exact ⟨rfl, N112, K113, V112⟩

theorem dW1_0 : decode prog_4_method_3_code 0 = .ok (.aload_n 0, 1) := by decide +kernel
theorem dW1_1 : decode prog_4_method_3_code 1 = .ok (.iload_n 1, 1) := by decide +kernel
theorem dW1_2 : decode prog_4_method_3_code 2 = .ok (.bipush 37, 2) := by decide +kernel
theorem dW1_4 : decode prog_4_method_3_code 4 = .ok (.castore, 1) := by decide +kernel
theorem dW1_5 : decode prog_4_method_3_code 5 = .ok (.aload_n 0, 1) := by decide +kernel
theorem dW1_6 : decode prog_4_method_3_code 6 = .ok (.iload_n 1, 1) := by decide +kernel
theorem dW1_7 : decode prog_4_method_3_code 7 = .ok (.iconst 1, 1) := by decide +kernel
theorem dW1_8 : decode prog_4_method_3_code 8 = .ok (.iadd, 1) := by decide +kernel
theorem dW1_9 : decode prog_4_method_3_code 9 = .ok (.getstatic 13, 3) := by decide +kernel
theorem dW1_12 : decode prog_4_method_3_code 12 = .ok (.iload_n 2, 1) := by decide +kernel
theorem dW1_13 : decode prog_4_method_3_code 13 = .ok (.iconst 4, 1) := by decide +kernel
theorem dW1_14 : decode prog_4_method_3_code 14 = .ok (.iushr, 1) := by decide +kernel
theorem dW1_15 : decode prog_4_method_3_code 15 = .ok (.caload, 1) := by decide +kernel
theorem dW1_16 : decode prog_4_method_3_code 16 = .ok (.castore, 1) := by decide +kernel
theorem dW1_17 : decode prog_4_method_3_code 17 = .ok (.aload_n 0, 1) := by decide +kernel
theorem dW1_18 : decode prog_4_method_3_code 18 = .ok (.iload_n 1, 1) := by decide +kernel
theorem dW1_19 : decode prog_4_method_3_code 19 = .ok (.iconst 2, 1) := by decide +kernel
theorem dW1_20 : decode prog_4_method_3_code 20 = .ok (.iadd, 1) := by decide +kernel
theorem dW1_21 : decode prog_4_method_3_code 21 = .ok (.getstatic 13, 3) := by decide +kernel
theorem dW1_24 : decode prog_4_method_3_code 24 = .ok (.iload_n 2, 1) := by decide +kernel
theorem dW1_25 : decode prog_4_method_3_code 25 = .ok (.bipush 15, 2) := by decide +kernel
theorem dW1_27 : decode prog_4_method_3_code 27 = .ok (.iand, 1) := by decide +kernel
theorem dW1_28 : decode prog_4_method_3_code 28 = .ok (.caload, 1) := by decide +kernel
theorem dW1_29 : decode prog_4_method_3_code 29 = .ok (.castore, 1) := by decide +kernel
theorem dW1_30 : decode prog_4_method_3_code 30 = .ok (.iload_n 1, 1) := by decide +kernel
theorem dW1_31 : decode prog_4_method_3_code 31 = .ok (.iconst 3, 1) := by decide +kernel
theorem dW1_32 : decode prog_4_method_3_code 32 = .ok (.iadd, 1) := by decide +kernel
theorem dW1_33 : decode prog_4_method_3_code 33 = .ok (.ireturn, 1) := by decide +kernel
theorem pnW1 : plainName "com/example/pctenc/pctenc/Escape" = true := by first | (simp [plainName, overriddenIn]; done) | decide +kernel
theorem efW1 (m : MethodId) (o : Addr) (bb : Int32) : entryFrame m #[(.ref o), (.int (1 : Int32)), (.int bb)] 3 = mkF m 0 #[.val (.ref o), .val (.int (1 : Int32)), .val (.int bb)] [] := by first | (simp [entryFrame, mkF, argsToLocals, Value.category]; done) | rfl
def QW1 (Z : State) (o : Addr) (bb : Int32) (kc : ClassId) (v0 : Int32) (v1 : Int32) (v2 : Int32) (v3 : Int32) (v4 : Int32) (v5 : Int32) (v6 : Int32) (v7 : Int32) (h0 : Heap) (n0 : Nat) (v : Option Value) (h : Heap) (L : List Loc) : Prop := v = some (.int (4 : Int32)) ∧ Fr n0 L ∧ Keep h0 h [o] ∧ Arv Z h o kc .char (8 : Int32) [(.int v0), (.int (nar .char (37 : Int32))), (.int (nar .char (own_hx ((bb.toUInt32 >>> ((4 : Int32) &&& 31).toUInt32).toInt32)))), (.int (nar .char (own_hx (bb &&& (15 : Int32))))), (.int v4), (.int v5), (.int v6), (.int v7)] (.int (0 : Int32))
set_option maxRecDepth 65536 in
set_option maxHeartbeats 40000000 in
theorem rmW1 (l : Launch) (Z : State) (a0 : Array Value) (hw : ∀ d ∈ tables_1, d.before a0 Z = true) (ws : List Jvm.Cond) (o : Addr) (bb : Int32) (kc : ClassId) (hxa : Addr) (kh : ClassId) (v0 : Int32) (v1 : Int32) (v2 : Int32) (v3 : Int32) (v4 : Int32) (v5 : Int32) (v6 : Int32) (v7 : Int32) (h0 : Heap) (n0 : Nat) (Z0 : n0 ≤ h0.size) (Vo : Arv Z h0 o kc .char (8 : Int32) [(.int v0), (.int v1), (.int v2), (.int v3), (.int v4), (.int v5), (.int v6), (.int v7)] (.int (0 : Int32))) (Vh : HX Z h0 hxa kh) (Sh : Sta Z h0 "com/example/pctenc/pctenc/Escape" "UPPER_HEX" "[C" (.ref hxa)) (neh : hxa ≠ o) (go : n0 ≤ o) (Bb : 0 ≤ bb.toInt ∧ bb.toInt < 256) :
    MetFree l (⟨"com/example/pctenc/pctenc/Escape", "write", "([CII)I"⟩ : MethodName) (head1 (Jvm.Cond.code (⟨"com/example/pctenc/pctenc/Escape", "write", "([CII)I"⟩ : MethodName) prog_4_method_3_code 3 (some .int) :: ws) ({ frames := 0, cells := 0, slots := 0, locals := 0 } : Room)) (fun aa_ U_ => aa_ = #[(.ref o), (.int (1 : Int32)), (.int bb)] ∧ Z.Warmed39 U_.vm ∧ U_.heap = h0) (fun _ _ _ _ _ => True) (fun _ U_ o_ V_ => ∃ v_ L_, o_ = .returned v_ ∧ QW1 Z o bb kc v0 v1 v2 v3 v4 v5 v6 v7 h0 n0 v_ V_.heap L_ ∧ FrameEnd U_ o_ V_ L_ ({ frames := 0, cells := 0, slots := 0, locals := 0 } : Room).cells ({ frames := 0, cells := 0, slots := 0, locals := 0 } : Room).slots) := by
  refine MetFree.of_bodySF (plainFor_of_name pnW1) hisR ?_
  intro p e s m args below meth c s₁ Bd hml0 hP hK
  obtain ⟨rfl, hZ, hh⟩ := hP
  have hx := Bd.exec
  have hby := Bd.bytes
  have hml : c.maxLocals = 3 := hml0
  have hown : s.vm.findClass "com/example/pctenc/pctenc/Escape" = some m.cls := findClass_of_methodNamed Bd.named
  have hnm := (name_of_methodNamed Bd.named Bd.method).1
  have hlk : meth.locks = false := BodyLoose.notSynchronized Bd
  have hret : meth.sig.returnType = (some .int) := Bd.returns
  have X0 : Stand p l e ({ frames := 0, cells := 0, slots := 0, locals := 0 } : Room) s m #[(.ref o), (.int (1 : Int32)), (.int bb)] below meth c s₁ [] 0 0 := Stand.of_body Bd
  have e0 : s₁.heap = h0 := by rw [← hh, Bd.state]; rfl
  have N0 := Fr.nil n0
  show Go p e below s ({ frames := 0, cells := 0, slots := 0, locals := 0 } : Room).cells ({ frames := 0, cells := 0, slots := 0, locals := 0 } : Room).slots (QW1 Z o bb kc v0 v1 v2 v3 v4 v5 v6 v7 h0 n0) (s₁.setTop (entryFrame m #[(.ref o), (.int (1 : Int32)), (.int bb)] 3))
  rw [efW1]
  refine Go.by (fun _ kont => XS.aloadN X0.here hx rfl (hb hby dW1_0) rfl rfl (XS.iloadN X0.here hx rfl (hb hby dW1_1) rfl (XS.bipush X0.here hx rfl (hb hby dW1_2) kont))) ?_
  show Go _ _ _ _ _ _ _ (s₁.setTop (mkF m 4 #[.val (.ref o), .val (.int (1 : Int32)), .val (.int bb)] [(.int (37 : Int32)), (.int (1 : Int32)), (.ref o)]))
  obtain ⟨cl_q101, Ar_q101, q1_q101, S_q101, N_q101, H_q101, G_q101⟩ := id Vo
  have hin_q101 : ¬ ((1 : Int32) < 0 ∨ cl_q101.slots.size ≤ ((1 : Int32)).toNatClampNeg) := inb_of S_q101 ⟨by decide, by decide⟩
  obtain ⟨T102, h102, X102, e102, W102, st102⟩ := stC X0 hx hZ e0 Ar_q101 (j := (1 : Int32)) hin_q101 (g := (mkF m 4 #[.val (.ref o), .val (.int (1 : Int32)), .val (.int bb)] [(.int (37 : Int32)), (.int (1 : Int32)), (.ref o)])) rfl rfl (hb hby dW1_4)
  have V102 : Arv Z h102 o kc .char (8 : Int32) [(.int v0), (.int (nar .char (37 : Int32))), (.int v2), (.int v3), (.int v4), (.int v5), (.int v6), (.int v7)] (.int (0 : Int32)) := Arv.set Ar_q101 q1_q101 S_q101 N_q101 H_q101 G_q101 (fits_nar_char _) W102 1 rfl (Nat.le_of_ble_eq_true rfl)
  have V103_hxa := Vh.other W102 neh
  have S103_UPPER_HEX := Sh.wr W102
  have Z103 := Nat.le_trans Z0 (Keep.of_wr W102).1
  have K103 : Keep h0 h102 [o] := (Keep.refl h0 [o]).wr W102 (Or.inl (by simp))
  have N102 := Fr.snoc X102 N0 go
  refine Go.by st102 ?_
  show Go _ _ _ _ _ _ _ (T102.setTop (mkF m 5 #[.val (.ref o), .val (.int (1 : Int32)), .val (.int bb)] []))
  refine Go.by (fun _ kont => XS.aloadN X102.here hx rfl (hb hby dW1_5) rfl rfl (XS.iloadN X102.here hx rfl (hb hby dW1_6) rfl (XS.iconst X102.here hx rfl (hb hby dW1_7) (XS.iadd X102.here hx rfl (hb hby dW1_8) rfl kont)))) ?_
  show Go _ _ _ _ _ _ _ (T102.setTop (mkF m 9 #[.val (.ref o), .val (.int (1 : Int32)), .val (.int bb)] [(.int ((1 : Int32) + (1 : Int32))), (.ref o)]))
  rw [show ((1 : Int32) + (1 : Int32)) = (2 : Int32) from by decide]
  show Go _ _ _ _ _ _ _ (T102.setTop (mkF m 9 #[.val (.ref o), .val (.int (1 : Int32)), .val (.int bb)] [(.int (2 : Int32)), (.ref o)]))
  obtain ⟨T104, X104, e104, st104⟩ := getS2 X102 hx hZ hown (host := "") (Or.inl (hw _ (List.mem_of_getElem? (i := 6) rfl))) Via.refl e102 S103_UPPER_HEX (g := (mkF m 9 #[.val (.ref o), .val (.int (1 : Int32)), .val (.int bb)] [(.int (2 : Int32)), (.ref o)])) rfl (hb hby dW1_9)
  refine Go.by st104 ?_
  show Go _ _ _ _ _ _ _ (T104.setTop (mkF m 12 #[.val (.ref o), .val (.int (1 : Int32)), .val (.int bb)] [(.ref hxa), (.int (2 : Int32)), (.ref o)]))
  refine Go.by (fun _ kont => XS.iloadN X104.here hx rfl (hb hby dW1_12) rfl (XS.iconst X104.here hx rfl (hb hby dW1_13) (XS.iushr X104.here hx rfl (hb hby dW1_14) rfl kont))) ?_
  show Go _ _ _ _ _ _ _ (T104.setTop (mkF m 15 #[.val (.ref o), .val (.int (1 : Int32)), .val (.int bb)] [(.int ((bb.toUInt32 >>> ((4 : Int32) &&& 31).toUInt32).toInt32)), (.ref hxa), (.int (2 : Int32)), (.ref o)]))
  obtain ⟨cl_q105, Ar_q105, q1_q105, S_q105, G_q105⟩ := id V103_hxa
  have hin_q105 : ¬ (((bb.toUInt32 >>> ((4 : Int32) &&& 31).toUInt32).toInt32) < 0 ∨ cl_q105.slots.size ≤ (((bb.toUInt32 >>> ((4 : Int32) &&& 31).toUInt32).toInt32)).toNatClampNeg) := inb_of S_q105 ⟨(own_in (own_hiB bb Bb)).1, (own_in (own_hiB bb Bb)).2⟩
  have hat_q105 := G_q105 ((bb.toUInt32 >>> ((4 : Int32) &&& 31).toUInt32).toInt32) hin_q105
  refine Go.by (X104.caload hx (j := ((bb.toUInt32 >>> ((4 : Int32) &&& 31).toUInt32).toInt32)) (v := (.int (own_hx ((bb.toUInt32 >>> ((4 : Int32) &&& 31).toUInt32).toInt32)))) (by first | exact Ar_q105.1 | (rw [e104]; exact Ar_q105.1)) (State.isArrayOf_alike hZ.alike Ar_q105.2.1) Ar_q105.2.2 hin_q105 hat_q105 (g := (mkF m 15 #[.val (.ref o), .val (.int (1 : Int32)), .val (.int bb)] [(.int ((bb.toUInt32 >>> ((4 : Int32) &&& 31).toUInt32).toInt32)), (.ref hxa), (.int (2 : Int32)), (.ref o)])) rfl rfl (hb hby dW1_15)) ?_
  show Go _ _ _ _ _ _ _ (T104.setTop (mkF m 16 #[.val (.ref o), .val (.int (1 : Int32)), .val (.int bb)] [(.int (own_hx ((bb.toUInt32 >>> ((4 : Int32) &&& 31).toUInt32).toInt32))), (.int (2 : Int32)), (.ref o)]))
  obtain ⟨cl_q106, Ar_q106, q1_q106, S_q106, N_q106, H_q106, G_q106⟩ := id V102
  have hin_q106 : ¬ ((2 : Int32) < 0 ∨ cl_q106.slots.size ≤ ((2 : Int32)).toNatClampNeg) := inb_of S_q106 ⟨by decide, by decide⟩
  obtain ⟨T107, h107, X107, e107, W107, st107⟩ := stC X104 hx hZ e104 Ar_q106 (j := (2 : Int32)) hin_q106 (g := (mkF m 16 #[.val (.ref o), .val (.int (1 : Int32)), .val (.int bb)] [(.int (own_hx ((bb.toUInt32 >>> ((4 : Int32) &&& 31).toUInt32).toInt32))), (.int (2 : Int32)), (.ref o)])) rfl rfl (hb hby dW1_16)
  have V107 : Arv Z h107 o kc .char (8 : Int32) [(.int v0), (.int (nar .char (37 : Int32))), (.int (nar .char (own_hx ((bb.toUInt32 >>> ((4 : Int32) &&& 31).toUInt32).toInt32)))), (.int v3), (.int v4), (.int v5), (.int v6), (.int v7)] (.int (0 : Int32)) := Arv.set Ar_q106 q1_q106 S_q106 N_q106 H_q106 G_q106 (fits_nar_char _) W107 2 rfl (Nat.le_of_ble_eq_true rfl)
  have V108_hxa := V103_hxa.other W107 neh
  have S108_UPPER_HEX := S103_UPPER_HEX.wr W107
  have Z108 := Nat.le_trans Z103 (Keep.of_wr W107).1
  have K108 : Keep h0 h107 [o] := K103.wr W107 (Or.inl (by simp))
  have N107 := Fr.snoc X107 N102 go
  refine Go.by st107 ?_
  show Go _ _ _ _ _ _ _ (T107.setTop (mkF m 17 #[.val (.ref o), .val (.int (1 : Int32)), .val (.int bb)] []))
  refine Go.by (fun _ kont => XS.aloadN X107.here hx rfl (hb hby dW1_17) rfl rfl (XS.iloadN X107.here hx rfl (hb hby dW1_18) rfl (XS.iconst X107.here hx rfl (hb hby dW1_19) (XS.iadd X107.here hx rfl (hb hby dW1_20) rfl kont)))) ?_
  show Go _ _ _ _ _ _ _ (T107.setTop (mkF m 21 #[.val (.ref o), .val (.int (1 : Int32)), .val (.int bb)] [(.int ((1 : Int32) + (2 : Int32))), (.ref o)]))
  rw [show ((1 : Int32) + (2 : Int32)) = (3 : Int32) from by decide]
  show Go _ _ _ _ _ _ _ (T107.setTop (mkF m 21 #[.val (.ref o), .val (.int (1 : Int32)), .val (.int bb)] [(.int (3 : Int32)), (.ref o)]))
  obtain ⟨T109, X109, e109, st109⟩ := getS2 X107 hx hZ hown (host := "") (Or.inl (hw _ (List.mem_of_getElem? (i := 6) rfl))) Via.refl e107 S108_UPPER_HEX (g := (mkF m 21 #[.val (.ref o), .val (.int (1 : Int32)), .val (.int bb)] [(.int (3 : Int32)), (.ref o)])) rfl (hb hby dW1_21)
  refine Go.by st109 ?_
  show Go _ _ _ _ _ _ _ (T109.setTop (mkF m 24 #[.val (.ref o), .val (.int (1 : Int32)), .val (.int bb)] [(.ref hxa), (.int (3 : Int32)), (.ref o)]))
  refine Go.by (fun _ kont => XS.iloadN X109.here hx rfl (hb hby dW1_24) rfl (XS.bipush X109.here hx rfl (hb hby dW1_25) (XS.iand X109.here hx rfl (hb hby dW1_27) rfl kont))) ?_
  show Go _ _ _ _ _ _ _ (T109.setTop (mkF m 28 #[.val (.ref o), .val (.int (1 : Int32)), .val (.int bb)] [(.int (bb &&& (15 : Int32))), (.ref hxa), (.int (3 : Int32)), (.ref o)]))
  obtain ⟨cl_q110, Ar_q110, q1_q110, S_q110, G_q110⟩ := id V108_hxa
  have hin_q110 : ¬ ((bb &&& (15 : Int32)) < 0 ∨ cl_q110.slots.size ≤ ((bb &&& (15 : Int32))).toNatClampNeg) := inb_of S_q110 ⟨(own_in (own_loB bb)).1, (own_in (own_loB bb)).2⟩
  have hat_q110 := G_q110 (bb &&& (15 : Int32)) hin_q110
  refine Go.by (X109.caload hx (j := (bb &&& (15 : Int32))) (v := (.int (own_hx (bb &&& (15 : Int32))))) (by first | exact Ar_q110.1 | (rw [e109]; exact Ar_q110.1)) (State.isArrayOf_alike hZ.alike Ar_q110.2.1) Ar_q110.2.2 hin_q110 hat_q110 (g := (mkF m 28 #[.val (.ref o), .val (.int (1 : Int32)), .val (.int bb)] [(.int (bb &&& (15 : Int32))), (.ref hxa), (.int (3 : Int32)), (.ref o)])) rfl rfl (hb hby dW1_28)) ?_
  show Go _ _ _ _ _ _ _ (T109.setTop (mkF m 29 #[.val (.ref o), .val (.int (1 : Int32)), .val (.int bb)] [(.int (own_hx (bb &&& (15 : Int32)))), (.int (3 : Int32)), (.ref o)]))
  obtain ⟨cl_q111, Ar_q111, q1_q111, S_q111, N_q111, H_q111, G_q111⟩ := id V107
  have hin_q111 : ¬ ((3 : Int32) < 0 ∨ cl_q111.slots.size ≤ ((3 : Int32)).toNatClampNeg) := inb_of S_q111 ⟨by decide, by decide⟩
  obtain ⟨T112, h112, X112, e112, W112, st112⟩ := stC X109 hx hZ e109 Ar_q111 (j := (3 : Int32)) hin_q111 (g := (mkF m 29 #[.val (.ref o), .val (.int (1 : Int32)), .val (.int bb)] [(.int (own_hx (bb &&& (15 : Int32)))), (.int (3 : Int32)), (.ref o)])) rfl rfl (hb hby dW1_29)
  have V112 : Arv Z h112 o kc .char (8 : Int32) [(.int v0), (.int (nar .char (37 : Int32))), (.int (nar .char (own_hx ((bb.toUInt32 >>> ((4 : Int32) &&& 31).toUInt32).toInt32)))), (.int (nar .char (own_hx (bb &&& (15 : Int32))))), (.int v4), (.int v5), (.int v6), (.int v7)] (.int (0 : Int32)) := Arv.set Ar_q111 q1_q111 S_q111 N_q111 H_q111 G_q111 (fits_nar_char _) W112 3 rfl (Nat.le_of_ble_eq_true rfl)
  have V113_hxa := V108_hxa.other W112 neh
  have S113_UPPER_HEX := S108_UPPER_HEX.wr W112
  have Z113 := Nat.le_trans Z108 (Keep.of_wr W112).1
  have K113 : Keep h0 h112 [o] := K108.wr W112 (Or.inl (by simp))
  have N112 := Fr.snoc X112 N107 go
  refine Go.by st112 ?_
  show Go _ _ _ _ _ _ _ (T112.setTop (mkF m 30 #[.val (.ref o), .val (.int (1 : Int32)), .val (.int bb)] []))
  refine Go.by (fun _ kont => XS.iloadN X112.here hx rfl (hb hby dW1_30) rfl (XS.iconst X112.here hx rfl (hb hby dW1_31) (XS.iadd X112.here hx rfl (hb hby dW1_32) rfl kont))) ?_
  show Go _ _ _ _ _ _ _ (T112.setTop (mkF m 33 #[.val (.ref o), .val (.int (1 : Int32)), .val (.int bb)] [(.int ((1 : Int32) + (3 : Int32)))]))
  rw [show ((1 : Int32) + (3 : Int32)) = (4 : Int32) from by decide]
  show Go _ _ _ _ _ _ _ (T112.setTop (mkF m 33 #[.val (.ref o), .val (.int (1 : Int32)), .val (.int bb)] [(.int (4 : Int32))]))
  refine Go.retI X112 hx hret hlk (hb hby dW1_33) ?_ (by decide) (by decide)
  show QW1 Z o bb kc v0 v1 v2 v3 v4 v5 v6 v7 h0 n0 (some (.int (4 : Int32))) T112.heap _
  rw [e112]
  exact ⟨rfl, N112, K113, V112⟩

theorem dW2_0 : decode prog_4_method_3_code 0 = .ok (.aload_n 0, 1) := by decide +kernel
theorem dW2_1 : decode prog_4_method_3_code 1 = .ok (.iload_n 1, 1) := by decide +kernel
theorem dW2_2 : decode prog_4_method_3_code 2 = .ok (.bipush 37, 2) := by decide +kernel
theorem dW2_4 : decode prog_4_method_3_code 4 = .ok (.castore, 1) := by decide +kernel
theorem dW2_5 : decode prog_4_method_3_code 5 = .ok (.aload_n 0, 1) := by decide +kernel
theorem dW2_6 : decode prog_4_method_3_code 6 = .ok (.iload_n 1, 1) := by decide +kernel
theorem dW2_7 : decode prog_4_method_3_code 7 = .ok (.iconst 1, 1) := by decide +kernel
theorem dW2_8 : decode prog_4_method_3_code 8 = .ok (.iadd, 1) := by decide +kernel
theorem dW2_9 : decode prog_4_method_3_code 9 = .ok (.getstatic 13, 3) := by decide +kernel
theorem dW2_12 : decode prog_4_method_3_code 12 = .ok (.iload_n 2, 1) := by decide +kernel
theorem dW2_13 : decode prog_4_method_3_code 13 = .ok (.iconst 4, 1) := by decide +kernel
theorem dW2_14 : decode prog_4_method_3_code 14 = .ok (.iushr, 1) := by decide +kernel
theorem dW2_15 : decode prog_4_method_3_code 15 = .ok (.caload, 1) := by decide +kernel
theorem dW2_16 : decode prog_4_method_3_code 16 = .ok (.castore, 1) := by decide +kernel
theorem dW2_17 : decode prog_4_method_3_code 17 = .ok (.aload_n 0, 1) := by decide +kernel
theorem dW2_18 : decode prog_4_method_3_code 18 = .ok (.iload_n 1, 1) := by decide +kernel
theorem dW2_19 : decode prog_4_method_3_code 19 = .ok (.iconst 2, 1) := by decide +kernel
theorem dW2_20 : decode prog_4_method_3_code 20 = .ok (.iadd, 1) := by decide +kernel
theorem dW2_21 : decode prog_4_method_3_code 21 = .ok (.getstatic 13, 3) := by decide +kernel
theorem dW2_24 : decode prog_4_method_3_code 24 = .ok (.iload_n 2, 1) := by decide +kernel
theorem dW2_25 : decode prog_4_method_3_code 25 = .ok (.bipush 15, 2) := by decide +kernel
theorem dW2_27 : decode prog_4_method_3_code 27 = .ok (.iand, 1) := by decide +kernel
theorem dW2_28 : decode prog_4_method_3_code 28 = .ok (.caload, 1) := by decide +kernel
theorem dW2_29 : decode prog_4_method_3_code 29 = .ok (.castore, 1) := by decide +kernel
theorem dW2_30 : decode prog_4_method_3_code 30 = .ok (.iload_n 1, 1) := by decide +kernel
theorem dW2_31 : decode prog_4_method_3_code 31 = .ok (.iconst 3, 1) := by decide +kernel
theorem dW2_32 : decode prog_4_method_3_code 32 = .ok (.iadd, 1) := by decide +kernel
theorem dW2_33 : decode prog_4_method_3_code 33 = .ok (.ireturn, 1) := by decide +kernel
theorem pnW2 : plainName "com/example/pctenc/pctenc/Escape" = true := by first | (simp [plainName, overriddenIn]; done) | decide +kernel
theorem efW2 (m : MethodId) (o : Addr) (bb : Int32) : entryFrame m #[(.ref o), (.int (2 : Int32)), (.int bb)] 3 = mkF m 0 #[.val (.ref o), .val (.int (2 : Int32)), .val (.int bb)] [] := by first | (simp [entryFrame, mkF, argsToLocals, Value.category]; done) | rfl
def QW2 (Z : State) (o : Addr) (bb : Int32) (kc : ClassId) (v0 : Int32) (v1 : Int32) (v2 : Int32) (v3 : Int32) (v4 : Int32) (v5 : Int32) (v6 : Int32) (v7 : Int32) (h0 : Heap) (n0 : Nat) (v : Option Value) (h : Heap) (L : List Loc) : Prop := v = some (.int (5 : Int32)) ∧ Fr n0 L ∧ Keep h0 h [o] ∧ Arv Z h o kc .char (8 : Int32) [(.int v0), (.int v1), (.int (nar .char (37 : Int32))), (.int (nar .char (own_hx ((bb.toUInt32 >>> ((4 : Int32) &&& 31).toUInt32).toInt32)))), (.int (nar .char (own_hx (bb &&& (15 : Int32))))), (.int v5), (.int v6), (.int v7)] (.int (0 : Int32))
set_option maxRecDepth 65536 in
set_option maxHeartbeats 40000000 in
theorem rmW2 (l : Launch) (Z : State) (a0 : Array Value) (hw : ∀ d ∈ tables_1, d.before a0 Z = true) (ws : List Jvm.Cond) (o : Addr) (bb : Int32) (kc : ClassId) (hxa : Addr) (kh : ClassId) (v0 : Int32) (v1 : Int32) (v2 : Int32) (v3 : Int32) (v4 : Int32) (v5 : Int32) (v6 : Int32) (v7 : Int32) (h0 : Heap) (n0 : Nat) (Z0 : n0 ≤ h0.size) (Vo : Arv Z h0 o kc .char (8 : Int32) [(.int v0), (.int v1), (.int v2), (.int v3), (.int v4), (.int v5), (.int v6), (.int v7)] (.int (0 : Int32))) (Vh : HX Z h0 hxa kh) (Sh : Sta Z h0 "com/example/pctenc/pctenc/Escape" "UPPER_HEX" "[C" (.ref hxa)) (neh : hxa ≠ o) (go : n0 ≤ o) (Bb : 0 ≤ bb.toInt ∧ bb.toInt < 256) :
    MetFree l (⟨"com/example/pctenc/pctenc/Escape", "write", "([CII)I"⟩ : MethodName) (head1 (Jvm.Cond.code (⟨"com/example/pctenc/pctenc/Escape", "write", "([CII)I"⟩ : MethodName) prog_4_method_3_code 3 (some .int) :: ws) ({ frames := 0, cells := 0, slots := 0, locals := 0 } : Room)) (fun aa_ U_ => aa_ = #[(.ref o), (.int (2 : Int32)), (.int bb)] ∧ Z.Warmed39 U_.vm ∧ U_.heap = h0) (fun _ _ _ _ _ => True) (fun _ U_ o_ V_ => ∃ v_ L_, o_ = .returned v_ ∧ QW2 Z o bb kc v0 v1 v2 v3 v4 v5 v6 v7 h0 n0 v_ V_.heap L_ ∧ FrameEnd U_ o_ V_ L_ ({ frames := 0, cells := 0, slots := 0, locals := 0 } : Room).cells ({ frames := 0, cells := 0, slots := 0, locals := 0 } : Room).slots) := by
  refine MetFree.of_bodySF (plainFor_of_name pnW2) hisR ?_
  intro p e s m args below meth c s₁ Bd hml0 hP hK
  obtain ⟨rfl, hZ, hh⟩ := hP
  have hx := Bd.exec
  have hby := Bd.bytes
  have hml : c.maxLocals = 3 := hml0
  have hown : s.vm.findClass "com/example/pctenc/pctenc/Escape" = some m.cls := findClass_of_methodNamed Bd.named
  have hnm := (name_of_methodNamed Bd.named Bd.method).1
  have hlk : meth.locks = false := BodyLoose.notSynchronized Bd
  have hret : meth.sig.returnType = (some .int) := Bd.returns
  have X0 : Stand p l e ({ frames := 0, cells := 0, slots := 0, locals := 0 } : Room) s m #[(.ref o), (.int (2 : Int32)), (.int bb)] below meth c s₁ [] 0 0 := Stand.of_body Bd
  have e0 : s₁.heap = h0 := by rw [← hh, Bd.state]; rfl
  have N0 := Fr.nil n0
  show Go p e below s ({ frames := 0, cells := 0, slots := 0, locals := 0 } : Room).cells ({ frames := 0, cells := 0, slots := 0, locals := 0 } : Room).slots (QW2 Z o bb kc v0 v1 v2 v3 v4 v5 v6 v7 h0 n0) (s₁.setTop (entryFrame m #[(.ref o), (.int (2 : Int32)), (.int bb)] 3))
  rw [efW2]
  refine Go.by (fun _ kont => XS.aloadN X0.here hx rfl (hb hby dW2_0) rfl rfl (XS.iloadN X0.here hx rfl (hb hby dW2_1) rfl (XS.bipush X0.here hx rfl (hb hby dW2_2) kont))) ?_
  show Go _ _ _ _ _ _ _ (s₁.setTop (mkF m 4 #[.val (.ref o), .val (.int (2 : Int32)), .val (.int bb)] [(.int (37 : Int32)), (.int (2 : Int32)), (.ref o)]))
  obtain ⟨cl_q101, Ar_q101, q1_q101, S_q101, N_q101, H_q101, G_q101⟩ := id Vo
  have hin_q101 : ¬ ((2 : Int32) < 0 ∨ cl_q101.slots.size ≤ ((2 : Int32)).toNatClampNeg) := inb_of S_q101 ⟨by decide, by decide⟩
  obtain ⟨T102, h102, X102, e102, W102, st102⟩ := stC X0 hx hZ e0 Ar_q101 (j := (2 : Int32)) hin_q101 (g := (mkF m 4 #[.val (.ref o), .val (.int (2 : Int32)), .val (.int bb)] [(.int (37 : Int32)), (.int (2 : Int32)), (.ref o)])) rfl rfl (hb hby dW2_4)
  have V102 : Arv Z h102 o kc .char (8 : Int32) [(.int v0), (.int v1), (.int (nar .char (37 : Int32))), (.int v3), (.int v4), (.int v5), (.int v6), (.int v7)] (.int (0 : Int32)) := Arv.set Ar_q101 q1_q101 S_q101 N_q101 H_q101 G_q101 (fits_nar_char _) W102 2 rfl (Nat.le_of_ble_eq_true rfl)
  have V103_hxa := Vh.other W102 neh
  have S103_UPPER_HEX := Sh.wr W102
  have Z103 := Nat.le_trans Z0 (Keep.of_wr W102).1
  have K103 : Keep h0 h102 [o] := (Keep.refl h0 [o]).wr W102 (Or.inl (by simp))
  have N102 := Fr.snoc X102 N0 go
  refine Go.by st102 ?_
  show Go _ _ _ _ _ _ _ (T102.setTop (mkF m 5 #[.val (.ref o), .val (.int (2 : Int32)), .val (.int bb)] []))
  refine Go.by (fun _ kont => XS.aloadN X102.here hx rfl (hb hby dW2_5) rfl rfl (XS.iloadN X102.here hx rfl (hb hby dW2_6) rfl (XS.iconst X102.here hx rfl (hb hby dW2_7) (XS.iadd X102.here hx rfl (hb hby dW2_8) rfl kont)))) ?_
  show Go _ _ _ _ _ _ _ (T102.setTop (mkF m 9 #[.val (.ref o), .val (.int (2 : Int32)), .val (.int bb)] [(.int ((2 : Int32) + (1 : Int32))), (.ref o)]))
  rw [show ((2 : Int32) + (1 : Int32)) = (3 : Int32) from by decide]
  show Go _ _ _ _ _ _ _ (T102.setTop (mkF m 9 #[.val (.ref o), .val (.int (2 : Int32)), .val (.int bb)] [(.int (3 : Int32)), (.ref o)]))
  obtain ⟨T104, X104, e104, st104⟩ := getS2 X102 hx hZ hown (host := "") (Or.inl (hw _ (List.mem_of_getElem? (i := 6) rfl))) Via.refl e102 S103_UPPER_HEX (g := (mkF m 9 #[.val (.ref o), .val (.int (2 : Int32)), .val (.int bb)] [(.int (3 : Int32)), (.ref o)])) rfl (hb hby dW2_9)
  refine Go.by st104 ?_
  show Go _ _ _ _ _ _ _ (T104.setTop (mkF m 12 #[.val (.ref o), .val (.int (2 : Int32)), .val (.int bb)] [(.ref hxa), (.int (3 : Int32)), (.ref o)]))
  refine Go.by (fun _ kont => XS.iloadN X104.here hx rfl (hb hby dW2_12) rfl (XS.iconst X104.here hx rfl (hb hby dW2_13) (XS.iushr X104.here hx rfl (hb hby dW2_14) rfl kont))) ?_
  show Go _ _ _ _ _ _ _ (T104.setTop (mkF m 15 #[.val (.ref o), .val (.int (2 : Int32)), .val (.int bb)] [(.int ((bb.toUInt32 >>> ((4 : Int32) &&& 31).toUInt32).toInt32)), (.ref hxa), (.int (3 : Int32)), (.ref o)]))
  obtain ⟨cl_q105, Ar_q105, q1_q105, S_q105, G_q105⟩ := id V103_hxa
  have hin_q105 : ¬ (((bb.toUInt32 >>> ((4 : Int32) &&& 31).toUInt32).toInt32) < 0 ∨ cl_q105.slots.size ≤ (((bb.toUInt32 >>> ((4 : Int32) &&& 31).toUInt32).toInt32)).toNatClampNeg) := inb_of S_q105 ⟨(own_in (own_hiB bb Bb)).1, (own_in (own_hiB bb Bb)).2⟩
  have hat_q105 := G_q105 ((bb.toUInt32 >>> ((4 : Int32) &&& 31).toUInt32).toInt32) hin_q105
  refine Go.by (X104.caload hx (j := ((bb.toUInt32 >>> ((4 : Int32) &&& 31).toUInt32).toInt32)) (v := (.int (own_hx ((bb.toUInt32 >>> ((4 : Int32) &&& 31).toUInt32).toInt32)))) (by first | exact Ar_q105.1 | (rw [e104]; exact Ar_q105.1)) (State.isArrayOf_alike hZ.alike Ar_q105.2.1) Ar_q105.2.2 hin_q105 hat_q105 (g := (mkF m 15 #[.val (.ref o), .val (.int (2 : Int32)), .val (.int bb)] [(.int ((bb.toUInt32 >>> ((4 : Int32) &&& 31).toUInt32).toInt32)), (.ref hxa), (.int (3 : Int32)), (.ref o)])) rfl rfl (hb hby dW2_15)) ?_
  show Go _ _ _ _ _ _ _ (T104.setTop (mkF m 16 #[.val (.ref o), .val (.int (2 : Int32)), .val (.int bb)] [(.int (own_hx ((bb.toUInt32 >>> ((4 : Int32) &&& 31).toUInt32).toInt32))), (.int (3 : Int32)), (.ref o)]))
  obtain ⟨cl_q106, Ar_q106, q1_q106, S_q106, N_q106, H_q106, G_q106⟩ := id V102
  have hin_q106 : ¬ ((3 : Int32) < 0 ∨ cl_q106.slots.size ≤ ((3 : Int32)).toNatClampNeg) := inb_of S_q106 ⟨by decide, by decide⟩
  obtain ⟨T107, h107, X107, e107, W107, st107⟩ := stC X104 hx hZ e104 Ar_q106 (j := (3 : Int32)) hin_q106 (g := (mkF m 16 #[.val (.ref o), .val (.int (2 : Int32)), .val (.int bb)] [(.int (own_hx ((bb.toUInt32 >>> ((4 : Int32) &&& 31).toUInt32).toInt32))), (.int (3 : Int32)), (.ref o)])) rfl rfl (hb hby dW2_16)
  have V107 : Arv Z h107 o kc .char (8 : Int32) [(.int v0), (.int v1), (.int (nar .char (37 : Int32))), (.int (nar .char (own_hx ((bb.toUInt32 >>> ((4 : Int32) &&& 31).toUInt32).toInt32)))), (.int v4), (.int v5), (.int v6), (.int v7)] (.int (0 : Int32)) := Arv.set Ar_q106 q1_q106 S_q106 N_q106 H_q106 G_q106 (fits_nar_char _) W107 3 rfl (Nat.le_of_ble_eq_true rfl)
  have V108_hxa := V103_hxa.other W107 neh
  have S108_UPPER_HEX := S103_UPPER_HEX.wr W107
  have Z108 := Nat.le_trans Z103 (Keep.of_wr W107).1
  have K108 : Keep h0 h107 [o] := K103.wr W107 (Or.inl (by simp))
  have N107 := Fr.snoc X107 N102 go
  refine Go.by st107 ?_
  show Go _ _ _ _ _ _ _ (T107.setTop (mkF m 17 #[.val (.ref o), .val (.int (2 : Int32)), .val (.int bb)] []))
  refine Go.by (fun _ kont => XS.aloadN X107.here hx rfl (hb hby dW2_17) rfl rfl (XS.iloadN X107.here hx rfl (hb hby dW2_18) rfl (XS.iconst X107.here hx rfl (hb hby dW2_19) (XS.iadd X107.here hx rfl (hb hby dW2_20) rfl kont)))) ?_
  show Go _ _ _ _ _ _ _ (T107.setTop (mkF m 21 #[.val (.ref o), .val (.int (2 : Int32)), .val (.int bb)] [(.int ((2 : Int32) + (2 : Int32))), (.ref o)]))
  rw [show ((2 : Int32) + (2 : Int32)) = (4 : Int32) from by decide]
  show Go _ _ _ _ _ _ _ (T107.setTop (mkF m 21 #[.val (.ref o), .val (.int (2 : Int32)), .val (.int bb)] [(.int (4 : Int32)), (.ref o)]))
  obtain ⟨T109, X109, e109, st109⟩ := getS2 X107 hx hZ hown (host := "") (Or.inl (hw _ (List.mem_of_getElem? (i := 6) rfl))) Via.refl e107 S108_UPPER_HEX (g := (mkF m 21 #[.val (.ref o), .val (.int (2 : Int32)), .val (.int bb)] [(.int (4 : Int32)), (.ref o)])) rfl (hb hby dW2_21)
  refine Go.by st109 ?_
  show Go _ _ _ _ _ _ _ (T109.setTop (mkF m 24 #[.val (.ref o), .val (.int (2 : Int32)), .val (.int bb)] [(.ref hxa), (.int (4 : Int32)), (.ref o)]))
  refine Go.by (fun _ kont => XS.iloadN X109.here hx rfl (hb hby dW2_24) rfl (XS.bipush X109.here hx rfl (hb hby dW2_25) (XS.iand X109.here hx rfl (hb hby dW2_27) rfl kont))) ?_
  show Go _ _ _ _ _ _ _ (T109.setTop (mkF m 28 #[.val (.ref o), .val (.int (2 : Int32)), .val (.int bb)] [(.int (bb &&& (15 : Int32))), (.ref hxa), (.int (4 : Int32)), (.ref o)]))
  obtain ⟨cl_q110, Ar_q110, q1_q110, S_q110, G_q110⟩ := id V108_hxa
  have hin_q110 : ¬ ((bb &&& (15 : Int32)) < 0 ∨ cl_q110.slots.size ≤ ((bb &&& (15 : Int32))).toNatClampNeg) := inb_of S_q110 ⟨(own_in (own_loB bb)).1, (own_in (own_loB bb)).2⟩
  have hat_q110 := G_q110 (bb &&& (15 : Int32)) hin_q110
  refine Go.by (X109.caload hx (j := (bb &&& (15 : Int32))) (v := (.int (own_hx (bb &&& (15 : Int32))))) (by first | exact Ar_q110.1 | (rw [e109]; exact Ar_q110.1)) (State.isArrayOf_alike hZ.alike Ar_q110.2.1) Ar_q110.2.2 hin_q110 hat_q110 (g := (mkF m 28 #[.val (.ref o), .val (.int (2 : Int32)), .val (.int bb)] [(.int (bb &&& (15 : Int32))), (.ref hxa), (.int (4 : Int32)), (.ref o)])) rfl rfl (hb hby dW2_28)) ?_
  show Go _ _ _ _ _ _ _ (T109.setTop (mkF m 29 #[.val (.ref o), .val (.int (2 : Int32)), .val (.int bb)] [(.int (own_hx (bb &&& (15 : Int32)))), (.int (4 : Int32)), (.ref o)]))
  obtain ⟨cl_q111, Ar_q111, q1_q111, S_q111, N_q111, H_q111, G_q111⟩ := id V107
  have hin_q111 : ¬ ((4 : Int32) < 0 ∨ cl_q111.slots.size ≤ ((4 : Int32)).toNatClampNeg) := inb_of S_q111 ⟨by decide, by decide⟩
  obtain ⟨T112, h112, X112, e112, W112, st112⟩ := stC X109 hx hZ e109 Ar_q111 (j := (4 : Int32)) hin_q111 (g := (mkF m 29 #[.val (.ref o), .val (.int (2 : Int32)), .val (.int bb)] [(.int (own_hx (bb &&& (15 : Int32)))), (.int (4 : Int32)), (.ref o)])) rfl rfl (hb hby dW2_29)
  have V112 : Arv Z h112 o kc .char (8 : Int32) [(.int v0), (.int v1), (.int (nar .char (37 : Int32))), (.int (nar .char (own_hx ((bb.toUInt32 >>> ((4 : Int32) &&& 31).toUInt32).toInt32)))), (.int (nar .char (own_hx (bb &&& (15 : Int32))))), (.int v5), (.int v6), (.int v7)] (.int (0 : Int32)) := Arv.set Ar_q111 q1_q111 S_q111 N_q111 H_q111 G_q111 (fits_nar_char _) W112 4 rfl (Nat.le_of_ble_eq_true rfl)
  have V113_hxa := V108_hxa.other W112 neh
  have S113_UPPER_HEX := S108_UPPER_HEX.wr W112
  have Z113 := Nat.le_trans Z108 (Keep.of_wr W112).1
  have K113 : Keep h0 h112 [o] := K108.wr W112 (Or.inl (by simp))
  have N112 := Fr.snoc X112 N107 go
  refine Go.by st112 ?_
  show Go _ _ _ _ _ _ _ (T112.setTop (mkF m 30 #[.val (.ref o), .val (.int (2 : Int32)), .val (.int bb)] []))
  refine Go.by (fun _ kont => XS.iloadN X112.here hx rfl (hb hby dW2_30) rfl (XS.iconst X112.here hx rfl (hb hby dW2_31) (XS.iadd X112.here hx rfl (hb hby dW2_32) rfl kont))) ?_
  show Go _ _ _ _ _ _ _ (T112.setTop (mkF m 33 #[.val (.ref o), .val (.int (2 : Int32)), .val (.int bb)] [(.int ((2 : Int32) + (3 : Int32)))]))
  rw [show ((2 : Int32) + (3 : Int32)) = (5 : Int32) from by decide]
  show Go _ _ _ _ _ _ _ (T112.setTop (mkF m 33 #[.val (.ref o), .val (.int (2 : Int32)), .val (.int bb)] [(.int (5 : Int32))]))
  refine Go.retI X112 hx hret hlk (hb hby dW2_33) ?_ (by decide) (by decide)
  show QW2 Z o bb kc v0 v1 v2 v3 v4 v5 v6 v7 h0 n0 (some (.int (5 : Int32))) T112.heap _
  rw [e112]
  exact ⟨rfl, N112, K113, V112⟩

theorem dW3_0 : decode prog_4_method_3_code 0 = .ok (.aload_n 0, 1) := by decide +kernel
theorem dW3_1 : decode prog_4_method_3_code 1 = .ok (.iload_n 1, 1) := by decide +kernel
theorem dW3_2 : decode prog_4_method_3_code 2 = .ok (.bipush 37, 2) := by decide +kernel
theorem dW3_4 : decode prog_4_method_3_code 4 = .ok (.castore, 1) := by decide +kernel
theorem dW3_5 : decode prog_4_method_3_code 5 = .ok (.aload_n 0, 1) := by decide +kernel
theorem dW3_6 : decode prog_4_method_3_code 6 = .ok (.iload_n 1, 1) := by decide +kernel
theorem dW3_7 : decode prog_4_method_3_code 7 = .ok (.iconst 1, 1) := by decide +kernel
theorem dW3_8 : decode prog_4_method_3_code 8 = .ok (.iadd, 1) := by decide +kernel
theorem dW3_9 : decode prog_4_method_3_code 9 = .ok (.getstatic 13, 3) := by decide +kernel
theorem dW3_12 : decode prog_4_method_3_code 12 = .ok (.iload_n 2, 1) := by decide +kernel
theorem dW3_13 : decode prog_4_method_3_code 13 = .ok (.iconst 4, 1) := by decide +kernel
theorem dW3_14 : decode prog_4_method_3_code 14 = .ok (.iushr, 1) := by decide +kernel
theorem dW3_15 : decode prog_4_method_3_code 15 = .ok (.caload, 1) := by decide +kernel
theorem dW3_16 : decode prog_4_method_3_code 16 = .ok (.castore, 1) := by decide +kernel
theorem dW3_17 : decode prog_4_method_3_code 17 = .ok (.aload_n 0, 1) := by decide +kernel
theorem dW3_18 : decode prog_4_method_3_code 18 = .ok (.iload_n 1, 1) := by decide +kernel
theorem dW3_19 : decode prog_4_method_3_code 19 = .ok (.iconst 2, 1) := by decide +kernel
theorem dW3_20 : decode prog_4_method_3_code 20 = .ok (.iadd, 1) := by decide +kernel
theorem dW3_21 : decode prog_4_method_3_code 21 = .ok (.getstatic 13, 3) := by decide +kernel
theorem dW3_24 : decode prog_4_method_3_code 24 = .ok (.iload_n 2, 1) := by decide +kernel
theorem dW3_25 : decode prog_4_method_3_code 25 = .ok (.bipush 15, 2) := by decide +kernel
theorem dW3_27 : decode prog_4_method_3_code 27 = .ok (.iand, 1) := by decide +kernel
theorem dW3_28 : decode prog_4_method_3_code 28 = .ok (.caload, 1) := by decide +kernel
theorem dW3_29 : decode prog_4_method_3_code 29 = .ok (.castore, 1) := by decide +kernel
theorem dW3_30 : decode prog_4_method_3_code 30 = .ok (.iload_n 1, 1) := by decide +kernel
theorem dW3_31 : decode prog_4_method_3_code 31 = .ok (.iconst 3, 1) := by decide +kernel
theorem dW3_32 : decode prog_4_method_3_code 32 = .ok (.iadd, 1) := by decide +kernel
theorem dW3_33 : decode prog_4_method_3_code 33 = .ok (.ireturn, 1) := by decide +kernel
theorem pnW3 : plainName "com/example/pctenc/pctenc/Escape" = true := by first | (simp [plainName, overriddenIn]; done) | decide +kernel
theorem efW3 (m : MethodId) (o : Addr) (bb : Int32) : entryFrame m #[(.ref o), (.int (3 : Int32)), (.int bb)] 3 = mkF m 0 #[.val (.ref o), .val (.int (3 : Int32)), .val (.int bb)] [] := by first | (simp [entryFrame, mkF, argsToLocals, Value.category]; done) | rfl
def QW3 (Z : State) (o : Addr) (bb : Int32) (kc : ClassId) (v0 : Int32) (v1 : Int32) (v2 : Int32) (v3 : Int32) (v4 : Int32) (v5 : Int32) (v6 : Int32) (v7 : Int32) (h0 : Heap) (n0 : Nat) (v : Option Value) (h : Heap) (L : List Loc) : Prop := v = some (.int (6 : Int32)) ∧ Fr n0 L ∧ Keep h0 h [o] ∧ Arv Z h o kc .char (8 : Int32) [(.int v0), (.int v1), (.int v2), (.int (nar .char (37 : Int32))), (.int (nar .char (own_hx ((bb.toUInt32 >>> ((4 : Int32) &&& 31).toUInt32).toInt32)))), (.int (nar .char (own_hx (bb &&& (15 : Int32))))), (.int v6), (.int v7)] (.int (0 : Int32))
set_option maxRecDepth 65536 in
set_option maxHeartbeats 40000000 in
theorem rmW3 (l : Launch) (Z : State) (a0 : Array Value) (hw : ∀ d ∈ tables_1, d.before a0 Z = true) (ws : List Jvm.Cond) (o : Addr) (bb : Int32) (kc : ClassId) (hxa : Addr) (kh : ClassId) (v0 : Int32) (v1 : Int32) (v2 : Int32) (v3 : Int32) (v4 : Int32) (v5 : Int32) (v6 : Int32) (v7 : Int32) (h0 : Heap) (n0 : Nat) (Z0 : n0 ≤ h0.size) (Vo : Arv Z h0 o kc .char (8 : Int32) [(.int v0), (.int v1), (.int v2), (.int v3), (.int v4), (.int v5), (.int v6), (.int v7)] (.int (0 : Int32))) (Vh : HX Z h0 hxa kh) (Sh : Sta Z h0 "com/example/pctenc/pctenc/Escape" "UPPER_HEX" "[C" (.ref hxa)) (neh : hxa ≠ o) (go : n0 ≤ o) (Bb : 0 ≤ bb.toInt ∧ bb.toInt < 256) :
    MetFree l (⟨"com/example/pctenc/pctenc/Escape", "write", "([CII)I"⟩ : MethodName) (head1 (Jvm.Cond.code (⟨"com/example/pctenc/pctenc/Escape", "write", "([CII)I"⟩ : MethodName) prog_4_method_3_code 3 (some .int) :: ws) ({ frames := 0, cells := 0, slots := 0, locals := 0 } : Room)) (fun aa_ U_ => aa_ = #[(.ref o), (.int (3 : Int32)), (.int bb)] ∧ Z.Warmed39 U_.vm ∧ U_.heap = h0) (fun _ _ _ _ _ => True) (fun _ U_ o_ V_ => ∃ v_ L_, o_ = .returned v_ ∧ QW3 Z o bb kc v0 v1 v2 v3 v4 v5 v6 v7 h0 n0 v_ V_.heap L_ ∧ FrameEnd U_ o_ V_ L_ ({ frames := 0, cells := 0, slots := 0, locals := 0 } : Room).cells ({ frames := 0, cells := 0, slots := 0, locals := 0 } : Room).slots) := by
  refine MetFree.of_bodySF (plainFor_of_name pnW3) hisR ?_
  intro p e s m args below meth c s₁ Bd hml0 hP hK
  obtain ⟨rfl, hZ, hh⟩ := hP
  have hx := Bd.exec
  have hby := Bd.bytes
  have hml : c.maxLocals = 3 := hml0
  have hown : s.vm.findClass "com/example/pctenc/pctenc/Escape" = some m.cls := findClass_of_methodNamed Bd.named
  have hnm := (name_of_methodNamed Bd.named Bd.method).1
  have hlk : meth.locks = false := BodyLoose.notSynchronized Bd
  have hret : meth.sig.returnType = (some .int) := Bd.returns
  have X0 : Stand p l e ({ frames := 0, cells := 0, slots := 0, locals := 0 } : Room) s m #[(.ref o), (.int (3 : Int32)), (.int bb)] below meth c s₁ [] 0 0 := Stand.of_body Bd
  have e0 : s₁.heap = h0 := by rw [← hh, Bd.state]; rfl
  have N0 := Fr.nil n0
  show Go p e below s ({ frames := 0, cells := 0, slots := 0, locals := 0 } : Room).cells ({ frames := 0, cells := 0, slots := 0, locals := 0 } : Room).slots (QW3 Z o bb kc v0 v1 v2 v3 v4 v5 v6 v7 h0 n0) (s₁.setTop (entryFrame m #[(.ref o), (.int (3 : Int32)), (.int bb)] 3))
  rw [efW3]
  refine Go.by (fun _ kont => XS.aloadN X0.here hx rfl (hb hby dW3_0) rfl rfl (XS.iloadN X0.here hx rfl (hb hby dW3_1) rfl (XS.bipush X0.here hx rfl (hb hby dW3_2) kont))) ?_
  show Go _ _ _ _ _ _ _ (s₁.setTop (mkF m 4 #[.val (.ref o), .val (.int (3 : Int32)), .val (.int bb)] [(.int (37 : Int32)), (.int (3 : Int32)), (.ref o)]))
  obtain ⟨cl_q101, Ar_q101, q1_q101, S_q101, N_q101, H_q101, G_q101⟩ := id Vo
  have hin_q101 : ¬ ((3 : Int32) < 0 ∨ cl_q101.slots.size ≤ ((3 : Int32)).toNatClampNeg) := inb_of S_q101 ⟨by decide, by decide⟩
  obtain ⟨T102, h102, X102, e102, W102, st102⟩ := stC X0 hx hZ e0 Ar_q101 (j := (3 : Int32)) hin_q101 (g := (mkF m 4 #[.val (.ref o), .val (.int (3 : Int32)), .val (.int bb)] [(.int (37 : Int32)), (.int (3 : Int32)), (.ref o)])) rfl rfl (hb hby dW3_4)
  have V102 : Arv Z h102 o kc .char (8 : Int32) [(.int v0), (.int v1), (.int v2), (.int (nar .char (37 : Int32))), (.int v4), (.int v5), (.int v6), (.int v7)] (.int (0 : Int32)) := Arv.set Ar_q101 q1_q101 S_q101 N_q101 H_q101 G_q101 (fits_nar_char _) W102 3 rfl (Nat.le_of_ble_eq_true rfl)
  have V103_hxa := Vh.other W102 neh
  have S103_UPPER_HEX := Sh.wr W102
  have Z103 := Nat.le_trans Z0 (Keep.of_wr W102).1
  have K103 : Keep h0 h102 [o] := (Keep.refl h0 [o]).wr W102 (Or.inl (by simp))
  have N102 := Fr.snoc X102 N0 go
  refine Go.by st102 ?_
  show Go _ _ _ _ _ _ _ (T102.setTop (mkF m 5 #[.val (.ref o), .val (.int (3 : Int32)), .val (.int bb)] []))
  refine Go.by (fun _ kont => XS.aloadN X102.here hx rfl (hb hby dW3_5) rfl rfl (XS.iloadN X102.here hx rfl (hb hby dW3_6) rfl (XS.iconst X102.here hx rfl (hb hby dW3_7) (XS.iadd X102.here hx rfl (hb hby dW3_8) rfl kont)))) ?_
  show Go _ _ _ _ _ _ _ (T102.setTop (mkF m 9 #[.val (.ref o), .val (.int (3 : Int32)), .val (.int bb)] [(.int ((3 : Int32) + (1 : Int32))), (.ref o)]))
  rw [show ((3 : Int32) + (1 : Int32)) = (4 : Int32) from by decide]
  show Go _ _ _ _ _ _ _ (T102.setTop (mkF m 9 #[.val (.ref o), .val (.int (3 : Int32)), .val (.int bb)] [(.int (4 : Int32)), (.ref o)]))
  obtain ⟨T104, X104, e104, st104⟩ := getS2 X102 hx hZ hown (host := "") (Or.inl (hw _ (List.mem_of_getElem? (i := 6) rfl))) Via.refl e102 S103_UPPER_HEX (g := (mkF m 9 #[.val (.ref o), .val (.int (3 : Int32)), .val (.int bb)] [(.int (4 : Int32)), (.ref o)])) rfl (hb hby dW3_9)
  refine Go.by st104 ?_
  show Go _ _ _ _ _ _ _ (T104.setTop (mkF m 12 #[.val (.ref o), .val (.int (3 : Int32)), .val (.int bb)] [(.ref hxa), (.int (4 : Int32)), (.ref o)]))
  refine Go.by (fun _ kont => XS.iloadN X104.here hx rfl (hb hby dW3_12) rfl (XS.iconst X104.here hx rfl (hb hby dW3_13) (XS.iushr X104.here hx rfl (hb hby dW3_14) rfl kont))) ?_
  show Go _ _ _ _ _ _ _ (T104.setTop (mkF m 15 #[.val (.ref o), .val (.int (3 : Int32)), .val (.int bb)] [(.int ((bb.toUInt32 >>> ((4 : Int32) &&& 31).toUInt32).toInt32)), (.ref hxa), (.int (4 : Int32)), (.ref o)]))
  obtain ⟨cl_q105, Ar_q105, q1_q105, S_q105, G_q105⟩ := id V103_hxa
  have hin_q105 : ¬ (((bb.toUInt32 >>> ((4 : Int32) &&& 31).toUInt32).toInt32) < 0 ∨ cl_q105.slots.size ≤ (((bb.toUInt32 >>> ((4 : Int32) &&& 31).toUInt32).toInt32)).toNatClampNeg) := inb_of S_q105 ⟨(own_in (own_hiB bb Bb)).1, (own_in (own_hiB bb Bb)).2⟩
  have hat_q105 := G_q105 ((bb.toUInt32 >>> ((4 : Int32) &&& 31).toUInt32).toInt32) hin_q105
  refine Go.by (X104.caload hx (j := ((bb.toUInt32 >>> ((4 : Int32) &&& 31).toUInt32).toInt32)) (v := (.int (own_hx ((bb.toUInt32 >>> ((4 : Int32) &&& 31).toUInt32).toInt32)))) (by first | exact Ar_q105.1 | (rw [e104]; exact Ar_q105.1)) (State.isArrayOf_alike hZ.alike Ar_q105.2.1) Ar_q105.2.2 hin_q105 hat_q105 (g := (mkF m 15 #[.val (.ref o), .val (.int (3 : Int32)), .val (.int bb)] [(.int ((bb.toUInt32 >>> ((4 : Int32) &&& 31).toUInt32).toInt32)), (.ref hxa), (.int (4 : Int32)), (.ref o)])) rfl rfl (hb hby dW3_15)) ?_
  show Go _ _ _ _ _ _ _ (T104.setTop (mkF m 16 #[.val (.ref o), .val (.int (3 : Int32)), .val (.int bb)] [(.int (own_hx ((bb.toUInt32 >>> ((4 : Int32) &&& 31).toUInt32).toInt32))), (.int (4 : Int32)), (.ref o)]))
  obtain ⟨cl_q106, Ar_q106, q1_q106, S_q106, N_q106, H_q106, G_q106⟩ := id V102
  have hin_q106 : ¬ ((4 : Int32) < 0 ∨ cl_q106.slots.size ≤ ((4 : Int32)).toNatClampNeg) := inb_of S_q106 ⟨by decide, by decide⟩
  obtain ⟨T107, h107, X107, e107, W107, st107⟩ := stC X104 hx hZ e104 Ar_q106 (j := (4 : Int32)) hin_q106 (g := (mkF m 16 #[.val (.ref o), .val (.int (3 : Int32)), .val (.int bb)] [(.int (own_hx ((bb.toUInt32 >>> ((4 : Int32) &&& 31).toUInt32).toInt32))), (.int (4 : Int32)), (.ref o)])) rfl rfl (hb hby dW3_16)
  have V107 : Arv Z h107 o kc .char (8 : Int32) [(.int v0), (.int v1), (.int v2), (.int (nar .char (37 : Int32))), (.int (nar .char (own_hx ((bb.toUInt32 >>> ((4 : Int32) &&& 31).toUInt32).toInt32)))), (.int v5), (.int v6), (.int v7)] (.int (0 : Int32)) := Arv.set Ar_q106 q1_q106 S_q106 N_q106 H_q106 G_q106 (fits_nar_char _) W107 4 rfl (Nat.le_of_ble_eq_true rfl)
  have V108_hxa := V103_hxa.other W107 neh
  have S108_UPPER_HEX := S103_UPPER_HEX.wr W107
  have Z108 := Nat.le_trans Z103 (Keep.of_wr W107).1
  have K108 : Keep h0 h107 [o] := K103.wr W107 (Or.inl (by simp))
  have N107 := Fr.snoc X107 N102 go
  refine Go.by st107 ?_
  show Go _ _ _ _ _ _ _ (T107.setTop (mkF m 17 #[.val (.ref o), .val (.int (3 : Int32)), .val (.int bb)] []))
  refine Go.by (fun _ kont => XS.aloadN X107.here hx rfl (hb hby dW3_17) rfl rfl (XS.iloadN X107.here hx rfl (hb hby dW3_18) rfl (XS.iconst X107.here hx rfl (hb hby dW3_19) (XS.iadd X107.here hx rfl (hb hby dW3_20) rfl kont)))) ?_
  show Go _ _ _ _ _ _ _ (T107.setTop (mkF m 21 #[.val (.ref o), .val (.int (3 : Int32)), .val (.int bb)] [(.int ((3 : Int32) + (2 : Int32))), (.ref o)]))
  rw [show ((3 : Int32) + (2 : Int32)) = (5 : Int32) from by decide]
  show Go _ _ _ _ _ _ _ (T107.setTop (mkF m 21 #[.val (.ref o), .val (.int (3 : Int32)), .val (.int bb)] [(.int (5 : Int32)), (.ref o)]))
  obtain ⟨T109, X109, e109, st109⟩ := getS2 X107 hx hZ hown (host := "") (Or.inl (hw _ (List.mem_of_getElem? (i := 6) rfl))) Via.refl e107 S108_UPPER_HEX (g := (mkF m 21 #[.val (.ref o), .val (.int (3 : Int32)), .val (.int bb)] [(.int (5 : Int32)), (.ref o)])) rfl (hb hby dW3_21)
  refine Go.by st109 ?_
  show Go _ _ _ _ _ _ _ (T109.setTop (mkF m 24 #[.val (.ref o), .val (.int (3 : Int32)), .val (.int bb)] [(.ref hxa), (.int (5 : Int32)), (.ref o)]))
  refine Go.by (fun _ kont => XS.iloadN X109.here hx rfl (hb hby dW3_24) rfl (XS.bipush X109.here hx rfl (hb hby dW3_25) (XS.iand X109.here hx rfl (hb hby dW3_27) rfl kont))) ?_
  show Go _ _ _ _ _ _ _ (T109.setTop (mkF m 28 #[.val (.ref o), .val (.int (3 : Int32)), .val (.int bb)] [(.int (bb &&& (15 : Int32))), (.ref hxa), (.int (5 : Int32)), (.ref o)]))
  obtain ⟨cl_q110, Ar_q110, q1_q110, S_q110, G_q110⟩ := id V108_hxa
  have hin_q110 : ¬ ((bb &&& (15 : Int32)) < 0 ∨ cl_q110.slots.size ≤ ((bb &&& (15 : Int32))).toNatClampNeg) := inb_of S_q110 ⟨(own_in (own_loB bb)).1, (own_in (own_loB bb)).2⟩
  have hat_q110 := G_q110 (bb &&& (15 : Int32)) hin_q110
  refine Go.by (X109.caload hx (j := (bb &&& (15 : Int32))) (v := (.int (own_hx (bb &&& (15 : Int32))))) (by first | exact Ar_q110.1 | (rw [e109]; exact Ar_q110.1)) (State.isArrayOf_alike hZ.alike Ar_q110.2.1) Ar_q110.2.2 hin_q110 hat_q110 (g := (mkF m 28 #[.val (.ref o), .val (.int (3 : Int32)), .val (.int bb)] [(.int (bb &&& (15 : Int32))), (.ref hxa), (.int (5 : Int32)), (.ref o)])) rfl rfl (hb hby dW3_28)) ?_
  show Go _ _ _ _ _ _ _ (T109.setTop (mkF m 29 #[.val (.ref o), .val (.int (3 : Int32)), .val (.int bb)] [(.int (own_hx (bb &&& (15 : Int32)))), (.int (5 : Int32)), (.ref o)]))
  obtain ⟨cl_q111, Ar_q111, q1_q111, S_q111, N_q111, H_q111, G_q111⟩ := id V107
  have hin_q111 : ¬ ((5 : Int32) < 0 ∨ cl_q111.slots.size ≤ ((5 : Int32)).toNatClampNeg) := inb_of S_q111 ⟨by decide, by decide⟩
  obtain ⟨T112, h112, X112, e112, W112, st112⟩ := stC X109 hx hZ e109 Ar_q111 (j := (5 : Int32)) hin_q111 (g := (mkF m 29 #[.val (.ref o), .val (.int (3 : Int32)), .val (.int bb)] [(.int (own_hx (bb &&& (15 : Int32)))), (.int (5 : Int32)), (.ref o)])) rfl rfl (hb hby dW3_29)
  have V112 : Arv Z h112 o kc .char (8 : Int32) [(.int v0), (.int v1), (.int v2), (.int (nar .char (37 : Int32))), (.int (nar .char (own_hx ((bb.toUInt32 >>> ((4 : Int32) &&& 31).toUInt32).toInt32)))), (.int (nar .char (own_hx (bb &&& (15 : Int32))))), (.int v6), (.int v7)] (.int (0 : Int32)) := Arv.set Ar_q111 q1_q111 S_q111 N_q111 H_q111 G_q111 (fits_nar_char _) W112 5 rfl (Nat.le_of_ble_eq_true rfl)
  have V113_hxa := V108_hxa.other W112 neh
  have S113_UPPER_HEX := S108_UPPER_HEX.wr W112
  have Z113 := Nat.le_trans Z108 (Keep.of_wr W112).1
  have K113 : Keep h0 h112 [o] := K108.wr W112 (Or.inl (by simp))
  have N112 := Fr.snoc X112 N107 go
  refine Go.by st112 ?_
  show Go _ _ _ _ _ _ _ (T112.setTop (mkF m 30 #[.val (.ref o), .val (.int (3 : Int32)), .val (.int bb)] []))
  refine Go.by (fun _ kont => XS.iloadN X112.here hx rfl (hb hby dW3_30) rfl (XS.iconst X112.here hx rfl (hb hby dW3_31) (XS.iadd X112.here hx rfl (hb hby dW3_32) rfl kont))) ?_
  show Go _ _ _ _ _ _ _ (T112.setTop (mkF m 33 #[.val (.ref o), .val (.int (3 : Int32)), .val (.int bb)] [(.int ((3 : Int32) + (3 : Int32)))]))
  rw [show ((3 : Int32) + (3 : Int32)) = (6 : Int32) from by decide]
  show Go _ _ _ _ _ _ _ (T112.setTop (mkF m 33 #[.val (.ref o), .val (.int (3 : Int32)), .val (.int bb)] [(.int (6 : Int32))]))
  refine Go.retI X112 hx hret hlk (hb hby dW3_33) ?_ (by decide) (by decide)
  show QW3 Z o bb kc v0 v1 v2 v3 v4 v5 v6 v7 h0 n0 (some (.int (6 : Int32))) T112.heap _
  rw [e112]
  exact ⟨rfl, N112, K113, V112⟩

theorem dW4_0 : decode prog_4_method_3_code 0 = .ok (.aload_n 0, 1) := by decide +kernel
theorem dW4_1 : decode prog_4_method_3_code 1 = .ok (.iload_n 1, 1) := by decide +kernel
theorem dW4_2 : decode prog_4_method_3_code 2 = .ok (.bipush 37, 2) := by decide +kernel
theorem dW4_4 : decode prog_4_method_3_code 4 = .ok (.castore, 1) := by decide +kernel
theorem dW4_5 : decode prog_4_method_3_code 5 = .ok (.aload_n 0, 1) := by decide +kernel
theorem dW4_6 : decode prog_4_method_3_code 6 = .ok (.iload_n 1, 1) := by decide +kernel
theorem dW4_7 : decode prog_4_method_3_code 7 = .ok (.iconst 1, 1) := by decide +kernel
theorem dW4_8 : decode prog_4_method_3_code 8 = .ok (.iadd, 1) := by decide +kernel
theorem dW4_9 : decode prog_4_method_3_code 9 = .ok (.getstatic 13, 3) := by decide +kernel
theorem dW4_12 : decode prog_4_method_3_code 12 = .ok (.iload_n 2, 1) := by decide +kernel
theorem dW4_13 : decode prog_4_method_3_code 13 = .ok (.iconst 4, 1) := by decide +kernel
theorem dW4_14 : decode prog_4_method_3_code 14 = .ok (.iushr, 1) := by decide +kernel
theorem dW4_15 : decode prog_4_method_3_code 15 = .ok (.caload, 1) := by decide +kernel
theorem dW4_16 : decode prog_4_method_3_code 16 = .ok (.castore, 1) := by decide +kernel
theorem dW4_17 : decode prog_4_method_3_code 17 = .ok (.aload_n 0, 1) := by decide +kernel
theorem dW4_18 : decode prog_4_method_3_code 18 = .ok (.iload_n 1, 1) := by decide +kernel
theorem dW4_19 : decode prog_4_method_3_code 19 = .ok (.iconst 2, 1) := by decide +kernel
theorem dW4_20 : decode prog_4_method_3_code 20 = .ok (.iadd, 1) := by decide +kernel
theorem dW4_21 : decode prog_4_method_3_code 21 = .ok (.getstatic 13, 3) := by decide +kernel
theorem dW4_24 : decode prog_4_method_3_code 24 = .ok (.iload_n 2, 1) := by decide +kernel
theorem dW4_25 : decode prog_4_method_3_code 25 = .ok (.bipush 15, 2) := by decide +kernel
theorem dW4_27 : decode prog_4_method_3_code 27 = .ok (.iand, 1) := by decide +kernel
theorem dW4_28 : decode prog_4_method_3_code 28 = .ok (.caload, 1) := by decide +kernel
theorem dW4_29 : decode prog_4_method_3_code 29 = .ok (.castore, 1) := by decide +kernel
theorem dW4_30 : decode prog_4_method_3_code 30 = .ok (.iload_n 1, 1) := by decide +kernel
theorem dW4_31 : decode prog_4_method_3_code 31 = .ok (.iconst 3, 1) := by decide +kernel
theorem dW4_32 : decode prog_4_method_3_code 32 = .ok (.iadd, 1) := by decide +kernel
theorem dW4_33 : decode prog_4_method_3_code 33 = .ok (.ireturn, 1) := by decide +kernel
theorem pnW4 : plainName "com/example/pctenc/pctenc/Escape" = true := by first | (simp [plainName, overriddenIn]; done) | decide +kernel
theorem efW4 (m : MethodId) (o : Addr) (bb : Int32) : entryFrame m #[(.ref o), (.int (4 : Int32)), (.int bb)] 3 = mkF m 0 #[.val (.ref o), .val (.int (4 : Int32)), .val (.int bb)] [] := by first | (simp [entryFrame, mkF, argsToLocals, Value.category]; done) | rfl
def QW4 (Z : State) (o : Addr) (bb : Int32) (kc : ClassId) (v0 : Int32) (v1 : Int32) (v2 : Int32) (v3 : Int32) (v4 : Int32) (v5 : Int32) (v6 : Int32) (v7 : Int32) (h0 : Heap) (n0 : Nat) (v : Option Value) (h : Heap) (L : List Loc) : Prop := v = some (.int (7 : Int32)) ∧ Fr n0 L ∧ Keep h0 h [o] ∧ Arv Z h o kc .char (8 : Int32) [(.int v0), (.int v1), (.int v2), (.int v3), (.int (nar .char (37 : Int32))), (.int (nar .char (own_hx ((bb.toUInt32 >>> ((4 : Int32) &&& 31).toUInt32).toInt32)))), (.int (nar .char (own_hx (bb &&& (15 : Int32))))), (.int v7)] (.int (0 : Int32))
set_option maxRecDepth 65536 in
set_option maxHeartbeats 40000000 in
theorem rmW4 (l : Launch) (Z : State) (a0 : Array Value) (hw : ∀ d ∈ tables_1, d.before a0 Z = true) (ws : List Jvm.Cond) (o : Addr) (bb : Int32) (kc : ClassId) (hxa : Addr) (kh : ClassId) (v0 : Int32) (v1 : Int32) (v2 : Int32) (v3 : Int32) (v4 : Int32) (v5 : Int32) (v6 : Int32) (v7 : Int32) (h0 : Heap) (n0 : Nat) (Z0 : n0 ≤ h0.size) (Vo : Arv Z h0 o kc .char (8 : Int32) [(.int v0), (.int v1), (.int v2), (.int v3), (.int v4), (.int v5), (.int v6), (.int v7)] (.int (0 : Int32))) (Vh : HX Z h0 hxa kh) (Sh : Sta Z h0 "com/example/pctenc/pctenc/Escape" "UPPER_HEX" "[C" (.ref hxa)) (neh : hxa ≠ o) (go : n0 ≤ o) (Bb : 0 ≤ bb.toInt ∧ bb.toInt < 256) :
    MetFree l (⟨"com/example/pctenc/pctenc/Escape", "write", "([CII)I"⟩ : MethodName) (head1 (Jvm.Cond.code (⟨"com/example/pctenc/pctenc/Escape", "write", "([CII)I"⟩ : MethodName) prog_4_method_3_code 3 (some .int) :: ws) ({ frames := 0, cells := 0, slots := 0, locals := 0 } : Room)) (fun aa_ U_ => aa_ = #[(.ref o), (.int (4 : Int32)), (.int bb)] ∧ Z.Warmed39 U_.vm ∧ U_.heap = h0) (fun _ _ _ _ _ => True) (fun _ U_ o_ V_ => ∃ v_ L_, o_ = .returned v_ ∧ QW4 Z o bb kc v0 v1 v2 v3 v4 v5 v6 v7 h0 n0 v_ V_.heap L_ ∧ FrameEnd U_ o_ V_ L_ ({ frames := 0, cells := 0, slots := 0, locals := 0 } : Room).cells ({ frames := 0, cells := 0, slots := 0, locals := 0 } : Room).slots) := by
  refine MetFree.of_bodySF (plainFor_of_name pnW4) hisR ?_
  intro p e s m args below meth c s₁ Bd hml0 hP hK
  obtain ⟨rfl, hZ, hh⟩ := hP
  have hx := Bd.exec
  have hby := Bd.bytes
  have hml : c.maxLocals = 3 := hml0
  have hown : s.vm.findClass "com/example/pctenc/pctenc/Escape" = some m.cls := findClass_of_methodNamed Bd.named
  have hnm := (name_of_methodNamed Bd.named Bd.method).1
  have hlk : meth.locks = false := BodyLoose.notSynchronized Bd
  have hret : meth.sig.returnType = (some .int) := Bd.returns
  have X0 : Stand p l e ({ frames := 0, cells := 0, slots := 0, locals := 0 } : Room) s m #[(.ref o), (.int (4 : Int32)), (.int bb)] below meth c s₁ [] 0 0 := Stand.of_body Bd
  have e0 : s₁.heap = h0 := by rw [← hh, Bd.state]; rfl
  have N0 := Fr.nil n0
  show Go p e below s ({ frames := 0, cells := 0, slots := 0, locals := 0 } : Room).cells ({ frames := 0, cells := 0, slots := 0, locals := 0 } : Room).slots (QW4 Z o bb kc v0 v1 v2 v3 v4 v5 v6 v7 h0 n0) (s₁.setTop (entryFrame m #[(.ref o), (.int (4 : Int32)), (.int bb)] 3))
  rw [efW4]
  refine Go.by (fun _ kont => XS.aloadN X0.here hx rfl (hb hby dW4_0) rfl rfl (XS.iloadN X0.here hx rfl (hb hby dW4_1) rfl (XS.bipush X0.here hx rfl (hb hby dW4_2) kont))) ?_
  show Go _ _ _ _ _ _ _ (s₁.setTop (mkF m 4 #[.val (.ref o), .val (.int (4 : Int32)), .val (.int bb)] [(.int (37 : Int32)), (.int (4 : Int32)), (.ref o)]))
  obtain ⟨cl_q101, Ar_q101, q1_q101, S_q101, N_q101, H_q101, G_q101⟩ := id Vo
  have hin_q101 : ¬ ((4 : Int32) < 0 ∨ cl_q101.slots.size ≤ ((4 : Int32)).toNatClampNeg) := inb_of S_q101 ⟨by decide, by decide⟩
  obtain ⟨T102, h102, X102, e102, W102, st102⟩ := stC X0 hx hZ e0 Ar_q101 (j := (4 : Int32)) hin_q101 (g := (mkF m 4 #[.val (.ref o), .val (.int (4 : Int32)), .val (.int bb)] [(.int (37 : Int32)), (.int (4 : Int32)), (.ref o)])) rfl rfl (hb hby dW4_4)
  have V102 : Arv Z h102 o kc .char (8 : Int32) [(.int v0), (.int v1), (.int v2), (.int v3), (.int (nar .char (37 : Int32))), (.int v5), (.int v6), (.int v7)] (.int (0 : Int32)) := Arv.set Ar_q101 q1_q101 S_q101 N_q101 H_q101 G_q101 (fits_nar_char _) W102 4 rfl (Nat.le_of_ble_eq_true rfl)
  have V103_hxa := Vh.other W102 neh
  have S103_UPPER_HEX := Sh.wr W102
  have Z103 := Nat.le_trans Z0 (Keep.of_wr W102).1
  have K103 : Keep h0 h102 [o] := (Keep.refl h0 [o]).wr W102 (Or.inl (by simp))
  have N102 := Fr.snoc X102 N0 go
  refine Go.by st102 ?_
  show Go _ _ _ _ _ _ _ (T102.setTop (mkF m 5 #[.val (.ref o), .val (.int (4 : Int32)), .val (.int bb)] []))
  refine Go.by (fun _ kont => XS.aloadN X102.here hx rfl (hb hby dW4_5) rfl rfl (XS.iloadN X102.here hx rfl (hb hby dW4_6) rfl (XS.iconst X102.here hx rfl (hb hby dW4_7) (XS.iadd X102.here hx rfl (hb hby dW4_8) rfl kont)))) ?_
  show Go _ _ _ _ _ _ _ (T102.setTop (mkF m 9 #[.val (.ref o), .val (.int (4 : Int32)), .val (.int bb)] [(.int ((4 : Int32) + (1 : Int32))), (.ref o)]))
  rw [show ((4 : Int32) + (1 : Int32)) = (5 : Int32) from by decide]
  show Go _ _ _ _ _ _ _ (T102.setTop (mkF m 9 #[.val (.ref o), .val (.int (4 : Int32)), .val (.int bb)] [(.int (5 : Int32)), (.ref o)]))
  obtain ⟨T104, X104, e104, st104⟩ := getS2 X102 hx hZ hown (host := "") (Or.inl (hw _ (List.mem_of_getElem? (i := 6) rfl))) Via.refl e102 S103_UPPER_HEX (g := (mkF m 9 #[.val (.ref o), .val (.int (4 : Int32)), .val (.int bb)] [(.int (5 : Int32)), (.ref o)])) rfl (hb hby dW4_9)
  refine Go.by st104 ?_
  show Go _ _ _ _ _ _ _ (T104.setTop (mkF m 12 #[.val (.ref o), .val (.int (4 : Int32)), .val (.int bb)] [(.ref hxa), (.int (5 : Int32)), (.ref o)]))
  refine Go.by (fun _ kont => XS.iloadN X104.here hx rfl (hb hby dW4_12) rfl (XS.iconst X104.here hx rfl (hb hby dW4_13) (XS.iushr X104.here hx rfl (hb hby dW4_14) rfl kont))) ?_
  show Go _ _ _ _ _ _ _ (T104.setTop (mkF m 15 #[.val (.ref o), .val (.int (4 : Int32)), .val (.int bb)] [(.int ((bb.toUInt32 >>> ((4 : Int32) &&& 31).toUInt32).toInt32)), (.ref hxa), (.int (5 : Int32)), (.ref o)]))
  obtain ⟨cl_q105, Ar_q105, q1_q105, S_q105, G_q105⟩ := id V103_hxa
  have hin_q105 : ¬ (((bb.toUInt32 >>> ((4 : Int32) &&& 31).toUInt32).toInt32) < 0 ∨ cl_q105.slots.size ≤ (((bb.toUInt32 >>> ((4 : Int32) &&& 31).toUInt32).toInt32)).toNatClampNeg) := inb_of S_q105 ⟨(own_in (own_hiB bb Bb)).1, (own_in (own_hiB bb Bb)).2⟩
  have hat_q105 := G_q105 ((bb.toUInt32 >>> ((4 : Int32) &&& 31).toUInt32).toInt32) hin_q105
  refine Go.by (X104.caload hx (j := ((bb.toUInt32 >>> ((4 : Int32) &&& 31).toUInt32).toInt32)) (v := (.int (own_hx ((bb.toUInt32 >>> ((4 : Int32) &&& 31).toUInt32).toInt32)))) (by first | exact Ar_q105.1 | (rw [e104]; exact Ar_q105.1)) (State.isArrayOf_alike hZ.alike Ar_q105.2.1) Ar_q105.2.2 hin_q105 hat_q105 (g := (mkF m 15 #[.val (.ref o), .val (.int (4 : Int32)), .val (.int bb)] [(.int ((bb.toUInt32 >>> ((4 : Int32) &&& 31).toUInt32).toInt32)), (.ref hxa), (.int (5 : Int32)), (.ref o)])) rfl rfl (hb hby dW4_15)) ?_
  show Go _ _ _ _ _ _ _ (T104.setTop (mkF m 16 #[.val (.ref o), .val (.int (4 : Int32)), .val (.int bb)] [(.int (own_hx ((bb.toUInt32 >>> ((4 : Int32) &&& 31).toUInt32).toInt32))), (.int (5 : Int32)), (.ref o)]))
  obtain ⟨cl_q106, Ar_q106, q1_q106, S_q106, N_q106, H_q106, G_q106⟩ := id V102
  have hin_q106 : ¬ ((5 : Int32) < 0 ∨ cl_q106.slots.size ≤ ((5 : Int32)).toNatClampNeg) := inb_of S_q106 ⟨by decide, by decide⟩
  obtain ⟨T107, h107, X107, e107, W107, st107⟩ := stC X104 hx hZ e104 Ar_q106 (j := (5 : Int32)) hin_q106 (g := (mkF m 16 #[.val (.ref o), .val (.int (4 : Int32)), .val (.int bb)] [(.int (own_hx ((bb.toUInt32 >>> ((4 : Int32) &&& 31).toUInt32).toInt32))), (.int (5 : Int32)), (.ref o)])) rfl rfl (hb hby dW4_16)
  have V107 : Arv Z h107 o kc .char (8 : Int32) [(.int v0), (.int v1), (.int v2), (.int v3), (.int (nar .char (37 : Int32))), (.int (nar .char (own_hx ((bb.toUInt32 >>> ((4 : Int32) &&& 31).toUInt32).toInt32)))), (.int v6), (.int v7)] (.int (0 : Int32)) := Arv.set Ar_q106 q1_q106 S_q106 N_q106 H_q106 G_q106 (fits_nar_char _) W107 5 rfl (Nat.le_of_ble_eq_true rfl)
  have V108_hxa := V103_hxa.other W107 neh
  have S108_UPPER_HEX := S103_UPPER_HEX.wr W107
  have Z108 := Nat.le_trans Z103 (Keep.of_wr W107).1
  have K108 : Keep h0 h107 [o] := K103.wr W107 (Or.inl (by simp))
  have N107 := Fr.snoc X107 N102 go
  refine Go.by st107 ?_
  show Go _ _ _ _ _ _ _ (T107.setTop (mkF m 17 #[.val (.ref o), .val (.int (4 : Int32)), .val (.int bb)] []))
  refine Go.by (fun _ kont => XS.aloadN X107.here hx rfl (hb hby dW4_17) rfl rfl (XS.iloadN X107.here hx rfl (hb hby dW4_18) rfl (XS.iconst X107.here hx rfl (hb hby dW4_19) (XS.iadd X107.here hx rfl (hb hby dW4_20) rfl kont)))) ?_
  show Go _ _ _ _ _ _ _ (T107.setTop (mkF m 21 #[.val (.ref o), .val (.int (4 : Int32)), .val (.int bb)] [(.int ((4 : Int32) + (2 : Int32))), (.ref o)]))
  rw [show ((4 : Int32) + (2 : Int32)) = (6 : Int32) from by decide]
  show Go _ _ _ _ _ _ _ (T107.setTop (mkF m 21 #[.val (.ref o), .val (.int (4 : Int32)), .val (.int bb)] [(.int (6 : Int32)), (.ref o)]))
  obtain ⟨T109, X109, e109, st109⟩ := getS2 X107 hx hZ hown (host := "") (Or.inl (hw _ (List.mem_of_getElem? (i := 6) rfl))) Via.refl e107 S108_UPPER_HEX (g := (mkF m 21 #[.val (.ref o), .val (.int (4 : Int32)), .val (.int bb)] [(.int (6 : Int32)), (.ref o)])) rfl (hb hby dW4_21)
  refine Go.by st109 ?_
  show Go _ _ _ _ _ _ _ (T109.setTop (mkF m 24 #[.val (.ref o), .val (.int (4 : Int32)), .val (.int bb)] [(.ref hxa), (.int (6 : Int32)), (.ref o)]))
  refine Go.by (fun _ kont => XS.iloadN X109.here hx rfl (hb hby dW4_24) rfl (XS.bipush X109.here hx rfl (hb hby dW4_25) (XS.iand X109.here hx rfl (hb hby dW4_27) rfl kont))) ?_
  show Go _ _ _ _ _ _ _ (T109.setTop (mkF m 28 #[.val (.ref o), .val (.int (4 : Int32)), .val (.int bb)] [(.int (bb &&& (15 : Int32))), (.ref hxa), (.int (6 : Int32)), (.ref o)]))
  obtain ⟨cl_q110, Ar_q110, q1_q110, S_q110, G_q110⟩ := id V108_hxa
  have hin_q110 : ¬ ((bb &&& (15 : Int32)) < 0 ∨ cl_q110.slots.size ≤ ((bb &&& (15 : Int32))).toNatClampNeg) := inb_of S_q110 ⟨(own_in (own_loB bb)).1, (own_in (own_loB bb)).2⟩
  have hat_q110 := G_q110 (bb &&& (15 : Int32)) hin_q110
  refine Go.by (X109.caload hx (j := (bb &&& (15 : Int32))) (v := (.int (own_hx (bb &&& (15 : Int32))))) (by first | exact Ar_q110.1 | (rw [e109]; exact Ar_q110.1)) (State.isArrayOf_alike hZ.alike Ar_q110.2.1) Ar_q110.2.2 hin_q110 hat_q110 (g := (mkF m 28 #[.val (.ref o), .val (.int (4 : Int32)), .val (.int bb)] [(.int (bb &&& (15 : Int32))), (.ref hxa), (.int (6 : Int32)), (.ref o)])) rfl rfl (hb hby dW4_28)) ?_
  show Go _ _ _ _ _ _ _ (T109.setTop (mkF m 29 #[.val (.ref o), .val (.int (4 : Int32)), .val (.int bb)] [(.int (own_hx (bb &&& (15 : Int32)))), (.int (6 : Int32)), (.ref o)]))
  obtain ⟨cl_q111, Ar_q111, q1_q111, S_q111, N_q111, H_q111, G_q111⟩ := id V107
  have hin_q111 : ¬ ((6 : Int32) < 0 ∨ cl_q111.slots.size ≤ ((6 : Int32)).toNatClampNeg) := inb_of S_q111 ⟨by decide, by decide⟩
  obtain ⟨T112, h112, X112, e112, W112, st112⟩ := stC X109 hx hZ e109 Ar_q111 (j := (6 : Int32)) hin_q111 (g := (mkF m 29 #[.val (.ref o), .val (.int (4 : Int32)), .val (.int bb)] [(.int (own_hx (bb &&& (15 : Int32)))), (.int (6 : Int32)), (.ref o)])) rfl rfl (hb hby dW4_29)
  have V112 : Arv Z h112 o kc .char (8 : Int32) [(.int v0), (.int v1), (.int v2), (.int v3), (.int (nar .char (37 : Int32))), (.int (nar .char (own_hx ((bb.toUInt32 >>> ((4 : Int32) &&& 31).toUInt32).toInt32)))), (.int (nar .char (own_hx (bb &&& (15 : Int32))))), (.int v7)] (.int (0 : Int32)) := Arv.set Ar_q111 q1_q111 S_q111 N_q111 H_q111 G_q111 (fits_nar_char _) W112 6 rfl (Nat.le_of_ble_eq_true rfl)
  have V113_hxa := V108_hxa.other W112 neh
  have S113_UPPER_HEX := S108_UPPER_HEX.wr W112
  have Z113 := Nat.le_trans Z108 (Keep.of_wr W112).1
  have K113 : Keep h0 h112 [o] := K108.wr W112 (Or.inl (by simp))
  have N112 := Fr.snoc X112 N107 go
  refine Go.by st112 ?_
  show Go _ _ _ _ _ _ _ (T112.setTop (mkF m 30 #[.val (.ref o), .val (.int (4 : Int32)), .val (.int bb)] []))
  refine Go.by (fun _ kont => XS.iloadN X112.here hx rfl (hb hby dW4_30) rfl (XS.iconst X112.here hx rfl (hb hby dW4_31) (XS.iadd X112.here hx rfl (hb hby dW4_32) rfl kont))) ?_
  show Go _ _ _ _ _ _ _ (T112.setTop (mkF m 33 #[.val (.ref o), .val (.int (4 : Int32)), .val (.int bb)] [(.int ((4 : Int32) + (3 : Int32)))]))
  rw [show ((4 : Int32) + (3 : Int32)) = (7 : Int32) from by decide]
  show Go _ _ _ _ _ _ _ (T112.setTop (mkF m 33 #[.val (.ref o), .val (.int (4 : Int32)), .val (.int bb)] [(.int (7 : Int32))]))
  refine Go.retI X112 hx hret hlk (hb hby dW4_33) ?_ (by decide) (by decide)
  show QW4 Z o bb kc v0 v1 v2 v3 v4 v5 v6 v7 h0 n0 (some (.int (7 : Int32))) T112.heap _
  rw [e112]
  exact ⟨rfl, N112, K113, V112⟩

theorem dW5_0 : decode prog_4_method_3_code 0 = .ok (.aload_n 0, 1) := by decide +kernel
theorem dW5_1 : decode prog_4_method_3_code 1 = .ok (.iload_n 1, 1) := by decide +kernel
theorem dW5_2 : decode prog_4_method_3_code 2 = .ok (.bipush 37, 2) := by decide +kernel
theorem dW5_4 : decode prog_4_method_3_code 4 = .ok (.castore, 1) := by decide +kernel
theorem dW5_5 : decode prog_4_method_3_code 5 = .ok (.aload_n 0, 1) := by decide +kernel
theorem dW5_6 : decode prog_4_method_3_code 6 = .ok (.iload_n 1, 1) := by decide +kernel
theorem dW5_7 : decode prog_4_method_3_code 7 = .ok (.iconst 1, 1) := by decide +kernel
theorem dW5_8 : decode prog_4_method_3_code 8 = .ok (.iadd, 1) := by decide +kernel
theorem dW5_9 : decode prog_4_method_3_code 9 = .ok (.getstatic 13, 3) := by decide +kernel
theorem dW5_12 : decode prog_4_method_3_code 12 = .ok (.iload_n 2, 1) := by decide +kernel
theorem dW5_13 : decode prog_4_method_3_code 13 = .ok (.iconst 4, 1) := by decide +kernel
theorem dW5_14 : decode prog_4_method_3_code 14 = .ok (.iushr, 1) := by decide +kernel
theorem dW5_15 : decode prog_4_method_3_code 15 = .ok (.caload, 1) := by decide +kernel
theorem dW5_16 : decode prog_4_method_3_code 16 = .ok (.castore, 1) := by decide +kernel
theorem dW5_17 : decode prog_4_method_3_code 17 = .ok (.aload_n 0, 1) := by decide +kernel
theorem dW5_18 : decode prog_4_method_3_code 18 = .ok (.iload_n 1, 1) := by decide +kernel
theorem dW5_19 : decode prog_4_method_3_code 19 = .ok (.iconst 2, 1) := by decide +kernel
theorem dW5_20 : decode prog_4_method_3_code 20 = .ok (.iadd, 1) := by decide +kernel
theorem dW5_21 : decode prog_4_method_3_code 21 = .ok (.getstatic 13, 3) := by decide +kernel
theorem dW5_24 : decode prog_4_method_3_code 24 = .ok (.iload_n 2, 1) := by decide +kernel
theorem dW5_25 : decode prog_4_method_3_code 25 = .ok (.bipush 15, 2) := by decide +kernel
theorem dW5_27 : decode prog_4_method_3_code 27 = .ok (.iand, 1) := by decide +kernel
theorem dW5_28 : decode prog_4_method_3_code 28 = .ok (.caload, 1) := by decide +kernel
theorem dW5_29 : decode prog_4_method_3_code 29 = .ok (.castore, 1) := by decide +kernel
theorem dW5_30 : decode prog_4_method_3_code 30 = .ok (.iload_n 1, 1) := by decide +kernel
theorem dW5_31 : decode prog_4_method_3_code 31 = .ok (.iconst 3, 1) := by decide +kernel
theorem dW5_32 : decode prog_4_method_3_code 32 = .ok (.iadd, 1) := by decide +kernel
theorem dW5_33 : decode prog_4_method_3_code 33 = .ok (.ireturn, 1) := by decide +kernel
theorem pnW5 : plainName "com/example/pctenc/pctenc/Escape" = true := by first | (simp [plainName, overriddenIn]; done) | decide +kernel
theorem efW5 (m : MethodId) (o : Addr) (bb : Int32) : entryFrame m #[(.ref o), (.int (5 : Int32)), (.int bb)] 3 = mkF m 0 #[.val (.ref o), .val (.int (5 : Int32)), .val (.int bb)] [] := by first | (simp [entryFrame, mkF, argsToLocals, Value.category]; done) | rfl
def QW5 (Z : State) (o : Addr) (bb : Int32) (kc : ClassId) (v0 : Int32) (v1 : Int32) (v2 : Int32) (v3 : Int32) (v4 : Int32) (v5 : Int32) (v6 : Int32) (v7 : Int32) (h0 : Heap) (n0 : Nat) (v : Option Value) (h : Heap) (L : List Loc) : Prop := v = some (.int (8 : Int32)) ∧ Fr n0 L ∧ Keep h0 h [o] ∧ Arv Z h o kc .char (8 : Int32) [(.int v0), (.int v1), (.int v2), (.int v3), (.int v4), (.int (nar .char (37 : Int32))), (.int (nar .char (own_hx ((bb.toUInt32 >>> ((4 : Int32) &&& 31).toUInt32).toInt32)))), (.int (nar .char (own_hx (bb &&& (15 : Int32)))))] (.int (0 : Int32))
set_option maxRecDepth 65536 in
set_option maxHeartbeats 40000000 in
theorem rmW5 (l : Launch) (Z : State) (a0 : Array Value) (hw : ∀ d ∈ tables_1, d.before a0 Z = true) (ws : List Jvm.Cond) (o : Addr) (bb : Int32) (kc : ClassId) (hxa : Addr) (kh : ClassId) (v0 : Int32) (v1 : Int32) (v2 : Int32) (v3 : Int32) (v4 : Int32) (v5 : Int32) (v6 : Int32) (v7 : Int32) (h0 : Heap) (n0 : Nat) (Z0 : n0 ≤ h0.size) (Vo : Arv Z h0 o kc .char (8 : Int32) [(.int v0), (.int v1), (.int v2), (.int v3), (.int v4), (.int v5), (.int v6), (.int v7)] (.int (0 : Int32))) (Vh : HX Z h0 hxa kh) (Sh : Sta Z h0 "com/example/pctenc/pctenc/Escape" "UPPER_HEX" "[C" (.ref hxa)) (neh : hxa ≠ o) (go : n0 ≤ o) (Bb : 0 ≤ bb.toInt ∧ bb.toInt < 256) :
    MetFree l (⟨"com/example/pctenc/pctenc/Escape", "write", "([CII)I"⟩ : MethodName) (head1 (Jvm.Cond.code (⟨"com/example/pctenc/pctenc/Escape", "write", "([CII)I"⟩ : MethodName) prog_4_method_3_code 3 (some .int) :: ws) ({ frames := 0, cells := 0, slots := 0, locals := 0 } : Room)) (fun aa_ U_ => aa_ = #[(.ref o), (.int (5 : Int32)), (.int bb)] ∧ Z.Warmed39 U_.vm ∧ U_.heap = h0) (fun _ _ _ _ _ => True) (fun _ U_ o_ V_ => ∃ v_ L_, o_ = .returned v_ ∧ QW5 Z o bb kc v0 v1 v2 v3 v4 v5 v6 v7 h0 n0 v_ V_.heap L_ ∧ FrameEnd U_ o_ V_ L_ ({ frames := 0, cells := 0, slots := 0, locals := 0 } : Room).cells ({ frames := 0, cells := 0, slots := 0, locals := 0 } : Room).slots) := by
  refine MetFree.of_bodySF (plainFor_of_name pnW5) hisR ?_
  intro p e s m args below meth c s₁ Bd hml0 hP hK
  obtain ⟨rfl, hZ, hh⟩ := hP
  have hx := Bd.exec
  have hby := Bd.bytes
  have hml : c.maxLocals = 3 := hml0
  have hown : s.vm.findClass "com/example/pctenc/pctenc/Escape" = some m.cls := findClass_of_methodNamed Bd.named
  have hnm := (name_of_methodNamed Bd.named Bd.method).1
  have hlk : meth.locks = false := BodyLoose.notSynchronized Bd
  have hret : meth.sig.returnType = (some .int) := Bd.returns
  have X0 : Stand p l e ({ frames := 0, cells := 0, slots := 0, locals := 0 } : Room) s m #[(.ref o), (.int (5 : Int32)), (.int bb)] below meth c s₁ [] 0 0 := Stand.of_body Bd
  have e0 : s₁.heap = h0 := by rw [← hh, Bd.state]; rfl
  have N0 := Fr.nil n0
  show Go p e below s ({ frames := 0, cells := 0, slots := 0, locals := 0 } : Room).cells ({ frames := 0, cells := 0, slots := 0, locals := 0 } : Room).slots (QW5 Z o bb kc v0 v1 v2 v3 v4 v5 v6 v7 h0 n0) (s₁.setTop (entryFrame m #[(.ref o), (.int (5 : Int32)), (.int bb)] 3))
  rw [efW5]
  refine Go.by (fun _ kont => XS.aloadN X0.here hx rfl (hb hby dW5_0) rfl rfl (XS.iloadN X0.here hx rfl (hb hby dW5_1) rfl (XS.bipush X0.here hx rfl (hb hby dW5_2) kont))) ?_
  show Go _ _ _ _ _ _ _ (s₁.setTop (mkF m 4 #[.val (.ref o), .val (.int (5 : Int32)), .val (.int bb)] [(.int (37 : Int32)), (.int (5 : Int32)), (.ref o)]))
  obtain ⟨cl_q101, Ar_q101, q1_q101, S_q101, N_q101, H_q101, G_q101⟩ := id Vo
  have hin_q101 : ¬ ((5 : Int32) < 0 ∨ cl_q101.slots.size ≤ ((5 : Int32)).toNatClampNeg) := inb_of S_q101 ⟨by decide, by decide⟩
  obtain ⟨T102, h102, X102, e102, W102, st102⟩ := stC X0 hx hZ e0 Ar_q101 (j := (5 : Int32)) hin_q101 (g := (mkF m 4 #[.val (.ref o), .val (.int (5 : Int32)), .val (.int bb)] [(.int (37 : Int32)), (.int (5 : Int32)), (.ref o)])) rfl rfl (hb hby dW5_4)
  have V102 : Arv Z h102 o kc .char (8 : Int32) [(.int v0), (.int v1), (.int v2), (.int v3), (.int v4), (.int (nar .char (37 : Int32))), (.int v6), (.int v7)] (.int (0 : Int32)) := Arv.set Ar_q101 q1_q101 S_q101 N_q101 H_q101 G_q101 (fits_nar_char _) W102 5 rfl (Nat.le_of_ble_eq_true rfl)
  have V103_hxa := Vh.other W102 neh
  have S103_UPPER_HEX := Sh.wr W102
  have Z103 := Nat.le_trans Z0 (Keep.of_wr W102).1
  have K103 : Keep h0 h102 [o] := (Keep.refl h0 [o]).wr W102 (Or.inl (by simp))
  have N102 := Fr.snoc X102 N0 go
  refine Go.by st102 ?_
  show Go _ _ _ _ _ _ _ (T102.setTop (mkF m 5 #[.val (.ref o), .val (.int (5 : Int32)), .val (.int bb)] []))
  refine Go.by (fun _ kont => XS.aloadN X102.here hx rfl (hb hby dW5_5) rfl rfl (XS.iloadN X102.here hx rfl (hb hby dW5_6) rfl (XS.iconst X102.here hx rfl (hb hby dW5_7) (XS.iadd X102.here hx rfl (hb hby dW5_8) rfl kont)))) ?_
  show Go _ _ _ _ _ _ _ (T102.setTop (mkF m 9 #[.val (.ref o), .val (.int (5 : Int32)), .val (.int bb)] [(.int ((5 : Int32) + (1 : Int32))), (.ref o)]))
  rw [show ((5 : Int32) + (1 : Int32)) = (6 : Int32) from by decide]
  show Go _ _ _ _ _ _ _ (T102.setTop (mkF m 9 #[.val (.ref o), .val (.int (5 : Int32)), .val (.int bb)] [(.int (6 : Int32)), (.ref o)]))
  obtain ⟨T104, X104, e104, st104⟩ := getS2 X102 hx hZ hown (host := "") (Or.inl (hw _ (List.mem_of_getElem? (i := 6) rfl))) Via.refl e102 S103_UPPER_HEX (g := (mkF m 9 #[.val (.ref o), .val (.int (5 : Int32)), .val (.int bb)] [(.int (6 : Int32)), (.ref o)])) rfl (hb hby dW5_9)
  refine Go.by st104 ?_
  show Go _ _ _ _ _ _ _ (T104.setTop (mkF m 12 #[.val (.ref o), .val (.int (5 : Int32)), .val (.int bb)] [(.ref hxa), (.int (6 : Int32)), (.ref o)]))
  refine Go.by (fun _ kont => XS.iloadN X104.here hx rfl (hb hby dW5_12) rfl (XS.iconst X104.here hx rfl (hb hby dW5_13) (XS.iushr X104.here hx rfl (hb hby dW5_14) rfl kont))) ?_
  show Go _ _ _ _ _ _ _ (T104.setTop (mkF m 15 #[.val (.ref o), .val (.int (5 : Int32)), .val (.int bb)] [(.int ((bb.toUInt32 >>> ((4 : Int32) &&& 31).toUInt32).toInt32)), (.ref hxa), (.int (6 : Int32)), (.ref o)]))
  obtain ⟨cl_q105, Ar_q105, q1_q105, S_q105, G_q105⟩ := id V103_hxa
  have hin_q105 : ¬ (((bb.toUInt32 >>> ((4 : Int32) &&& 31).toUInt32).toInt32) < 0 ∨ cl_q105.slots.size ≤ (((bb.toUInt32 >>> ((4 : Int32) &&& 31).toUInt32).toInt32)).toNatClampNeg) := inb_of S_q105 ⟨(own_in (own_hiB bb Bb)).1, (own_in (own_hiB bb Bb)).2⟩
  have hat_q105 := G_q105 ((bb.toUInt32 >>> ((4 : Int32) &&& 31).toUInt32).toInt32) hin_q105
  refine Go.by (X104.caload hx (j := ((bb.toUInt32 >>> ((4 : Int32) &&& 31).toUInt32).toInt32)) (v := (.int (own_hx ((bb.toUInt32 >>> ((4 : Int32) &&& 31).toUInt32).toInt32)))) (by first | exact Ar_q105.1 | (rw [e104]; exact Ar_q105.1)) (State.isArrayOf_alike hZ.alike Ar_q105.2.1) Ar_q105.2.2 hin_q105 hat_q105 (g := (mkF m 15 #[.val (.ref o), .val (.int (5 : Int32)), .val (.int bb)] [(.int ((bb.toUInt32 >>> ((4 : Int32) &&& 31).toUInt32).toInt32)), (.ref hxa), (.int (6 : Int32)), (.ref o)])) rfl rfl (hb hby dW5_15)) ?_
  show Go _ _ _ _ _ _ _ (T104.setTop (mkF m 16 #[.val (.ref o), .val (.int (5 : Int32)), .val (.int bb)] [(.int (own_hx ((bb.toUInt32 >>> ((4 : Int32) &&& 31).toUInt32).toInt32))), (.int (6 : Int32)), (.ref o)]))
  obtain ⟨cl_q106, Ar_q106, q1_q106, S_q106, N_q106, H_q106, G_q106⟩ := id V102
  have hin_q106 : ¬ ((6 : Int32) < 0 ∨ cl_q106.slots.size ≤ ((6 : Int32)).toNatClampNeg) := inb_of S_q106 ⟨by decide, by decide⟩
  obtain ⟨T107, h107, X107, e107, W107, st107⟩ := stC X104 hx hZ e104 Ar_q106 (j := (6 : Int32)) hin_q106 (g := (mkF m 16 #[.val (.ref o), .val (.int (5 : Int32)), .val (.int bb)] [(.int (own_hx ((bb.toUInt32 >>> ((4 : Int32) &&& 31).toUInt32).toInt32))), (.int (6 : Int32)), (.ref o)])) rfl rfl (hb hby dW5_16)
  have V107 : Arv Z h107 o kc .char (8 : Int32) [(.int v0), (.int v1), (.int v2), (.int v3), (.int v4), (.int (nar .char (37 : Int32))), (.int (nar .char (own_hx ((bb.toUInt32 >>> ((4 : Int32) &&& 31).toUInt32).toInt32)))), (.int v7)] (.int (0 : Int32)) := Arv.set Ar_q106 q1_q106 S_q106 N_q106 H_q106 G_q106 (fits_nar_char _) W107 6 rfl (Nat.le_of_ble_eq_true rfl)
  have V108_hxa := V103_hxa.other W107 neh
  have S108_UPPER_HEX := S103_UPPER_HEX.wr W107
  have Z108 := Nat.le_trans Z103 (Keep.of_wr W107).1
  have K108 : Keep h0 h107 [o] := K103.wr W107 (Or.inl (by simp))
  have N107 := Fr.snoc X107 N102 go
  refine Go.by st107 ?_
  show Go _ _ _ _ _ _ _ (T107.setTop (mkF m 17 #[.val (.ref o), .val (.int (5 : Int32)), .val (.int bb)] []))
  refine Go.by (fun _ kont => XS.aloadN X107.here hx rfl (hb hby dW5_17) rfl rfl (XS.iloadN X107.here hx rfl (hb hby dW5_18) rfl (XS.iconst X107.here hx rfl (hb hby dW5_19) (XS.iadd X107.here hx rfl (hb hby dW5_20) rfl kont)))) ?_
  show Go _ _ _ _ _ _ _ (T107.setTop (mkF m 21 #[.val (.ref o), .val (.int (5 : Int32)), .val (.int bb)] [(.int ((5 : Int32) + (2 : Int32))), (.ref o)]))
  rw [show ((5 : Int32) + (2 : Int32)) = (7 : Int32) from by decide]
  show Go _ _ _ _ _ _ _ (T107.setTop (mkF m 21 #[.val (.ref o), .val (.int (5 : Int32)), .val (.int bb)] [(.int (7 : Int32)), (.ref o)]))
  obtain ⟨T109, X109, e109, st109⟩ := getS2 X107 hx hZ hown (host := "") (Or.inl (hw _ (List.mem_of_getElem? (i := 6) rfl))) Via.refl e107 S108_UPPER_HEX (g := (mkF m 21 #[.val (.ref o), .val (.int (5 : Int32)), .val (.int bb)] [(.int (7 : Int32)), (.ref o)])) rfl (hb hby dW5_21)
  refine Go.by st109 ?_
  show Go _ _ _ _ _ _ _ (T109.setTop (mkF m 24 #[.val (.ref o), .val (.int (5 : Int32)), .val (.int bb)] [(.ref hxa), (.int (7 : Int32)), (.ref o)]))
  refine Go.by (fun _ kont => XS.iloadN X109.here hx rfl (hb hby dW5_24) rfl (XS.bipush X109.here hx rfl (hb hby dW5_25) (XS.iand X109.here hx rfl (hb hby dW5_27) rfl kont))) ?_
  show Go _ _ _ _ _ _ _ (T109.setTop (mkF m 28 #[.val (.ref o), .val (.int (5 : Int32)), .val (.int bb)] [(.int (bb &&& (15 : Int32))), (.ref hxa), (.int (7 : Int32)), (.ref o)]))
  obtain ⟨cl_q110, Ar_q110, q1_q110, S_q110, G_q110⟩ := id V108_hxa
  have hin_q110 : ¬ ((bb &&& (15 : Int32)) < 0 ∨ cl_q110.slots.size ≤ ((bb &&& (15 : Int32))).toNatClampNeg) := inb_of S_q110 ⟨(own_in (own_loB bb)).1, (own_in (own_loB bb)).2⟩
  have hat_q110 := G_q110 (bb &&& (15 : Int32)) hin_q110
  refine Go.by (X109.caload hx (j := (bb &&& (15 : Int32))) (v := (.int (own_hx (bb &&& (15 : Int32))))) (by first | exact Ar_q110.1 | (rw [e109]; exact Ar_q110.1)) (State.isArrayOf_alike hZ.alike Ar_q110.2.1) Ar_q110.2.2 hin_q110 hat_q110 (g := (mkF m 28 #[.val (.ref o), .val (.int (5 : Int32)), .val (.int bb)] [(.int (bb &&& (15 : Int32))), (.ref hxa), (.int (7 : Int32)), (.ref o)])) rfl rfl (hb hby dW5_28)) ?_
  show Go _ _ _ _ _ _ _ (T109.setTop (mkF m 29 #[.val (.ref o), .val (.int (5 : Int32)), .val (.int bb)] [(.int (own_hx (bb &&& (15 : Int32)))), (.int (7 : Int32)), (.ref o)]))
  obtain ⟨cl_q111, Ar_q111, q1_q111, S_q111, N_q111, H_q111, G_q111⟩ := id V107
  have hin_q111 : ¬ ((7 : Int32) < 0 ∨ cl_q111.slots.size ≤ ((7 : Int32)).toNatClampNeg) := inb_of S_q111 ⟨by decide, by decide⟩
  obtain ⟨T112, h112, X112, e112, W112, st112⟩ := stC X109 hx hZ e109 Ar_q111 (j := (7 : Int32)) hin_q111 (g := (mkF m 29 #[.val (.ref o), .val (.int (5 : Int32)), .val (.int bb)] [(.int (own_hx (bb &&& (15 : Int32)))), (.int (7 : Int32)), (.ref o)])) rfl rfl (hb hby dW5_29)
  have V112 : Arv Z h112 o kc .char (8 : Int32) [(.int v0), (.int v1), (.int v2), (.int v3), (.int v4), (.int (nar .char (37 : Int32))), (.int (nar .char (own_hx ((bb.toUInt32 >>> ((4 : Int32) &&& 31).toUInt32).toInt32)))), (.int (nar .char (own_hx (bb &&& (15 : Int32)))))] (.int (0 : Int32)) := Arv.set Ar_q111 q1_q111 S_q111 N_q111 H_q111 G_q111 (fits_nar_char _) W112 7 rfl (Nat.le_of_ble_eq_true rfl)
  have V113_hxa := V108_hxa.other W112 neh
  have S113_UPPER_HEX := S108_UPPER_HEX.wr W112
  have Z113 := Nat.le_trans Z108 (Keep.of_wr W112).1
  have K113 : Keep h0 h112 [o] := K108.wr W112 (Or.inl (by simp))
  have N112 := Fr.snoc X112 N107 go
  refine Go.by st112 ?_
  show Go _ _ _ _ _ _ _ (T112.setTop (mkF m 30 #[.val (.ref o), .val (.int (5 : Int32)), .val (.int bb)] []))
  refine Go.by (fun _ kont => XS.iloadN X112.here hx rfl (hb hby dW5_30) rfl (XS.iconst X112.here hx rfl (hb hby dW5_31) (XS.iadd X112.here hx rfl (hb hby dW5_32) rfl kont))) ?_
  show Go _ _ _ _ _ _ _ (T112.setTop (mkF m 33 #[.val (.ref o), .val (.int (5 : Int32)), .val (.int bb)] [(.int ((5 : Int32) + (3 : Int32)))]))
  rw [show ((5 : Int32) + (3 : Int32)) = (8 : Int32) from by decide]
  show Go _ _ _ _ _ _ _ (T112.setTop (mkF m 33 #[.val (.ref o), .val (.int (5 : Int32)), .val (.int bb)] [(.int (8 : Int32))]))
  refine Go.retI X112 hx hret hlk (hb hby dW5_33) ?_ (by decide) (by decide)
  show QW5 Z o bb kc v0 v1 v2 v3 v4 v5 v6 v7 h0 n0 (some (.int (8 : Int32))) T112.heap _
  rw [e112]
  exact ⟨rfl, N112, K113, V112⟩

theorem dK00_0 : decode method_3_code 0 = .ok (.iload_n 1, 1) := by decide +kernel
theorem dK00_1 : decode method_3_code 1 = .ok (.iload_n 2, 1) := by decide +kernel
theorem dK00_2 : decode method_3_code 2 = .ok (.if_icmp .lt 12, 3) := by decide +kernel
theorem dK00_5 : decode method_3_code 5 = .ok (.iload_n 1, 1) := by decide +kernel
theorem dK00_6 : decode method_3_code 6 = .ok (.iload_n 2, 1) := by decide +kernel
theorem dK00_7 : decode method_3_code 7 = .ok (.iconst 3, 1) := by decide +kernel
theorem dK00_8 : decode method_3_code 8 = .ok (.iadd, 1) := by decide +kernel
theorem dK00_9 : decode method_3_code 9 = .ok (.if_icmp .ge 5, 3) := by decide +kernel
theorem dK00_12 : decode method_3_code 12 = .ok (.iconst 1, 1) := by decide +kernel
theorem dK00_13 : decode method_3_code 13 = .ok (.ireturn, 1) := by decide +kernel
theorem pnK00 : plainName "com/example/pctenc/pctenc/EscapeWritePinLaw" = true := by first | (simp [plainName, overriddenIn]; done) | decide +kernel
theorem efK00 (m : MethodId) (o : Addr) (sen : Int32) : entryFrame m #[(.ref o), (.int (0 : Int32)), (.int (0 : Int32)), (.int sen)] 4 = mkF m 0 #[.val (.ref o), .val (.int (0 : Int32)), .val (.int (0 : Int32)), .val (.int sen)] [] := by first | (simp [entryFrame, mkF, argsToLocals, Value.category]; done) | rfl
def QK00 (Z : State) (o : Addr) (sen : Int32) (h0 : Heap) (n0 : Nat) (v : Option Value) (h : Heap) (L : List Loc) : Prop := (v = some (.int (1 : Int32)) ∧ Fr n0 L ∧ h = h0)
set_option maxRecDepth 65536 in
set_option maxHeartbeats 40000000 in
theorem rmK00 (l : Launch) (Z : State) (a0 : Array Value) (hw : ∀ d ∈ tables_1, d.before a0 Z = true) (ws : List Jvm.Cond) (o : Addr) (sen : Int32) (h0 : Heap) (n0 : Nat) (Z0 : n0 ≤ h0.size) :
    MetFree l (⟨"com/example/pctenc/pctenc/EscapeWritePinLaw", "kept", "([CIIC)Z"⟩ : MethodName) (head1 (Jvm.Cond.code (⟨"com/example/pctenc/pctenc/EscapeWritePinLaw", "kept", "([CIIC)Z"⟩ : MethodName) method_3_code 4 (some .boolean) :: ws) ({ frames := 0, cells := 0, slots := 0, locals := 0 } : Room)) (fun aa_ U_ => aa_ = #[(.ref o), (.int (0 : Int32)), (.int (0 : Int32)), (.int sen)] ∧ Z.Warmed39 U_.vm ∧ U_.heap = h0) (fun _ _ _ _ _ => True) (fun _ U_ o_ V_ => ∃ v_ L_, o_ = .returned v_ ∧ QK00 Z o sen h0 n0 v_ V_.heap L_ ∧ FrameEnd U_ o_ V_ L_ ({ frames := 0, cells := 0, slots := 0, locals := 0 } : Room).cells ({ frames := 0, cells := 0, slots := 0, locals := 0 } : Room).slots) := by
  refine MetFree.of_bodySF (plainFor_of_name pnK00) hisR ?_
  intro p e s m args below meth c s₁ Bd hml0 hP hK
  obtain ⟨rfl, hZ, hh⟩ := hP
  have hx := Bd.exec
  have hby := Bd.bytes
  have hml : c.maxLocals = 4 := hml0
  have hown : s.vm.findClass "com/example/pctenc/pctenc/EscapeWritePinLaw" = some m.cls := findClass_of_methodNamed Bd.named
  have hnm := (name_of_methodNamed Bd.named Bd.method).1
  have hlk : meth.locks = false := BodyLoose.notSynchronized Bd
  have hret : meth.sig.returnType = (some .boolean) := Bd.returns
  have X0 : Stand p l e ({ frames := 0, cells := 0, slots := 0, locals := 0 } : Room) s m #[(.ref o), (.int (0 : Int32)), (.int (0 : Int32)), (.int sen)] below meth c s₁ [] 0 0 := Stand.of_body Bd
  have e0 : s₁.heap = h0 := by rw [← hh, Bd.state]; rfl
  have N0 := Fr.nil n0
  show Go p e below s ({ frames := 0, cells := 0, slots := 0, locals := 0 } : Room).cells ({ frames := 0, cells := 0, slots := 0, locals := 0 } : Room).slots (QK00 Z o sen h0 n0) (s₁.setTop (entryFrame m #[(.ref o), (.int (0 : Int32)), (.int (0 : Int32)), (.int sen)] 4))
  rw [efK00]
  refine Go.by (fun _ kont => XS.iloadN X0.here hx rfl (hb hby dK00_0) rfl (XS.iloadN X0.here hx rfl (hb hby dK00_1) rfl (XS.icmpNo X0.here hx rfl (hb hby dK00_2) rfl (by decide) (XS.iloadN X0.here hx rfl (hb hby dK00_5) rfl (XS.iloadN X0.here hx rfl (hb hby dK00_6) rfl (XS.iconst X0.here hx rfl (hb hby dK00_7) kont)))))) ?_
  show Go _ _ _ _ _ _ _ (s₁.setTop (mkF m 8 #[.val (.ref o), .val (.int (0 : Int32)), .val (.int (0 : Int32)), .val (.int sen)] [(.int (3 : Int32)), (.int (0 : Int32)), (.int (0 : Int32))]))
  refine Go.by (fun _ kont => XS.iadd X0.here hx rfl (hb hby dK00_8) rfl kont) ?_
  show Go _ _ _ _ _ _ _ (s₁.setTop (mkF m 9 #[.val (.ref o), .val (.int (0 : Int32)), .val (.int (0 : Int32)), .val (.int sen)] [(.int ((0 : Int32) + (3 : Int32))), (.int (0 : Int32))]))
  rw [show ((0 : Int32) + (3 : Int32)) = (3 : Int32) from by decide]
  show Go _ _ _ _ _ _ _ (s₁.setTop (mkF m 9 #[.val (.ref o), .val (.int (0 : Int32)), .val (.int (0 : Int32)), .val (.int sen)] [(.int (3 : Int32)), (.int (0 : Int32))]))
  refine Go.by (fun _ kont => XS.icmpNo X0.here hx rfl (hb hby dK00_9) rfl (by decide) (XS.iconst X0.here hx rfl (hb hby dK00_12) kont)) ?_
  show Go _ _ _ _ _ _ _ (s₁.setTop (mkF m 13 #[.val (.ref o), .val (.int (0 : Int32)), .val (.int (0 : Int32)), .val (.int sen)] [(.int (1 : Int32))]))
  refine Go.retN X0 hx (t := .boolean) hret (by simp) hlk (hb hby dK00_13) ?_ (by decide) (by decide)
  show QK00 Z o sen h0 n0 (some (.int (1 : Int32))) s₁.heap _
  rw [e0]
  exact ⟨rfl, N0, rfl⟩

theorem dK01_0 : decode method_3_code 0 = .ok (.iload_n 1, 1) := by decide +kernel
theorem dK01_1 : decode method_3_code 1 = .ok (.iload_n 2, 1) := by decide +kernel
theorem dK01_2 : decode method_3_code 2 = .ok (.if_icmp .lt 12, 3) := by decide +kernel
theorem dK01_5 : decode method_3_code 5 = .ok (.iload_n 1, 1) := by decide +kernel
theorem dK01_6 : decode method_3_code 6 = .ok (.iload_n 2, 1) := by decide +kernel
theorem dK01_7 : decode method_3_code 7 = .ok (.iconst 3, 1) := by decide +kernel
theorem dK01_8 : decode method_3_code 8 = .ok (.iadd, 1) := by decide +kernel
theorem dK01_9 : decode method_3_code 9 = .ok (.if_icmp .ge 5, 3) := by decide +kernel
theorem dK01_12 : decode method_3_code 12 = .ok (.iconst 1, 1) := by decide +kernel
theorem dK01_13 : decode method_3_code 13 = .ok (.ireturn, 1) := by decide +kernel
theorem pnK01 : plainName "com/example/pctenc/pctenc/EscapeWritePinLaw" = true := by first | (simp [plainName, overriddenIn]; done) | decide +kernel
theorem efK01 (m : MethodId) (o : Addr) (sen : Int32) : entryFrame m #[(.ref o), (.int (1 : Int32)), (.int (0 : Int32)), (.int sen)] 4 = mkF m 0 #[.val (.ref o), .val (.int (1 : Int32)), .val (.int (0 : Int32)), .val (.int sen)] [] := by first | (simp [entryFrame, mkF, argsToLocals, Value.category]; done) | rfl
def QK01 (Z : State) (o : Addr) (sen : Int32) (h0 : Heap) (n0 : Nat) (v : Option Value) (h : Heap) (L : List Loc) : Prop := (v = some (.int (1 : Int32)) ∧ Fr n0 L ∧ h = h0)
set_option maxRecDepth 65536 in
set_option maxHeartbeats 40000000 in
theorem rmK01 (l : Launch) (Z : State) (a0 : Array Value) (hw : ∀ d ∈ tables_1, d.before a0 Z = true) (ws : List Jvm.Cond) (o : Addr) (sen : Int32) (h0 : Heap) (n0 : Nat) (Z0 : n0 ≤ h0.size) :
    MetFree l (⟨"com/example/pctenc/pctenc/EscapeWritePinLaw", "kept", "([CIIC)Z"⟩ : MethodName) (head1 (Jvm.Cond.code (⟨"com/example/pctenc/pctenc/EscapeWritePinLaw", "kept", "([CIIC)Z"⟩ : MethodName) method_3_code 4 (some .boolean) :: ws) ({ frames := 0, cells := 0, slots := 0, locals := 0 } : Room)) (fun aa_ U_ => aa_ = #[(.ref o), (.int (1 : Int32)), (.int (0 : Int32)), (.int sen)] ∧ Z.Warmed39 U_.vm ∧ U_.heap = h0) (fun _ _ _ _ _ => True) (fun _ U_ o_ V_ => ∃ v_ L_, o_ = .returned v_ ∧ QK01 Z o sen h0 n0 v_ V_.heap L_ ∧ FrameEnd U_ o_ V_ L_ ({ frames := 0, cells := 0, slots := 0, locals := 0 } : Room).cells ({ frames := 0, cells := 0, slots := 0, locals := 0 } : Room).slots) := by
  refine MetFree.of_bodySF (plainFor_of_name pnK01) hisR ?_
  intro p e s m args below meth c s₁ Bd hml0 hP hK
  obtain ⟨rfl, hZ, hh⟩ := hP
  have hx := Bd.exec
  have hby := Bd.bytes
  have hml : c.maxLocals = 4 := hml0
  have hown : s.vm.findClass "com/example/pctenc/pctenc/EscapeWritePinLaw" = some m.cls := findClass_of_methodNamed Bd.named
  have hnm := (name_of_methodNamed Bd.named Bd.method).1
  have hlk : meth.locks = false := BodyLoose.notSynchronized Bd
  have hret : meth.sig.returnType = (some .boolean) := Bd.returns
  have X0 : Stand p l e ({ frames := 0, cells := 0, slots := 0, locals := 0 } : Room) s m #[(.ref o), (.int (1 : Int32)), (.int (0 : Int32)), (.int sen)] below meth c s₁ [] 0 0 := Stand.of_body Bd
  have e0 : s₁.heap = h0 := by rw [← hh, Bd.state]; rfl
  have N0 := Fr.nil n0
  show Go p e below s ({ frames := 0, cells := 0, slots := 0, locals := 0 } : Room).cells ({ frames := 0, cells := 0, slots := 0, locals := 0 } : Room).slots (QK01 Z o sen h0 n0) (s₁.setTop (entryFrame m #[(.ref o), (.int (1 : Int32)), (.int (0 : Int32)), (.int sen)] 4))
  rw [efK01]
  refine Go.by (fun _ kont => XS.iloadN X0.here hx rfl (hb hby dK01_0) rfl (XS.iloadN X0.here hx rfl (hb hby dK01_1) rfl (XS.icmpNo X0.here hx rfl (hb hby dK01_2) rfl (by decide) (XS.iloadN X0.here hx rfl (hb hby dK01_5) rfl (XS.iloadN X0.here hx rfl (hb hby dK01_6) rfl (XS.iconst X0.here hx rfl (hb hby dK01_7) kont)))))) ?_
  show Go _ _ _ _ _ _ _ (s₁.setTop (mkF m 8 #[.val (.ref o), .val (.int (1 : Int32)), .val (.int (0 : Int32)), .val (.int sen)] [(.int (3 : Int32)), (.int (0 : Int32)), (.int (1 : Int32))]))
  refine Go.by (fun _ kont => XS.iadd X0.here hx rfl (hb hby dK01_8) rfl kont) ?_
  show Go _ _ _ _ _ _ _ (s₁.setTop (mkF m 9 #[.val (.ref o), .val (.int (1 : Int32)), .val (.int (0 : Int32)), .val (.int sen)] [(.int ((0 : Int32) + (3 : Int32))), (.int (1 : Int32))]))
  rw [show ((0 : Int32) + (3 : Int32)) = (3 : Int32) from by decide]
  show Go _ _ _ _ _ _ _ (s₁.setTop (mkF m 9 #[.val (.ref o), .val (.int (1 : Int32)), .val (.int (0 : Int32)), .val (.int sen)] [(.int (3 : Int32)), (.int (1 : Int32))]))
  refine Go.by (fun _ kont => XS.icmpNo X0.here hx rfl (hb hby dK01_9) rfl (by decide) (XS.iconst X0.here hx rfl (hb hby dK01_12) kont)) ?_
  show Go _ _ _ _ _ _ _ (s₁.setTop (mkF m 13 #[.val (.ref o), .val (.int (1 : Int32)), .val (.int (0 : Int32)), .val (.int sen)] [(.int (1 : Int32))]))
  refine Go.retN X0 hx (t := .boolean) hret (by simp) hlk (hb hby dK01_13) ?_ (by decide) (by decide)
  show QK01 Z o sen h0 n0 (some (.int (1 : Int32))) s₁.heap _
  rw [e0]
  exact ⟨rfl, N0, rfl⟩

theorem dK02_0 : decode method_3_code 0 = .ok (.iload_n 1, 1) := by decide +kernel
theorem dK02_1 : decode method_3_code 1 = .ok (.iload_n 2, 1) := by decide +kernel
theorem dK02_2 : decode method_3_code 2 = .ok (.if_icmp .lt 12, 3) := by decide +kernel
theorem dK02_5 : decode method_3_code 5 = .ok (.iload_n 1, 1) := by decide +kernel
theorem dK02_6 : decode method_3_code 6 = .ok (.iload_n 2, 1) := by decide +kernel
theorem dK02_7 : decode method_3_code 7 = .ok (.iconst 3, 1) := by decide +kernel
theorem dK02_8 : decode method_3_code 8 = .ok (.iadd, 1) := by decide +kernel
theorem dK02_9 : decode method_3_code 9 = .ok (.if_icmp .ge 5, 3) := by decide +kernel
theorem dK02_12 : decode method_3_code 12 = .ok (.iconst 1, 1) := by decide +kernel
theorem dK02_13 : decode method_3_code 13 = .ok (.ireturn, 1) := by decide +kernel
theorem pnK02 : plainName "com/example/pctenc/pctenc/EscapeWritePinLaw" = true := by first | (simp [plainName, overriddenIn]; done) | decide +kernel
theorem efK02 (m : MethodId) (o : Addr) (sen : Int32) : entryFrame m #[(.ref o), (.int (2 : Int32)), (.int (0 : Int32)), (.int sen)] 4 = mkF m 0 #[.val (.ref o), .val (.int (2 : Int32)), .val (.int (0 : Int32)), .val (.int sen)] [] := by first | (simp [entryFrame, mkF, argsToLocals, Value.category]; done) | rfl
def QK02 (Z : State) (o : Addr) (sen : Int32) (h0 : Heap) (n0 : Nat) (v : Option Value) (h : Heap) (L : List Loc) : Prop := (v = some (.int (1 : Int32)) ∧ Fr n0 L ∧ h = h0)
set_option maxRecDepth 65536 in
set_option maxHeartbeats 40000000 in
theorem rmK02 (l : Launch) (Z : State) (a0 : Array Value) (hw : ∀ d ∈ tables_1, d.before a0 Z = true) (ws : List Jvm.Cond) (o : Addr) (sen : Int32) (h0 : Heap) (n0 : Nat) (Z0 : n0 ≤ h0.size) :
    MetFree l (⟨"com/example/pctenc/pctenc/EscapeWritePinLaw", "kept", "([CIIC)Z"⟩ : MethodName) (head1 (Jvm.Cond.code (⟨"com/example/pctenc/pctenc/EscapeWritePinLaw", "kept", "([CIIC)Z"⟩ : MethodName) method_3_code 4 (some .boolean) :: ws) ({ frames := 0, cells := 0, slots := 0, locals := 0 } : Room)) (fun aa_ U_ => aa_ = #[(.ref o), (.int (2 : Int32)), (.int (0 : Int32)), (.int sen)] ∧ Z.Warmed39 U_.vm ∧ U_.heap = h0) (fun _ _ _ _ _ => True) (fun _ U_ o_ V_ => ∃ v_ L_, o_ = .returned v_ ∧ QK02 Z o sen h0 n0 v_ V_.heap L_ ∧ FrameEnd U_ o_ V_ L_ ({ frames := 0, cells := 0, slots := 0, locals := 0 } : Room).cells ({ frames := 0, cells := 0, slots := 0, locals := 0 } : Room).slots) := by
  refine MetFree.of_bodySF (plainFor_of_name pnK02) hisR ?_
  intro p e s m args below meth c s₁ Bd hml0 hP hK
  obtain ⟨rfl, hZ, hh⟩ := hP
  have hx := Bd.exec
  have hby := Bd.bytes
  have hml : c.maxLocals = 4 := hml0
  have hown : s.vm.findClass "com/example/pctenc/pctenc/EscapeWritePinLaw" = some m.cls := findClass_of_methodNamed Bd.named
  have hnm := (name_of_methodNamed Bd.named Bd.method).1
  have hlk : meth.locks = false := BodyLoose.notSynchronized Bd
  have hret : meth.sig.returnType = (some .boolean) := Bd.returns
  have X0 : Stand p l e ({ frames := 0, cells := 0, slots := 0, locals := 0 } : Room) s m #[(.ref o), (.int (2 : Int32)), (.int (0 : Int32)), (.int sen)] below meth c s₁ [] 0 0 := Stand.of_body Bd
  have e0 : s₁.heap = h0 := by rw [← hh, Bd.state]; rfl
  have N0 := Fr.nil n0
  show Go p e below s ({ frames := 0, cells := 0, slots := 0, locals := 0 } : Room).cells ({ frames := 0, cells := 0, slots := 0, locals := 0 } : Room).slots (QK02 Z o sen h0 n0) (s₁.setTop (entryFrame m #[(.ref o), (.int (2 : Int32)), (.int (0 : Int32)), (.int sen)] 4))
  rw [efK02]
  refine Go.by (fun _ kont => XS.iloadN X0.here hx rfl (hb hby dK02_0) rfl (XS.iloadN X0.here hx rfl (hb hby dK02_1) rfl (XS.icmpNo X0.here hx rfl (hb hby dK02_2) rfl (by decide) (XS.iloadN X0.here hx rfl (hb hby dK02_5) rfl (XS.iloadN X0.here hx rfl (hb hby dK02_6) rfl (XS.iconst X0.here hx rfl (hb hby dK02_7) kont)))))) ?_
  show Go _ _ _ _ _ _ _ (s₁.setTop (mkF m 8 #[.val (.ref o), .val (.int (2 : Int32)), .val (.int (0 : Int32)), .val (.int sen)] [(.int (3 : Int32)), (.int (0 : Int32)), (.int (2 : Int32))]))
  refine Go.by (fun _ kont => XS.iadd X0.here hx rfl (hb hby dK02_8) rfl kont) ?_
  show Go _ _ _ _ _ _ _ (s₁.setTop (mkF m 9 #[.val (.ref o), .val (.int (2 : Int32)), .val (.int (0 : Int32)), .val (.int sen)] [(.int ((0 : Int32) + (3 : Int32))), (.int (2 : Int32))]))
  rw [show ((0 : Int32) + (3 : Int32)) = (3 : Int32) from by decide]
  show Go _ _ _ _ _ _ _ (s₁.setTop (mkF m 9 #[.val (.ref o), .val (.int (2 : Int32)), .val (.int (0 : Int32)), .val (.int sen)] [(.int (3 : Int32)), (.int (2 : Int32))]))
  refine Go.by (fun _ kont => XS.icmpNo X0.here hx rfl (hb hby dK02_9) rfl (by decide) (XS.iconst X0.here hx rfl (hb hby dK02_12) kont)) ?_
  show Go _ _ _ _ _ _ _ (s₁.setTop (mkF m 13 #[.val (.ref o), .val (.int (2 : Int32)), .val (.int (0 : Int32)), .val (.int sen)] [(.int (1 : Int32))]))
  refine Go.retN X0 hx (t := .boolean) hret (by simp) hlk (hb hby dK02_13) ?_ (by decide) (by decide)
  show QK02 Z o sen h0 n0 (some (.int (1 : Int32))) s₁.heap _
  rw [e0]
  exact ⟨rfl, N0, rfl⟩

theorem dK03_0 : decode method_3_code 0 = .ok (.iload_n 1, 1) := by decide +kernel
theorem dK03_1 : decode method_3_code 1 = .ok (.iload_n 2, 1) := by decide +kernel
theorem dK03_2 : decode method_3_code 2 = .ok (.if_icmp .lt 12, 3) := by decide +kernel
theorem dK03_5 : decode method_3_code 5 = .ok (.iload_n 1, 1) := by decide +kernel
theorem dK03_6 : decode method_3_code 6 = .ok (.iload_n 2, 1) := by decide +kernel
theorem dK03_7 : decode method_3_code 7 = .ok (.iconst 3, 1) := by decide +kernel
theorem dK03_8 : decode method_3_code 8 = .ok (.iadd, 1) := by decide +kernel
theorem dK03_9 : decode method_3_code 9 = .ok (.if_icmp .ge 5, 3) := by decide +kernel
theorem dK03_14 : decode method_3_code 14 = .ok (.aload_n 0, 1) := by decide +kernel
theorem dK03_15 : decode method_3_code 15 = .ok (.iload_n 1, 1) := by decide +kernel
theorem dK03_16 : decode method_3_code 16 = .ok (.caload, 1) := by decide +kernel
theorem dK03_17 : decode method_3_code 17 = .ok (.iload_n 3, 1) := by decide +kernel
theorem dK03_18 : decode method_3_code 18 = .ok (.if_icmp .ne 7, 3) := by decide +kernel
theorem dK03_21 : decode method_3_code 21 = .ok (.iconst 1, 1) := by decide +kernel
theorem dK03_22 : decode method_3_code 22 = .ok (.goto 4, 3) := by decide +kernel
theorem dK03_26 : decode method_3_code 26 = .ok (.ireturn, 1) := by decide +kernel
theorem pnK03 : plainName "com/example/pctenc/pctenc/EscapeWritePinLaw" = true := by first | (simp [plainName, overriddenIn]; done) | decide +kernel
theorem efK03 (m : MethodId) (o : Addr) (sen : Int32) : entryFrame m #[(.ref o), (.int (3 : Int32)), (.int (0 : Int32)), (.int sen)] 4 = mkF m 0 #[.val (.ref o), .val (.int (3 : Int32)), .val (.int (0 : Int32)), .val (.int sen)] [] := by first | (simp [entryFrame, mkF, argsToLocals, Value.category]; done) | rfl
def QK03 (Z : State) (o : Addr) (sen : Int32) (kc_o : ClassId) (v0 : Int32) (v1 : Int32) (v2 : Int32) (v4 : Int32) (v5 : Int32) (v6 : Int32) (v7 : Int32) (h0 : Heap) (n0 : Nat) (v : Option Value) (h : Heap) (L : List Loc) : Prop := (v = some (.int (1 : Int32)) ∧ Fr n0 L ∧ h = h0)
set_option maxRecDepth 65536 in
set_option maxHeartbeats 40000000 in
theorem rmK03 (l : Launch) (Z : State) (a0 : Array Value) (hw : ∀ d ∈ tables_1, d.before a0 Z = true) (ws : List Jvm.Cond) (o : Addr) (sen : Int32) (kc_o : ClassId) (v0 : Int32) (v1 : Int32) (v2 : Int32) (v4 : Int32) (v5 : Int32) (v6 : Int32) (v7 : Int32) (h0 : Heap) (n0 : Nat) (Z0 : n0 ≤ h0.size) (V0_o : Arv Z h0 o kc_o .char (8 : Int32) [(.int v0), (.int v1), (.int v2), (.int (nar .char sen)), (.int v4), (.int v5), (.int v6), (.int v7)] (.int (0 : Int32))) (hsen : (nar .char sen) = sen) :
    MetFree l (⟨"com/example/pctenc/pctenc/EscapeWritePinLaw", "kept", "([CIIC)Z"⟩ : MethodName) (head1 (Jvm.Cond.code (⟨"com/example/pctenc/pctenc/EscapeWritePinLaw", "kept", "([CIIC)Z"⟩ : MethodName) method_3_code 4 (some .boolean) :: ws) ({ frames := 0, cells := 0, slots := 0, locals := 0 } : Room)) (fun aa_ U_ => aa_ = #[(.ref o), (.int (3 : Int32)), (.int (0 : Int32)), (.int sen)] ∧ Z.Warmed39 U_.vm ∧ U_.heap = h0) (fun _ _ _ _ _ => True) (fun _ U_ o_ V_ => ∃ v_ L_, o_ = .returned v_ ∧ QK03 Z o sen kc_o v0 v1 v2 v4 v5 v6 v7 h0 n0 v_ V_.heap L_ ∧ FrameEnd U_ o_ V_ L_ ({ frames := 0, cells := 0, slots := 0, locals := 0 } : Room).cells ({ frames := 0, cells := 0, slots := 0, locals := 0 } : Room).slots) := by
  refine MetFree.of_bodySF (plainFor_of_name pnK03) hisR ?_
  intro p e s m args below meth c s₁ Bd hml0 hP hK
  obtain ⟨rfl, hZ, hh⟩ := hP
  have hx := Bd.exec
  have hby := Bd.bytes
  have hml : c.maxLocals = 4 := hml0
  have hown : s.vm.findClass "com/example/pctenc/pctenc/EscapeWritePinLaw" = some m.cls := findClass_of_methodNamed Bd.named
  have hnm := (name_of_methodNamed Bd.named Bd.method).1
  have hlk : meth.locks = false := BodyLoose.notSynchronized Bd
  have hret : meth.sig.returnType = (some .boolean) := Bd.returns
  have X0 : Stand p l e ({ frames := 0, cells := 0, slots := 0, locals := 0 } : Room) s m #[(.ref o), (.int (3 : Int32)), (.int (0 : Int32)), (.int sen)] below meth c s₁ [] 0 0 := Stand.of_body Bd
  have e0 : s₁.heap = h0 := by rw [← hh, Bd.state]; rfl
  have N0 := Fr.nil n0
  show Go p e below s ({ frames := 0, cells := 0, slots := 0, locals := 0 } : Room).cells ({ frames := 0, cells := 0, slots := 0, locals := 0 } : Room).slots (QK03 Z o sen kc_o v0 v1 v2 v4 v5 v6 v7 h0 n0) (s₁.setTop (entryFrame m #[(.ref o), (.int (3 : Int32)), (.int (0 : Int32)), (.int sen)] 4))
  rw [efK03]
  refine Go.by (fun _ kont => XS.iloadN X0.here hx rfl (hb hby dK03_0) rfl (XS.iloadN X0.here hx rfl (hb hby dK03_1) rfl (XS.icmpNo X0.here hx rfl (hb hby dK03_2) rfl (by decide) (XS.iloadN X0.here hx rfl (hb hby dK03_5) rfl (XS.iloadN X0.here hx rfl (hb hby dK03_6) rfl (XS.iconst X0.here hx rfl (hb hby dK03_7) kont)))))) ?_
  show Go _ _ _ _ _ _ _ (s₁.setTop (mkF m 8 #[.val (.ref o), .val (.int (3 : Int32)), .val (.int (0 : Int32)), .val (.int sen)] [(.int (3 : Int32)), (.int (0 : Int32)), (.int (3 : Int32))]))
  refine Go.by (fun _ kont => XS.iadd X0.here hx rfl (hb hby dK03_8) rfl kont) ?_
  show Go _ _ _ _ _ _ _ (s₁.setTop (mkF m 9 #[.val (.ref o), .val (.int (3 : Int32)), .val (.int (0 : Int32)), .val (.int sen)] [(.int ((0 : Int32) + (3 : Int32))), (.int (3 : Int32))]))
  rw [show ((0 : Int32) + (3 : Int32)) = (3 : Int32) from by decide]
  show Go _ _ _ _ _ _ _ (s₁.setTop (mkF m 9 #[.val (.ref o), .val (.int (3 : Int32)), .val (.int (0 : Int32)), .val (.int sen)] [(.int (3 : Int32)), (.int (3 : Int32))]))
  refine Go.by (fun _ kont => XS.icmpYes X0.here hx rfl (pc0 := 9) (pc' := 14) rfl (hb hby dK03_9) rfl (by decide) (by decide) (by decide) (XS.aloadN X0.here hx rfl (hb hby dK03_14) rfl rfl (XS.iloadN X0.here hx rfl (hb hby dK03_15) rfl kont))) ?_
  show Go _ _ _ _ _ _ _ (s₁.setTop (mkF m 16 #[.val (.ref o), .val (.int (3 : Int32)), .val (.int (0 : Int32)), .val (.int sen)] [(.int (3 : Int32)), (.ref o)]))
  obtain ⟨cl_q101, Ar_q101, q1_q101, S_q101, N_q101, H_q101, G_q101⟩ := id V0_o
  have hin_q101 : ¬ ((3 : Int32) < 0 ∨ cl_q101.slots.size ≤ ((3 : Int32)).toNatClampNeg) := inb_of S_q101 ⟨by decide, by decide⟩
  have hat_q101 : cl_q101.slots[((3 : Int32)).toNatClampNeg]? = some (.int (nar .char sen)) := Has.at H_q101 hin_q101 rfl
  refine Go.by (X0.caload hx (j := (3 : Int32)) (v := (.int (nar .char sen))) (by first | exact Ar_q101.1 | (rw [e0]; exact Ar_q101.1)) (State.isArrayOf_alike hZ.alike Ar_q101.2.1) Ar_q101.2.2 hin_q101 hat_q101 (g := (mkF m 16 #[.val (.ref o), .val (.int (3 : Int32)), .val (.int (0 : Int32)), .val (.int sen)] [(.int (3 : Int32)), (.ref o)])) rfl rfl (hb hby dK03_16)) ?_
  show Go _ _ _ _ _ _ _ (s₁.setTop (mkF m 17 #[.val (.ref o), .val (.int (3 : Int32)), .val (.int (0 : Int32)), .val (.int sen)] [(.int (nar .char sen))]))
  refine Go.by (fun _ kont => XS.iloadN X0.here hx rfl (hb hby dK03_17) rfl kont) ?_
  show Go _ _ _ _ _ _ _ (s₁.setTop (mkF m 18 #[.val (.ref o), .val (.int (3 : Int32)), .val (.int (0 : Int32)), .val (.int sen)] [(.int sen), (.int (nar .char sen))]))
  refine Go.by (fun _ kont => XS.icmpNo X0.here hx rfl (hb hby dK03_18) rfl (teq hsen).2 kont) ?_
  show Go _ _ _ _ _ _ _ (s₁.setTop (mkF m 21 #[.val (.ref o), .val (.int (3 : Int32)), .val (.int (0 : Int32)), .val (.int sen)] []))
  refine Go.by (fun _ kont => XS.iconst X0.here hx rfl (hb hby dK03_21) (XS.goto X0.here hx rfl (pc0 := 22) (pc' := 26) rfl (hb hby dK03_22) (by decide) (by decide) kont)) ?_
  show Go _ _ _ _ _ _ _ (s₁.setTop (mkF m 26 #[.val (.ref o), .val (.int (3 : Int32)), .val (.int (0 : Int32)), .val (.int sen)] [(.int (1 : Int32))]))
  refine Go.retN X0 hx (t := .boolean) hret (by simp) hlk (hb hby dK03_26) ?_ (by decide) (by decide)
  show QK03 Z o sen kc_o v0 v1 v2 v4 v5 v6 v7 h0 n0 (some (.int (1 : Int32))) s₁.heap _
  rw [e0]
  exact ⟨rfl, N0, rfl⟩

theorem dK04_0 : decode method_3_code 0 = .ok (.iload_n 1, 1) := by decide +kernel
theorem dK04_1 : decode method_3_code 1 = .ok (.iload_n 2, 1) := by decide +kernel
theorem dK04_2 : decode method_3_code 2 = .ok (.if_icmp .lt 12, 3) := by decide +kernel
theorem dK04_5 : decode method_3_code 5 = .ok (.iload_n 1, 1) := by decide +kernel
theorem dK04_6 : decode method_3_code 6 = .ok (.iload_n 2, 1) := by decide +kernel
theorem dK04_7 : decode method_3_code 7 = .ok (.iconst 3, 1) := by decide +kernel
theorem dK04_8 : decode method_3_code 8 = .ok (.iadd, 1) := by decide +kernel
theorem dK04_9 : decode method_3_code 9 = .ok (.if_icmp .ge 5, 3) := by decide +kernel
theorem dK04_14 : decode method_3_code 14 = .ok (.aload_n 0, 1) := by decide +kernel
theorem dK04_15 : decode method_3_code 15 = .ok (.iload_n 1, 1) := by decide +kernel
theorem dK04_16 : decode method_3_code 16 = .ok (.caload, 1) := by decide +kernel
theorem dK04_17 : decode method_3_code 17 = .ok (.iload_n 3, 1) := by decide +kernel
theorem dK04_18 : decode method_3_code 18 = .ok (.if_icmp .ne 7, 3) := by decide +kernel
theorem dK04_21 : decode method_3_code 21 = .ok (.iconst 1, 1) := by decide +kernel
theorem dK04_22 : decode method_3_code 22 = .ok (.goto 4, 3) := by decide +kernel
theorem dK04_26 : decode method_3_code 26 = .ok (.ireturn, 1) := by decide +kernel
theorem pnK04 : plainName "com/example/pctenc/pctenc/EscapeWritePinLaw" = true := by first | (simp [plainName, overriddenIn]; done) | decide +kernel
theorem efK04 (m : MethodId) (o : Addr) (sen : Int32) : entryFrame m #[(.ref o), (.int (4 : Int32)), (.int (0 : Int32)), (.int sen)] 4 = mkF m 0 #[.val (.ref o), .val (.int (4 : Int32)), .val (.int (0 : Int32)), .val (.int sen)] [] := by first | (simp [entryFrame, mkF, argsToLocals, Value.category]; done) | rfl
def QK04 (Z : State) (o : Addr) (sen : Int32) (kc_o : ClassId) (v0 : Int32) (v1 : Int32) (v2 : Int32) (v3 : Int32) (v5 : Int32) (v6 : Int32) (v7 : Int32) (h0 : Heap) (n0 : Nat) (v : Option Value) (h : Heap) (L : List Loc) : Prop := (v = some (.int (1 : Int32)) ∧ Fr n0 L ∧ h = h0)
set_option maxRecDepth 65536 in
set_option maxHeartbeats 40000000 in
theorem rmK04 (l : Launch) (Z : State) (a0 : Array Value) (hw : ∀ d ∈ tables_1, d.before a0 Z = true) (ws : List Jvm.Cond) (o : Addr) (sen : Int32) (kc_o : ClassId) (v0 : Int32) (v1 : Int32) (v2 : Int32) (v3 : Int32) (v5 : Int32) (v6 : Int32) (v7 : Int32) (h0 : Heap) (n0 : Nat) (Z0 : n0 ≤ h0.size) (V0_o : Arv Z h0 o kc_o .char (8 : Int32) [(.int v0), (.int v1), (.int v2), (.int v3), (.int (nar .char sen)), (.int v5), (.int v6), (.int v7)] (.int (0 : Int32))) (hsen : (nar .char sen) = sen) :
    MetFree l (⟨"com/example/pctenc/pctenc/EscapeWritePinLaw", "kept", "([CIIC)Z"⟩ : MethodName) (head1 (Jvm.Cond.code (⟨"com/example/pctenc/pctenc/EscapeWritePinLaw", "kept", "([CIIC)Z"⟩ : MethodName) method_3_code 4 (some .boolean) :: ws) ({ frames := 0, cells := 0, slots := 0, locals := 0 } : Room)) (fun aa_ U_ => aa_ = #[(.ref o), (.int (4 : Int32)), (.int (0 : Int32)), (.int sen)] ∧ Z.Warmed39 U_.vm ∧ U_.heap = h0) (fun _ _ _ _ _ => True) (fun _ U_ o_ V_ => ∃ v_ L_, o_ = .returned v_ ∧ QK04 Z o sen kc_o v0 v1 v2 v3 v5 v6 v7 h0 n0 v_ V_.heap L_ ∧ FrameEnd U_ o_ V_ L_ ({ frames := 0, cells := 0, slots := 0, locals := 0 } : Room).cells ({ frames := 0, cells := 0, slots := 0, locals := 0 } : Room).slots) := by
  refine MetFree.of_bodySF (plainFor_of_name pnK04) hisR ?_
  intro p e s m args below meth c s₁ Bd hml0 hP hK
  obtain ⟨rfl, hZ, hh⟩ := hP
  have hx := Bd.exec
  have hby := Bd.bytes
  have hml : c.maxLocals = 4 := hml0
  have hown : s.vm.findClass "com/example/pctenc/pctenc/EscapeWritePinLaw" = some m.cls := findClass_of_methodNamed Bd.named
  have hnm := (name_of_methodNamed Bd.named Bd.method).1
  have hlk : meth.locks = false := BodyLoose.notSynchronized Bd
  have hret : meth.sig.returnType = (some .boolean) := Bd.returns
  have X0 : Stand p l e ({ frames := 0, cells := 0, slots := 0, locals := 0 } : Room) s m #[(.ref o), (.int (4 : Int32)), (.int (0 : Int32)), (.int sen)] below meth c s₁ [] 0 0 := Stand.of_body Bd
  have e0 : s₁.heap = h0 := by rw [← hh, Bd.state]; rfl
  have N0 := Fr.nil n0
  show Go p e below s ({ frames := 0, cells := 0, slots := 0, locals := 0 } : Room).cells ({ frames := 0, cells := 0, slots := 0, locals := 0 } : Room).slots (QK04 Z o sen kc_o v0 v1 v2 v3 v5 v6 v7 h0 n0) (s₁.setTop (entryFrame m #[(.ref o), (.int (4 : Int32)), (.int (0 : Int32)), (.int sen)] 4))
  rw [efK04]
  refine Go.by (fun _ kont => XS.iloadN X0.here hx rfl (hb hby dK04_0) rfl (XS.iloadN X0.here hx rfl (hb hby dK04_1) rfl (XS.icmpNo X0.here hx rfl (hb hby dK04_2) rfl (by decide) (XS.iloadN X0.here hx rfl (hb hby dK04_5) rfl (XS.iloadN X0.here hx rfl (hb hby dK04_6) rfl (XS.iconst X0.here hx rfl (hb hby dK04_7) kont)))))) ?_
  show Go _ _ _ _ _ _ _ (s₁.setTop (mkF m 8 #[.val (.ref o), .val (.int (4 : Int32)), .val (.int (0 : Int32)), .val (.int sen)] [(.int (3 : Int32)), (.int (0 : Int32)), (.int (4 : Int32))]))
  refine Go.by (fun _ kont => XS.iadd X0.here hx rfl (hb hby dK04_8) rfl kont) ?_
  show Go _ _ _ _ _ _ _ (s₁.setTop (mkF m 9 #[.val (.ref o), .val (.int (4 : Int32)), .val (.int (0 : Int32)), .val (.int sen)] [(.int ((0 : Int32) + (3 : Int32))), (.int (4 : Int32))]))
  rw [show ((0 : Int32) + (3 : Int32)) = (3 : Int32) from by decide]
  show Go _ _ _ _ _ _ _ (s₁.setTop (mkF m 9 #[.val (.ref o), .val (.int (4 : Int32)), .val (.int (0 : Int32)), .val (.int sen)] [(.int (3 : Int32)), (.int (4 : Int32))]))
  refine Go.by (fun _ kont => XS.icmpYes X0.here hx rfl (pc0 := 9) (pc' := 14) rfl (hb hby dK04_9) rfl (by decide) (by decide) (by decide) (XS.aloadN X0.here hx rfl (hb hby dK04_14) rfl rfl (XS.iloadN X0.here hx rfl (hb hby dK04_15) rfl kont))) ?_
  show Go _ _ _ _ _ _ _ (s₁.setTop (mkF m 16 #[.val (.ref o), .val (.int (4 : Int32)), .val (.int (0 : Int32)), .val (.int sen)] [(.int (4 : Int32)), (.ref o)]))
  obtain ⟨cl_q101, Ar_q101, q1_q101, S_q101, N_q101, H_q101, G_q101⟩ := id V0_o
  have hin_q101 : ¬ ((4 : Int32) < 0 ∨ cl_q101.slots.size ≤ ((4 : Int32)).toNatClampNeg) := inb_of S_q101 ⟨by decide, by decide⟩
  have hat_q101 : cl_q101.slots[((4 : Int32)).toNatClampNeg]? = some (.int (nar .char sen)) := Has.at H_q101 hin_q101 rfl
  refine Go.by (X0.caload hx (j := (4 : Int32)) (v := (.int (nar .char sen))) (by first | exact Ar_q101.1 | (rw [e0]; exact Ar_q101.1)) (State.isArrayOf_alike hZ.alike Ar_q101.2.1) Ar_q101.2.2 hin_q101 hat_q101 (g := (mkF m 16 #[.val (.ref o), .val (.int (4 : Int32)), .val (.int (0 : Int32)), .val (.int sen)] [(.int (4 : Int32)), (.ref o)])) rfl rfl (hb hby dK04_16)) ?_
  show Go _ _ _ _ _ _ _ (s₁.setTop (mkF m 17 #[.val (.ref o), .val (.int (4 : Int32)), .val (.int (0 : Int32)), .val (.int sen)] [(.int (nar .char sen))]))
  refine Go.by (fun _ kont => XS.iloadN X0.here hx rfl (hb hby dK04_17) rfl kont) ?_
  show Go _ _ _ _ _ _ _ (s₁.setTop (mkF m 18 #[.val (.ref o), .val (.int (4 : Int32)), .val (.int (0 : Int32)), .val (.int sen)] [(.int sen), (.int (nar .char sen))]))
  refine Go.by (fun _ kont => XS.icmpNo X0.here hx rfl (hb hby dK04_18) rfl (teq hsen).2 kont) ?_
  show Go _ _ _ _ _ _ _ (s₁.setTop (mkF m 21 #[.val (.ref o), .val (.int (4 : Int32)), .val (.int (0 : Int32)), .val (.int sen)] []))
  refine Go.by (fun _ kont => XS.iconst X0.here hx rfl (hb hby dK04_21) (XS.goto X0.here hx rfl (pc0 := 22) (pc' := 26) rfl (hb hby dK04_22) (by decide) (by decide) kont)) ?_
  show Go _ _ _ _ _ _ _ (s₁.setTop (mkF m 26 #[.val (.ref o), .val (.int (4 : Int32)), .val (.int (0 : Int32)), .val (.int sen)] [(.int (1 : Int32))]))
  refine Go.retN X0 hx (t := .boolean) hret (by simp) hlk (hb hby dK04_26) ?_ (by decide) (by decide)
  show QK04 Z o sen kc_o v0 v1 v2 v3 v5 v6 v7 h0 n0 (some (.int (1 : Int32))) s₁.heap _
  rw [e0]
  exact ⟨rfl, N0, rfl⟩

theorem dK05_0 : decode method_3_code 0 = .ok (.iload_n 1, 1) := by decide +kernel
theorem dK05_1 : decode method_3_code 1 = .ok (.iload_n 2, 1) := by decide +kernel
theorem dK05_2 : decode method_3_code 2 = .ok (.if_icmp .lt 12, 3) := by decide +kernel
theorem dK05_5 : decode method_3_code 5 = .ok (.iload_n 1, 1) := by decide +kernel
theorem dK05_6 : decode method_3_code 6 = .ok (.iload_n 2, 1) := by decide +kernel
theorem dK05_7 : decode method_3_code 7 = .ok (.iconst 3, 1) := by decide +kernel
theorem dK05_8 : decode method_3_code 8 = .ok (.iadd, 1) := by decide +kernel
theorem dK05_9 : decode method_3_code 9 = .ok (.if_icmp .ge 5, 3) := by decide +kernel
theorem dK05_14 : decode method_3_code 14 = .ok (.aload_n 0, 1) := by decide +kernel
theorem dK05_15 : decode method_3_code 15 = .ok (.iload_n 1, 1) := by decide +kernel
theorem dK05_16 : decode method_3_code 16 = .ok (.caload, 1) := by decide +kernel
theorem dK05_17 : decode method_3_code 17 = .ok (.iload_n 3, 1) := by decide +kernel
theorem dK05_18 : decode method_3_code 18 = .ok (.if_icmp .ne 7, 3) := by decide +kernel
theorem dK05_21 : decode method_3_code 21 = .ok (.iconst 1, 1) := by decide +kernel
theorem dK05_22 : decode method_3_code 22 = .ok (.goto 4, 3) := by decide +kernel
theorem dK05_26 : decode method_3_code 26 = .ok (.ireturn, 1) := by decide +kernel
theorem pnK05 : plainName "com/example/pctenc/pctenc/EscapeWritePinLaw" = true := by first | (simp [plainName, overriddenIn]; done) | decide +kernel
theorem efK05 (m : MethodId) (o : Addr) (sen : Int32) : entryFrame m #[(.ref o), (.int (5 : Int32)), (.int (0 : Int32)), (.int sen)] 4 = mkF m 0 #[.val (.ref o), .val (.int (5 : Int32)), .val (.int (0 : Int32)), .val (.int sen)] [] := by first | (simp [entryFrame, mkF, argsToLocals, Value.category]; done) | rfl
def QK05 (Z : State) (o : Addr) (sen : Int32) (kc_o : ClassId) (v0 : Int32) (v1 : Int32) (v2 : Int32) (v3 : Int32) (v4 : Int32) (v6 : Int32) (v7 : Int32) (h0 : Heap) (n0 : Nat) (v : Option Value) (h : Heap) (L : List Loc) : Prop := (v = some (.int (1 : Int32)) ∧ Fr n0 L ∧ h = h0)
set_option maxRecDepth 65536 in
set_option maxHeartbeats 40000000 in
theorem rmK05 (l : Launch) (Z : State) (a0 : Array Value) (hw : ∀ d ∈ tables_1, d.before a0 Z = true) (ws : List Jvm.Cond) (o : Addr) (sen : Int32) (kc_o : ClassId) (v0 : Int32) (v1 : Int32) (v2 : Int32) (v3 : Int32) (v4 : Int32) (v6 : Int32) (v7 : Int32) (h0 : Heap) (n0 : Nat) (Z0 : n0 ≤ h0.size) (V0_o : Arv Z h0 o kc_o .char (8 : Int32) [(.int v0), (.int v1), (.int v2), (.int v3), (.int v4), (.int (nar .char sen)), (.int v6), (.int v7)] (.int (0 : Int32))) (hsen : (nar .char sen) = sen) :
    MetFree l (⟨"com/example/pctenc/pctenc/EscapeWritePinLaw", "kept", "([CIIC)Z"⟩ : MethodName) (head1 (Jvm.Cond.code (⟨"com/example/pctenc/pctenc/EscapeWritePinLaw", "kept", "([CIIC)Z"⟩ : MethodName) method_3_code 4 (some .boolean) :: ws) ({ frames := 0, cells := 0, slots := 0, locals := 0 } : Room)) (fun aa_ U_ => aa_ = #[(.ref o), (.int (5 : Int32)), (.int (0 : Int32)), (.int sen)] ∧ Z.Warmed39 U_.vm ∧ U_.heap = h0) (fun _ _ _ _ _ => True) (fun _ U_ o_ V_ => ∃ v_ L_, o_ = .returned v_ ∧ QK05 Z o sen kc_o v0 v1 v2 v3 v4 v6 v7 h0 n0 v_ V_.heap L_ ∧ FrameEnd U_ o_ V_ L_ ({ frames := 0, cells := 0, slots := 0, locals := 0 } : Room).cells ({ frames := 0, cells := 0, slots := 0, locals := 0 } : Room).slots) := by
  refine MetFree.of_bodySF (plainFor_of_name pnK05) hisR ?_
  intro p e s m args below meth c s₁ Bd hml0 hP hK
  obtain ⟨rfl, hZ, hh⟩ := hP
  have hx := Bd.exec
  have hby := Bd.bytes
  have hml : c.maxLocals = 4 := hml0
  have hown : s.vm.findClass "com/example/pctenc/pctenc/EscapeWritePinLaw" = some m.cls := findClass_of_methodNamed Bd.named
  have hnm := (name_of_methodNamed Bd.named Bd.method).1
  have hlk : meth.locks = false := BodyLoose.notSynchronized Bd
  have hret : meth.sig.returnType = (some .boolean) := Bd.returns
  have X0 : Stand p l e ({ frames := 0, cells := 0, slots := 0, locals := 0 } : Room) s m #[(.ref o), (.int (5 : Int32)), (.int (0 : Int32)), (.int sen)] below meth c s₁ [] 0 0 := Stand.of_body Bd
  have e0 : s₁.heap = h0 := by rw [← hh, Bd.state]; rfl
  have N0 := Fr.nil n0
  show Go p e below s ({ frames := 0, cells := 0, slots := 0, locals := 0 } : Room).cells ({ frames := 0, cells := 0, slots := 0, locals := 0 } : Room).slots (QK05 Z o sen kc_o v0 v1 v2 v3 v4 v6 v7 h0 n0) (s₁.setTop (entryFrame m #[(.ref o), (.int (5 : Int32)), (.int (0 : Int32)), (.int sen)] 4))
  rw [efK05]
  refine Go.by (fun _ kont => XS.iloadN X0.here hx rfl (hb hby dK05_0) rfl (XS.iloadN X0.here hx rfl (hb hby dK05_1) rfl (XS.icmpNo X0.here hx rfl (hb hby dK05_2) rfl (by decide) (XS.iloadN X0.here hx rfl (hb hby dK05_5) rfl (XS.iloadN X0.here hx rfl (hb hby dK05_6) rfl (XS.iconst X0.here hx rfl (hb hby dK05_7) kont)))))) ?_
  show Go _ _ _ _ _ _ _ (s₁.setTop (mkF m 8 #[.val (.ref o), .val (.int (5 : Int32)), .val (.int (0 : Int32)), .val (.int sen)] [(.int (3 : Int32)), (.int (0 : Int32)), (.int (5 : Int32))]))
  refine Go.by (fun _ kont => XS.iadd X0.here hx rfl (hb hby dK05_8) rfl kont) ?_
  show Go _ _ _ _ _ _ _ (s₁.setTop (mkF m 9 #[.val (.ref o), .val (.int (5 : Int32)), .val (.int (0 : Int32)), .val (.int sen)] [(.int ((0 : Int32) + (3 : Int32))), (.int (5 : Int32))]))
  rw [show ((0 : Int32) + (3 : Int32)) = (3 : Int32) from by decide]
  show Go _ _ _ _ _ _ _ (s₁.setTop (mkF m 9 #[.val (.ref o), .val (.int (5 : Int32)), .val (.int (0 : Int32)), .val (.int sen)] [(.int (3 : Int32)), (.int (5 : Int32))]))
  refine Go.by (fun _ kont => XS.icmpYes X0.here hx rfl (pc0 := 9) (pc' := 14) rfl (hb hby dK05_9) rfl (by decide) (by decide) (by decide) (XS.aloadN X0.here hx rfl (hb hby dK05_14) rfl rfl (XS.iloadN X0.here hx rfl (hb hby dK05_15) rfl kont))) ?_
  show Go _ _ _ _ _ _ _ (s₁.setTop (mkF m 16 #[.val (.ref o), .val (.int (5 : Int32)), .val (.int (0 : Int32)), .val (.int sen)] [(.int (5 : Int32)), (.ref o)]))
  obtain ⟨cl_q101, Ar_q101, q1_q101, S_q101, N_q101, H_q101, G_q101⟩ := id V0_o
  have hin_q101 : ¬ ((5 : Int32) < 0 ∨ cl_q101.slots.size ≤ ((5 : Int32)).toNatClampNeg) := inb_of S_q101 ⟨by decide, by decide⟩
  have hat_q101 : cl_q101.slots[((5 : Int32)).toNatClampNeg]? = some (.int (nar .char sen)) := Has.at H_q101 hin_q101 rfl
  refine Go.by (X0.caload hx (j := (5 : Int32)) (v := (.int (nar .char sen))) (by first | exact Ar_q101.1 | (rw [e0]; exact Ar_q101.1)) (State.isArrayOf_alike hZ.alike Ar_q101.2.1) Ar_q101.2.2 hin_q101 hat_q101 (g := (mkF m 16 #[.val (.ref o), .val (.int (5 : Int32)), .val (.int (0 : Int32)), .val (.int sen)] [(.int (5 : Int32)), (.ref o)])) rfl rfl (hb hby dK05_16)) ?_
  show Go _ _ _ _ _ _ _ (s₁.setTop (mkF m 17 #[.val (.ref o), .val (.int (5 : Int32)), .val (.int (0 : Int32)), .val (.int sen)] [(.int (nar .char sen))]))
  refine Go.by (fun _ kont => XS.iloadN X0.here hx rfl (hb hby dK05_17) rfl kont) ?_
  show Go _ _ _ _ _ _ _ (s₁.setTop (mkF m 18 #[.val (.ref o), .val (.int (5 : Int32)), .val (.int (0 : Int32)), .val (.int sen)] [(.int sen), (.int (nar .char sen))]))
  refine Go.by (fun _ kont => XS.icmpNo X0.here hx rfl (hb hby dK05_18) rfl (teq hsen).2 kont) ?_
  show Go _ _ _ _ _ _ _ (s₁.setTop (mkF m 21 #[.val (.ref o), .val (.int (5 : Int32)), .val (.int (0 : Int32)), .val (.int sen)] []))
  refine Go.by (fun _ kont => XS.iconst X0.here hx rfl (hb hby dK05_21) (XS.goto X0.here hx rfl (pc0 := 22) (pc' := 26) rfl (hb hby dK05_22) (by decide) (by decide) kont)) ?_
  show Go _ _ _ _ _ _ _ (s₁.setTop (mkF m 26 #[.val (.ref o), .val (.int (5 : Int32)), .val (.int (0 : Int32)), .val (.int sen)] [(.int (1 : Int32))]))
  refine Go.retN X0 hx (t := .boolean) hret (by simp) hlk (hb hby dK05_26) ?_ (by decide) (by decide)
  show QK05 Z o sen kc_o v0 v1 v2 v3 v4 v6 v7 h0 n0 (some (.int (1 : Int32))) s₁.heap _
  rw [e0]
  exact ⟨rfl, N0, rfl⟩

theorem dK06_0 : decode method_3_code 0 = .ok (.iload_n 1, 1) := by decide +kernel
theorem dK06_1 : decode method_3_code 1 = .ok (.iload_n 2, 1) := by decide +kernel
theorem dK06_2 : decode method_3_code 2 = .ok (.if_icmp .lt 12, 3) := by decide +kernel
theorem dK06_5 : decode method_3_code 5 = .ok (.iload_n 1, 1) := by decide +kernel
theorem dK06_6 : decode method_3_code 6 = .ok (.iload_n 2, 1) := by decide +kernel
theorem dK06_7 : decode method_3_code 7 = .ok (.iconst 3, 1) := by decide +kernel
theorem dK06_8 : decode method_3_code 8 = .ok (.iadd, 1) := by decide +kernel
theorem dK06_9 : decode method_3_code 9 = .ok (.if_icmp .ge 5, 3) := by decide +kernel
theorem dK06_14 : decode method_3_code 14 = .ok (.aload_n 0, 1) := by decide +kernel
theorem dK06_15 : decode method_3_code 15 = .ok (.iload_n 1, 1) := by decide +kernel
theorem dK06_16 : decode method_3_code 16 = .ok (.caload, 1) := by decide +kernel
theorem dK06_17 : decode method_3_code 17 = .ok (.iload_n 3, 1) := by decide +kernel
theorem dK06_18 : decode method_3_code 18 = .ok (.if_icmp .ne 7, 3) := by decide +kernel
theorem dK06_21 : decode method_3_code 21 = .ok (.iconst 1, 1) := by decide +kernel
theorem dK06_22 : decode method_3_code 22 = .ok (.goto 4, 3) := by decide +kernel
theorem dK06_26 : decode method_3_code 26 = .ok (.ireturn, 1) := by decide +kernel
theorem pnK06 : plainName "com/example/pctenc/pctenc/EscapeWritePinLaw" = true := by first | (simp [plainName, overriddenIn]; done) | decide +kernel
theorem efK06 (m : MethodId) (o : Addr) (sen : Int32) : entryFrame m #[(.ref o), (.int (6 : Int32)), (.int (0 : Int32)), (.int sen)] 4 = mkF m 0 #[.val (.ref o), .val (.int (6 : Int32)), .val (.int (0 : Int32)), .val (.int sen)] [] := by first | (simp [entryFrame, mkF, argsToLocals, Value.category]; done) | rfl
def QK06 (Z : State) (o : Addr) (sen : Int32) (kc_o : ClassId) (v0 : Int32) (v1 : Int32) (v2 : Int32) (v3 : Int32) (v4 : Int32) (v5 : Int32) (v7 : Int32) (h0 : Heap) (n0 : Nat) (v : Option Value) (h : Heap) (L : List Loc) : Prop := (v = some (.int (1 : Int32)) ∧ Fr n0 L ∧ h = h0)
set_option maxRecDepth 65536 in
set_option maxHeartbeats 40000000 in
theorem rmK06 (l : Launch) (Z : State) (a0 : Array Value) (hw : ∀ d ∈ tables_1, d.before a0 Z = true) (ws : List Jvm.Cond) (o : Addr) (sen : Int32) (kc_o : ClassId) (v0 : Int32) (v1 : Int32) (v2 : Int32) (v3 : Int32) (v4 : Int32) (v5 : Int32) (v7 : Int32) (h0 : Heap) (n0 : Nat) (Z0 : n0 ≤ h0.size) (V0_o : Arv Z h0 o kc_o .char (8 : Int32) [(.int v0), (.int v1), (.int v2), (.int v3), (.int v4), (.int v5), (.int (nar .char sen)), (.int v7)] (.int (0 : Int32))) (hsen : (nar .char sen) = sen) :
    MetFree l (⟨"com/example/pctenc/pctenc/EscapeWritePinLaw", "kept", "([CIIC)Z"⟩ : MethodName) (head1 (Jvm.Cond.code (⟨"com/example/pctenc/pctenc/EscapeWritePinLaw", "kept", "([CIIC)Z"⟩ : MethodName) method_3_code 4 (some .boolean) :: ws) ({ frames := 0, cells := 0, slots := 0, locals := 0 } : Room)) (fun aa_ U_ => aa_ = #[(.ref o), (.int (6 : Int32)), (.int (0 : Int32)), (.int sen)] ∧ Z.Warmed39 U_.vm ∧ U_.heap = h0) (fun _ _ _ _ _ => True) (fun _ U_ o_ V_ => ∃ v_ L_, o_ = .returned v_ ∧ QK06 Z o sen kc_o v0 v1 v2 v3 v4 v5 v7 h0 n0 v_ V_.heap L_ ∧ FrameEnd U_ o_ V_ L_ ({ frames := 0, cells := 0, slots := 0, locals := 0 } : Room).cells ({ frames := 0, cells := 0, slots := 0, locals := 0 } : Room).slots) := by
  refine MetFree.of_bodySF (plainFor_of_name pnK06) hisR ?_
  intro p e s m args below meth c s₁ Bd hml0 hP hK
  obtain ⟨rfl, hZ, hh⟩ := hP
  have hx := Bd.exec
  have hby := Bd.bytes
  have hml : c.maxLocals = 4 := hml0
  have hown : s.vm.findClass "com/example/pctenc/pctenc/EscapeWritePinLaw" = some m.cls := findClass_of_methodNamed Bd.named
  have hnm := (name_of_methodNamed Bd.named Bd.method).1
  have hlk : meth.locks = false := BodyLoose.notSynchronized Bd
  have hret : meth.sig.returnType = (some .boolean) := Bd.returns
  have X0 : Stand p l e ({ frames := 0, cells := 0, slots := 0, locals := 0 } : Room) s m #[(.ref o), (.int (6 : Int32)), (.int (0 : Int32)), (.int sen)] below meth c s₁ [] 0 0 := Stand.of_body Bd
  have e0 : s₁.heap = h0 := by rw [← hh, Bd.state]; rfl
  have N0 := Fr.nil n0
  show Go p e below s ({ frames := 0, cells := 0, slots := 0, locals := 0 } : Room).cells ({ frames := 0, cells := 0, slots := 0, locals := 0 } : Room).slots (QK06 Z o sen kc_o v0 v1 v2 v3 v4 v5 v7 h0 n0) (s₁.setTop (entryFrame m #[(.ref o), (.int (6 : Int32)), (.int (0 : Int32)), (.int sen)] 4))
  rw [efK06]
  refine Go.by (fun _ kont => XS.iloadN X0.here hx rfl (hb hby dK06_0) rfl (XS.iloadN X0.here hx rfl (hb hby dK06_1) rfl (XS.icmpNo X0.here hx rfl (hb hby dK06_2) rfl (by decide) (XS.iloadN X0.here hx rfl (hb hby dK06_5) rfl (XS.iloadN X0.here hx rfl (hb hby dK06_6) rfl (XS.iconst X0.here hx rfl (hb hby dK06_7) kont)))))) ?_
  show Go _ _ _ _ _ _ _ (s₁.setTop (mkF m 8 #[.val (.ref o), .val (.int (6 : Int32)), .val (.int (0 : Int32)), .val (.int sen)] [(.int (3 : Int32)), (.int (0 : Int32)), (.int (6 : Int32))]))
  refine Go.by (fun _ kont => XS.iadd X0.here hx rfl (hb hby dK06_8) rfl kont) ?_
  show Go _ _ _ _ _ _ _ (s₁.setTop (mkF m 9 #[.val (.ref o), .val (.int (6 : Int32)), .val (.int (0 : Int32)), .val (.int sen)] [(.int ((0 : Int32) + (3 : Int32))), (.int (6 : Int32))]))
  rw [show ((0 : Int32) + (3 : Int32)) = (3 : Int32) from by decide]
  show Go _ _ _ _ _ _ _ (s₁.setTop (mkF m 9 #[.val (.ref o), .val (.int (6 : Int32)), .val (.int (0 : Int32)), .val (.int sen)] [(.int (3 : Int32)), (.int (6 : Int32))]))
  refine Go.by (fun _ kont => XS.icmpYes X0.here hx rfl (pc0 := 9) (pc' := 14) rfl (hb hby dK06_9) rfl (by decide) (by decide) (by decide) (XS.aloadN X0.here hx rfl (hb hby dK06_14) rfl rfl (XS.iloadN X0.here hx rfl (hb hby dK06_15) rfl kont))) ?_
  show Go _ _ _ _ _ _ _ (s₁.setTop (mkF m 16 #[.val (.ref o), .val (.int (6 : Int32)), .val (.int (0 : Int32)), .val (.int sen)] [(.int (6 : Int32)), (.ref o)]))
  obtain ⟨cl_q101, Ar_q101, q1_q101, S_q101, N_q101, H_q101, G_q101⟩ := id V0_o
  have hin_q101 : ¬ ((6 : Int32) < 0 ∨ cl_q101.slots.size ≤ ((6 : Int32)).toNatClampNeg) := inb_of S_q101 ⟨by decide, by decide⟩
  have hat_q101 : cl_q101.slots[((6 : Int32)).toNatClampNeg]? = some (.int (nar .char sen)) := Has.at H_q101 hin_q101 rfl
  refine Go.by (X0.caload hx (j := (6 : Int32)) (v := (.int (nar .char sen))) (by first | exact Ar_q101.1 | (rw [e0]; exact Ar_q101.1)) (State.isArrayOf_alike hZ.alike Ar_q101.2.1) Ar_q101.2.2 hin_q101 hat_q101 (g := (mkF m 16 #[.val (.ref o), .val (.int (6 : Int32)), .val (.int (0 : Int32)), .val (.int sen)] [(.int (6 : Int32)), (.ref o)])) rfl rfl (hb hby dK06_16)) ?_
  show Go _ _ _ _ _ _ _ (s₁.setTop (mkF m 17 #[.val (.ref o), .val (.int (6 : Int32)), .val (.int (0 : Int32)), .val (.int sen)] [(.int (nar .char sen))]))
  refine Go.by (fun _ kont => XS.iloadN X0.here hx rfl (hb hby dK06_17) rfl kont) ?_
  show Go _ _ _ _ _ _ _ (s₁.setTop (mkF m 18 #[.val (.ref o), .val (.int (6 : Int32)), .val (.int (0 : Int32)), .val (.int sen)] [(.int sen), (.int (nar .char sen))]))
  refine Go.by (fun _ kont => XS.icmpNo X0.here hx rfl (hb hby dK06_18) rfl (teq hsen).2 kont) ?_
  show Go _ _ _ _ _ _ _ (s₁.setTop (mkF m 21 #[.val (.ref o), .val (.int (6 : Int32)), .val (.int (0 : Int32)), .val (.int sen)] []))
  refine Go.by (fun _ kont => XS.iconst X0.here hx rfl (hb hby dK06_21) (XS.goto X0.here hx rfl (pc0 := 22) (pc' := 26) rfl (hb hby dK06_22) (by decide) (by decide) kont)) ?_
  show Go _ _ _ _ _ _ _ (s₁.setTop (mkF m 26 #[.val (.ref o), .val (.int (6 : Int32)), .val (.int (0 : Int32)), .val (.int sen)] [(.int (1 : Int32))]))
  refine Go.retN X0 hx (t := .boolean) hret (by simp) hlk (hb hby dK06_26) ?_ (by decide) (by decide)
  show QK06 Z o sen kc_o v0 v1 v2 v3 v4 v5 v7 h0 n0 (some (.int (1 : Int32))) s₁.heap _
  rw [e0]
  exact ⟨rfl, N0, rfl⟩

theorem dK07_0 : decode method_3_code 0 = .ok (.iload_n 1, 1) := by decide +kernel
theorem dK07_1 : decode method_3_code 1 = .ok (.iload_n 2, 1) := by decide +kernel
theorem dK07_2 : decode method_3_code 2 = .ok (.if_icmp .lt 12, 3) := by decide +kernel
theorem dK07_5 : decode method_3_code 5 = .ok (.iload_n 1, 1) := by decide +kernel
theorem dK07_6 : decode method_3_code 6 = .ok (.iload_n 2, 1) := by decide +kernel
theorem dK07_7 : decode method_3_code 7 = .ok (.iconst 3, 1) := by decide +kernel
theorem dK07_8 : decode method_3_code 8 = .ok (.iadd, 1) := by decide +kernel
theorem dK07_9 : decode method_3_code 9 = .ok (.if_icmp .ge 5, 3) := by decide +kernel
theorem dK07_14 : decode method_3_code 14 = .ok (.aload_n 0, 1) := by decide +kernel
theorem dK07_15 : decode method_3_code 15 = .ok (.iload_n 1, 1) := by decide +kernel
theorem dK07_16 : decode method_3_code 16 = .ok (.caload, 1) := by decide +kernel
theorem dK07_17 : decode method_3_code 17 = .ok (.iload_n 3, 1) := by decide +kernel
theorem dK07_18 : decode method_3_code 18 = .ok (.if_icmp .ne 7, 3) := by decide +kernel
theorem dK07_21 : decode method_3_code 21 = .ok (.iconst 1, 1) := by decide +kernel
theorem dK07_22 : decode method_3_code 22 = .ok (.goto 4, 3) := by decide +kernel
theorem dK07_26 : decode method_3_code 26 = .ok (.ireturn, 1) := by decide +kernel
theorem pnK07 : plainName "com/example/pctenc/pctenc/EscapeWritePinLaw" = true := by first | (simp [plainName, overriddenIn]; done) | decide +kernel
theorem efK07 (m : MethodId) (o : Addr) (sen : Int32) : entryFrame m #[(.ref o), (.int (7 : Int32)), (.int (0 : Int32)), (.int sen)] 4 = mkF m 0 #[.val (.ref o), .val (.int (7 : Int32)), .val (.int (0 : Int32)), .val (.int sen)] [] := by first | (simp [entryFrame, mkF, argsToLocals, Value.category]; done) | rfl
def QK07 (Z : State) (o : Addr) (sen : Int32) (kc_o : ClassId) (v0 : Int32) (v1 : Int32) (v2 : Int32) (v3 : Int32) (v4 : Int32) (v5 : Int32) (v6 : Int32) (h0 : Heap) (n0 : Nat) (v : Option Value) (h : Heap) (L : List Loc) : Prop := (v = some (.int (1 : Int32)) ∧ Fr n0 L ∧ h = h0)
set_option maxRecDepth 65536 in
set_option maxHeartbeats 40000000 in
theorem rmK07 (l : Launch) (Z : State) (a0 : Array Value) (hw : ∀ d ∈ tables_1, d.before a0 Z = true) (ws : List Jvm.Cond) (o : Addr) (sen : Int32) (kc_o : ClassId) (v0 : Int32) (v1 : Int32) (v2 : Int32) (v3 : Int32) (v4 : Int32) (v5 : Int32) (v6 : Int32) (h0 : Heap) (n0 : Nat) (Z0 : n0 ≤ h0.size) (V0_o : Arv Z h0 o kc_o .char (8 : Int32) [(.int v0), (.int v1), (.int v2), (.int v3), (.int v4), (.int v5), (.int v6), (.int (nar .char sen))] (.int (0 : Int32))) (hsen : (nar .char sen) = sen) :
    MetFree l (⟨"com/example/pctenc/pctenc/EscapeWritePinLaw", "kept", "([CIIC)Z"⟩ : MethodName) (head1 (Jvm.Cond.code (⟨"com/example/pctenc/pctenc/EscapeWritePinLaw", "kept", "([CIIC)Z"⟩ : MethodName) method_3_code 4 (some .boolean) :: ws) ({ frames := 0, cells := 0, slots := 0, locals := 0 } : Room)) (fun aa_ U_ => aa_ = #[(.ref o), (.int (7 : Int32)), (.int (0 : Int32)), (.int sen)] ∧ Z.Warmed39 U_.vm ∧ U_.heap = h0) (fun _ _ _ _ _ => True) (fun _ U_ o_ V_ => ∃ v_ L_, o_ = .returned v_ ∧ QK07 Z o sen kc_o v0 v1 v2 v3 v4 v5 v6 h0 n0 v_ V_.heap L_ ∧ FrameEnd U_ o_ V_ L_ ({ frames := 0, cells := 0, slots := 0, locals := 0 } : Room).cells ({ frames := 0, cells := 0, slots := 0, locals := 0 } : Room).slots) := by
  refine MetFree.of_bodySF (plainFor_of_name pnK07) hisR ?_
  intro p e s m args below meth c s₁ Bd hml0 hP hK
  obtain ⟨rfl, hZ, hh⟩ := hP
  have hx := Bd.exec
  have hby := Bd.bytes
  have hml : c.maxLocals = 4 := hml0
  have hown : s.vm.findClass "com/example/pctenc/pctenc/EscapeWritePinLaw" = some m.cls := findClass_of_methodNamed Bd.named
  have hnm := (name_of_methodNamed Bd.named Bd.method).1
  have hlk : meth.locks = false := BodyLoose.notSynchronized Bd
  have hret : meth.sig.returnType = (some .boolean) := Bd.returns
  have X0 : Stand p l e ({ frames := 0, cells := 0, slots := 0, locals := 0 } : Room) s m #[(.ref o), (.int (7 : Int32)), (.int (0 : Int32)), (.int sen)] below meth c s₁ [] 0 0 := Stand.of_body Bd
  have e0 : s₁.heap = h0 := by rw [← hh, Bd.state]; rfl
  have N0 := Fr.nil n0
  show Go p e below s ({ frames := 0, cells := 0, slots := 0, locals := 0 } : Room).cells ({ frames := 0, cells := 0, slots := 0, locals := 0 } : Room).slots (QK07 Z o sen kc_o v0 v1 v2 v3 v4 v5 v6 h0 n0) (s₁.setTop (entryFrame m #[(.ref o), (.int (7 : Int32)), (.int (0 : Int32)), (.int sen)] 4))
  rw [efK07]
  refine Go.by (fun _ kont => XS.iloadN X0.here hx rfl (hb hby dK07_0) rfl (XS.iloadN X0.here hx rfl (hb hby dK07_1) rfl (XS.icmpNo X0.here hx rfl (hb hby dK07_2) rfl (by decide) (XS.iloadN X0.here hx rfl (hb hby dK07_5) rfl (XS.iloadN X0.here hx rfl (hb hby dK07_6) rfl (XS.iconst X0.here hx rfl (hb hby dK07_7) kont)))))) ?_
  show Go _ _ _ _ _ _ _ (s₁.setTop (mkF m 8 #[.val (.ref o), .val (.int (7 : Int32)), .val (.int (0 : Int32)), .val (.int sen)] [(.int (3 : Int32)), (.int (0 : Int32)), (.int (7 : Int32))]))
  refine Go.by (fun _ kont => XS.iadd X0.here hx rfl (hb hby dK07_8) rfl kont) ?_
  show Go _ _ _ _ _ _ _ (s₁.setTop (mkF m 9 #[.val (.ref o), .val (.int (7 : Int32)), .val (.int (0 : Int32)), .val (.int sen)] [(.int ((0 : Int32) + (3 : Int32))), (.int (7 : Int32))]))
  rw [show ((0 : Int32) + (3 : Int32)) = (3 : Int32) from by decide]
  show Go _ _ _ _ _ _ _ (s₁.setTop (mkF m 9 #[.val (.ref o), .val (.int (7 : Int32)), .val (.int (0 : Int32)), .val (.int sen)] [(.int (3 : Int32)), (.int (7 : Int32))]))
  refine Go.by (fun _ kont => XS.icmpYes X0.here hx rfl (pc0 := 9) (pc' := 14) rfl (hb hby dK07_9) rfl (by decide) (by decide) (by decide) (XS.aloadN X0.here hx rfl (hb hby dK07_14) rfl rfl (XS.iloadN X0.here hx rfl (hb hby dK07_15) rfl kont))) ?_
  show Go _ _ _ _ _ _ _ (s₁.setTop (mkF m 16 #[.val (.ref o), .val (.int (7 : Int32)), .val (.int (0 : Int32)), .val (.int sen)] [(.int (7 : Int32)), (.ref o)]))
  obtain ⟨cl_q101, Ar_q101, q1_q101, S_q101, N_q101, H_q101, G_q101⟩ := id V0_o
  have hin_q101 : ¬ ((7 : Int32) < 0 ∨ cl_q101.slots.size ≤ ((7 : Int32)).toNatClampNeg) := inb_of S_q101 ⟨by decide, by decide⟩
  have hat_q101 : cl_q101.slots[((7 : Int32)).toNatClampNeg]? = some (.int (nar .char sen)) := Has.at H_q101 hin_q101 rfl
  refine Go.by (X0.caload hx (j := (7 : Int32)) (v := (.int (nar .char sen))) (by first | exact Ar_q101.1 | (rw [e0]; exact Ar_q101.1)) (State.isArrayOf_alike hZ.alike Ar_q101.2.1) Ar_q101.2.2 hin_q101 hat_q101 (g := (mkF m 16 #[.val (.ref o), .val (.int (7 : Int32)), .val (.int (0 : Int32)), .val (.int sen)] [(.int (7 : Int32)), (.ref o)])) rfl rfl (hb hby dK07_16)) ?_
  show Go _ _ _ _ _ _ _ (s₁.setTop (mkF m 17 #[.val (.ref o), .val (.int (7 : Int32)), .val (.int (0 : Int32)), .val (.int sen)] [(.int (nar .char sen))]))
  refine Go.by (fun _ kont => XS.iloadN X0.here hx rfl (hb hby dK07_17) rfl kont) ?_
  show Go _ _ _ _ _ _ _ (s₁.setTop (mkF m 18 #[.val (.ref o), .val (.int (7 : Int32)), .val (.int (0 : Int32)), .val (.int sen)] [(.int sen), (.int (nar .char sen))]))
  refine Go.by (fun _ kont => XS.icmpNo X0.here hx rfl (hb hby dK07_18) rfl (teq hsen).2 kont) ?_
  show Go _ _ _ _ _ _ _ (s₁.setTop (mkF m 21 #[.val (.ref o), .val (.int (7 : Int32)), .val (.int (0 : Int32)), .val (.int sen)] []))
  refine Go.by (fun _ kont => XS.iconst X0.here hx rfl (hb hby dK07_21) (XS.goto X0.here hx rfl (pc0 := 22) (pc' := 26) rfl (hb hby dK07_22) (by decide) (by decide) kont)) ?_
  show Go _ _ _ _ _ _ _ (s₁.setTop (mkF m 26 #[.val (.ref o), .val (.int (7 : Int32)), .val (.int (0 : Int32)), .val (.int sen)] [(.int (1 : Int32))]))
  refine Go.retN X0 hx (t := .boolean) hret (by simp) hlk (hb hby dK07_26) ?_ (by decide) (by decide)
  show QK07 Z o sen kc_o v0 v1 v2 v3 v4 v5 v6 h0 n0 (some (.int (1 : Int32))) s₁.heap _
  rw [e0]
  exact ⟨rfl, N0, rfl⟩

theorem dK10_0 : decode method_3_code 0 = .ok (.iload_n 1, 1) := by decide +kernel
theorem dK10_1 : decode method_3_code 1 = .ok (.iload_n 2, 1) := by decide +kernel
theorem dK10_2 : decode method_3_code 2 = .ok (.if_icmp .lt 12, 3) := by decide +kernel
theorem dK10_14 : decode method_3_code 14 = .ok (.aload_n 0, 1) := by decide +kernel
theorem dK10_15 : decode method_3_code 15 = .ok (.iload_n 1, 1) := by decide +kernel
theorem dK10_16 : decode method_3_code 16 = .ok (.caload, 1) := by decide +kernel
theorem dK10_17 : decode method_3_code 17 = .ok (.iload_n 3, 1) := by decide +kernel
theorem dK10_18 : decode method_3_code 18 = .ok (.if_icmp .ne 7, 3) := by decide +kernel
theorem dK10_21 : decode method_3_code 21 = .ok (.iconst 1, 1) := by decide +kernel
theorem dK10_22 : decode method_3_code 22 = .ok (.goto 4, 3) := by decide +kernel
theorem dK10_26 : decode method_3_code 26 = .ok (.ireturn, 1) := by decide +kernel
theorem pnK10 : plainName "com/example/pctenc/pctenc/EscapeWritePinLaw" = true := by first | (simp [plainName, overriddenIn]; done) | decide +kernel
theorem efK10 (m : MethodId) (o : Addr) (sen : Int32) : entryFrame m #[(.ref o), (.int (0 : Int32)), (.int (1 : Int32)), (.int sen)] 4 = mkF m 0 #[.val (.ref o), .val (.int (0 : Int32)), .val (.int (1 : Int32)), .val (.int sen)] [] := by first | (simp [entryFrame, mkF, argsToLocals, Value.category]; done) | rfl
def QK10 (Z : State) (o : Addr) (sen : Int32) (kc_o : ClassId) (v1 : Int32) (v2 : Int32) (v3 : Int32) (v4 : Int32) (v5 : Int32) (v6 : Int32) (v7 : Int32) (h0 : Heap) (n0 : Nat) (v : Option Value) (h : Heap) (L : List Loc) : Prop := (v = some (.int (1 : Int32)) ∧ Fr n0 L ∧ h = h0)
set_option maxRecDepth 65536 in
set_option maxHeartbeats 40000000 in
theorem rmK10 (l : Launch) (Z : State) (a0 : Array Value) (hw : ∀ d ∈ tables_1, d.before a0 Z = true) (ws : List Jvm.Cond) (o : Addr) (sen : Int32) (kc_o : ClassId) (v1 : Int32) (v2 : Int32) (v3 : Int32) (v4 : Int32) (v5 : Int32) (v6 : Int32) (v7 : Int32) (h0 : Heap) (n0 : Nat) (Z0 : n0 ≤ h0.size) (V0_o : Arv Z h0 o kc_o .char (8 : Int32) [(.int (nar .char sen)), (.int v1), (.int v2), (.int v3), (.int v4), (.int v5), (.int v6), (.int v7)] (.int (0 : Int32))) (hsen : (nar .char sen) = sen) :
    MetFree l (⟨"com/example/pctenc/pctenc/EscapeWritePinLaw", "kept", "([CIIC)Z"⟩ : MethodName) (head1 (Jvm.Cond.code (⟨"com/example/pctenc/pctenc/EscapeWritePinLaw", "kept", "([CIIC)Z"⟩ : MethodName) method_3_code 4 (some .boolean) :: ws) ({ frames := 0, cells := 0, slots := 0, locals := 0 } : Room)) (fun aa_ U_ => aa_ = #[(.ref o), (.int (0 : Int32)), (.int (1 : Int32)), (.int sen)] ∧ Z.Warmed39 U_.vm ∧ U_.heap = h0) (fun _ _ _ _ _ => True) (fun _ U_ o_ V_ => ∃ v_ L_, o_ = .returned v_ ∧ QK10 Z o sen kc_o v1 v2 v3 v4 v5 v6 v7 h0 n0 v_ V_.heap L_ ∧ FrameEnd U_ o_ V_ L_ ({ frames := 0, cells := 0, slots := 0, locals := 0 } : Room).cells ({ frames := 0, cells := 0, slots := 0, locals := 0 } : Room).slots) := by
  refine MetFree.of_bodySF (plainFor_of_name pnK10) hisR ?_
  intro p e s m args below meth c s₁ Bd hml0 hP hK
  obtain ⟨rfl, hZ, hh⟩ := hP
  have hx := Bd.exec
  have hby := Bd.bytes
  have hml : c.maxLocals = 4 := hml0
  have hown : s.vm.findClass "com/example/pctenc/pctenc/EscapeWritePinLaw" = some m.cls := findClass_of_methodNamed Bd.named
  have hnm := (name_of_methodNamed Bd.named Bd.method).1
  have hlk : meth.locks = false := BodyLoose.notSynchronized Bd
  have hret : meth.sig.returnType = (some .boolean) := Bd.returns
  have X0 : Stand p l e ({ frames := 0, cells := 0, slots := 0, locals := 0 } : Room) s m #[(.ref o), (.int (0 : Int32)), (.int (1 : Int32)), (.int sen)] below meth c s₁ [] 0 0 := Stand.of_body Bd
  have e0 : s₁.heap = h0 := by rw [← hh, Bd.state]; rfl
  have N0 := Fr.nil n0
  show Go p e below s ({ frames := 0, cells := 0, slots := 0, locals := 0 } : Room).cells ({ frames := 0, cells := 0, slots := 0, locals := 0 } : Room).slots (QK10 Z o sen kc_o v1 v2 v3 v4 v5 v6 v7 h0 n0) (s₁.setTop (entryFrame m #[(.ref o), (.int (0 : Int32)), (.int (1 : Int32)), (.int sen)] 4))
  rw [efK10]
  refine Go.by (fun _ kont => XS.iloadN X0.here hx rfl (hb hby dK10_0) rfl (XS.iloadN X0.here hx rfl (hb hby dK10_1) rfl (XS.icmpYes X0.here hx rfl (pc0 := 2) (pc' := 14) rfl (hb hby dK10_2) rfl (by decide) (by decide) (by decide) (XS.aloadN X0.here hx rfl (hb hby dK10_14) rfl rfl (XS.iloadN X0.here hx rfl (hb hby dK10_15) rfl kont))))) ?_
  show Go _ _ _ _ _ _ _ (s₁.setTop (mkF m 16 #[.val (.ref o), .val (.int (0 : Int32)), .val (.int (1 : Int32)), .val (.int sen)] [(.int (0 : Int32)), (.ref o)]))
  obtain ⟨cl_q101, Ar_q101, q1_q101, S_q101, N_q101, H_q101, G_q101⟩ := id V0_o
  have hin_q101 : ¬ ((0 : Int32) < 0 ∨ cl_q101.slots.size ≤ ((0 : Int32)).toNatClampNeg) := inb_of S_q101 ⟨by decide, by decide⟩
  have hat_q101 : cl_q101.slots[((0 : Int32)).toNatClampNeg]? = some (.int (nar .char sen)) := Has.at H_q101 hin_q101 rfl
  refine Go.by (X0.caload hx (j := (0 : Int32)) (v := (.int (nar .char sen))) (by first | exact Ar_q101.1 | (rw [e0]; exact Ar_q101.1)) (State.isArrayOf_alike hZ.alike Ar_q101.2.1) Ar_q101.2.2 hin_q101 hat_q101 (g := (mkF m 16 #[.val (.ref o), .val (.int (0 : Int32)), .val (.int (1 : Int32)), .val (.int sen)] [(.int (0 : Int32)), (.ref o)])) rfl rfl (hb hby dK10_16)) ?_
  show Go _ _ _ _ _ _ _ (s₁.setTop (mkF m 17 #[.val (.ref o), .val (.int (0 : Int32)), .val (.int (1 : Int32)), .val (.int sen)] [(.int (nar .char sen))]))
  refine Go.by (fun _ kont => XS.iloadN X0.here hx rfl (hb hby dK10_17) rfl kont) ?_
  show Go _ _ _ _ _ _ _ (s₁.setTop (mkF m 18 #[.val (.ref o), .val (.int (0 : Int32)), .val (.int (1 : Int32)), .val (.int sen)] [(.int sen), (.int (nar .char sen))]))
  refine Go.by (fun _ kont => XS.icmpNo X0.here hx rfl (hb hby dK10_18) rfl (teq hsen).2 kont) ?_
  show Go _ _ _ _ _ _ _ (s₁.setTop (mkF m 21 #[.val (.ref o), .val (.int (0 : Int32)), .val (.int (1 : Int32)), .val (.int sen)] []))
  refine Go.by (fun _ kont => XS.iconst X0.here hx rfl (hb hby dK10_21) (XS.goto X0.here hx rfl (pc0 := 22) (pc' := 26) rfl (hb hby dK10_22) (by decide) (by decide) kont)) ?_
  show Go _ _ _ _ _ _ _ (s₁.setTop (mkF m 26 #[.val (.ref o), .val (.int (0 : Int32)), .val (.int (1 : Int32)), .val (.int sen)] [(.int (1 : Int32))]))
  refine Go.retN X0 hx (t := .boolean) hret (by simp) hlk (hb hby dK10_26) ?_ (by decide) (by decide)
  show QK10 Z o sen kc_o v1 v2 v3 v4 v5 v6 v7 h0 n0 (some (.int (1 : Int32))) s₁.heap _
  rw [e0]
  exact ⟨rfl, N0, rfl⟩

theorem dK11_0 : decode method_3_code 0 = .ok (.iload_n 1, 1) := by decide +kernel
theorem dK11_1 : decode method_3_code 1 = .ok (.iload_n 2, 1) := by decide +kernel
theorem dK11_2 : decode method_3_code 2 = .ok (.if_icmp .lt 12, 3) := by decide +kernel
theorem dK11_5 : decode method_3_code 5 = .ok (.iload_n 1, 1) := by decide +kernel
theorem dK11_6 : decode method_3_code 6 = .ok (.iload_n 2, 1) := by decide +kernel
theorem dK11_7 : decode method_3_code 7 = .ok (.iconst 3, 1) := by decide +kernel
theorem dK11_8 : decode method_3_code 8 = .ok (.iadd, 1) := by decide +kernel
theorem dK11_9 : decode method_3_code 9 = .ok (.if_icmp .ge 5, 3) := by decide +kernel
theorem dK11_12 : decode method_3_code 12 = .ok (.iconst 1, 1) := by decide +kernel
theorem dK11_13 : decode method_3_code 13 = .ok (.ireturn, 1) := by decide +kernel
theorem pnK11 : plainName "com/example/pctenc/pctenc/EscapeWritePinLaw" = true := by first | (simp [plainName, overriddenIn]; done) | decide +kernel
theorem efK11 (m : MethodId) (o : Addr) (sen : Int32) : entryFrame m #[(.ref o), (.int (1 : Int32)), (.int (1 : Int32)), (.int sen)] 4 = mkF m 0 #[.val (.ref o), .val (.int (1 : Int32)), .val (.int (1 : Int32)), .val (.int sen)] [] := by first | (simp [entryFrame, mkF, argsToLocals, Value.category]; done) | rfl
def QK11 (Z : State) (o : Addr) (sen : Int32) (h0 : Heap) (n0 : Nat) (v : Option Value) (h : Heap) (L : List Loc) : Prop := (v = some (.int (1 : Int32)) ∧ Fr n0 L ∧ h = h0)
set_option maxRecDepth 65536 in
set_option maxHeartbeats 40000000 in
theorem rmK11 (l : Launch) (Z : State) (a0 : Array Value) (hw : ∀ d ∈ tables_1, d.before a0 Z = true) (ws : List Jvm.Cond) (o : Addr) (sen : Int32) (h0 : Heap) (n0 : Nat) (Z0 : n0 ≤ h0.size) :
    MetFree l (⟨"com/example/pctenc/pctenc/EscapeWritePinLaw", "kept", "([CIIC)Z"⟩ : MethodName) (head1 (Jvm.Cond.code (⟨"com/example/pctenc/pctenc/EscapeWritePinLaw", "kept", "([CIIC)Z"⟩ : MethodName) method_3_code 4 (some .boolean) :: ws) ({ frames := 0, cells := 0, slots := 0, locals := 0 } : Room)) (fun aa_ U_ => aa_ = #[(.ref o), (.int (1 : Int32)), (.int (1 : Int32)), (.int sen)] ∧ Z.Warmed39 U_.vm ∧ U_.heap = h0) (fun _ _ _ _ _ => True) (fun _ U_ o_ V_ => ∃ v_ L_, o_ = .returned v_ ∧ QK11 Z o sen h0 n0 v_ V_.heap L_ ∧ FrameEnd U_ o_ V_ L_ ({ frames := 0, cells := 0, slots := 0, locals := 0 } : Room).cells ({ frames := 0, cells := 0, slots := 0, locals := 0 } : Room).slots) := by
  refine MetFree.of_bodySF (plainFor_of_name pnK11) hisR ?_
  intro p e s m args below meth c s₁ Bd hml0 hP hK
  obtain ⟨rfl, hZ, hh⟩ := hP
  have hx := Bd.exec
  have hby := Bd.bytes
  have hml : c.maxLocals = 4 := hml0
  have hown : s.vm.findClass "com/example/pctenc/pctenc/EscapeWritePinLaw" = some m.cls := findClass_of_methodNamed Bd.named
  have hnm := (name_of_methodNamed Bd.named Bd.method).1
  have hlk : meth.locks = false := BodyLoose.notSynchronized Bd
  have hret : meth.sig.returnType = (some .boolean) := Bd.returns
  have X0 : Stand p l e ({ frames := 0, cells := 0, slots := 0, locals := 0 } : Room) s m #[(.ref o), (.int (1 : Int32)), (.int (1 : Int32)), (.int sen)] below meth c s₁ [] 0 0 := Stand.of_body Bd
  have e0 : s₁.heap = h0 := by rw [← hh, Bd.state]; rfl
  have N0 := Fr.nil n0
  show Go p e below s ({ frames := 0, cells := 0, slots := 0, locals := 0 } : Room).cells ({ frames := 0, cells := 0, slots := 0, locals := 0 } : Room).slots (QK11 Z o sen h0 n0) (s₁.setTop (entryFrame m #[(.ref o), (.int (1 : Int32)), (.int (1 : Int32)), (.int sen)] 4))
  rw [efK11]
  refine Go.by (fun _ kont => XS.iloadN X0.here hx rfl (hb hby dK11_0) rfl (XS.iloadN X0.here hx rfl (hb hby dK11_1) rfl (XS.icmpNo X0.here hx rfl (hb hby dK11_2) rfl (by decide) (XS.iloadN X0.here hx rfl (hb hby dK11_5) rfl (XS.iloadN X0.here hx rfl (hb hby dK11_6) rfl (XS.iconst X0.here hx rfl (hb hby dK11_7) kont)))))) ?_
  show Go _ _ _ _ _ _ _ (s₁.setTop (mkF m 8 #[.val (.ref o), .val (.int (1 : Int32)), .val (.int (1 : Int32)), .val (.int sen)] [(.int (3 : Int32)), (.int (1 : Int32)), (.int (1 : Int32))]))
  refine Go.by (fun _ kont => XS.iadd X0.here hx rfl (hb hby dK11_8) rfl kont) ?_
  show Go _ _ _ _ _ _ _ (s₁.setTop (mkF m 9 #[.val (.ref o), .val (.int (1 : Int32)), .val (.int (1 : Int32)), .val (.int sen)] [(.int ((1 : Int32) + (3 : Int32))), (.int (1 : Int32))]))
  rw [show ((1 : Int32) + (3 : Int32)) = (4 : Int32) from by decide]
  show Go _ _ _ _ _ _ _ (s₁.setTop (mkF m 9 #[.val (.ref o), .val (.int (1 : Int32)), .val (.int (1 : Int32)), .val (.int sen)] [(.int (4 : Int32)), (.int (1 : Int32))]))
  refine Go.by (fun _ kont => XS.icmpNo X0.here hx rfl (hb hby dK11_9) rfl (by decide) (XS.iconst X0.here hx rfl (hb hby dK11_12) kont)) ?_
  show Go _ _ _ _ _ _ _ (s₁.setTop (mkF m 13 #[.val (.ref o), .val (.int (1 : Int32)), .val (.int (1 : Int32)), .val (.int sen)] [(.int (1 : Int32))]))
  refine Go.retN X0 hx (t := .boolean) hret (by simp) hlk (hb hby dK11_13) ?_ (by decide) (by decide)
  show QK11 Z o sen h0 n0 (some (.int (1 : Int32))) s₁.heap _
  rw [e0]
  exact ⟨rfl, N0, rfl⟩

theorem dK12_0 : decode method_3_code 0 = .ok (.iload_n 1, 1) := by decide +kernel
theorem dK12_1 : decode method_3_code 1 = .ok (.iload_n 2, 1) := by decide +kernel
theorem dK12_2 : decode method_3_code 2 = .ok (.if_icmp .lt 12, 3) := by decide +kernel
theorem dK12_5 : decode method_3_code 5 = .ok (.iload_n 1, 1) := by decide +kernel
theorem dK12_6 : decode method_3_code 6 = .ok (.iload_n 2, 1) := by decide +kernel
theorem dK12_7 : decode method_3_code 7 = .ok (.iconst 3, 1) := by decide +kernel
theorem dK12_8 : decode method_3_code 8 = .ok (.iadd, 1) := by decide +kernel
theorem dK12_9 : decode method_3_code 9 = .ok (.if_icmp .ge 5, 3) := by decide +kernel
theorem dK12_12 : decode method_3_code 12 = .ok (.iconst 1, 1) := by decide +kernel
theorem dK12_13 : decode method_3_code 13 = .ok (.ireturn, 1) := by decide +kernel
theorem pnK12 : plainName "com/example/pctenc/pctenc/EscapeWritePinLaw" = true := by first | (simp [plainName, overriddenIn]; done) | decide +kernel
theorem efK12 (m : MethodId) (o : Addr) (sen : Int32) : entryFrame m #[(.ref o), (.int (2 : Int32)), (.int (1 : Int32)), (.int sen)] 4 = mkF m 0 #[.val (.ref o), .val (.int (2 : Int32)), .val (.int (1 : Int32)), .val (.int sen)] [] := by first | (simp [entryFrame, mkF, argsToLocals, Value.category]; done) | rfl
def QK12 (Z : State) (o : Addr) (sen : Int32) (h0 : Heap) (n0 : Nat) (v : Option Value) (h : Heap) (L : List Loc) : Prop := (v = some (.int (1 : Int32)) ∧ Fr n0 L ∧ h = h0)
set_option maxRecDepth 65536 in
set_option maxHeartbeats 40000000 in
theorem rmK12 (l : Launch) (Z : State) (a0 : Array Value) (hw : ∀ d ∈ tables_1, d.before a0 Z = true) (ws : List Jvm.Cond) (o : Addr) (sen : Int32) (h0 : Heap) (n0 : Nat) (Z0 : n0 ≤ h0.size) :
    MetFree l (⟨"com/example/pctenc/pctenc/EscapeWritePinLaw", "kept", "([CIIC)Z"⟩ : MethodName) (head1 (Jvm.Cond.code (⟨"com/example/pctenc/pctenc/EscapeWritePinLaw", "kept", "([CIIC)Z"⟩ : MethodName) method_3_code 4 (some .boolean) :: ws) ({ frames := 0, cells := 0, slots := 0, locals := 0 } : Room)) (fun aa_ U_ => aa_ = #[(.ref o), (.int (2 : Int32)), (.int (1 : Int32)), (.int sen)] ∧ Z.Warmed39 U_.vm ∧ U_.heap = h0) (fun _ _ _ _ _ => True) (fun _ U_ o_ V_ => ∃ v_ L_, o_ = .returned v_ ∧ QK12 Z o sen h0 n0 v_ V_.heap L_ ∧ FrameEnd U_ o_ V_ L_ ({ frames := 0, cells := 0, slots := 0, locals := 0 } : Room).cells ({ frames := 0, cells := 0, slots := 0, locals := 0 } : Room).slots) := by
  refine MetFree.of_bodySF (plainFor_of_name pnK12) hisR ?_
  intro p e s m args below meth c s₁ Bd hml0 hP hK
  obtain ⟨rfl, hZ, hh⟩ := hP
  have hx := Bd.exec
  have hby := Bd.bytes
  have hml : c.maxLocals = 4 := hml0
  have hown : s.vm.findClass "com/example/pctenc/pctenc/EscapeWritePinLaw" = some m.cls := findClass_of_methodNamed Bd.named
  have hnm := (name_of_methodNamed Bd.named Bd.method).1
  have hlk : meth.locks = false := BodyLoose.notSynchronized Bd
  have hret : meth.sig.returnType = (some .boolean) := Bd.returns
  have X0 : Stand p l e ({ frames := 0, cells := 0, slots := 0, locals := 0 } : Room) s m #[(.ref o), (.int (2 : Int32)), (.int (1 : Int32)), (.int sen)] below meth c s₁ [] 0 0 := Stand.of_body Bd
  have e0 : s₁.heap = h0 := by rw [← hh, Bd.state]; rfl
  have N0 := Fr.nil n0
  show Go p e below s ({ frames := 0, cells := 0, slots := 0, locals := 0 } : Room).cells ({ frames := 0, cells := 0, slots := 0, locals := 0 } : Room).slots (QK12 Z o sen h0 n0) (s₁.setTop (entryFrame m #[(.ref o), (.int (2 : Int32)), (.int (1 : Int32)), (.int sen)] 4))
  rw [efK12]
  refine Go.by (fun _ kont => XS.iloadN X0.here hx rfl (hb hby dK12_0) rfl (XS.iloadN X0.here hx rfl (hb hby dK12_1) rfl (XS.icmpNo X0.here hx rfl (hb hby dK12_2) rfl (by decide) (XS.iloadN X0.here hx rfl (hb hby dK12_5) rfl (XS.iloadN X0.here hx rfl (hb hby dK12_6) rfl (XS.iconst X0.here hx rfl (hb hby dK12_7) kont)))))) ?_
  show Go _ _ _ _ _ _ _ (s₁.setTop (mkF m 8 #[.val (.ref o), .val (.int (2 : Int32)), .val (.int (1 : Int32)), .val (.int sen)] [(.int (3 : Int32)), (.int (1 : Int32)), (.int (2 : Int32))]))
  refine Go.by (fun _ kont => XS.iadd X0.here hx rfl (hb hby dK12_8) rfl kont) ?_
  show Go _ _ _ _ _ _ _ (s₁.setTop (mkF m 9 #[.val (.ref o), .val (.int (2 : Int32)), .val (.int (1 : Int32)), .val (.int sen)] [(.int ((1 : Int32) + (3 : Int32))), (.int (2 : Int32))]))
  rw [show ((1 : Int32) + (3 : Int32)) = (4 : Int32) from by decide]
  show Go _ _ _ _ _ _ _ (s₁.setTop (mkF m 9 #[.val (.ref o), .val (.int (2 : Int32)), .val (.int (1 : Int32)), .val (.int sen)] [(.int (4 : Int32)), (.int (2 : Int32))]))
  refine Go.by (fun _ kont => XS.icmpNo X0.here hx rfl (hb hby dK12_9) rfl (by decide) (XS.iconst X0.here hx rfl (hb hby dK12_12) kont)) ?_
  show Go _ _ _ _ _ _ _ (s₁.setTop (mkF m 13 #[.val (.ref o), .val (.int (2 : Int32)), .val (.int (1 : Int32)), .val (.int sen)] [(.int (1 : Int32))]))
  refine Go.retN X0 hx (t := .boolean) hret (by simp) hlk (hb hby dK12_13) ?_ (by decide) (by decide)
  show QK12 Z o sen h0 n0 (some (.int (1 : Int32))) s₁.heap _
  rw [e0]
  exact ⟨rfl, N0, rfl⟩

theorem dK13_0 : decode method_3_code 0 = .ok (.iload_n 1, 1) := by decide +kernel
theorem dK13_1 : decode method_3_code 1 = .ok (.iload_n 2, 1) := by decide +kernel
theorem dK13_2 : decode method_3_code 2 = .ok (.if_icmp .lt 12, 3) := by decide +kernel
theorem dK13_5 : decode method_3_code 5 = .ok (.iload_n 1, 1) := by decide +kernel
theorem dK13_6 : decode method_3_code 6 = .ok (.iload_n 2, 1) := by decide +kernel
theorem dK13_7 : decode method_3_code 7 = .ok (.iconst 3, 1) := by decide +kernel
theorem dK13_8 : decode method_3_code 8 = .ok (.iadd, 1) := by decide +kernel
theorem dK13_9 : decode method_3_code 9 = .ok (.if_icmp .ge 5, 3) := by decide +kernel
theorem dK13_12 : decode method_3_code 12 = .ok (.iconst 1, 1) := by decide +kernel
theorem dK13_13 : decode method_3_code 13 = .ok (.ireturn, 1) := by decide +kernel
theorem pnK13 : plainName "com/example/pctenc/pctenc/EscapeWritePinLaw" = true := by first | (simp [plainName, overriddenIn]; done) | decide +kernel
theorem efK13 (m : MethodId) (o : Addr) (sen : Int32) : entryFrame m #[(.ref o), (.int (3 : Int32)), (.int (1 : Int32)), (.int sen)] 4 = mkF m 0 #[.val (.ref o), .val (.int (3 : Int32)), .val (.int (1 : Int32)), .val (.int sen)] [] := by first | (simp [entryFrame, mkF, argsToLocals, Value.category]; done) | rfl
def QK13 (Z : State) (o : Addr) (sen : Int32) (h0 : Heap) (n0 : Nat) (v : Option Value) (h : Heap) (L : List Loc) : Prop := (v = some (.int (1 : Int32)) ∧ Fr n0 L ∧ h = h0)
set_option maxRecDepth 65536 in
set_option maxHeartbeats 40000000 in
theorem rmK13 (l : Launch) (Z : State) (a0 : Array Value) (hw : ∀ d ∈ tables_1, d.before a0 Z = true) (ws : List Jvm.Cond) (o : Addr) (sen : Int32) (h0 : Heap) (n0 : Nat) (Z0 : n0 ≤ h0.size) :
    MetFree l (⟨"com/example/pctenc/pctenc/EscapeWritePinLaw", "kept", "([CIIC)Z"⟩ : MethodName) (head1 (Jvm.Cond.code (⟨"com/example/pctenc/pctenc/EscapeWritePinLaw", "kept", "([CIIC)Z"⟩ : MethodName) method_3_code 4 (some .boolean) :: ws) ({ frames := 0, cells := 0, slots := 0, locals := 0 } : Room)) (fun aa_ U_ => aa_ = #[(.ref o), (.int (3 : Int32)), (.int (1 : Int32)), (.int sen)] ∧ Z.Warmed39 U_.vm ∧ U_.heap = h0) (fun _ _ _ _ _ => True) (fun _ U_ o_ V_ => ∃ v_ L_, o_ = .returned v_ ∧ QK13 Z o sen h0 n0 v_ V_.heap L_ ∧ FrameEnd U_ o_ V_ L_ ({ frames := 0, cells := 0, slots := 0, locals := 0 } : Room).cells ({ frames := 0, cells := 0, slots := 0, locals := 0 } : Room).slots) := by
  refine MetFree.of_bodySF (plainFor_of_name pnK13) hisR ?_
  intro p e s m args below meth c s₁ Bd hml0 hP hK
  obtain ⟨rfl, hZ, hh⟩ := hP
  have hx := Bd.exec
  have hby := Bd.bytes
  have hml : c.maxLocals = 4 := hml0
  have hown : s.vm.findClass "com/example/pctenc/pctenc/EscapeWritePinLaw" = some m.cls := findClass_of_methodNamed Bd.named
  have hnm := (name_of_methodNamed Bd.named Bd.method).1
  have hlk : meth.locks = false := BodyLoose.notSynchronized Bd
  have hret : meth.sig.returnType = (some .boolean) := Bd.returns
  have X0 : Stand p l e ({ frames := 0, cells := 0, slots := 0, locals := 0 } : Room) s m #[(.ref o), (.int (3 : Int32)), (.int (1 : Int32)), (.int sen)] below meth c s₁ [] 0 0 := Stand.of_body Bd
  have e0 : s₁.heap = h0 := by rw [← hh, Bd.state]; rfl
  have N0 := Fr.nil n0
  show Go p e below s ({ frames := 0, cells := 0, slots := 0, locals := 0 } : Room).cells ({ frames := 0, cells := 0, slots := 0, locals := 0 } : Room).slots (QK13 Z o sen h0 n0) (s₁.setTop (entryFrame m #[(.ref o), (.int (3 : Int32)), (.int (1 : Int32)), (.int sen)] 4))
  rw [efK13]
  refine Go.by (fun _ kont => XS.iloadN X0.here hx rfl (hb hby dK13_0) rfl (XS.iloadN X0.here hx rfl (hb hby dK13_1) rfl (XS.icmpNo X0.here hx rfl (hb hby dK13_2) rfl (by decide) (XS.iloadN X0.here hx rfl (hb hby dK13_5) rfl (XS.iloadN X0.here hx rfl (hb hby dK13_6) rfl (XS.iconst X0.here hx rfl (hb hby dK13_7) kont)))))) ?_
  show Go _ _ _ _ _ _ _ (s₁.setTop (mkF m 8 #[.val (.ref o), .val (.int (3 : Int32)), .val (.int (1 : Int32)), .val (.int sen)] [(.int (3 : Int32)), (.int (1 : Int32)), (.int (3 : Int32))]))
  refine Go.by (fun _ kont => XS.iadd X0.here hx rfl (hb hby dK13_8) rfl kont) ?_
  show Go _ _ _ _ _ _ _ (s₁.setTop (mkF m 9 #[.val (.ref o), .val (.int (3 : Int32)), .val (.int (1 : Int32)), .val (.int sen)] [(.int ((1 : Int32) + (3 : Int32))), (.int (3 : Int32))]))
  rw [show ((1 : Int32) + (3 : Int32)) = (4 : Int32) from by decide]
  show Go _ _ _ _ _ _ _ (s₁.setTop (mkF m 9 #[.val (.ref o), .val (.int (3 : Int32)), .val (.int (1 : Int32)), .val (.int sen)] [(.int (4 : Int32)), (.int (3 : Int32))]))
  refine Go.by (fun _ kont => XS.icmpNo X0.here hx rfl (hb hby dK13_9) rfl (by decide) (XS.iconst X0.here hx rfl (hb hby dK13_12) kont)) ?_
  show Go _ _ _ _ _ _ _ (s₁.setTop (mkF m 13 #[.val (.ref o), .val (.int (3 : Int32)), .val (.int (1 : Int32)), .val (.int sen)] [(.int (1 : Int32))]))
  refine Go.retN X0 hx (t := .boolean) hret (by simp) hlk (hb hby dK13_13) ?_ (by decide) (by decide)
  show QK13 Z o sen h0 n0 (some (.int (1 : Int32))) s₁.heap _
  rw [e0]
  exact ⟨rfl, N0, rfl⟩

theorem dK14_0 : decode method_3_code 0 = .ok (.iload_n 1, 1) := by decide +kernel
theorem dK14_1 : decode method_3_code 1 = .ok (.iload_n 2, 1) := by decide +kernel
theorem dK14_2 : decode method_3_code 2 = .ok (.if_icmp .lt 12, 3) := by decide +kernel
theorem dK14_5 : decode method_3_code 5 = .ok (.iload_n 1, 1) := by decide +kernel
theorem dK14_6 : decode method_3_code 6 = .ok (.iload_n 2, 1) := by decide +kernel
theorem dK14_7 : decode method_3_code 7 = .ok (.iconst 3, 1) := by decide +kernel
theorem dK14_8 : decode method_3_code 8 = .ok (.iadd, 1) := by decide +kernel
theorem dK14_9 : decode method_3_code 9 = .ok (.if_icmp .ge 5, 3) := by decide +kernel
theorem dK14_14 : decode method_3_code 14 = .ok (.aload_n 0, 1) := by decide +kernel
theorem dK14_15 : decode method_3_code 15 = .ok (.iload_n 1, 1) := by decide +kernel
theorem dK14_16 : decode method_3_code 16 = .ok (.caload, 1) := by decide +kernel
theorem dK14_17 : decode method_3_code 17 = .ok (.iload_n 3, 1) := by decide +kernel
theorem dK14_18 : decode method_3_code 18 = .ok (.if_icmp .ne 7, 3) := by decide +kernel
theorem dK14_21 : decode method_3_code 21 = .ok (.iconst 1, 1) := by decide +kernel
theorem dK14_22 : decode method_3_code 22 = .ok (.goto 4, 3) := by decide +kernel
theorem dK14_26 : decode method_3_code 26 = .ok (.ireturn, 1) := by decide +kernel
theorem pnK14 : plainName "com/example/pctenc/pctenc/EscapeWritePinLaw" = true := by first | (simp [plainName, overriddenIn]; done) | decide +kernel
theorem efK14 (m : MethodId) (o : Addr) (sen : Int32) : entryFrame m #[(.ref o), (.int (4 : Int32)), (.int (1 : Int32)), (.int sen)] 4 = mkF m 0 #[.val (.ref o), .val (.int (4 : Int32)), .val (.int (1 : Int32)), .val (.int sen)] [] := by first | (simp [entryFrame, mkF, argsToLocals, Value.category]; done) | rfl
def QK14 (Z : State) (o : Addr) (sen : Int32) (kc_o : ClassId) (v0 : Int32) (v1 : Int32) (v2 : Int32) (v3 : Int32) (v5 : Int32) (v6 : Int32) (v7 : Int32) (h0 : Heap) (n0 : Nat) (v : Option Value) (h : Heap) (L : List Loc) : Prop := (v = some (.int (1 : Int32)) ∧ Fr n0 L ∧ h = h0)
set_option maxRecDepth 65536 in
set_option maxHeartbeats 40000000 in
theorem rmK14 (l : Launch) (Z : State) (a0 : Array Value) (hw : ∀ d ∈ tables_1, d.before a0 Z = true) (ws : List Jvm.Cond) (o : Addr) (sen : Int32) (kc_o : ClassId) (v0 : Int32) (v1 : Int32) (v2 : Int32) (v3 : Int32) (v5 : Int32) (v6 : Int32) (v7 : Int32) (h0 : Heap) (n0 : Nat) (Z0 : n0 ≤ h0.size) (V0_o : Arv Z h0 o kc_o .char (8 : Int32) [(.int v0), (.int v1), (.int v2), (.int v3), (.int (nar .char sen)), (.int v5), (.int v6), (.int v7)] (.int (0 : Int32))) (hsen : (nar .char sen) = sen) :
    MetFree l (⟨"com/example/pctenc/pctenc/EscapeWritePinLaw", "kept", "([CIIC)Z"⟩ : MethodName) (head1 (Jvm.Cond.code (⟨"com/example/pctenc/pctenc/EscapeWritePinLaw", "kept", "([CIIC)Z"⟩ : MethodName) method_3_code 4 (some .boolean) :: ws) ({ frames := 0, cells := 0, slots := 0, locals := 0 } : Room)) (fun aa_ U_ => aa_ = #[(.ref o), (.int (4 : Int32)), (.int (1 : Int32)), (.int sen)] ∧ Z.Warmed39 U_.vm ∧ U_.heap = h0) (fun _ _ _ _ _ => True) (fun _ U_ o_ V_ => ∃ v_ L_, o_ = .returned v_ ∧ QK14 Z o sen kc_o v0 v1 v2 v3 v5 v6 v7 h0 n0 v_ V_.heap L_ ∧ FrameEnd U_ o_ V_ L_ ({ frames := 0, cells := 0, slots := 0, locals := 0 } : Room).cells ({ frames := 0, cells := 0, slots := 0, locals := 0 } : Room).slots) := by
  refine MetFree.of_bodySF (plainFor_of_name pnK14) hisR ?_
  intro p e s m args below meth c s₁ Bd hml0 hP hK
  obtain ⟨rfl, hZ, hh⟩ := hP
  have hx := Bd.exec
  have hby := Bd.bytes
  have hml : c.maxLocals = 4 := hml0
  have hown : s.vm.findClass "com/example/pctenc/pctenc/EscapeWritePinLaw" = some m.cls := findClass_of_methodNamed Bd.named
  have hnm := (name_of_methodNamed Bd.named Bd.method).1
  have hlk : meth.locks = false := BodyLoose.notSynchronized Bd
  have hret : meth.sig.returnType = (some .boolean) := Bd.returns
  have X0 : Stand p l e ({ frames := 0, cells := 0, slots := 0, locals := 0 } : Room) s m #[(.ref o), (.int (4 : Int32)), (.int (1 : Int32)), (.int sen)] below meth c s₁ [] 0 0 := Stand.of_body Bd
  have e0 : s₁.heap = h0 := by rw [← hh, Bd.state]; rfl
  have N0 := Fr.nil n0
  show Go p e below s ({ frames := 0, cells := 0, slots := 0, locals := 0 } : Room).cells ({ frames := 0, cells := 0, slots := 0, locals := 0 } : Room).slots (QK14 Z o sen kc_o v0 v1 v2 v3 v5 v6 v7 h0 n0) (s₁.setTop (entryFrame m #[(.ref o), (.int (4 : Int32)), (.int (1 : Int32)), (.int sen)] 4))
  rw [efK14]
  refine Go.by (fun _ kont => XS.iloadN X0.here hx rfl (hb hby dK14_0) rfl (XS.iloadN X0.here hx rfl (hb hby dK14_1) rfl (XS.icmpNo X0.here hx rfl (hb hby dK14_2) rfl (by decide) (XS.iloadN X0.here hx rfl (hb hby dK14_5) rfl (XS.iloadN X0.here hx rfl (hb hby dK14_6) rfl (XS.iconst X0.here hx rfl (hb hby dK14_7) kont)))))) ?_
  show Go _ _ _ _ _ _ _ (s₁.setTop (mkF m 8 #[.val (.ref o), .val (.int (4 : Int32)), .val (.int (1 : Int32)), .val (.int sen)] [(.int (3 : Int32)), (.int (1 : Int32)), (.int (4 : Int32))]))
  refine Go.by (fun _ kont => XS.iadd X0.here hx rfl (hb hby dK14_8) rfl kont) ?_
  show Go _ _ _ _ _ _ _ (s₁.setTop (mkF m 9 #[.val (.ref o), .val (.int (4 : Int32)), .val (.int (1 : Int32)), .val (.int sen)] [(.int ((1 : Int32) + (3 : Int32))), (.int (4 : Int32))]))
  rw [show ((1 : Int32) + (3 : Int32)) = (4 : Int32) from by decide]
  show Go _ _ _ _ _ _ _ (s₁.setTop (mkF m 9 #[.val (.ref o), .val (.int (4 : Int32)), .val (.int (1 : Int32)), .val (.int sen)] [(.int (4 : Int32)), (.int (4 : Int32))]))
  refine Go.by (fun _ kont => XS.icmpYes X0.here hx rfl (pc0 := 9) (pc' := 14) rfl (hb hby dK14_9) rfl (by decide) (by decide) (by decide) (XS.aloadN X0.here hx rfl (hb hby dK14_14) rfl rfl (XS.iloadN X0.here hx rfl (hb hby dK14_15) rfl kont))) ?_
  show Go _ _ _ _ _ _ _ (s₁.setTop (mkF m 16 #[.val (.ref o), .val (.int (4 : Int32)), .val (.int (1 : Int32)), .val (.int sen)] [(.int (4 : Int32)), (.ref o)]))
  obtain ⟨cl_q101, Ar_q101, q1_q101, S_q101, N_q101, H_q101, G_q101⟩ := id V0_o
  have hin_q101 : ¬ ((4 : Int32) < 0 ∨ cl_q101.slots.size ≤ ((4 : Int32)).toNatClampNeg) := inb_of S_q101 ⟨by decide, by decide⟩
  have hat_q101 : cl_q101.slots[((4 : Int32)).toNatClampNeg]? = some (.int (nar .char sen)) := Has.at H_q101 hin_q101 rfl
  refine Go.by (X0.caload hx (j := (4 : Int32)) (v := (.int (nar .char sen))) (by first | exact Ar_q101.1 | (rw [e0]; exact Ar_q101.1)) (State.isArrayOf_alike hZ.alike Ar_q101.2.1) Ar_q101.2.2 hin_q101 hat_q101 (g := (mkF m 16 #[.val (.ref o), .val (.int (4 : Int32)), .val (.int (1 : Int32)), .val (.int sen)] [(.int (4 : Int32)), (.ref o)])) rfl rfl (hb hby dK14_16)) ?_
  show Go _ _ _ _ _ _ _ (s₁.setTop (mkF m 17 #[.val (.ref o), .val (.int (4 : Int32)), .val (.int (1 : Int32)), .val (.int sen)] [(.int (nar .char sen))]))
  refine Go.by (fun _ kont => XS.iloadN X0.here hx rfl (hb hby dK14_17) rfl kont) ?_
  show Go _ _ _ _ _ _ _ (s₁.setTop (mkF m 18 #[.val (.ref o), .val (.int (4 : Int32)), .val (.int (1 : Int32)), .val (.int sen)] [(.int sen), (.int (nar .char sen))]))
  refine Go.by (fun _ kont => XS.icmpNo X0.here hx rfl (hb hby dK14_18) rfl (teq hsen).2 kont) ?_
  show Go _ _ _ _ _ _ _ (s₁.setTop (mkF m 21 #[.val (.ref o), .val (.int (4 : Int32)), .val (.int (1 : Int32)), .val (.int sen)] []))
  refine Go.by (fun _ kont => XS.iconst X0.here hx rfl (hb hby dK14_21) (XS.goto X0.here hx rfl (pc0 := 22) (pc' := 26) rfl (hb hby dK14_22) (by decide) (by decide) kont)) ?_
  show Go _ _ _ _ _ _ _ (s₁.setTop (mkF m 26 #[.val (.ref o), .val (.int (4 : Int32)), .val (.int (1 : Int32)), .val (.int sen)] [(.int (1 : Int32))]))
  refine Go.retN X0 hx (t := .boolean) hret (by simp) hlk (hb hby dK14_26) ?_ (by decide) (by decide)
  show QK14 Z o sen kc_o v0 v1 v2 v3 v5 v6 v7 h0 n0 (some (.int (1 : Int32))) s₁.heap _
  rw [e0]
  exact ⟨rfl, N0, rfl⟩

theorem dK15_0 : decode method_3_code 0 = .ok (.iload_n 1, 1) := by decide +kernel
theorem dK15_1 : decode method_3_code 1 = .ok (.iload_n 2, 1) := by decide +kernel
theorem dK15_2 : decode method_3_code 2 = .ok (.if_icmp .lt 12, 3) := by decide +kernel
theorem dK15_5 : decode method_3_code 5 = .ok (.iload_n 1, 1) := by decide +kernel
theorem dK15_6 : decode method_3_code 6 = .ok (.iload_n 2, 1) := by decide +kernel
theorem dK15_7 : decode method_3_code 7 = .ok (.iconst 3, 1) := by decide +kernel
theorem dK15_8 : decode method_3_code 8 = .ok (.iadd, 1) := by decide +kernel
theorem dK15_9 : decode method_3_code 9 = .ok (.if_icmp .ge 5, 3) := by decide +kernel
theorem dK15_14 : decode method_3_code 14 = .ok (.aload_n 0, 1) := by decide +kernel
theorem dK15_15 : decode method_3_code 15 = .ok (.iload_n 1, 1) := by decide +kernel
theorem dK15_16 : decode method_3_code 16 = .ok (.caload, 1) := by decide +kernel
theorem dK15_17 : decode method_3_code 17 = .ok (.iload_n 3, 1) := by decide +kernel
theorem dK15_18 : decode method_3_code 18 = .ok (.if_icmp .ne 7, 3) := by decide +kernel
theorem dK15_21 : decode method_3_code 21 = .ok (.iconst 1, 1) := by decide +kernel
theorem dK15_22 : decode method_3_code 22 = .ok (.goto 4, 3) := by decide +kernel
theorem dK15_26 : decode method_3_code 26 = .ok (.ireturn, 1) := by decide +kernel
theorem pnK15 : plainName "com/example/pctenc/pctenc/EscapeWritePinLaw" = true := by first | (simp [plainName, overriddenIn]; done) | decide +kernel
theorem efK15 (m : MethodId) (o : Addr) (sen : Int32) : entryFrame m #[(.ref o), (.int (5 : Int32)), (.int (1 : Int32)), (.int sen)] 4 = mkF m 0 #[.val (.ref o), .val (.int (5 : Int32)), .val (.int (1 : Int32)), .val (.int sen)] [] := by first | (simp [entryFrame, mkF, argsToLocals, Value.category]; done) | rfl
def QK15 (Z : State) (o : Addr) (sen : Int32) (kc_o : ClassId) (v0 : Int32) (v1 : Int32) (v2 : Int32) (v3 : Int32) (v4 : Int32) (v6 : Int32) (v7 : Int32) (h0 : Heap) (n0 : Nat) (v : Option Value) (h : Heap) (L : List Loc) : Prop := (v = some (.int (1 : Int32)) ∧ Fr n0 L ∧ h = h0)
set_option maxRecDepth 65536 in
set_option maxHeartbeats 40000000 in
theorem rmK15 (l : Launch) (Z : State) (a0 : Array Value) (hw : ∀ d ∈ tables_1, d.before a0 Z = true) (ws : List Jvm.Cond) (o : Addr) (sen : Int32) (kc_o : ClassId) (v0 : Int32) (v1 : Int32) (v2 : Int32) (v3 : Int32) (v4 : Int32) (v6 : Int32) (v7 : Int32) (h0 : Heap) (n0 : Nat) (Z0 : n0 ≤ h0.size) (V0_o : Arv Z h0 o kc_o .char (8 : Int32) [(.int v0), (.int v1), (.int v2), (.int v3), (.int v4), (.int (nar .char sen)), (.int v6), (.int v7)] (.int (0 : Int32))) (hsen : (nar .char sen) = sen) :
    MetFree l (⟨"com/example/pctenc/pctenc/EscapeWritePinLaw", "kept", "([CIIC)Z"⟩ : MethodName) (head1 (Jvm.Cond.code (⟨"com/example/pctenc/pctenc/EscapeWritePinLaw", "kept", "([CIIC)Z"⟩ : MethodName) method_3_code 4 (some .boolean) :: ws) ({ frames := 0, cells := 0, slots := 0, locals := 0 } : Room)) (fun aa_ U_ => aa_ = #[(.ref o), (.int (5 : Int32)), (.int (1 : Int32)), (.int sen)] ∧ Z.Warmed39 U_.vm ∧ U_.heap = h0) (fun _ _ _ _ _ => True) (fun _ U_ o_ V_ => ∃ v_ L_, o_ = .returned v_ ∧ QK15 Z o sen kc_o v0 v1 v2 v3 v4 v6 v7 h0 n0 v_ V_.heap L_ ∧ FrameEnd U_ o_ V_ L_ ({ frames := 0, cells := 0, slots := 0, locals := 0 } : Room).cells ({ frames := 0, cells := 0, slots := 0, locals := 0 } : Room).slots) := by
  refine MetFree.of_bodySF (plainFor_of_name pnK15) hisR ?_
  intro p e s m args below meth c s₁ Bd hml0 hP hK
  obtain ⟨rfl, hZ, hh⟩ := hP
  have hx := Bd.exec
  have hby := Bd.bytes
  have hml : c.maxLocals = 4 := hml0
  have hown : s.vm.findClass "com/example/pctenc/pctenc/EscapeWritePinLaw" = some m.cls := findClass_of_methodNamed Bd.named
  have hnm := (name_of_methodNamed Bd.named Bd.method).1
  have hlk : meth.locks = false := BodyLoose.notSynchronized Bd
  have hret : meth.sig.returnType = (some .boolean) := Bd.returns
  have X0 : Stand p l e ({ frames := 0, cells := 0, slots := 0, locals := 0 } : Room) s m #[(.ref o), (.int (5 : Int32)), (.int (1 : Int32)), (.int sen)] below meth c s₁ [] 0 0 := Stand.of_body Bd
  have e0 : s₁.heap = h0 := by rw [← hh, Bd.state]; rfl
  have N0 := Fr.nil n0
  show Go p e below s ({ frames := 0, cells := 0, slots := 0, locals := 0 } : Room).cells ({ frames := 0, cells := 0, slots := 0, locals := 0 } : Room).slots (QK15 Z o sen kc_o v0 v1 v2 v3 v4 v6 v7 h0 n0) (s₁.setTop (entryFrame m #[(.ref o), (.int (5 : Int32)), (.int (1 : Int32)), (.int sen)] 4))
  rw [efK15]
  refine Go.by (fun _ kont => XS.iloadN X0.here hx rfl (hb hby dK15_0) rfl (XS.iloadN X0.here hx rfl (hb hby dK15_1) rfl (XS.icmpNo X0.here hx rfl (hb hby dK15_2) rfl (by decide) (XS.iloadN X0.here hx rfl (hb hby dK15_5) rfl (XS.iloadN X0.here hx rfl (hb hby dK15_6) rfl (XS.iconst X0.here hx rfl (hb hby dK15_7) kont)))))) ?_
  show Go _ _ _ _ _ _ _ (s₁.setTop (mkF m 8 #[.val (.ref o), .val (.int (5 : Int32)), .val (.int (1 : Int32)), .val (.int sen)] [(.int (3 : Int32)), (.int (1 : Int32)), (.int (5 : Int32))]))
  refine Go.by (fun _ kont => XS.iadd X0.here hx rfl (hb hby dK15_8) rfl kont) ?_
  show Go _ _ _ _ _ _ _ (s₁.setTop (mkF m 9 #[.val (.ref o), .val (.int (5 : Int32)), .val (.int (1 : Int32)), .val (.int sen)] [(.int ((1 : Int32) + (3 : Int32))), (.int (5 : Int32))]))
  rw [show ((1 : Int32) + (3 : Int32)) = (4 : Int32) from by decide]
  show Go _ _ _ _ _ _ _ (s₁.setTop (mkF m 9 #[.val (.ref o), .val (.int (5 : Int32)), .val (.int (1 : Int32)), .val (.int sen)] [(.int (4 : Int32)), (.int (5 : Int32))]))
  refine Go.by (fun _ kont => XS.icmpYes X0.here hx rfl (pc0 := 9) (pc' := 14) rfl (hb hby dK15_9) rfl (by decide) (by decide) (by decide) (XS.aloadN X0.here hx rfl (hb hby dK15_14) rfl rfl (XS.iloadN X0.here hx rfl (hb hby dK15_15) rfl kont))) ?_
  show Go _ _ _ _ _ _ _ (s₁.setTop (mkF m 16 #[.val (.ref o), .val (.int (5 : Int32)), .val (.int (1 : Int32)), .val (.int sen)] [(.int (5 : Int32)), (.ref o)]))
  obtain ⟨cl_q101, Ar_q101, q1_q101, S_q101, N_q101, H_q101, G_q101⟩ := id V0_o
  have hin_q101 : ¬ ((5 : Int32) < 0 ∨ cl_q101.slots.size ≤ ((5 : Int32)).toNatClampNeg) := inb_of S_q101 ⟨by decide, by decide⟩
  have hat_q101 : cl_q101.slots[((5 : Int32)).toNatClampNeg]? = some (.int (nar .char sen)) := Has.at H_q101 hin_q101 rfl
  refine Go.by (X0.caload hx (j := (5 : Int32)) (v := (.int (nar .char sen))) (by first | exact Ar_q101.1 | (rw [e0]; exact Ar_q101.1)) (State.isArrayOf_alike hZ.alike Ar_q101.2.1) Ar_q101.2.2 hin_q101 hat_q101 (g := (mkF m 16 #[.val (.ref o), .val (.int (5 : Int32)), .val (.int (1 : Int32)), .val (.int sen)] [(.int (5 : Int32)), (.ref o)])) rfl rfl (hb hby dK15_16)) ?_
  show Go _ _ _ _ _ _ _ (s₁.setTop (mkF m 17 #[.val (.ref o), .val (.int (5 : Int32)), .val (.int (1 : Int32)), .val (.int sen)] [(.int (nar .char sen))]))
  refine Go.by (fun _ kont => XS.iloadN X0.here hx rfl (hb hby dK15_17) rfl kont) ?_
  show Go _ _ _ _ _ _ _ (s₁.setTop (mkF m 18 #[.val (.ref o), .val (.int (5 : Int32)), .val (.int (1 : Int32)), .val (.int sen)] [(.int sen), (.int (nar .char sen))]))
  refine Go.by (fun _ kont => XS.icmpNo X0.here hx rfl (hb hby dK15_18) rfl (teq hsen).2 kont) ?_
  show Go _ _ _ _ _ _ _ (s₁.setTop (mkF m 21 #[.val (.ref o), .val (.int (5 : Int32)), .val (.int (1 : Int32)), .val (.int sen)] []))
  refine Go.by (fun _ kont => XS.iconst X0.here hx rfl (hb hby dK15_21) (XS.goto X0.here hx rfl (pc0 := 22) (pc' := 26) rfl (hb hby dK15_22) (by decide) (by decide) kont)) ?_
  show Go _ _ _ _ _ _ _ (s₁.setTop (mkF m 26 #[.val (.ref o), .val (.int (5 : Int32)), .val (.int (1 : Int32)), .val (.int sen)] [(.int (1 : Int32))]))
  refine Go.retN X0 hx (t := .boolean) hret (by simp) hlk (hb hby dK15_26) ?_ (by decide) (by decide)
  show QK15 Z o sen kc_o v0 v1 v2 v3 v4 v6 v7 h0 n0 (some (.int (1 : Int32))) s₁.heap _
  rw [e0]
  exact ⟨rfl, N0, rfl⟩

theorem dK16_0 : decode method_3_code 0 = .ok (.iload_n 1, 1) := by decide +kernel
theorem dK16_1 : decode method_3_code 1 = .ok (.iload_n 2, 1) := by decide +kernel
theorem dK16_2 : decode method_3_code 2 = .ok (.if_icmp .lt 12, 3) := by decide +kernel
theorem dK16_5 : decode method_3_code 5 = .ok (.iload_n 1, 1) := by decide +kernel
theorem dK16_6 : decode method_3_code 6 = .ok (.iload_n 2, 1) := by decide +kernel
theorem dK16_7 : decode method_3_code 7 = .ok (.iconst 3, 1) := by decide +kernel
theorem dK16_8 : decode method_3_code 8 = .ok (.iadd, 1) := by decide +kernel
theorem dK16_9 : decode method_3_code 9 = .ok (.if_icmp .ge 5, 3) := by decide +kernel
theorem dK16_14 : decode method_3_code 14 = .ok (.aload_n 0, 1) := by decide +kernel
theorem dK16_15 : decode method_3_code 15 = .ok (.iload_n 1, 1) := by decide +kernel
theorem dK16_16 : decode method_3_code 16 = .ok (.caload, 1) := by decide +kernel
theorem dK16_17 : decode method_3_code 17 = .ok (.iload_n 3, 1) := by decide +kernel
theorem dK16_18 : decode method_3_code 18 = .ok (.if_icmp .ne 7, 3) := by decide +kernel
theorem dK16_21 : decode method_3_code 21 = .ok (.iconst 1, 1) := by decide +kernel
theorem dK16_22 : decode method_3_code 22 = .ok (.goto 4, 3) := by decide +kernel
theorem dK16_26 : decode method_3_code 26 = .ok (.ireturn, 1) := by decide +kernel
theorem pnK16 : plainName "com/example/pctenc/pctenc/EscapeWritePinLaw" = true := by first | (simp [plainName, overriddenIn]; done) | decide +kernel
theorem efK16 (m : MethodId) (o : Addr) (sen : Int32) : entryFrame m #[(.ref o), (.int (6 : Int32)), (.int (1 : Int32)), (.int sen)] 4 = mkF m 0 #[.val (.ref o), .val (.int (6 : Int32)), .val (.int (1 : Int32)), .val (.int sen)] [] := by first | (simp [entryFrame, mkF, argsToLocals, Value.category]; done) | rfl
def QK16 (Z : State) (o : Addr) (sen : Int32) (kc_o : ClassId) (v0 : Int32) (v1 : Int32) (v2 : Int32) (v3 : Int32) (v4 : Int32) (v5 : Int32) (v7 : Int32) (h0 : Heap) (n0 : Nat) (v : Option Value) (h : Heap) (L : List Loc) : Prop := (v = some (.int (1 : Int32)) ∧ Fr n0 L ∧ h = h0)
set_option maxRecDepth 65536 in
set_option maxHeartbeats 40000000 in
theorem rmK16 (l : Launch) (Z : State) (a0 : Array Value) (hw : ∀ d ∈ tables_1, d.before a0 Z = true) (ws : List Jvm.Cond) (o : Addr) (sen : Int32) (kc_o : ClassId) (v0 : Int32) (v1 : Int32) (v2 : Int32) (v3 : Int32) (v4 : Int32) (v5 : Int32) (v7 : Int32) (h0 : Heap) (n0 : Nat) (Z0 : n0 ≤ h0.size) (V0_o : Arv Z h0 o kc_o .char (8 : Int32) [(.int v0), (.int v1), (.int v2), (.int v3), (.int v4), (.int v5), (.int (nar .char sen)), (.int v7)] (.int (0 : Int32))) (hsen : (nar .char sen) = sen) :
    MetFree l (⟨"com/example/pctenc/pctenc/EscapeWritePinLaw", "kept", "([CIIC)Z"⟩ : MethodName) (head1 (Jvm.Cond.code (⟨"com/example/pctenc/pctenc/EscapeWritePinLaw", "kept", "([CIIC)Z"⟩ : MethodName) method_3_code 4 (some .boolean) :: ws) ({ frames := 0, cells := 0, slots := 0, locals := 0 } : Room)) (fun aa_ U_ => aa_ = #[(.ref o), (.int (6 : Int32)), (.int (1 : Int32)), (.int sen)] ∧ Z.Warmed39 U_.vm ∧ U_.heap = h0) (fun _ _ _ _ _ => True) (fun _ U_ o_ V_ => ∃ v_ L_, o_ = .returned v_ ∧ QK16 Z o sen kc_o v0 v1 v2 v3 v4 v5 v7 h0 n0 v_ V_.heap L_ ∧ FrameEnd U_ o_ V_ L_ ({ frames := 0, cells := 0, slots := 0, locals := 0 } : Room).cells ({ frames := 0, cells := 0, slots := 0, locals := 0 } : Room).slots) := by
  refine MetFree.of_bodySF (plainFor_of_name pnK16) hisR ?_
  intro p e s m args below meth c s₁ Bd hml0 hP hK
  obtain ⟨rfl, hZ, hh⟩ := hP
  have hx := Bd.exec
  have hby := Bd.bytes
  have hml : c.maxLocals = 4 := hml0
  have hown : s.vm.findClass "com/example/pctenc/pctenc/EscapeWritePinLaw" = some m.cls := findClass_of_methodNamed Bd.named
  have hnm := (name_of_methodNamed Bd.named Bd.method).1
  have hlk : meth.locks = false := BodyLoose.notSynchronized Bd
  have hret : meth.sig.returnType = (some .boolean) := Bd.returns
  have X0 : Stand p l e ({ frames := 0, cells := 0, slots := 0, locals := 0 } : Room) s m #[(.ref o), (.int (6 : Int32)), (.int (1 : Int32)), (.int sen)] below meth c s₁ [] 0 0 := Stand.of_body Bd
  have e0 : s₁.heap = h0 := by rw [← hh, Bd.state]; rfl
  have N0 := Fr.nil n0
  show Go p e below s ({ frames := 0, cells := 0, slots := 0, locals := 0 } : Room).cells ({ frames := 0, cells := 0, slots := 0, locals := 0 } : Room).slots (QK16 Z o sen kc_o v0 v1 v2 v3 v4 v5 v7 h0 n0) (s₁.setTop (entryFrame m #[(.ref o), (.int (6 : Int32)), (.int (1 : Int32)), (.int sen)] 4))
  rw [efK16]
  refine Go.by (fun _ kont => XS.iloadN X0.here hx rfl (hb hby dK16_0) rfl (XS.iloadN X0.here hx rfl (hb hby dK16_1) rfl (XS.icmpNo X0.here hx rfl (hb hby dK16_2) rfl (by decide) (XS.iloadN X0.here hx rfl (hb hby dK16_5) rfl (XS.iloadN X0.here hx rfl (hb hby dK16_6) rfl (XS.iconst X0.here hx rfl (hb hby dK16_7) kont)))))) ?_
  show Go _ _ _ _ _ _ _ (s₁.setTop (mkF m 8 #[.val (.ref o), .val (.int (6 : Int32)), .val (.int (1 : Int32)), .val (.int sen)] [(.int (3 : Int32)), (.int (1 : Int32)), (.int (6 : Int32))]))
  refine Go.by (fun _ kont => XS.iadd X0.here hx rfl (hb hby dK16_8) rfl kont) ?_
  show Go _ _ _ _ _ _ _ (s₁.setTop (mkF m 9 #[.val (.ref o), .val (.int (6 : Int32)), .val (.int (1 : Int32)), .val (.int sen)] [(.int ((1 : Int32) + (3 : Int32))), (.int (6 : Int32))]))
  rw [show ((1 : Int32) + (3 : Int32)) = (4 : Int32) from by decide]
  show Go _ _ _ _ _ _ _ (s₁.setTop (mkF m 9 #[.val (.ref o), .val (.int (6 : Int32)), .val (.int (1 : Int32)), .val (.int sen)] [(.int (4 : Int32)), (.int (6 : Int32))]))
  refine Go.by (fun _ kont => XS.icmpYes X0.here hx rfl (pc0 := 9) (pc' := 14) rfl (hb hby dK16_9) rfl (by decide) (by decide) (by decide) (XS.aloadN X0.here hx rfl (hb hby dK16_14) rfl rfl (XS.iloadN X0.here hx rfl (hb hby dK16_15) rfl kont))) ?_
  show Go _ _ _ _ _ _ _ (s₁.setTop (mkF m 16 #[.val (.ref o), .val (.int (6 : Int32)), .val (.int (1 : Int32)), .val (.int sen)] [(.int (6 : Int32)), (.ref o)]))
  obtain ⟨cl_q101, Ar_q101, q1_q101, S_q101, N_q101, H_q101, G_q101⟩ := id V0_o
  have hin_q101 : ¬ ((6 : Int32) < 0 ∨ cl_q101.slots.size ≤ ((6 : Int32)).toNatClampNeg) := inb_of S_q101 ⟨by decide, by decide⟩
  have hat_q101 : cl_q101.slots[((6 : Int32)).toNatClampNeg]? = some (.int (nar .char sen)) := Has.at H_q101 hin_q101 rfl
  refine Go.by (X0.caload hx (j := (6 : Int32)) (v := (.int (nar .char sen))) (by first | exact Ar_q101.1 | (rw [e0]; exact Ar_q101.1)) (State.isArrayOf_alike hZ.alike Ar_q101.2.1) Ar_q101.2.2 hin_q101 hat_q101 (g := (mkF m 16 #[.val (.ref o), .val (.int (6 : Int32)), .val (.int (1 : Int32)), .val (.int sen)] [(.int (6 : Int32)), (.ref o)])) rfl rfl (hb hby dK16_16)) ?_
  show Go _ _ _ _ _ _ _ (s₁.setTop (mkF m 17 #[.val (.ref o), .val (.int (6 : Int32)), .val (.int (1 : Int32)), .val (.int sen)] [(.int (nar .char sen))]))
  refine Go.by (fun _ kont => XS.iloadN X0.here hx rfl (hb hby dK16_17) rfl kont) ?_
  show Go _ _ _ _ _ _ _ (s₁.setTop (mkF m 18 #[.val (.ref o), .val (.int (6 : Int32)), .val (.int (1 : Int32)), .val (.int sen)] [(.int sen), (.int (nar .char sen))]))
  refine Go.by (fun _ kont => XS.icmpNo X0.here hx rfl (hb hby dK16_18) rfl (teq hsen).2 kont) ?_
  show Go _ _ _ _ _ _ _ (s₁.setTop (mkF m 21 #[.val (.ref o), .val (.int (6 : Int32)), .val (.int (1 : Int32)), .val (.int sen)] []))
  refine Go.by (fun _ kont => XS.iconst X0.here hx rfl (hb hby dK16_21) (XS.goto X0.here hx rfl (pc0 := 22) (pc' := 26) rfl (hb hby dK16_22) (by decide) (by decide) kont)) ?_
  show Go _ _ _ _ _ _ _ (s₁.setTop (mkF m 26 #[.val (.ref o), .val (.int (6 : Int32)), .val (.int (1 : Int32)), .val (.int sen)] [(.int (1 : Int32))]))
  refine Go.retN X0 hx (t := .boolean) hret (by simp) hlk (hb hby dK16_26) ?_ (by decide) (by decide)
  show QK16 Z o sen kc_o v0 v1 v2 v3 v4 v5 v7 h0 n0 (some (.int (1 : Int32))) s₁.heap _
  rw [e0]
  exact ⟨rfl, N0, rfl⟩

theorem dK17_0 : decode method_3_code 0 = .ok (.iload_n 1, 1) := by decide +kernel
theorem dK17_1 : decode method_3_code 1 = .ok (.iload_n 2, 1) := by decide +kernel
theorem dK17_2 : decode method_3_code 2 = .ok (.if_icmp .lt 12, 3) := by decide +kernel
theorem dK17_5 : decode method_3_code 5 = .ok (.iload_n 1, 1) := by decide +kernel
theorem dK17_6 : decode method_3_code 6 = .ok (.iload_n 2, 1) := by decide +kernel
theorem dK17_7 : decode method_3_code 7 = .ok (.iconst 3, 1) := by decide +kernel
theorem dK17_8 : decode method_3_code 8 = .ok (.iadd, 1) := by decide +kernel
theorem dK17_9 : decode method_3_code 9 = .ok (.if_icmp .ge 5, 3) := by decide +kernel
theorem dK17_14 : decode method_3_code 14 = .ok (.aload_n 0, 1) := by decide +kernel
theorem dK17_15 : decode method_3_code 15 = .ok (.iload_n 1, 1) := by decide +kernel
theorem dK17_16 : decode method_3_code 16 = .ok (.caload, 1) := by decide +kernel
theorem dK17_17 : decode method_3_code 17 = .ok (.iload_n 3, 1) := by decide +kernel
theorem dK17_18 : decode method_3_code 18 = .ok (.if_icmp .ne 7, 3) := by decide +kernel
theorem dK17_21 : decode method_3_code 21 = .ok (.iconst 1, 1) := by decide +kernel
theorem dK17_22 : decode method_3_code 22 = .ok (.goto 4, 3) := by decide +kernel
theorem dK17_26 : decode method_3_code 26 = .ok (.ireturn, 1) := by decide +kernel
theorem pnK17 : plainName "com/example/pctenc/pctenc/EscapeWritePinLaw" = true := by first | (simp [plainName, overriddenIn]; done) | decide +kernel
theorem efK17 (m : MethodId) (o : Addr) (sen : Int32) : entryFrame m #[(.ref o), (.int (7 : Int32)), (.int (1 : Int32)), (.int sen)] 4 = mkF m 0 #[.val (.ref o), .val (.int (7 : Int32)), .val (.int (1 : Int32)), .val (.int sen)] [] := by first | (simp [entryFrame, mkF, argsToLocals, Value.category]; done) | rfl
def QK17 (Z : State) (o : Addr) (sen : Int32) (kc_o : ClassId) (v0 : Int32) (v1 : Int32) (v2 : Int32) (v3 : Int32) (v4 : Int32) (v5 : Int32) (v6 : Int32) (h0 : Heap) (n0 : Nat) (v : Option Value) (h : Heap) (L : List Loc) : Prop := (v = some (.int (1 : Int32)) ∧ Fr n0 L ∧ h = h0)
set_option maxRecDepth 65536 in
set_option maxHeartbeats 40000000 in
theorem rmK17 (l : Launch) (Z : State) (a0 : Array Value) (hw : ∀ d ∈ tables_1, d.before a0 Z = true) (ws : List Jvm.Cond) (o : Addr) (sen : Int32) (kc_o : ClassId) (v0 : Int32) (v1 : Int32) (v2 : Int32) (v3 : Int32) (v4 : Int32) (v5 : Int32) (v6 : Int32) (h0 : Heap) (n0 : Nat) (Z0 : n0 ≤ h0.size) (V0_o : Arv Z h0 o kc_o .char (8 : Int32) [(.int v0), (.int v1), (.int v2), (.int v3), (.int v4), (.int v5), (.int v6), (.int (nar .char sen))] (.int (0 : Int32))) (hsen : (nar .char sen) = sen) :
    MetFree l (⟨"com/example/pctenc/pctenc/EscapeWritePinLaw", "kept", "([CIIC)Z"⟩ : MethodName) (head1 (Jvm.Cond.code (⟨"com/example/pctenc/pctenc/EscapeWritePinLaw", "kept", "([CIIC)Z"⟩ : MethodName) method_3_code 4 (some .boolean) :: ws) ({ frames := 0, cells := 0, slots := 0, locals := 0 } : Room)) (fun aa_ U_ => aa_ = #[(.ref o), (.int (7 : Int32)), (.int (1 : Int32)), (.int sen)] ∧ Z.Warmed39 U_.vm ∧ U_.heap = h0) (fun _ _ _ _ _ => True) (fun _ U_ o_ V_ => ∃ v_ L_, o_ = .returned v_ ∧ QK17 Z o sen kc_o v0 v1 v2 v3 v4 v5 v6 h0 n0 v_ V_.heap L_ ∧ FrameEnd U_ o_ V_ L_ ({ frames := 0, cells := 0, slots := 0, locals := 0 } : Room).cells ({ frames := 0, cells := 0, slots := 0, locals := 0 } : Room).slots) := by
  refine MetFree.of_bodySF (plainFor_of_name pnK17) hisR ?_
  intro p e s m args below meth c s₁ Bd hml0 hP hK
  obtain ⟨rfl, hZ, hh⟩ := hP
  have hx := Bd.exec
  have hby := Bd.bytes
  have hml : c.maxLocals = 4 := hml0
  have hown : s.vm.findClass "com/example/pctenc/pctenc/EscapeWritePinLaw" = some m.cls := findClass_of_methodNamed Bd.named
  have hnm := (name_of_methodNamed Bd.named Bd.method).1
  have hlk : meth.locks = false := BodyLoose.notSynchronized Bd
  have hret : meth.sig.returnType = (some .boolean) := Bd.returns
  have X0 : Stand p l e ({ frames := 0, cells := 0, slots := 0, locals := 0 } : Room) s m #[(.ref o), (.int (7 : Int32)), (.int (1 : Int32)), (.int sen)] below meth c s₁ [] 0 0 := Stand.of_body Bd
  have e0 : s₁.heap = h0 := by rw [← hh, Bd.state]; rfl
  have N0 := Fr.nil n0
  show Go p e below s ({ frames := 0, cells := 0, slots := 0, locals := 0 } : Room).cells ({ frames := 0, cells := 0, slots := 0, locals := 0 } : Room).slots (QK17 Z o sen kc_o v0 v1 v2 v3 v4 v5 v6 h0 n0) (s₁.setTop (entryFrame m #[(.ref o), (.int (7 : Int32)), (.int (1 : Int32)), (.int sen)] 4))
  rw [efK17]
  refine Go.by (fun _ kont => XS.iloadN X0.here hx rfl (hb hby dK17_0) rfl (XS.iloadN X0.here hx rfl (hb hby dK17_1) rfl (XS.icmpNo X0.here hx rfl (hb hby dK17_2) rfl (by decide) (XS.iloadN X0.here hx rfl (hb hby dK17_5) rfl (XS.iloadN X0.here hx rfl (hb hby dK17_6) rfl (XS.iconst X0.here hx rfl (hb hby dK17_7) kont)))))) ?_
  show Go _ _ _ _ _ _ _ (s₁.setTop (mkF m 8 #[.val (.ref o), .val (.int (7 : Int32)), .val (.int (1 : Int32)), .val (.int sen)] [(.int (3 : Int32)), (.int (1 : Int32)), (.int (7 : Int32))]))
  refine Go.by (fun _ kont => XS.iadd X0.here hx rfl (hb hby dK17_8) rfl kont) ?_
  show Go _ _ _ _ _ _ _ (s₁.setTop (mkF m 9 #[.val (.ref o), .val (.int (7 : Int32)), .val (.int (1 : Int32)), .val (.int sen)] [(.int ((1 : Int32) + (3 : Int32))), (.int (7 : Int32))]))
  rw [show ((1 : Int32) + (3 : Int32)) = (4 : Int32) from by decide]
  show Go _ _ _ _ _ _ _ (s₁.setTop (mkF m 9 #[.val (.ref o), .val (.int (7 : Int32)), .val (.int (1 : Int32)), .val (.int sen)] [(.int (4 : Int32)), (.int (7 : Int32))]))
  refine Go.by (fun _ kont => XS.icmpYes X0.here hx rfl (pc0 := 9) (pc' := 14) rfl (hb hby dK17_9) rfl (by decide) (by decide) (by decide) (XS.aloadN X0.here hx rfl (hb hby dK17_14) rfl rfl (XS.iloadN X0.here hx rfl (hb hby dK17_15) rfl kont))) ?_
  show Go _ _ _ _ _ _ _ (s₁.setTop (mkF m 16 #[.val (.ref o), .val (.int (7 : Int32)), .val (.int (1 : Int32)), .val (.int sen)] [(.int (7 : Int32)), (.ref o)]))
  obtain ⟨cl_q101, Ar_q101, q1_q101, S_q101, N_q101, H_q101, G_q101⟩ := id V0_o
  have hin_q101 : ¬ ((7 : Int32) < 0 ∨ cl_q101.slots.size ≤ ((7 : Int32)).toNatClampNeg) := inb_of S_q101 ⟨by decide, by decide⟩
  have hat_q101 : cl_q101.slots[((7 : Int32)).toNatClampNeg]? = some (.int (nar .char sen)) := Has.at H_q101 hin_q101 rfl
  refine Go.by (X0.caload hx (j := (7 : Int32)) (v := (.int (nar .char sen))) (by first | exact Ar_q101.1 | (rw [e0]; exact Ar_q101.1)) (State.isArrayOf_alike hZ.alike Ar_q101.2.1) Ar_q101.2.2 hin_q101 hat_q101 (g := (mkF m 16 #[.val (.ref o), .val (.int (7 : Int32)), .val (.int (1 : Int32)), .val (.int sen)] [(.int (7 : Int32)), (.ref o)])) rfl rfl (hb hby dK17_16)) ?_
  show Go _ _ _ _ _ _ _ (s₁.setTop (mkF m 17 #[.val (.ref o), .val (.int (7 : Int32)), .val (.int (1 : Int32)), .val (.int sen)] [(.int (nar .char sen))]))
  refine Go.by (fun _ kont => XS.iloadN X0.here hx rfl (hb hby dK17_17) rfl kont) ?_
  show Go _ _ _ _ _ _ _ (s₁.setTop (mkF m 18 #[.val (.ref o), .val (.int (7 : Int32)), .val (.int (1 : Int32)), .val (.int sen)] [(.int sen), (.int (nar .char sen))]))
  refine Go.by (fun _ kont => XS.icmpNo X0.here hx rfl (hb hby dK17_18) rfl (teq hsen).2 kont) ?_
  show Go _ _ _ _ _ _ _ (s₁.setTop (mkF m 21 #[.val (.ref o), .val (.int (7 : Int32)), .val (.int (1 : Int32)), .val (.int sen)] []))
  refine Go.by (fun _ kont => XS.iconst X0.here hx rfl (hb hby dK17_21) (XS.goto X0.here hx rfl (pc0 := 22) (pc' := 26) rfl (hb hby dK17_22) (by decide) (by decide) kont)) ?_
  show Go _ _ _ _ _ _ _ (s₁.setTop (mkF m 26 #[.val (.ref o), .val (.int (7 : Int32)), .val (.int (1 : Int32)), .val (.int sen)] [(.int (1 : Int32))]))
  refine Go.retN X0 hx (t := .boolean) hret (by simp) hlk (hb hby dK17_26) ?_ (by decide) (by decide)
  show QK17 Z o sen kc_o v0 v1 v2 v3 v4 v5 v6 h0 n0 (some (.int (1 : Int32))) s₁.heap _
  rw [e0]
  exact ⟨rfl, N0, rfl⟩

theorem dK20_0 : decode method_3_code 0 = .ok (.iload_n 1, 1) := by decide +kernel
theorem dK20_1 : decode method_3_code 1 = .ok (.iload_n 2, 1) := by decide +kernel
theorem dK20_2 : decode method_3_code 2 = .ok (.if_icmp .lt 12, 3) := by decide +kernel
theorem dK20_14 : decode method_3_code 14 = .ok (.aload_n 0, 1) := by decide +kernel
theorem dK20_15 : decode method_3_code 15 = .ok (.iload_n 1, 1) := by decide +kernel
theorem dK20_16 : decode method_3_code 16 = .ok (.caload, 1) := by decide +kernel
theorem dK20_17 : decode method_3_code 17 = .ok (.iload_n 3, 1) := by decide +kernel
theorem dK20_18 : decode method_3_code 18 = .ok (.if_icmp .ne 7, 3) := by decide +kernel
theorem dK20_21 : decode method_3_code 21 = .ok (.iconst 1, 1) := by decide +kernel
theorem dK20_22 : decode method_3_code 22 = .ok (.goto 4, 3) := by decide +kernel
theorem dK20_26 : decode method_3_code 26 = .ok (.ireturn, 1) := by decide +kernel
theorem pnK20 : plainName "com/example/pctenc/pctenc/EscapeWritePinLaw" = true := by first | (simp [plainName, overriddenIn]; done) | decide +kernel
theorem efK20 (m : MethodId) (o : Addr) (sen : Int32) : entryFrame m #[(.ref o), (.int (0 : Int32)), (.int (2 : Int32)), (.int sen)] 4 = mkF m 0 #[.val (.ref o), .val (.int (0 : Int32)), .val (.int (2 : Int32)), .val (.int sen)] [] := by first | (simp [entryFrame, mkF, argsToLocals, Value.category]; done) | rfl
def QK20 (Z : State) (o : Addr) (sen : Int32) (kc_o : ClassId) (v1 : Int32) (v2 : Int32) (v3 : Int32) (v4 : Int32) (v5 : Int32) (v6 : Int32) (v7 : Int32) (h0 : Heap) (n0 : Nat) (v : Option Value) (h : Heap) (L : List Loc) : Prop := (v = some (.int (1 : Int32)) ∧ Fr n0 L ∧ h = h0)
set_option maxRecDepth 65536 in
set_option maxHeartbeats 40000000 in
theorem rmK20 (l : Launch) (Z : State) (a0 : Array Value) (hw : ∀ d ∈ tables_1, d.before a0 Z = true) (ws : List Jvm.Cond) (o : Addr) (sen : Int32) (kc_o : ClassId) (v1 : Int32) (v2 : Int32) (v3 : Int32) (v4 : Int32) (v5 : Int32) (v6 : Int32) (v7 : Int32) (h0 : Heap) (n0 : Nat) (Z0 : n0 ≤ h0.size) (V0_o : Arv Z h0 o kc_o .char (8 : Int32) [(.int (nar .char sen)), (.int v1), (.int v2), (.int v3), (.int v4), (.int v5), (.int v6), (.int v7)] (.int (0 : Int32))) (hsen : (nar .char sen) = sen) :
    MetFree l (⟨"com/example/pctenc/pctenc/EscapeWritePinLaw", "kept", "([CIIC)Z"⟩ : MethodName) (head1 (Jvm.Cond.code (⟨"com/example/pctenc/pctenc/EscapeWritePinLaw", "kept", "([CIIC)Z"⟩ : MethodName) method_3_code 4 (some .boolean) :: ws) ({ frames := 0, cells := 0, slots := 0, locals := 0 } : Room)) (fun aa_ U_ => aa_ = #[(.ref o), (.int (0 : Int32)), (.int (2 : Int32)), (.int sen)] ∧ Z.Warmed39 U_.vm ∧ U_.heap = h0) (fun _ _ _ _ _ => True) (fun _ U_ o_ V_ => ∃ v_ L_, o_ = .returned v_ ∧ QK20 Z o sen kc_o v1 v2 v3 v4 v5 v6 v7 h0 n0 v_ V_.heap L_ ∧ FrameEnd U_ o_ V_ L_ ({ frames := 0, cells := 0, slots := 0, locals := 0 } : Room).cells ({ frames := 0, cells := 0, slots := 0, locals := 0 } : Room).slots) := by
  refine MetFree.of_bodySF (plainFor_of_name pnK20) hisR ?_
  intro p e s m args below meth c s₁ Bd hml0 hP hK
  obtain ⟨rfl, hZ, hh⟩ := hP
  have hx := Bd.exec
  have hby := Bd.bytes
  have hml : c.maxLocals = 4 := hml0
  have hown : s.vm.findClass "com/example/pctenc/pctenc/EscapeWritePinLaw" = some m.cls := findClass_of_methodNamed Bd.named
  have hnm := (name_of_methodNamed Bd.named Bd.method).1
  have hlk : meth.locks = false := BodyLoose.notSynchronized Bd
  have hret : meth.sig.returnType = (some .boolean) := Bd.returns
  have X0 : Stand p l e ({ frames := 0, cells := 0, slots := 0, locals := 0 } : Room) s m #[(.ref o), (.int (0 : Int32)), (.int (2 : Int32)), (.int sen)] below meth c s₁ [] 0 0 := Stand.of_body Bd
  have e0 : s₁.heap = h0 := by rw [← hh, Bd.state]; rfl
  have N0 := Fr.nil n0
  show Go p e below s ({ frames := 0, cells := 0, slots := 0, locals := 0 } : Room).cells ({ frames := 0, cells := 0, slots := 0, locals := 0 } : Room).slots (QK20 Z o sen kc_o v1 v2 v3 v4 v5 v6 v7 h0 n0) (s₁.setTop (entryFrame m #[(.ref o), (.int (0 : Int32)), (.int (2 : Int32)), (.int sen)] 4))
  rw [efK20]
  refine Go.by (fun _ kont => XS.iloadN X0.here hx rfl (hb hby dK20_0) rfl (XS.iloadN X0.here hx rfl (hb hby dK20_1) rfl (XS.icmpYes X0.here hx rfl (pc0 := 2) (pc' := 14) rfl (hb hby dK20_2) rfl (by decide) (by decide) (by decide) (XS.aloadN X0.here hx rfl (hb hby dK20_14) rfl rfl (XS.iloadN X0.here hx rfl (hb hby dK20_15) rfl kont))))) ?_
  show Go _ _ _ _ _ _ _ (s₁.setTop (mkF m 16 #[.val (.ref o), .val (.int (0 : Int32)), .val (.int (2 : Int32)), .val (.int sen)] [(.int (0 : Int32)), (.ref o)]))
  obtain ⟨cl_q101, Ar_q101, q1_q101, S_q101, N_q101, H_q101, G_q101⟩ := id V0_o
  have hin_q101 : ¬ ((0 : Int32) < 0 ∨ cl_q101.slots.size ≤ ((0 : Int32)).toNatClampNeg) := inb_of S_q101 ⟨by decide, by decide⟩
  have hat_q101 : cl_q101.slots[((0 : Int32)).toNatClampNeg]? = some (.int (nar .char sen)) := Has.at H_q101 hin_q101 rfl
  refine Go.by (X0.caload hx (j := (0 : Int32)) (v := (.int (nar .char sen))) (by first | exact Ar_q101.1 | (rw [e0]; exact Ar_q101.1)) (State.isArrayOf_alike hZ.alike Ar_q101.2.1) Ar_q101.2.2 hin_q101 hat_q101 (g := (mkF m 16 #[.val (.ref o), .val (.int (0 : Int32)), .val (.int (2 : Int32)), .val (.int sen)] [(.int (0 : Int32)), (.ref o)])) rfl rfl (hb hby dK20_16)) ?_
  show Go _ _ _ _ _ _ _ (s₁.setTop (mkF m 17 #[.val (.ref o), .val (.int (0 : Int32)), .val (.int (2 : Int32)), .val (.int sen)] [(.int (nar .char sen))]))
  refine Go.by (fun _ kont => XS.iloadN X0.here hx rfl (hb hby dK20_17) rfl kont) ?_
  show Go _ _ _ _ _ _ _ (s₁.setTop (mkF m 18 #[.val (.ref o), .val (.int (0 : Int32)), .val (.int (2 : Int32)), .val (.int sen)] [(.int sen), (.int (nar .char sen))]))
  refine Go.by (fun _ kont => XS.icmpNo X0.here hx rfl (hb hby dK20_18) rfl (teq hsen).2 kont) ?_
  show Go _ _ _ _ _ _ _ (s₁.setTop (mkF m 21 #[.val (.ref o), .val (.int (0 : Int32)), .val (.int (2 : Int32)), .val (.int sen)] []))
  refine Go.by (fun _ kont => XS.iconst X0.here hx rfl (hb hby dK20_21) (XS.goto X0.here hx rfl (pc0 := 22) (pc' := 26) rfl (hb hby dK20_22) (by decide) (by decide) kont)) ?_
  show Go _ _ _ _ _ _ _ (s₁.setTop (mkF m 26 #[.val (.ref o), .val (.int (0 : Int32)), .val (.int (2 : Int32)), .val (.int sen)] [(.int (1 : Int32))]))
  refine Go.retN X0 hx (t := .boolean) hret (by simp) hlk (hb hby dK20_26) ?_ (by decide) (by decide)
  show QK20 Z o sen kc_o v1 v2 v3 v4 v5 v6 v7 h0 n0 (some (.int (1 : Int32))) s₁.heap _
  rw [e0]
  exact ⟨rfl, N0, rfl⟩

theorem dK21_0 : decode method_3_code 0 = .ok (.iload_n 1, 1) := by decide +kernel
theorem dK21_1 : decode method_3_code 1 = .ok (.iload_n 2, 1) := by decide +kernel
theorem dK21_2 : decode method_3_code 2 = .ok (.if_icmp .lt 12, 3) := by decide +kernel
theorem dK21_14 : decode method_3_code 14 = .ok (.aload_n 0, 1) := by decide +kernel
theorem dK21_15 : decode method_3_code 15 = .ok (.iload_n 1, 1) := by decide +kernel
theorem dK21_16 : decode method_3_code 16 = .ok (.caload, 1) := by decide +kernel
theorem dK21_17 : decode method_3_code 17 = .ok (.iload_n 3, 1) := by decide +kernel
theorem dK21_18 : decode method_3_code 18 = .ok (.if_icmp .ne 7, 3) := by decide +kernel
theorem dK21_21 : decode method_3_code 21 = .ok (.iconst 1, 1) := by decide +kernel
theorem dK21_22 : decode method_3_code 22 = .ok (.goto 4, 3) := by decide +kernel
theorem dK21_26 : decode method_3_code 26 = .ok (.ireturn, 1) := by decide +kernel
theorem pnK21 : plainName "com/example/pctenc/pctenc/EscapeWritePinLaw" = true := by first | (simp [plainName, overriddenIn]; done) | decide +kernel
theorem efK21 (m : MethodId) (o : Addr) (sen : Int32) : entryFrame m #[(.ref o), (.int (1 : Int32)), (.int (2 : Int32)), (.int sen)] 4 = mkF m 0 #[.val (.ref o), .val (.int (1 : Int32)), .val (.int (2 : Int32)), .val (.int sen)] [] := by first | (simp [entryFrame, mkF, argsToLocals, Value.category]; done) | rfl
def QK21 (Z : State) (o : Addr) (sen : Int32) (kc_o : ClassId) (v0 : Int32) (v2 : Int32) (v3 : Int32) (v4 : Int32) (v5 : Int32) (v6 : Int32) (v7 : Int32) (h0 : Heap) (n0 : Nat) (v : Option Value) (h : Heap) (L : List Loc) : Prop := (v = some (.int (1 : Int32)) ∧ Fr n0 L ∧ h = h0)
set_option maxRecDepth 65536 in
set_option maxHeartbeats 40000000 in
theorem rmK21 (l : Launch) (Z : State) (a0 : Array Value) (hw : ∀ d ∈ tables_1, d.before a0 Z = true) (ws : List Jvm.Cond) (o : Addr) (sen : Int32) (kc_o : ClassId) (v0 : Int32) (v2 : Int32) (v3 : Int32) (v4 : Int32) (v5 : Int32) (v6 : Int32) (v7 : Int32) (h0 : Heap) (n0 : Nat) (Z0 : n0 ≤ h0.size) (V0_o : Arv Z h0 o kc_o .char (8 : Int32) [(.int v0), (.int (nar .char sen)), (.int v2), (.int v3), (.int v4), (.int v5), (.int v6), (.int v7)] (.int (0 : Int32))) (hsen : (nar .char sen) = sen) :
    MetFree l (⟨"com/example/pctenc/pctenc/EscapeWritePinLaw", "kept", "([CIIC)Z"⟩ : MethodName) (head1 (Jvm.Cond.code (⟨"com/example/pctenc/pctenc/EscapeWritePinLaw", "kept", "([CIIC)Z"⟩ : MethodName) method_3_code 4 (some .boolean) :: ws) ({ frames := 0, cells := 0, slots := 0, locals := 0 } : Room)) (fun aa_ U_ => aa_ = #[(.ref o), (.int (1 : Int32)), (.int (2 : Int32)), (.int sen)] ∧ Z.Warmed39 U_.vm ∧ U_.heap = h0) (fun _ _ _ _ _ => True) (fun _ U_ o_ V_ => ∃ v_ L_, o_ = .returned v_ ∧ QK21 Z o sen kc_o v0 v2 v3 v4 v5 v6 v7 h0 n0 v_ V_.heap L_ ∧ FrameEnd U_ o_ V_ L_ ({ frames := 0, cells := 0, slots := 0, locals := 0 } : Room).cells ({ frames := 0, cells := 0, slots := 0, locals := 0 } : Room).slots) := by
  refine MetFree.of_bodySF (plainFor_of_name pnK21) hisR ?_
  intro p e s m args below meth c s₁ Bd hml0 hP hK
  obtain ⟨rfl, hZ, hh⟩ := hP
  have hx := Bd.exec
  have hby := Bd.bytes
  have hml : c.maxLocals = 4 := hml0
  have hown : s.vm.findClass "com/example/pctenc/pctenc/EscapeWritePinLaw" = some m.cls := findClass_of_methodNamed Bd.named
  have hnm := (name_of_methodNamed Bd.named Bd.method).1
  have hlk : meth.locks = false := BodyLoose.notSynchronized Bd
  have hret : meth.sig.returnType = (some .boolean) := Bd.returns
  have X0 : Stand p l e ({ frames := 0, cells := 0, slots := 0, locals := 0 } : Room) s m #[(.ref o), (.int (1 : Int32)), (.int (2 : Int32)), (.int sen)] below meth c s₁ [] 0 0 := Stand.of_body Bd
  have e0 : s₁.heap = h0 := by rw [← hh, Bd.state]; rfl
  have N0 := Fr.nil n0
  show Go p e below s ({ frames := 0, cells := 0, slots := 0, locals := 0 } : Room).cells ({ frames := 0, cells := 0, slots := 0, locals := 0 } : Room).slots (QK21 Z o sen kc_o v0 v2 v3 v4 v5 v6 v7 h0 n0) (s₁.setTop (entryFrame m #[(.ref o), (.int (1 : Int32)), (.int (2 : Int32)), (.int sen)] 4))
  rw [efK21]
  refine Go.by (fun _ kont => XS.iloadN X0.here hx rfl (hb hby dK21_0) rfl (XS.iloadN X0.here hx rfl (hb hby dK21_1) rfl (XS.icmpYes X0.here hx rfl (pc0 := 2) (pc' := 14) rfl (hb hby dK21_2) rfl (by decide) (by decide) (by decide) (XS.aloadN X0.here hx rfl (hb hby dK21_14) rfl rfl (XS.iloadN X0.here hx rfl (hb hby dK21_15) rfl kont))))) ?_
  show Go _ _ _ _ _ _ _ (s₁.setTop (mkF m 16 #[.val (.ref o), .val (.int (1 : Int32)), .val (.int (2 : Int32)), .val (.int sen)] [(.int (1 : Int32)), (.ref o)]))
  obtain ⟨cl_q101, Ar_q101, q1_q101, S_q101, N_q101, H_q101, G_q101⟩ := id V0_o
  have hin_q101 : ¬ ((1 : Int32) < 0 ∨ cl_q101.slots.size ≤ ((1 : Int32)).toNatClampNeg) := inb_of S_q101 ⟨by decide, by decide⟩
  have hat_q101 : cl_q101.slots[((1 : Int32)).toNatClampNeg]? = some (.int (nar .char sen)) := Has.at H_q101 hin_q101 rfl
  refine Go.by (X0.caload hx (j := (1 : Int32)) (v := (.int (nar .char sen))) (by first | exact Ar_q101.1 | (rw [e0]; exact Ar_q101.1)) (State.isArrayOf_alike hZ.alike Ar_q101.2.1) Ar_q101.2.2 hin_q101 hat_q101 (g := (mkF m 16 #[.val (.ref o), .val (.int (1 : Int32)), .val (.int (2 : Int32)), .val (.int sen)] [(.int (1 : Int32)), (.ref o)])) rfl rfl (hb hby dK21_16)) ?_
  show Go _ _ _ _ _ _ _ (s₁.setTop (mkF m 17 #[.val (.ref o), .val (.int (1 : Int32)), .val (.int (2 : Int32)), .val (.int sen)] [(.int (nar .char sen))]))
  refine Go.by (fun _ kont => XS.iloadN X0.here hx rfl (hb hby dK21_17) rfl kont) ?_
  show Go _ _ _ _ _ _ _ (s₁.setTop (mkF m 18 #[.val (.ref o), .val (.int (1 : Int32)), .val (.int (2 : Int32)), .val (.int sen)] [(.int sen), (.int (nar .char sen))]))
  refine Go.by (fun _ kont => XS.icmpNo X0.here hx rfl (hb hby dK21_18) rfl (teq hsen).2 kont) ?_
  show Go _ _ _ _ _ _ _ (s₁.setTop (mkF m 21 #[.val (.ref o), .val (.int (1 : Int32)), .val (.int (2 : Int32)), .val (.int sen)] []))
  refine Go.by (fun _ kont => XS.iconst X0.here hx rfl (hb hby dK21_21) (XS.goto X0.here hx rfl (pc0 := 22) (pc' := 26) rfl (hb hby dK21_22) (by decide) (by decide) kont)) ?_
  show Go _ _ _ _ _ _ _ (s₁.setTop (mkF m 26 #[.val (.ref o), .val (.int (1 : Int32)), .val (.int (2 : Int32)), .val (.int sen)] [(.int (1 : Int32))]))
  refine Go.retN X0 hx (t := .boolean) hret (by simp) hlk (hb hby dK21_26) ?_ (by decide) (by decide)
  show QK21 Z o sen kc_o v0 v2 v3 v4 v5 v6 v7 h0 n0 (some (.int (1 : Int32))) s₁.heap _
  rw [e0]
  exact ⟨rfl, N0, rfl⟩

theorem dK22_0 : decode method_3_code 0 = .ok (.iload_n 1, 1) := by decide +kernel
theorem dK22_1 : decode method_3_code 1 = .ok (.iload_n 2, 1) := by decide +kernel
theorem dK22_2 : decode method_3_code 2 = .ok (.if_icmp .lt 12, 3) := by decide +kernel
theorem dK22_5 : decode method_3_code 5 = .ok (.iload_n 1, 1) := by decide +kernel
theorem dK22_6 : decode method_3_code 6 = .ok (.iload_n 2, 1) := by decide +kernel
theorem dK22_7 : decode method_3_code 7 = .ok (.iconst 3, 1) := by decide +kernel
theorem dK22_8 : decode method_3_code 8 = .ok (.iadd, 1) := by decide +kernel
theorem dK22_9 : decode method_3_code 9 = .ok (.if_icmp .ge 5, 3) := by decide +kernel
theorem dK22_12 : decode method_3_code 12 = .ok (.iconst 1, 1) := by decide +kernel
theorem dK22_13 : decode method_3_code 13 = .ok (.ireturn, 1) := by decide +kernel
theorem pnK22 : plainName "com/example/pctenc/pctenc/EscapeWritePinLaw" = true := by first | (simp [plainName, overriddenIn]; done) | decide +kernel
theorem efK22 (m : MethodId) (o : Addr) (sen : Int32) : entryFrame m #[(.ref o), (.int (2 : Int32)), (.int (2 : Int32)), (.int sen)] 4 = mkF m 0 #[.val (.ref o), .val (.int (2 : Int32)), .val (.int (2 : Int32)), .val (.int sen)] [] := by first | (simp [entryFrame, mkF, argsToLocals, Value.category]; done) | rfl
def QK22 (Z : State) (o : Addr) (sen : Int32) (h0 : Heap) (n0 : Nat) (v : Option Value) (h : Heap) (L : List Loc) : Prop := (v = some (.int (1 : Int32)) ∧ Fr n0 L ∧ h = h0)
set_option maxRecDepth 65536 in
set_option maxHeartbeats 40000000 in
theorem rmK22 (l : Launch) (Z : State) (a0 : Array Value) (hw : ∀ d ∈ tables_1, d.before a0 Z = true) (ws : List Jvm.Cond) (o : Addr) (sen : Int32) (h0 : Heap) (n0 : Nat) (Z0 : n0 ≤ h0.size) :
    MetFree l (⟨"com/example/pctenc/pctenc/EscapeWritePinLaw", "kept", "([CIIC)Z"⟩ : MethodName) (head1 (Jvm.Cond.code (⟨"com/example/pctenc/pctenc/EscapeWritePinLaw", "kept", "([CIIC)Z"⟩ : MethodName) method_3_code 4 (some .boolean) :: ws) ({ frames := 0, cells := 0, slots := 0, locals := 0 } : Room)) (fun aa_ U_ => aa_ = #[(.ref o), (.int (2 : Int32)), (.int (2 : Int32)), (.int sen)] ∧ Z.Warmed39 U_.vm ∧ U_.heap = h0) (fun _ _ _ _ _ => True) (fun _ U_ o_ V_ => ∃ v_ L_, o_ = .returned v_ ∧ QK22 Z o sen h0 n0 v_ V_.heap L_ ∧ FrameEnd U_ o_ V_ L_ ({ frames := 0, cells := 0, slots := 0, locals := 0 } : Room).cells ({ frames := 0, cells := 0, slots := 0, locals := 0 } : Room).slots) := by
  refine MetFree.of_bodySF (plainFor_of_name pnK22) hisR ?_
  intro p e s m args below meth c s₁ Bd hml0 hP hK
  obtain ⟨rfl, hZ, hh⟩ := hP
  have hx := Bd.exec
  have hby := Bd.bytes
  have hml : c.maxLocals = 4 := hml0
  have hown : s.vm.findClass "com/example/pctenc/pctenc/EscapeWritePinLaw" = some m.cls := findClass_of_methodNamed Bd.named
  have hnm := (name_of_methodNamed Bd.named Bd.method).1
  have hlk : meth.locks = false := BodyLoose.notSynchronized Bd
  have hret : meth.sig.returnType = (some .boolean) := Bd.returns
  have X0 : Stand p l e ({ frames := 0, cells := 0, slots := 0, locals := 0 } : Room) s m #[(.ref o), (.int (2 : Int32)), (.int (2 : Int32)), (.int sen)] below meth c s₁ [] 0 0 := Stand.of_body Bd
  have e0 : s₁.heap = h0 := by rw [← hh, Bd.state]; rfl
  have N0 := Fr.nil n0
  show Go p e below s ({ frames := 0, cells := 0, slots := 0, locals := 0 } : Room).cells ({ frames := 0, cells := 0, slots := 0, locals := 0 } : Room).slots (QK22 Z o sen h0 n0) (s₁.setTop (entryFrame m #[(.ref o), (.int (2 : Int32)), (.int (2 : Int32)), (.int sen)] 4))
  rw [efK22]
  refine Go.by (fun _ kont => XS.iloadN X0.here hx rfl (hb hby dK22_0) rfl (XS.iloadN X0.here hx rfl (hb hby dK22_1) rfl (XS.icmpNo X0.here hx rfl (hb hby dK22_2) rfl (by decide) (XS.iloadN X0.here hx rfl (hb hby dK22_5) rfl (XS.iloadN X0.here hx rfl (hb hby dK22_6) rfl (XS.iconst X0.here hx rfl (hb hby dK22_7) kont)))))) ?_
  show Go _ _ _ _ _ _ _ (s₁.setTop (mkF m 8 #[.val (.ref o), .val (.int (2 : Int32)), .val (.int (2 : Int32)), .val (.int sen)] [(.int (3 : Int32)), (.int (2 : Int32)), (.int (2 : Int32))]))
  refine Go.by (fun _ kont => XS.iadd X0.here hx rfl (hb hby dK22_8) rfl kont) ?_
  show Go _ _ _ _ _ _ _ (s₁.setTop (mkF m 9 #[.val (.ref o), .val (.int (2 : Int32)), .val (.int (2 : Int32)), .val (.int sen)] [(.int ((2 : Int32) + (3 : Int32))), (.int (2 : Int32))]))
  rw [show ((2 : Int32) + (3 : Int32)) = (5 : Int32) from by decide]
  show Go _ _ _ _ _ _ _ (s₁.setTop (mkF m 9 #[.val (.ref o), .val (.int (2 : Int32)), .val (.int (2 : Int32)), .val (.int sen)] [(.int (5 : Int32)), (.int (2 : Int32))]))
  refine Go.by (fun _ kont => XS.icmpNo X0.here hx rfl (hb hby dK22_9) rfl (by decide) (XS.iconst X0.here hx rfl (hb hby dK22_12) kont)) ?_
  show Go _ _ _ _ _ _ _ (s₁.setTop (mkF m 13 #[.val (.ref o), .val (.int (2 : Int32)), .val (.int (2 : Int32)), .val (.int sen)] [(.int (1 : Int32))]))
  refine Go.retN X0 hx (t := .boolean) hret (by simp) hlk (hb hby dK22_13) ?_ (by decide) (by decide)
  show QK22 Z o sen h0 n0 (some (.int (1 : Int32))) s₁.heap _
  rw [e0]
  exact ⟨rfl, N0, rfl⟩

theorem dK23_0 : decode method_3_code 0 = .ok (.iload_n 1, 1) := by decide +kernel
theorem dK23_1 : decode method_3_code 1 = .ok (.iload_n 2, 1) := by decide +kernel
theorem dK23_2 : decode method_3_code 2 = .ok (.if_icmp .lt 12, 3) := by decide +kernel
theorem dK23_5 : decode method_3_code 5 = .ok (.iload_n 1, 1) := by decide +kernel
theorem dK23_6 : decode method_3_code 6 = .ok (.iload_n 2, 1) := by decide +kernel
theorem dK23_7 : decode method_3_code 7 = .ok (.iconst 3, 1) := by decide +kernel
theorem dK23_8 : decode method_3_code 8 = .ok (.iadd, 1) := by decide +kernel
theorem dK23_9 : decode method_3_code 9 = .ok (.if_icmp .ge 5, 3) := by decide +kernel
theorem dK23_12 : decode method_3_code 12 = .ok (.iconst 1, 1) := by decide +kernel
theorem dK23_13 : decode method_3_code 13 = .ok (.ireturn, 1) := by decide +kernel
theorem pnK23 : plainName "com/example/pctenc/pctenc/EscapeWritePinLaw" = true := by first | (simp [plainName, overriddenIn]; done) | decide +kernel
theorem efK23 (m : MethodId) (o : Addr) (sen : Int32) : entryFrame m #[(.ref o), (.int (3 : Int32)), (.int (2 : Int32)), (.int sen)] 4 = mkF m 0 #[.val (.ref o), .val (.int (3 : Int32)), .val (.int (2 : Int32)), .val (.int sen)] [] := by first | (simp [entryFrame, mkF, argsToLocals, Value.category]; done) | rfl
def QK23 (Z : State) (o : Addr) (sen : Int32) (h0 : Heap) (n0 : Nat) (v : Option Value) (h : Heap) (L : List Loc) : Prop := (v = some (.int (1 : Int32)) ∧ Fr n0 L ∧ h = h0)
set_option maxRecDepth 65536 in
set_option maxHeartbeats 40000000 in
theorem rmK23 (l : Launch) (Z : State) (a0 : Array Value) (hw : ∀ d ∈ tables_1, d.before a0 Z = true) (ws : List Jvm.Cond) (o : Addr) (sen : Int32) (h0 : Heap) (n0 : Nat) (Z0 : n0 ≤ h0.size) :
    MetFree l (⟨"com/example/pctenc/pctenc/EscapeWritePinLaw", "kept", "([CIIC)Z"⟩ : MethodName) (head1 (Jvm.Cond.code (⟨"com/example/pctenc/pctenc/EscapeWritePinLaw", "kept", "([CIIC)Z"⟩ : MethodName) method_3_code 4 (some .boolean) :: ws) ({ frames := 0, cells := 0, slots := 0, locals := 0 } : Room)) (fun aa_ U_ => aa_ = #[(.ref o), (.int (3 : Int32)), (.int (2 : Int32)), (.int sen)] ∧ Z.Warmed39 U_.vm ∧ U_.heap = h0) (fun _ _ _ _ _ => True) (fun _ U_ o_ V_ => ∃ v_ L_, o_ = .returned v_ ∧ QK23 Z o sen h0 n0 v_ V_.heap L_ ∧ FrameEnd U_ o_ V_ L_ ({ frames := 0, cells := 0, slots := 0, locals := 0 } : Room).cells ({ frames := 0, cells := 0, slots := 0, locals := 0 } : Room).slots) := by
  refine MetFree.of_bodySF (plainFor_of_name pnK23) hisR ?_
  intro p e s m args below meth c s₁ Bd hml0 hP hK
  obtain ⟨rfl, hZ, hh⟩ := hP
  have hx := Bd.exec
  have hby := Bd.bytes
  have hml : c.maxLocals = 4 := hml0
  have hown : s.vm.findClass "com/example/pctenc/pctenc/EscapeWritePinLaw" = some m.cls := findClass_of_methodNamed Bd.named
  have hnm := (name_of_methodNamed Bd.named Bd.method).1
  have hlk : meth.locks = false := BodyLoose.notSynchronized Bd
  have hret : meth.sig.returnType = (some .boolean) := Bd.returns
  have X0 : Stand p l e ({ frames := 0, cells := 0, slots := 0, locals := 0 } : Room) s m #[(.ref o), (.int (3 : Int32)), (.int (2 : Int32)), (.int sen)] below meth c s₁ [] 0 0 := Stand.of_body Bd
  have e0 : s₁.heap = h0 := by rw [← hh, Bd.state]; rfl
  have N0 := Fr.nil n0
  show Go p e below s ({ frames := 0, cells := 0, slots := 0, locals := 0 } : Room).cells ({ frames := 0, cells := 0, slots := 0, locals := 0 } : Room).slots (QK23 Z o sen h0 n0) (s₁.setTop (entryFrame m #[(.ref o), (.int (3 : Int32)), (.int (2 : Int32)), (.int sen)] 4))
  rw [efK23]
  refine Go.by (fun _ kont => XS.iloadN X0.here hx rfl (hb hby dK23_0) rfl (XS.iloadN X0.here hx rfl (hb hby dK23_1) rfl (XS.icmpNo X0.here hx rfl (hb hby dK23_2) rfl (by decide) (XS.iloadN X0.here hx rfl (hb hby dK23_5) rfl (XS.iloadN X0.here hx rfl (hb hby dK23_6) rfl (XS.iconst X0.here hx rfl (hb hby dK23_7) kont)))))) ?_
  show Go _ _ _ _ _ _ _ (s₁.setTop (mkF m 8 #[.val (.ref o), .val (.int (3 : Int32)), .val (.int (2 : Int32)), .val (.int sen)] [(.int (3 : Int32)), (.int (2 : Int32)), (.int (3 : Int32))]))
  refine Go.by (fun _ kont => XS.iadd X0.here hx rfl (hb hby dK23_8) rfl kont) ?_
  show Go _ _ _ _ _ _ _ (s₁.setTop (mkF m 9 #[.val (.ref o), .val (.int (3 : Int32)), .val (.int (2 : Int32)), .val (.int sen)] [(.int ((2 : Int32) + (3 : Int32))), (.int (3 : Int32))]))
  rw [show ((2 : Int32) + (3 : Int32)) = (5 : Int32) from by decide]
  show Go _ _ _ _ _ _ _ (s₁.setTop (mkF m 9 #[.val (.ref o), .val (.int (3 : Int32)), .val (.int (2 : Int32)), .val (.int sen)] [(.int (5 : Int32)), (.int (3 : Int32))]))
  refine Go.by (fun _ kont => XS.icmpNo X0.here hx rfl (hb hby dK23_9) rfl (by decide) (XS.iconst X0.here hx rfl (hb hby dK23_12) kont)) ?_
  show Go _ _ _ _ _ _ _ (s₁.setTop (mkF m 13 #[.val (.ref o), .val (.int (3 : Int32)), .val (.int (2 : Int32)), .val (.int sen)] [(.int (1 : Int32))]))
  refine Go.retN X0 hx (t := .boolean) hret (by simp) hlk (hb hby dK23_13) ?_ (by decide) (by decide)
  show QK23 Z o sen h0 n0 (some (.int (1 : Int32))) s₁.heap _
  rw [e0]
  exact ⟨rfl, N0, rfl⟩

theorem dK24_0 : decode method_3_code 0 = .ok (.iload_n 1, 1) := by decide +kernel
theorem dK24_1 : decode method_3_code 1 = .ok (.iload_n 2, 1) := by decide +kernel
theorem dK24_2 : decode method_3_code 2 = .ok (.if_icmp .lt 12, 3) := by decide +kernel
theorem dK24_5 : decode method_3_code 5 = .ok (.iload_n 1, 1) := by decide +kernel
theorem dK24_6 : decode method_3_code 6 = .ok (.iload_n 2, 1) := by decide +kernel
theorem dK24_7 : decode method_3_code 7 = .ok (.iconst 3, 1) := by decide +kernel
theorem dK24_8 : decode method_3_code 8 = .ok (.iadd, 1) := by decide +kernel
theorem dK24_9 : decode method_3_code 9 = .ok (.if_icmp .ge 5, 3) := by decide +kernel
theorem dK24_12 : decode method_3_code 12 = .ok (.iconst 1, 1) := by decide +kernel
theorem dK24_13 : decode method_3_code 13 = .ok (.ireturn, 1) := by decide +kernel
theorem pnK24 : plainName "com/example/pctenc/pctenc/EscapeWritePinLaw" = true := by first | (simp [plainName, overriddenIn]; done) | decide +kernel
theorem efK24 (m : MethodId) (o : Addr) (sen : Int32) : entryFrame m #[(.ref o), (.int (4 : Int32)), (.int (2 : Int32)), (.int sen)] 4 = mkF m 0 #[.val (.ref o), .val (.int (4 : Int32)), .val (.int (2 : Int32)), .val (.int sen)] [] := by first | (simp [entryFrame, mkF, argsToLocals, Value.category]; done) | rfl
def QK24 (Z : State) (o : Addr) (sen : Int32) (h0 : Heap) (n0 : Nat) (v : Option Value) (h : Heap) (L : List Loc) : Prop := (v = some (.int (1 : Int32)) ∧ Fr n0 L ∧ h = h0)
set_option maxRecDepth 65536 in
set_option maxHeartbeats 40000000 in
theorem rmK24 (l : Launch) (Z : State) (a0 : Array Value) (hw : ∀ d ∈ tables_1, d.before a0 Z = true) (ws : List Jvm.Cond) (o : Addr) (sen : Int32) (h0 : Heap) (n0 : Nat) (Z0 : n0 ≤ h0.size) :
    MetFree l (⟨"com/example/pctenc/pctenc/EscapeWritePinLaw", "kept", "([CIIC)Z"⟩ : MethodName) (head1 (Jvm.Cond.code (⟨"com/example/pctenc/pctenc/EscapeWritePinLaw", "kept", "([CIIC)Z"⟩ : MethodName) method_3_code 4 (some .boolean) :: ws) ({ frames := 0, cells := 0, slots := 0, locals := 0 } : Room)) (fun aa_ U_ => aa_ = #[(.ref o), (.int (4 : Int32)), (.int (2 : Int32)), (.int sen)] ∧ Z.Warmed39 U_.vm ∧ U_.heap = h0) (fun _ _ _ _ _ => True) (fun _ U_ o_ V_ => ∃ v_ L_, o_ = .returned v_ ∧ QK24 Z o sen h0 n0 v_ V_.heap L_ ∧ FrameEnd U_ o_ V_ L_ ({ frames := 0, cells := 0, slots := 0, locals := 0 } : Room).cells ({ frames := 0, cells := 0, slots := 0, locals := 0 } : Room).slots) := by
  refine MetFree.of_bodySF (plainFor_of_name pnK24) hisR ?_
  intro p e s m args below meth c s₁ Bd hml0 hP hK
  obtain ⟨rfl, hZ, hh⟩ := hP
  have hx := Bd.exec
  have hby := Bd.bytes
  have hml : c.maxLocals = 4 := hml0
  have hown : s.vm.findClass "com/example/pctenc/pctenc/EscapeWritePinLaw" = some m.cls := findClass_of_methodNamed Bd.named
  have hnm := (name_of_methodNamed Bd.named Bd.method).1
  have hlk : meth.locks = false := BodyLoose.notSynchronized Bd
  have hret : meth.sig.returnType = (some .boolean) := Bd.returns
  have X0 : Stand p l e ({ frames := 0, cells := 0, slots := 0, locals := 0 } : Room) s m #[(.ref o), (.int (4 : Int32)), (.int (2 : Int32)), (.int sen)] below meth c s₁ [] 0 0 := Stand.of_body Bd
  have e0 : s₁.heap = h0 := by rw [← hh, Bd.state]; rfl
  have N0 := Fr.nil n0
  show Go p e below s ({ frames := 0, cells := 0, slots := 0, locals := 0 } : Room).cells ({ frames := 0, cells := 0, slots := 0, locals := 0 } : Room).slots (QK24 Z o sen h0 n0) (s₁.setTop (entryFrame m #[(.ref o), (.int (4 : Int32)), (.int (2 : Int32)), (.int sen)] 4))
  rw [efK24]
  refine Go.by (fun _ kont => XS.iloadN X0.here hx rfl (hb hby dK24_0) rfl (XS.iloadN X0.here hx rfl (hb hby dK24_1) rfl (XS.icmpNo X0.here hx rfl (hb hby dK24_2) rfl (by decide) (XS.iloadN X0.here hx rfl (hb hby dK24_5) rfl (XS.iloadN X0.here hx rfl (hb hby dK24_6) rfl (XS.iconst X0.here hx rfl (hb hby dK24_7) kont)))))) ?_
  show Go _ _ _ _ _ _ _ (s₁.setTop (mkF m 8 #[.val (.ref o), .val (.int (4 : Int32)), .val (.int (2 : Int32)), .val (.int sen)] [(.int (3 : Int32)), (.int (2 : Int32)), (.int (4 : Int32))]))
  refine Go.by (fun _ kont => XS.iadd X0.here hx rfl (hb hby dK24_8) rfl kont) ?_
  show Go _ _ _ _ _ _ _ (s₁.setTop (mkF m 9 #[.val (.ref o), .val (.int (4 : Int32)), .val (.int (2 : Int32)), .val (.int sen)] [(.int ((2 : Int32) + (3 : Int32))), (.int (4 : Int32))]))
  rw [show ((2 : Int32) + (3 : Int32)) = (5 : Int32) from by decide]
  show Go _ _ _ _ _ _ _ (s₁.setTop (mkF m 9 #[.val (.ref o), .val (.int (4 : Int32)), .val (.int (2 : Int32)), .val (.int sen)] [(.int (5 : Int32)), (.int (4 : Int32))]))
  refine Go.by (fun _ kont => XS.icmpNo X0.here hx rfl (hb hby dK24_9) rfl (by decide) (XS.iconst X0.here hx rfl (hb hby dK24_12) kont)) ?_
  show Go _ _ _ _ _ _ _ (s₁.setTop (mkF m 13 #[.val (.ref o), .val (.int (4 : Int32)), .val (.int (2 : Int32)), .val (.int sen)] [(.int (1 : Int32))]))
  refine Go.retN X0 hx (t := .boolean) hret (by simp) hlk (hb hby dK24_13) ?_ (by decide) (by decide)
  show QK24 Z o sen h0 n0 (some (.int (1 : Int32))) s₁.heap _
  rw [e0]
  exact ⟨rfl, N0, rfl⟩

theorem dK25_0 : decode method_3_code 0 = .ok (.iload_n 1, 1) := by decide +kernel
theorem dK25_1 : decode method_3_code 1 = .ok (.iload_n 2, 1) := by decide +kernel
theorem dK25_2 : decode method_3_code 2 = .ok (.if_icmp .lt 12, 3) := by decide +kernel
theorem dK25_5 : decode method_3_code 5 = .ok (.iload_n 1, 1) := by decide +kernel
theorem dK25_6 : decode method_3_code 6 = .ok (.iload_n 2, 1) := by decide +kernel
theorem dK25_7 : decode method_3_code 7 = .ok (.iconst 3, 1) := by decide +kernel
theorem dK25_8 : decode method_3_code 8 = .ok (.iadd, 1) := by decide +kernel
theorem dK25_9 : decode method_3_code 9 = .ok (.if_icmp .ge 5, 3) := by decide +kernel
theorem dK25_14 : decode method_3_code 14 = .ok (.aload_n 0, 1) := by decide +kernel
theorem dK25_15 : decode method_3_code 15 = .ok (.iload_n 1, 1) := by decide +kernel
theorem dK25_16 : decode method_3_code 16 = .ok (.caload, 1) := by decide +kernel
theorem dK25_17 : decode method_3_code 17 = .ok (.iload_n 3, 1) := by decide +kernel
theorem dK25_18 : decode method_3_code 18 = .ok (.if_icmp .ne 7, 3) := by decide +kernel
theorem dK25_21 : decode method_3_code 21 = .ok (.iconst 1, 1) := by decide +kernel
theorem dK25_22 : decode method_3_code 22 = .ok (.goto 4, 3) := by decide +kernel
theorem dK25_26 : decode method_3_code 26 = .ok (.ireturn, 1) := by decide +kernel
theorem pnK25 : plainName "com/example/pctenc/pctenc/EscapeWritePinLaw" = true := by first | (simp [plainName, overriddenIn]; done) | decide +kernel
theorem efK25 (m : MethodId) (o : Addr) (sen : Int32) : entryFrame m #[(.ref o), (.int (5 : Int32)), (.int (2 : Int32)), (.int sen)] 4 = mkF m 0 #[.val (.ref o), .val (.int (5 : Int32)), .val (.int (2 : Int32)), .val (.int sen)] [] := by first | (simp [entryFrame, mkF, argsToLocals, Value.category]; done) | rfl
def QK25 (Z : State) (o : Addr) (sen : Int32) (kc_o : ClassId) (v0 : Int32) (v1 : Int32) (v2 : Int32) (v3 : Int32) (v4 : Int32) (v6 : Int32) (v7 : Int32) (h0 : Heap) (n0 : Nat) (v : Option Value) (h : Heap) (L : List Loc) : Prop := (v = some (.int (1 : Int32)) ∧ Fr n0 L ∧ h = h0)
set_option maxRecDepth 65536 in
set_option maxHeartbeats 40000000 in
theorem rmK25 (l : Launch) (Z : State) (a0 : Array Value) (hw : ∀ d ∈ tables_1, d.before a0 Z = true) (ws : List Jvm.Cond) (o : Addr) (sen : Int32) (kc_o : ClassId) (v0 : Int32) (v1 : Int32) (v2 : Int32) (v3 : Int32) (v4 : Int32) (v6 : Int32) (v7 : Int32) (h0 : Heap) (n0 : Nat) (Z0 : n0 ≤ h0.size) (V0_o : Arv Z h0 o kc_o .char (8 : Int32) [(.int v0), (.int v1), (.int v2), (.int v3), (.int v4), (.int (nar .char sen)), (.int v6), (.int v7)] (.int (0 : Int32))) (hsen : (nar .char sen) = sen) :
    MetFree l (⟨"com/example/pctenc/pctenc/EscapeWritePinLaw", "kept", "([CIIC)Z"⟩ : MethodName) (head1 (Jvm.Cond.code (⟨"com/example/pctenc/pctenc/EscapeWritePinLaw", "kept", "([CIIC)Z"⟩ : MethodName) method_3_code 4 (some .boolean) :: ws) ({ frames := 0, cells := 0, slots := 0, locals := 0 } : Room)) (fun aa_ U_ => aa_ = #[(.ref o), (.int (5 : Int32)), (.int (2 : Int32)), (.int sen)] ∧ Z.Warmed39 U_.vm ∧ U_.heap = h0) (fun _ _ _ _ _ => True) (fun _ U_ o_ V_ => ∃ v_ L_, o_ = .returned v_ ∧ QK25 Z o sen kc_o v0 v1 v2 v3 v4 v6 v7 h0 n0 v_ V_.heap L_ ∧ FrameEnd U_ o_ V_ L_ ({ frames := 0, cells := 0, slots := 0, locals := 0 } : Room).cells ({ frames := 0, cells := 0, slots := 0, locals := 0 } : Room).slots) := by
  refine MetFree.of_bodySF (plainFor_of_name pnK25) hisR ?_
  intro p e s m args below meth c s₁ Bd hml0 hP hK
  obtain ⟨rfl, hZ, hh⟩ := hP
  have hx := Bd.exec
  have hby := Bd.bytes
  have hml : c.maxLocals = 4 := hml0
  have hown : s.vm.findClass "com/example/pctenc/pctenc/EscapeWritePinLaw" = some m.cls := findClass_of_methodNamed Bd.named
  have hnm := (name_of_methodNamed Bd.named Bd.method).1
  have hlk : meth.locks = false := BodyLoose.notSynchronized Bd
  have hret : meth.sig.returnType = (some .boolean) := Bd.returns
  have X0 : Stand p l e ({ frames := 0, cells := 0, slots := 0, locals := 0 } : Room) s m #[(.ref o), (.int (5 : Int32)), (.int (2 : Int32)), (.int sen)] below meth c s₁ [] 0 0 := Stand.of_body Bd
  have e0 : s₁.heap = h0 := by rw [← hh, Bd.state]; rfl
  have N0 := Fr.nil n0
  show Go p e below s ({ frames := 0, cells := 0, slots := 0, locals := 0 } : Room).cells ({ frames := 0, cells := 0, slots := 0, locals := 0 } : Room).slots (QK25 Z o sen kc_o v0 v1 v2 v3 v4 v6 v7 h0 n0) (s₁.setTop (entryFrame m #[(.ref o), (.int (5 : Int32)), (.int (2 : Int32)), (.int sen)] 4))
  rw [efK25]
  refine Go.by (fun _ kont => XS.iloadN X0.here hx rfl (hb hby dK25_0) rfl (XS.iloadN X0.here hx rfl (hb hby dK25_1) rfl (XS.icmpNo X0.here hx rfl (hb hby dK25_2) rfl (by decide) (XS.iloadN X0.here hx rfl (hb hby dK25_5) rfl (XS.iloadN X0.here hx rfl (hb hby dK25_6) rfl (XS.iconst X0.here hx rfl (hb hby dK25_7) kont)))))) ?_
  show Go _ _ _ _ _ _ _ (s₁.setTop (mkF m 8 #[.val (.ref o), .val (.int (5 : Int32)), .val (.int (2 : Int32)), .val (.int sen)] [(.int (3 : Int32)), (.int (2 : Int32)), (.int (5 : Int32))]))
  refine Go.by (fun _ kont => XS.iadd X0.here hx rfl (hb hby dK25_8) rfl kont) ?_
  show Go _ _ _ _ _ _ _ (s₁.setTop (mkF m 9 #[.val (.ref o), .val (.int (5 : Int32)), .val (.int (2 : Int32)), .val (.int sen)] [(.int ((2 : Int32) + (3 : Int32))), (.int (5 : Int32))]))
  rw [show ((2 : Int32) + (3 : Int32)) = (5 : Int32) from by decide]
  show Go _ _ _ _ _ _ _ (s₁.setTop (mkF m 9 #[.val (.ref o), .val (.int (5 : Int32)), .val (.int (2 : Int32)), .val (.int sen)] [(.int (5 : Int32)), (.int (5 : Int32))]))
  refine Go.by (fun _ kont => XS.icmpYes X0.here hx rfl (pc0 := 9) (pc' := 14) rfl (hb hby dK25_9) rfl (by decide) (by decide) (by decide) (XS.aloadN X0.here hx rfl (hb hby dK25_14) rfl rfl (XS.iloadN X0.here hx rfl (hb hby dK25_15) rfl kont))) ?_
  show Go _ _ _ _ _ _ _ (s₁.setTop (mkF m 16 #[.val (.ref o), .val (.int (5 : Int32)), .val (.int (2 : Int32)), .val (.int sen)] [(.int (5 : Int32)), (.ref o)]))
  obtain ⟨cl_q101, Ar_q101, q1_q101, S_q101, N_q101, H_q101, G_q101⟩ := id V0_o
  have hin_q101 : ¬ ((5 : Int32) < 0 ∨ cl_q101.slots.size ≤ ((5 : Int32)).toNatClampNeg) := inb_of S_q101 ⟨by decide, by decide⟩
  have hat_q101 : cl_q101.slots[((5 : Int32)).toNatClampNeg]? = some (.int (nar .char sen)) := Has.at H_q101 hin_q101 rfl
  refine Go.by (X0.caload hx (j := (5 : Int32)) (v := (.int (nar .char sen))) (by first | exact Ar_q101.1 | (rw [e0]; exact Ar_q101.1)) (State.isArrayOf_alike hZ.alike Ar_q101.2.1) Ar_q101.2.2 hin_q101 hat_q101 (g := (mkF m 16 #[.val (.ref o), .val (.int (5 : Int32)), .val (.int (2 : Int32)), .val (.int sen)] [(.int (5 : Int32)), (.ref o)])) rfl rfl (hb hby dK25_16)) ?_
  show Go _ _ _ _ _ _ _ (s₁.setTop (mkF m 17 #[.val (.ref o), .val (.int (5 : Int32)), .val (.int (2 : Int32)), .val (.int sen)] [(.int (nar .char sen))]))
  refine Go.by (fun _ kont => XS.iloadN X0.here hx rfl (hb hby dK25_17) rfl kont) ?_
  show Go _ _ _ _ _ _ _ (s₁.setTop (mkF m 18 #[.val (.ref o), .val (.int (5 : Int32)), .val (.int (2 : Int32)), .val (.int sen)] [(.int sen), (.int (nar .char sen))]))
  refine Go.by (fun _ kont => XS.icmpNo X0.here hx rfl (hb hby dK25_18) rfl (teq hsen).2 kont) ?_
  show Go _ _ _ _ _ _ _ (s₁.setTop (mkF m 21 #[.val (.ref o), .val (.int (5 : Int32)), .val (.int (2 : Int32)), .val (.int sen)] []))
  refine Go.by (fun _ kont => XS.iconst X0.here hx rfl (hb hby dK25_21) (XS.goto X0.here hx rfl (pc0 := 22) (pc' := 26) rfl (hb hby dK25_22) (by decide) (by decide) kont)) ?_
  show Go _ _ _ _ _ _ _ (s₁.setTop (mkF m 26 #[.val (.ref o), .val (.int (5 : Int32)), .val (.int (2 : Int32)), .val (.int sen)] [(.int (1 : Int32))]))
  refine Go.retN X0 hx (t := .boolean) hret (by simp) hlk (hb hby dK25_26) ?_ (by decide) (by decide)
  show QK25 Z o sen kc_o v0 v1 v2 v3 v4 v6 v7 h0 n0 (some (.int (1 : Int32))) s₁.heap _
  rw [e0]
  exact ⟨rfl, N0, rfl⟩

theorem dK26_0 : decode method_3_code 0 = .ok (.iload_n 1, 1) := by decide +kernel
theorem dK26_1 : decode method_3_code 1 = .ok (.iload_n 2, 1) := by decide +kernel
theorem dK26_2 : decode method_3_code 2 = .ok (.if_icmp .lt 12, 3) := by decide +kernel
theorem dK26_5 : decode method_3_code 5 = .ok (.iload_n 1, 1) := by decide +kernel
theorem dK26_6 : decode method_3_code 6 = .ok (.iload_n 2, 1) := by decide +kernel
theorem dK26_7 : decode method_3_code 7 = .ok (.iconst 3, 1) := by decide +kernel
theorem dK26_8 : decode method_3_code 8 = .ok (.iadd, 1) := by decide +kernel
theorem dK26_9 : decode method_3_code 9 = .ok (.if_icmp .ge 5, 3) := by decide +kernel
theorem dK26_14 : decode method_3_code 14 = .ok (.aload_n 0, 1) := by decide +kernel
theorem dK26_15 : decode method_3_code 15 = .ok (.iload_n 1, 1) := by decide +kernel
theorem dK26_16 : decode method_3_code 16 = .ok (.caload, 1) := by decide +kernel
theorem dK26_17 : decode method_3_code 17 = .ok (.iload_n 3, 1) := by decide +kernel
theorem dK26_18 : decode method_3_code 18 = .ok (.if_icmp .ne 7, 3) := by decide +kernel
theorem dK26_21 : decode method_3_code 21 = .ok (.iconst 1, 1) := by decide +kernel
theorem dK26_22 : decode method_3_code 22 = .ok (.goto 4, 3) := by decide +kernel
theorem dK26_26 : decode method_3_code 26 = .ok (.ireturn, 1) := by decide +kernel
theorem pnK26 : plainName "com/example/pctenc/pctenc/EscapeWritePinLaw" = true := by first | (simp [plainName, overriddenIn]; done) | decide +kernel
theorem efK26 (m : MethodId) (o : Addr) (sen : Int32) : entryFrame m #[(.ref o), (.int (6 : Int32)), (.int (2 : Int32)), (.int sen)] 4 = mkF m 0 #[.val (.ref o), .val (.int (6 : Int32)), .val (.int (2 : Int32)), .val (.int sen)] [] := by first | (simp [entryFrame, mkF, argsToLocals, Value.category]; done) | rfl
def QK26 (Z : State) (o : Addr) (sen : Int32) (kc_o : ClassId) (v0 : Int32) (v1 : Int32) (v2 : Int32) (v3 : Int32) (v4 : Int32) (v5 : Int32) (v7 : Int32) (h0 : Heap) (n0 : Nat) (v : Option Value) (h : Heap) (L : List Loc) : Prop := (v = some (.int (1 : Int32)) ∧ Fr n0 L ∧ h = h0)
set_option maxRecDepth 65536 in
set_option maxHeartbeats 40000000 in
theorem rmK26 (l : Launch) (Z : State) (a0 : Array Value) (hw : ∀ d ∈ tables_1, d.before a0 Z = true) (ws : List Jvm.Cond) (o : Addr) (sen : Int32) (kc_o : ClassId) (v0 : Int32) (v1 : Int32) (v2 : Int32) (v3 : Int32) (v4 : Int32) (v5 : Int32) (v7 : Int32) (h0 : Heap) (n0 : Nat) (Z0 : n0 ≤ h0.size) (V0_o : Arv Z h0 o kc_o .char (8 : Int32) [(.int v0), (.int v1), (.int v2), (.int v3), (.int v4), (.int v5), (.int (nar .char sen)), (.int v7)] (.int (0 : Int32))) (hsen : (nar .char sen) = sen) :
    MetFree l (⟨"com/example/pctenc/pctenc/EscapeWritePinLaw", "kept", "([CIIC)Z"⟩ : MethodName) (head1 (Jvm.Cond.code (⟨"com/example/pctenc/pctenc/EscapeWritePinLaw", "kept", "([CIIC)Z"⟩ : MethodName) method_3_code 4 (some .boolean) :: ws) ({ frames := 0, cells := 0, slots := 0, locals := 0 } : Room)) (fun aa_ U_ => aa_ = #[(.ref o), (.int (6 : Int32)), (.int (2 : Int32)), (.int sen)] ∧ Z.Warmed39 U_.vm ∧ U_.heap = h0) (fun _ _ _ _ _ => True) (fun _ U_ o_ V_ => ∃ v_ L_, o_ = .returned v_ ∧ QK26 Z o sen kc_o v0 v1 v2 v3 v4 v5 v7 h0 n0 v_ V_.heap L_ ∧ FrameEnd U_ o_ V_ L_ ({ frames := 0, cells := 0, slots := 0, locals := 0 } : Room).cells ({ frames := 0, cells := 0, slots := 0, locals := 0 } : Room).slots) := by
  refine MetFree.of_bodySF (plainFor_of_name pnK26) hisR ?_
  intro p e s m args below meth c s₁ Bd hml0 hP hK
  obtain ⟨rfl, hZ, hh⟩ := hP
  have hx := Bd.exec
  have hby := Bd.bytes
  have hml : c.maxLocals = 4 := hml0
  have hown : s.vm.findClass "com/example/pctenc/pctenc/EscapeWritePinLaw" = some m.cls := findClass_of_methodNamed Bd.named
  have hnm := (name_of_methodNamed Bd.named Bd.method).1
  have hlk : meth.locks = false := BodyLoose.notSynchronized Bd
  have hret : meth.sig.returnType = (some .boolean) := Bd.returns
  have X0 : Stand p l e ({ frames := 0, cells := 0, slots := 0, locals := 0 } : Room) s m #[(.ref o), (.int (6 : Int32)), (.int (2 : Int32)), (.int sen)] below meth c s₁ [] 0 0 := Stand.of_body Bd
  have e0 : s₁.heap = h0 := by rw [← hh, Bd.state]; rfl
  have N0 := Fr.nil n0
  show Go p e below s ({ frames := 0, cells := 0, slots := 0, locals := 0 } : Room).cells ({ frames := 0, cells := 0, slots := 0, locals := 0 } : Room).slots (QK26 Z o sen kc_o v0 v1 v2 v3 v4 v5 v7 h0 n0) (s₁.setTop (entryFrame m #[(.ref o), (.int (6 : Int32)), (.int (2 : Int32)), (.int sen)] 4))
  rw [efK26]
  refine Go.by (fun _ kont => XS.iloadN X0.here hx rfl (hb hby dK26_0) rfl (XS.iloadN X0.here hx rfl (hb hby dK26_1) rfl (XS.icmpNo X0.here hx rfl (hb hby dK26_2) rfl (by decide) (XS.iloadN X0.here hx rfl (hb hby dK26_5) rfl (XS.iloadN X0.here hx rfl (hb hby dK26_6) rfl (XS.iconst X0.here hx rfl (hb hby dK26_7) kont)))))) ?_
  show Go _ _ _ _ _ _ _ (s₁.setTop (mkF m 8 #[.val (.ref o), .val (.int (6 : Int32)), .val (.int (2 : Int32)), .val (.int sen)] [(.int (3 : Int32)), (.int (2 : Int32)), (.int (6 : Int32))]))
  refine Go.by (fun _ kont => XS.iadd X0.here hx rfl (hb hby dK26_8) rfl kont) ?_
  show Go _ _ _ _ _ _ _ (s₁.setTop (mkF m 9 #[.val (.ref o), .val (.int (6 : Int32)), .val (.int (2 : Int32)), .val (.int sen)] [(.int ((2 : Int32) + (3 : Int32))), (.int (6 : Int32))]))
  rw [show ((2 : Int32) + (3 : Int32)) = (5 : Int32) from by decide]
  show Go _ _ _ _ _ _ _ (s₁.setTop (mkF m 9 #[.val (.ref o), .val (.int (6 : Int32)), .val (.int (2 : Int32)), .val (.int sen)] [(.int (5 : Int32)), (.int (6 : Int32))]))
  refine Go.by (fun _ kont => XS.icmpYes X0.here hx rfl (pc0 := 9) (pc' := 14) rfl (hb hby dK26_9) rfl (by decide) (by decide) (by decide) (XS.aloadN X0.here hx rfl (hb hby dK26_14) rfl rfl (XS.iloadN X0.here hx rfl (hb hby dK26_15) rfl kont))) ?_
  show Go _ _ _ _ _ _ _ (s₁.setTop (mkF m 16 #[.val (.ref o), .val (.int (6 : Int32)), .val (.int (2 : Int32)), .val (.int sen)] [(.int (6 : Int32)), (.ref o)]))
  obtain ⟨cl_q101, Ar_q101, q1_q101, S_q101, N_q101, H_q101, G_q101⟩ := id V0_o
  have hin_q101 : ¬ ((6 : Int32) < 0 ∨ cl_q101.slots.size ≤ ((6 : Int32)).toNatClampNeg) := inb_of S_q101 ⟨by decide, by decide⟩
  have hat_q101 : cl_q101.slots[((6 : Int32)).toNatClampNeg]? = some (.int (nar .char sen)) := Has.at H_q101 hin_q101 rfl
  refine Go.by (X0.caload hx (j := (6 : Int32)) (v := (.int (nar .char sen))) (by first | exact Ar_q101.1 | (rw [e0]; exact Ar_q101.1)) (State.isArrayOf_alike hZ.alike Ar_q101.2.1) Ar_q101.2.2 hin_q101 hat_q101 (g := (mkF m 16 #[.val (.ref o), .val (.int (6 : Int32)), .val (.int (2 : Int32)), .val (.int sen)] [(.int (6 : Int32)), (.ref o)])) rfl rfl (hb hby dK26_16)) ?_
  show Go _ _ _ _ _ _ _ (s₁.setTop (mkF m 17 #[.val (.ref o), .val (.int (6 : Int32)), .val (.int (2 : Int32)), .val (.int sen)] [(.int (nar .char sen))]))
  refine Go.by (fun _ kont => XS.iloadN X0.here hx rfl (hb hby dK26_17) rfl kont) ?_
  show Go _ _ _ _ _ _ _ (s₁.setTop (mkF m 18 #[.val (.ref o), .val (.int (6 : Int32)), .val (.int (2 : Int32)), .val (.int sen)] [(.int sen), (.int (nar .char sen))]))
  refine Go.by (fun _ kont => XS.icmpNo X0.here hx rfl (hb hby dK26_18) rfl (teq hsen).2 kont) ?_
  show Go _ _ _ _ _ _ _ (s₁.setTop (mkF m 21 #[.val (.ref o), .val (.int (6 : Int32)), .val (.int (2 : Int32)), .val (.int sen)] []))
  refine Go.by (fun _ kont => XS.iconst X0.here hx rfl (hb hby dK26_21) (XS.goto X0.here hx rfl (pc0 := 22) (pc' := 26) rfl (hb hby dK26_22) (by decide) (by decide) kont)) ?_
  show Go _ _ _ _ _ _ _ (s₁.setTop (mkF m 26 #[.val (.ref o), .val (.int (6 : Int32)), .val (.int (2 : Int32)), .val (.int sen)] [(.int (1 : Int32))]))
  refine Go.retN X0 hx (t := .boolean) hret (by simp) hlk (hb hby dK26_26) ?_ (by decide) (by decide)
  show QK26 Z o sen kc_o v0 v1 v2 v3 v4 v5 v7 h0 n0 (some (.int (1 : Int32))) s₁.heap _
  rw [e0]
  exact ⟨rfl, N0, rfl⟩

theorem dK27_0 : decode method_3_code 0 = .ok (.iload_n 1, 1) := by decide +kernel
theorem dK27_1 : decode method_3_code 1 = .ok (.iload_n 2, 1) := by decide +kernel
theorem dK27_2 : decode method_3_code 2 = .ok (.if_icmp .lt 12, 3) := by decide +kernel
theorem dK27_5 : decode method_3_code 5 = .ok (.iload_n 1, 1) := by decide +kernel
theorem dK27_6 : decode method_3_code 6 = .ok (.iload_n 2, 1) := by decide +kernel
theorem dK27_7 : decode method_3_code 7 = .ok (.iconst 3, 1) := by decide +kernel
theorem dK27_8 : decode method_3_code 8 = .ok (.iadd, 1) := by decide +kernel
theorem dK27_9 : decode method_3_code 9 = .ok (.if_icmp .ge 5, 3) := by decide +kernel
theorem dK27_14 : decode method_3_code 14 = .ok (.aload_n 0, 1) := by decide +kernel
theorem dK27_15 : decode method_3_code 15 = .ok (.iload_n 1, 1) := by decide +kernel
theorem dK27_16 : decode method_3_code 16 = .ok (.caload, 1) := by decide +kernel
theorem dK27_17 : decode method_3_code 17 = .ok (.iload_n 3, 1) := by decide +kernel
theorem dK27_18 : decode method_3_code 18 = .ok (.if_icmp .ne 7, 3) := by decide +kernel
theorem dK27_21 : decode method_3_code 21 = .ok (.iconst 1, 1) := by decide +kernel
theorem dK27_22 : decode method_3_code 22 = .ok (.goto 4, 3) := by decide +kernel
theorem dK27_26 : decode method_3_code 26 = .ok (.ireturn, 1) := by decide +kernel
theorem pnK27 : plainName "com/example/pctenc/pctenc/EscapeWritePinLaw" = true := by first | (simp [plainName, overriddenIn]; done) | decide +kernel
theorem efK27 (m : MethodId) (o : Addr) (sen : Int32) : entryFrame m #[(.ref o), (.int (7 : Int32)), (.int (2 : Int32)), (.int sen)] 4 = mkF m 0 #[.val (.ref o), .val (.int (7 : Int32)), .val (.int (2 : Int32)), .val (.int sen)] [] := by first | (simp [entryFrame, mkF, argsToLocals, Value.category]; done) | rfl
def QK27 (Z : State) (o : Addr) (sen : Int32) (kc_o : ClassId) (v0 : Int32) (v1 : Int32) (v2 : Int32) (v3 : Int32) (v4 : Int32) (v5 : Int32) (v6 : Int32) (h0 : Heap) (n0 : Nat) (v : Option Value) (h : Heap) (L : List Loc) : Prop := (v = some (.int (1 : Int32)) ∧ Fr n0 L ∧ h = h0)
set_option maxRecDepth 65536 in
set_option maxHeartbeats 40000000 in
theorem rmK27 (l : Launch) (Z : State) (a0 : Array Value) (hw : ∀ d ∈ tables_1, d.before a0 Z = true) (ws : List Jvm.Cond) (o : Addr) (sen : Int32) (kc_o : ClassId) (v0 : Int32) (v1 : Int32) (v2 : Int32) (v3 : Int32) (v4 : Int32) (v5 : Int32) (v6 : Int32) (h0 : Heap) (n0 : Nat) (Z0 : n0 ≤ h0.size) (V0_o : Arv Z h0 o kc_o .char (8 : Int32) [(.int v0), (.int v1), (.int v2), (.int v3), (.int v4), (.int v5), (.int v6), (.int (nar .char sen))] (.int (0 : Int32))) (hsen : (nar .char sen) = sen) :
    MetFree l (⟨"com/example/pctenc/pctenc/EscapeWritePinLaw", "kept", "([CIIC)Z"⟩ : MethodName) (head1 (Jvm.Cond.code (⟨"com/example/pctenc/pctenc/EscapeWritePinLaw", "kept", "([CIIC)Z"⟩ : MethodName) method_3_code 4 (some .boolean) :: ws) ({ frames := 0, cells := 0, slots := 0, locals := 0 } : Room)) (fun aa_ U_ => aa_ = #[(.ref o), (.int (7 : Int32)), (.int (2 : Int32)), (.int sen)] ∧ Z.Warmed39 U_.vm ∧ U_.heap = h0) (fun _ _ _ _ _ => True) (fun _ U_ o_ V_ => ∃ v_ L_, o_ = .returned v_ ∧ QK27 Z o sen kc_o v0 v1 v2 v3 v4 v5 v6 h0 n0 v_ V_.heap L_ ∧ FrameEnd U_ o_ V_ L_ ({ frames := 0, cells := 0, slots := 0, locals := 0 } : Room).cells ({ frames := 0, cells := 0, slots := 0, locals := 0 } : Room).slots) := by
  refine MetFree.of_bodySF (plainFor_of_name pnK27) hisR ?_
  intro p e s m args below meth c s₁ Bd hml0 hP hK
  obtain ⟨rfl, hZ, hh⟩ := hP
  have hx := Bd.exec
  have hby := Bd.bytes
  have hml : c.maxLocals = 4 := hml0
  have hown : s.vm.findClass "com/example/pctenc/pctenc/EscapeWritePinLaw" = some m.cls := findClass_of_methodNamed Bd.named
  have hnm := (name_of_methodNamed Bd.named Bd.method).1
  have hlk : meth.locks = false := BodyLoose.notSynchronized Bd
  have hret : meth.sig.returnType = (some .boolean) := Bd.returns
  have X0 : Stand p l e ({ frames := 0, cells := 0, slots := 0, locals := 0 } : Room) s m #[(.ref o), (.int (7 : Int32)), (.int (2 : Int32)), (.int sen)] below meth c s₁ [] 0 0 := Stand.of_body Bd
  have e0 : s₁.heap = h0 := by rw [← hh, Bd.state]; rfl
  have N0 := Fr.nil n0
  show Go p e below s ({ frames := 0, cells := 0, slots := 0, locals := 0 } : Room).cells ({ frames := 0, cells := 0, slots := 0, locals := 0 } : Room).slots (QK27 Z o sen kc_o v0 v1 v2 v3 v4 v5 v6 h0 n0) (s₁.setTop (entryFrame m #[(.ref o), (.int (7 : Int32)), (.int (2 : Int32)), (.int sen)] 4))
  rw [efK27]
  refine Go.by (fun _ kont => XS.iloadN X0.here hx rfl (hb hby dK27_0) rfl (XS.iloadN X0.here hx rfl (hb hby dK27_1) rfl (XS.icmpNo X0.here hx rfl (hb hby dK27_2) rfl (by decide) (XS.iloadN X0.here hx rfl (hb hby dK27_5) rfl (XS.iloadN X0.here hx rfl (hb hby dK27_6) rfl (XS.iconst X0.here hx rfl (hb hby dK27_7) kont)))))) ?_
  show Go _ _ _ _ _ _ _ (s₁.setTop (mkF m 8 #[.val (.ref o), .val (.int (7 : Int32)), .val (.int (2 : Int32)), .val (.int sen)] [(.int (3 : Int32)), (.int (2 : Int32)), (.int (7 : Int32))]))
  refine Go.by (fun _ kont => XS.iadd X0.here hx rfl (hb hby dK27_8) rfl kont) ?_
  show Go _ _ _ _ _ _ _ (s₁.setTop (mkF m 9 #[.val (.ref o), .val (.int (7 : Int32)), .val (.int (2 : Int32)), .val (.int sen)] [(.int ((2 : Int32) + (3 : Int32))), (.int (7 : Int32))]))
  rw [show ((2 : Int32) + (3 : Int32)) = (5 : Int32) from by decide]
  show Go _ _ _ _ _ _ _ (s₁.setTop (mkF m 9 #[.val (.ref o), .val (.int (7 : Int32)), .val (.int (2 : Int32)), .val (.int sen)] [(.int (5 : Int32)), (.int (7 : Int32))]))
  refine Go.by (fun _ kont => XS.icmpYes X0.here hx rfl (pc0 := 9) (pc' := 14) rfl (hb hby dK27_9) rfl (by decide) (by decide) (by decide) (XS.aloadN X0.here hx rfl (hb hby dK27_14) rfl rfl (XS.iloadN X0.here hx rfl (hb hby dK27_15) rfl kont))) ?_
  show Go _ _ _ _ _ _ _ (s₁.setTop (mkF m 16 #[.val (.ref o), .val (.int (7 : Int32)), .val (.int (2 : Int32)), .val (.int sen)] [(.int (7 : Int32)), (.ref o)]))
  obtain ⟨cl_q101, Ar_q101, q1_q101, S_q101, N_q101, H_q101, G_q101⟩ := id V0_o
  have hin_q101 : ¬ ((7 : Int32) < 0 ∨ cl_q101.slots.size ≤ ((7 : Int32)).toNatClampNeg) := inb_of S_q101 ⟨by decide, by decide⟩
  have hat_q101 : cl_q101.slots[((7 : Int32)).toNatClampNeg]? = some (.int (nar .char sen)) := Has.at H_q101 hin_q101 rfl
  refine Go.by (X0.caload hx (j := (7 : Int32)) (v := (.int (nar .char sen))) (by first | exact Ar_q101.1 | (rw [e0]; exact Ar_q101.1)) (State.isArrayOf_alike hZ.alike Ar_q101.2.1) Ar_q101.2.2 hin_q101 hat_q101 (g := (mkF m 16 #[.val (.ref o), .val (.int (7 : Int32)), .val (.int (2 : Int32)), .val (.int sen)] [(.int (7 : Int32)), (.ref o)])) rfl rfl (hb hby dK27_16)) ?_
  show Go _ _ _ _ _ _ _ (s₁.setTop (mkF m 17 #[.val (.ref o), .val (.int (7 : Int32)), .val (.int (2 : Int32)), .val (.int sen)] [(.int (nar .char sen))]))
  refine Go.by (fun _ kont => XS.iloadN X0.here hx rfl (hb hby dK27_17) rfl kont) ?_
  show Go _ _ _ _ _ _ _ (s₁.setTop (mkF m 18 #[.val (.ref o), .val (.int (7 : Int32)), .val (.int (2 : Int32)), .val (.int sen)] [(.int sen), (.int (nar .char sen))]))
  refine Go.by (fun _ kont => XS.icmpNo X0.here hx rfl (hb hby dK27_18) rfl (teq hsen).2 kont) ?_
  show Go _ _ _ _ _ _ _ (s₁.setTop (mkF m 21 #[.val (.ref o), .val (.int (7 : Int32)), .val (.int (2 : Int32)), .val (.int sen)] []))
  refine Go.by (fun _ kont => XS.iconst X0.here hx rfl (hb hby dK27_21) (XS.goto X0.here hx rfl (pc0 := 22) (pc' := 26) rfl (hb hby dK27_22) (by decide) (by decide) kont)) ?_
  show Go _ _ _ _ _ _ _ (s₁.setTop (mkF m 26 #[.val (.ref o), .val (.int (7 : Int32)), .val (.int (2 : Int32)), .val (.int sen)] [(.int (1 : Int32))]))
  refine Go.retN X0 hx (t := .boolean) hret (by simp) hlk (hb hby dK27_26) ?_ (by decide) (by decide)
  show QK27 Z o sen kc_o v0 v1 v2 v3 v4 v5 v6 h0 n0 (some (.int (1 : Int32))) s₁.heap _
  rw [e0]
  exact ⟨rfl, N0, rfl⟩

theorem dK30_0 : decode method_3_code 0 = .ok (.iload_n 1, 1) := by decide +kernel
theorem dK30_1 : decode method_3_code 1 = .ok (.iload_n 2, 1) := by decide +kernel
theorem dK30_2 : decode method_3_code 2 = .ok (.if_icmp .lt 12, 3) := by decide +kernel
theorem dK30_14 : decode method_3_code 14 = .ok (.aload_n 0, 1) := by decide +kernel
theorem dK30_15 : decode method_3_code 15 = .ok (.iload_n 1, 1) := by decide +kernel
theorem dK30_16 : decode method_3_code 16 = .ok (.caload, 1) := by decide +kernel
theorem dK30_17 : decode method_3_code 17 = .ok (.iload_n 3, 1) := by decide +kernel
theorem dK30_18 : decode method_3_code 18 = .ok (.if_icmp .ne 7, 3) := by decide +kernel
theorem dK30_21 : decode method_3_code 21 = .ok (.iconst 1, 1) := by decide +kernel
theorem dK30_22 : decode method_3_code 22 = .ok (.goto 4, 3) := by decide +kernel
theorem dK30_26 : decode method_3_code 26 = .ok (.ireturn, 1) := by decide +kernel
theorem pnK30 : plainName "com/example/pctenc/pctenc/EscapeWritePinLaw" = true := by first | (simp [plainName, overriddenIn]; done) | decide +kernel
theorem efK30 (m : MethodId) (o : Addr) (sen : Int32) : entryFrame m #[(.ref o), (.int (0 : Int32)), (.int (3 : Int32)), (.int sen)] 4 = mkF m 0 #[.val (.ref o), .val (.int (0 : Int32)), .val (.int (3 : Int32)), .val (.int sen)] [] := by first | (simp [entryFrame, mkF, argsToLocals, Value.category]; done) | rfl
def QK30 (Z : State) (o : Addr) (sen : Int32) (kc_o : ClassId) (v1 : Int32) (v2 : Int32) (v3 : Int32) (v4 : Int32) (v5 : Int32) (v6 : Int32) (v7 : Int32) (h0 : Heap) (n0 : Nat) (v : Option Value) (h : Heap) (L : List Loc) : Prop := (v = some (.int (1 : Int32)) ∧ Fr n0 L ∧ h = h0)
set_option maxRecDepth 65536 in
set_option maxHeartbeats 40000000 in
theorem rmK30 (l : Launch) (Z : State) (a0 : Array Value) (hw : ∀ d ∈ tables_1, d.before a0 Z = true) (ws : List Jvm.Cond) (o : Addr) (sen : Int32) (kc_o : ClassId) (v1 : Int32) (v2 : Int32) (v3 : Int32) (v4 : Int32) (v5 : Int32) (v6 : Int32) (v7 : Int32) (h0 : Heap) (n0 : Nat) (Z0 : n0 ≤ h0.size) (V0_o : Arv Z h0 o kc_o .char (8 : Int32) [(.int (nar .char sen)), (.int v1), (.int v2), (.int v3), (.int v4), (.int v5), (.int v6), (.int v7)] (.int (0 : Int32))) (hsen : (nar .char sen) = sen) :
    MetFree l (⟨"com/example/pctenc/pctenc/EscapeWritePinLaw", "kept", "([CIIC)Z"⟩ : MethodName) (head1 (Jvm.Cond.code (⟨"com/example/pctenc/pctenc/EscapeWritePinLaw", "kept", "([CIIC)Z"⟩ : MethodName) method_3_code 4 (some .boolean) :: ws) ({ frames := 0, cells := 0, slots := 0, locals := 0 } : Room)) (fun aa_ U_ => aa_ = #[(.ref o), (.int (0 : Int32)), (.int (3 : Int32)), (.int sen)] ∧ Z.Warmed39 U_.vm ∧ U_.heap = h0) (fun _ _ _ _ _ => True) (fun _ U_ o_ V_ => ∃ v_ L_, o_ = .returned v_ ∧ QK30 Z o sen kc_o v1 v2 v3 v4 v5 v6 v7 h0 n0 v_ V_.heap L_ ∧ FrameEnd U_ o_ V_ L_ ({ frames := 0, cells := 0, slots := 0, locals := 0 } : Room).cells ({ frames := 0, cells := 0, slots := 0, locals := 0 } : Room).slots) := by
  refine MetFree.of_bodySF (plainFor_of_name pnK30) hisR ?_
  intro p e s m args below meth c s₁ Bd hml0 hP hK
  obtain ⟨rfl, hZ, hh⟩ := hP
  have hx := Bd.exec
  have hby := Bd.bytes
  have hml : c.maxLocals = 4 := hml0
  have hown : s.vm.findClass "com/example/pctenc/pctenc/EscapeWritePinLaw" = some m.cls := findClass_of_methodNamed Bd.named
  have hnm := (name_of_methodNamed Bd.named Bd.method).1
  have hlk : meth.locks = false := BodyLoose.notSynchronized Bd
  have hret : meth.sig.returnType = (some .boolean) := Bd.returns
  have X0 : Stand p l e ({ frames := 0, cells := 0, slots := 0, locals := 0 } : Room) s m #[(.ref o), (.int (0 : Int32)), (.int (3 : Int32)), (.int sen)] below meth c s₁ [] 0 0 := Stand.of_body Bd
  have e0 : s₁.heap = h0 := by rw [← hh, Bd.state]; rfl
  have N0 := Fr.nil n0
  show Go p e below s ({ frames := 0, cells := 0, slots := 0, locals := 0 } : Room).cells ({ frames := 0, cells := 0, slots := 0, locals := 0 } : Room).slots (QK30 Z o sen kc_o v1 v2 v3 v4 v5 v6 v7 h0 n0) (s₁.setTop (entryFrame m #[(.ref o), (.int (0 : Int32)), (.int (3 : Int32)), (.int sen)] 4))
  rw [efK30]
  refine Go.by (fun _ kont => XS.iloadN X0.here hx rfl (hb hby dK30_0) rfl (XS.iloadN X0.here hx rfl (hb hby dK30_1) rfl (XS.icmpYes X0.here hx rfl (pc0 := 2) (pc' := 14) rfl (hb hby dK30_2) rfl (by decide) (by decide) (by decide) (XS.aloadN X0.here hx rfl (hb hby dK30_14) rfl rfl (XS.iloadN X0.here hx rfl (hb hby dK30_15) rfl kont))))) ?_
  show Go _ _ _ _ _ _ _ (s₁.setTop (mkF m 16 #[.val (.ref o), .val (.int (0 : Int32)), .val (.int (3 : Int32)), .val (.int sen)] [(.int (0 : Int32)), (.ref o)]))
  obtain ⟨cl_q101, Ar_q101, q1_q101, S_q101, N_q101, H_q101, G_q101⟩ := id V0_o
  have hin_q101 : ¬ ((0 : Int32) < 0 ∨ cl_q101.slots.size ≤ ((0 : Int32)).toNatClampNeg) := inb_of S_q101 ⟨by decide, by decide⟩
  have hat_q101 : cl_q101.slots[((0 : Int32)).toNatClampNeg]? = some (.int (nar .char sen)) := Has.at H_q101 hin_q101 rfl
  refine Go.by (X0.caload hx (j := (0 : Int32)) (v := (.int (nar .char sen))) (by first | exact Ar_q101.1 | (rw [e0]; exact Ar_q101.1)) (State.isArrayOf_alike hZ.alike Ar_q101.2.1) Ar_q101.2.2 hin_q101 hat_q101 (g := (mkF m 16 #[.val (.ref o), .val (.int (0 : Int32)), .val (.int (3 : Int32)), .val (.int sen)] [(.int (0 : Int32)), (.ref o)])) rfl rfl (hb hby dK30_16)) ?_
  show Go _ _ _ _ _ _ _ (s₁.setTop (mkF m 17 #[.val (.ref o), .val (.int (0 : Int32)), .val (.int (3 : Int32)), .val (.int sen)] [(.int (nar .char sen))]))
  refine Go.by (fun _ kont => XS.iloadN X0.here hx rfl (hb hby dK30_17) rfl kont) ?_
  show Go _ _ _ _ _ _ _ (s₁.setTop (mkF m 18 #[.val (.ref o), .val (.int (0 : Int32)), .val (.int (3 : Int32)), .val (.int sen)] [(.int sen), (.int (nar .char sen))]))
  refine Go.by (fun _ kont => XS.icmpNo X0.here hx rfl (hb hby dK30_18) rfl (teq hsen).2 kont) ?_
  show Go _ _ _ _ _ _ _ (s₁.setTop (mkF m 21 #[.val (.ref o), .val (.int (0 : Int32)), .val (.int (3 : Int32)), .val (.int sen)] []))
  refine Go.by (fun _ kont => XS.iconst X0.here hx rfl (hb hby dK30_21) (XS.goto X0.here hx rfl (pc0 := 22) (pc' := 26) rfl (hb hby dK30_22) (by decide) (by decide) kont)) ?_
  show Go _ _ _ _ _ _ _ (s₁.setTop (mkF m 26 #[.val (.ref o), .val (.int (0 : Int32)), .val (.int (3 : Int32)), .val (.int sen)] [(.int (1 : Int32))]))
  refine Go.retN X0 hx (t := .boolean) hret (by simp) hlk (hb hby dK30_26) ?_ (by decide) (by decide)
  show QK30 Z o sen kc_o v1 v2 v3 v4 v5 v6 v7 h0 n0 (some (.int (1 : Int32))) s₁.heap _
  rw [e0]
  exact ⟨rfl, N0, rfl⟩

theorem dK31_0 : decode method_3_code 0 = .ok (.iload_n 1, 1) := by decide +kernel
theorem dK31_1 : decode method_3_code 1 = .ok (.iload_n 2, 1) := by decide +kernel
theorem dK31_2 : decode method_3_code 2 = .ok (.if_icmp .lt 12, 3) := by decide +kernel
theorem dK31_14 : decode method_3_code 14 = .ok (.aload_n 0, 1) := by decide +kernel
theorem dK31_15 : decode method_3_code 15 = .ok (.iload_n 1, 1) := by decide +kernel
theorem dK31_16 : decode method_3_code 16 = .ok (.caload, 1) := by decide +kernel
theorem dK31_17 : decode method_3_code 17 = .ok (.iload_n 3, 1) := by decide +kernel
theorem dK31_18 : decode method_3_code 18 = .ok (.if_icmp .ne 7, 3) := by decide +kernel
theorem dK31_21 : decode method_3_code 21 = .ok (.iconst 1, 1) := by decide +kernel
theorem dK31_22 : decode method_3_code 22 = .ok (.goto 4, 3) := by decide +kernel
theorem dK31_26 : decode method_3_code 26 = .ok (.ireturn, 1) := by decide +kernel
theorem pnK31 : plainName "com/example/pctenc/pctenc/EscapeWritePinLaw" = true := by first | (simp [plainName, overriddenIn]; done) | decide +kernel
theorem efK31 (m : MethodId) (o : Addr) (sen : Int32) : entryFrame m #[(.ref o), (.int (1 : Int32)), (.int (3 : Int32)), (.int sen)] 4 = mkF m 0 #[.val (.ref o), .val (.int (1 : Int32)), .val (.int (3 : Int32)), .val (.int sen)] [] := by first | (simp [entryFrame, mkF, argsToLocals, Value.category]; done) | rfl
def QK31 (Z : State) (o : Addr) (sen : Int32) (kc_o : ClassId) (v0 : Int32) (v2 : Int32) (v3 : Int32) (v4 : Int32) (v5 : Int32) (v6 : Int32) (v7 : Int32) (h0 : Heap) (n0 : Nat) (v : Option Value) (h : Heap) (L : List Loc) : Prop := (v = some (.int (1 : Int32)) ∧ Fr n0 L ∧ h = h0)
set_option maxRecDepth 65536 in
set_option maxHeartbeats 40000000 in
theorem rmK31 (l : Launch) (Z : State) (a0 : Array Value) (hw : ∀ d ∈ tables_1, d.before a0 Z = true) (ws : List Jvm.Cond) (o : Addr) (sen : Int32) (kc_o : ClassId) (v0 : Int32) (v2 : Int32) (v3 : Int32) (v4 : Int32) (v5 : Int32) (v6 : Int32) (v7 : Int32) (h0 : Heap) (n0 : Nat) (Z0 : n0 ≤ h0.size) (V0_o : Arv Z h0 o kc_o .char (8 : Int32) [(.int v0), (.int (nar .char sen)), (.int v2), (.int v3), (.int v4), (.int v5), (.int v6), (.int v7)] (.int (0 : Int32))) (hsen : (nar .char sen) = sen) :
    MetFree l (⟨"com/example/pctenc/pctenc/EscapeWritePinLaw", "kept", "([CIIC)Z"⟩ : MethodName) (head1 (Jvm.Cond.code (⟨"com/example/pctenc/pctenc/EscapeWritePinLaw", "kept", "([CIIC)Z"⟩ : MethodName) method_3_code 4 (some .boolean) :: ws) ({ frames := 0, cells := 0, slots := 0, locals := 0 } : Room)) (fun aa_ U_ => aa_ = #[(.ref o), (.int (1 : Int32)), (.int (3 : Int32)), (.int sen)] ∧ Z.Warmed39 U_.vm ∧ U_.heap = h0) (fun _ _ _ _ _ => True) (fun _ U_ o_ V_ => ∃ v_ L_, o_ = .returned v_ ∧ QK31 Z o sen kc_o v0 v2 v3 v4 v5 v6 v7 h0 n0 v_ V_.heap L_ ∧ FrameEnd U_ o_ V_ L_ ({ frames := 0, cells := 0, slots := 0, locals := 0 } : Room).cells ({ frames := 0, cells := 0, slots := 0, locals := 0 } : Room).slots) := by
  refine MetFree.of_bodySF (plainFor_of_name pnK31) hisR ?_
  intro p e s m args below meth c s₁ Bd hml0 hP hK
  obtain ⟨rfl, hZ, hh⟩ := hP
  have hx := Bd.exec
  have hby := Bd.bytes
  have hml : c.maxLocals = 4 := hml0
  have hown : s.vm.findClass "com/example/pctenc/pctenc/EscapeWritePinLaw" = some m.cls := findClass_of_methodNamed Bd.named
  have hnm := (name_of_methodNamed Bd.named Bd.method).1
  have hlk : meth.locks = false := BodyLoose.notSynchronized Bd
  have hret : meth.sig.returnType = (some .boolean) := Bd.returns
  have X0 : Stand p l e ({ frames := 0, cells := 0, slots := 0, locals := 0 } : Room) s m #[(.ref o), (.int (1 : Int32)), (.int (3 : Int32)), (.int sen)] below meth c s₁ [] 0 0 := Stand.of_body Bd
  have e0 : s₁.heap = h0 := by rw [← hh, Bd.state]; rfl
  have N0 := Fr.nil n0
  show Go p e below s ({ frames := 0, cells := 0, slots := 0, locals := 0 } : Room).cells ({ frames := 0, cells := 0, slots := 0, locals := 0 } : Room).slots (QK31 Z o sen kc_o v0 v2 v3 v4 v5 v6 v7 h0 n0) (s₁.setTop (entryFrame m #[(.ref o), (.int (1 : Int32)), (.int (3 : Int32)), (.int sen)] 4))
  rw [efK31]
  refine Go.by (fun _ kont => XS.iloadN X0.here hx rfl (hb hby dK31_0) rfl (XS.iloadN X0.here hx rfl (hb hby dK31_1) rfl (XS.icmpYes X0.here hx rfl (pc0 := 2) (pc' := 14) rfl (hb hby dK31_2) rfl (by decide) (by decide) (by decide) (XS.aloadN X0.here hx rfl (hb hby dK31_14) rfl rfl (XS.iloadN X0.here hx rfl (hb hby dK31_15) rfl kont))))) ?_
  show Go _ _ _ _ _ _ _ (s₁.setTop (mkF m 16 #[.val (.ref o), .val (.int (1 : Int32)), .val (.int (3 : Int32)), .val (.int sen)] [(.int (1 : Int32)), (.ref o)]))
  obtain ⟨cl_q101, Ar_q101, q1_q101, S_q101, N_q101, H_q101, G_q101⟩ := id V0_o
  have hin_q101 : ¬ ((1 : Int32) < 0 ∨ cl_q101.slots.size ≤ ((1 : Int32)).toNatClampNeg) := inb_of S_q101 ⟨by decide, by decide⟩
  have hat_q101 : cl_q101.slots[((1 : Int32)).toNatClampNeg]? = some (.int (nar .char sen)) := Has.at H_q101 hin_q101 rfl
  refine Go.by (X0.caload hx (j := (1 : Int32)) (v := (.int (nar .char sen))) (by first | exact Ar_q101.1 | (rw [e0]; exact Ar_q101.1)) (State.isArrayOf_alike hZ.alike Ar_q101.2.1) Ar_q101.2.2 hin_q101 hat_q101 (g := (mkF m 16 #[.val (.ref o), .val (.int (1 : Int32)), .val (.int (3 : Int32)), .val (.int sen)] [(.int (1 : Int32)), (.ref o)])) rfl rfl (hb hby dK31_16)) ?_
  show Go _ _ _ _ _ _ _ (s₁.setTop (mkF m 17 #[.val (.ref o), .val (.int (1 : Int32)), .val (.int (3 : Int32)), .val (.int sen)] [(.int (nar .char sen))]))
  refine Go.by (fun _ kont => XS.iloadN X0.here hx rfl (hb hby dK31_17) rfl kont) ?_
  show Go _ _ _ _ _ _ _ (s₁.setTop (mkF m 18 #[.val (.ref o), .val (.int (1 : Int32)), .val (.int (3 : Int32)), .val (.int sen)] [(.int sen), (.int (nar .char sen))]))
  refine Go.by (fun _ kont => XS.icmpNo X0.here hx rfl (hb hby dK31_18) rfl (teq hsen).2 kont) ?_
  show Go _ _ _ _ _ _ _ (s₁.setTop (mkF m 21 #[.val (.ref o), .val (.int (1 : Int32)), .val (.int (3 : Int32)), .val (.int sen)] []))
  refine Go.by (fun _ kont => XS.iconst X0.here hx rfl (hb hby dK31_21) (XS.goto X0.here hx rfl (pc0 := 22) (pc' := 26) rfl (hb hby dK31_22) (by decide) (by decide) kont)) ?_
  show Go _ _ _ _ _ _ _ (s₁.setTop (mkF m 26 #[.val (.ref o), .val (.int (1 : Int32)), .val (.int (3 : Int32)), .val (.int sen)] [(.int (1 : Int32))]))
  refine Go.retN X0 hx (t := .boolean) hret (by simp) hlk (hb hby dK31_26) ?_ (by decide) (by decide)
  show QK31 Z o sen kc_o v0 v2 v3 v4 v5 v6 v7 h0 n0 (some (.int (1 : Int32))) s₁.heap _
  rw [e0]
  exact ⟨rfl, N0, rfl⟩

theorem dK32_0 : decode method_3_code 0 = .ok (.iload_n 1, 1) := by decide +kernel
theorem dK32_1 : decode method_3_code 1 = .ok (.iload_n 2, 1) := by decide +kernel
theorem dK32_2 : decode method_3_code 2 = .ok (.if_icmp .lt 12, 3) := by decide +kernel
theorem dK32_14 : decode method_3_code 14 = .ok (.aload_n 0, 1) := by decide +kernel
theorem dK32_15 : decode method_3_code 15 = .ok (.iload_n 1, 1) := by decide +kernel
theorem dK32_16 : decode method_3_code 16 = .ok (.caload, 1) := by decide +kernel
theorem dK32_17 : decode method_3_code 17 = .ok (.iload_n 3, 1) := by decide +kernel
theorem dK32_18 : decode method_3_code 18 = .ok (.if_icmp .ne 7, 3) := by decide +kernel
theorem dK32_21 : decode method_3_code 21 = .ok (.iconst 1, 1) := by decide +kernel
theorem dK32_22 : decode method_3_code 22 = .ok (.goto 4, 3) := by decide +kernel
theorem dK32_26 : decode method_3_code 26 = .ok (.ireturn, 1) := by decide +kernel
theorem pnK32 : plainName "com/example/pctenc/pctenc/EscapeWritePinLaw" = true := by first | (simp [plainName, overriddenIn]; done) | decide +kernel
theorem efK32 (m : MethodId) (o : Addr) (sen : Int32) : entryFrame m #[(.ref o), (.int (2 : Int32)), (.int (3 : Int32)), (.int sen)] 4 = mkF m 0 #[.val (.ref o), .val (.int (2 : Int32)), .val (.int (3 : Int32)), .val (.int sen)] [] := by first | (simp [entryFrame, mkF, argsToLocals, Value.category]; done) | rfl
def QK32 (Z : State) (o : Addr) (sen : Int32) (kc_o : ClassId) (v0 : Int32) (v1 : Int32) (v3 : Int32) (v4 : Int32) (v5 : Int32) (v6 : Int32) (v7 : Int32) (h0 : Heap) (n0 : Nat) (v : Option Value) (h : Heap) (L : List Loc) : Prop := (v = some (.int (1 : Int32)) ∧ Fr n0 L ∧ h = h0)
set_option maxRecDepth 65536 in
set_option maxHeartbeats 40000000 in
theorem rmK32 (l : Launch) (Z : State) (a0 : Array Value) (hw : ∀ d ∈ tables_1, d.before a0 Z = true) (ws : List Jvm.Cond) (o : Addr) (sen : Int32) (kc_o : ClassId) (v0 : Int32) (v1 : Int32) (v3 : Int32) (v4 : Int32) (v5 : Int32) (v6 : Int32) (v7 : Int32) (h0 : Heap) (n0 : Nat) (Z0 : n0 ≤ h0.size) (V0_o : Arv Z h0 o kc_o .char (8 : Int32) [(.int v0), (.int v1), (.int (nar .char sen)), (.int v3), (.int v4), (.int v5), (.int v6), (.int v7)] (.int (0 : Int32))) (hsen : (nar .char sen) = sen) :
    MetFree l (⟨"com/example/pctenc/pctenc/EscapeWritePinLaw", "kept", "([CIIC)Z"⟩ : MethodName) (head1 (Jvm.Cond.code (⟨"com/example/pctenc/pctenc/EscapeWritePinLaw", "kept", "([CIIC)Z"⟩ : MethodName) method_3_code 4 (some .boolean) :: ws) ({ frames := 0, cells := 0, slots := 0, locals := 0 } : Room)) (fun aa_ U_ => aa_ = #[(.ref o), (.int (2 : Int32)), (.int (3 : Int32)), (.int sen)] ∧ Z.Warmed39 U_.vm ∧ U_.heap = h0) (fun _ _ _ _ _ => True) (fun _ U_ o_ V_ => ∃ v_ L_, o_ = .returned v_ ∧ QK32 Z o sen kc_o v0 v1 v3 v4 v5 v6 v7 h0 n0 v_ V_.heap L_ ∧ FrameEnd U_ o_ V_ L_ ({ frames := 0, cells := 0, slots := 0, locals := 0 } : Room).cells ({ frames := 0, cells := 0, slots := 0, locals := 0 } : Room).slots) := by
  refine MetFree.of_bodySF (plainFor_of_name pnK32) hisR ?_
  intro p e s m args below meth c s₁ Bd hml0 hP hK
  obtain ⟨rfl, hZ, hh⟩ := hP
  have hx := Bd.exec
  have hby := Bd.bytes
  have hml : c.maxLocals = 4 := hml0
  have hown : s.vm.findClass "com/example/pctenc/pctenc/EscapeWritePinLaw" = some m.cls := findClass_of_methodNamed Bd.named
  have hnm := (name_of_methodNamed Bd.named Bd.method).1
  have hlk : meth.locks = false := BodyLoose.notSynchronized Bd
  have hret : meth.sig.returnType = (some .boolean) := Bd.returns
  have X0 : Stand p l e ({ frames := 0, cells := 0, slots := 0, locals := 0 } : Room) s m #[(.ref o), (.int (2 : Int32)), (.int (3 : Int32)), (.int sen)] below meth c s₁ [] 0 0 := Stand.of_body Bd
  have e0 : s₁.heap = h0 := by rw [← hh, Bd.state]; rfl
  have N0 := Fr.nil n0
  show Go p e below s ({ frames := 0, cells := 0, slots := 0, locals := 0 } : Room).cells ({ frames := 0, cells := 0, slots := 0, locals := 0 } : Room).slots (QK32 Z o sen kc_o v0 v1 v3 v4 v5 v6 v7 h0 n0) (s₁.setTop (entryFrame m #[(.ref o), (.int (2 : Int32)), (.int (3 : Int32)), (.int sen)] 4))
  rw [efK32]
  refine Go.by (fun _ kont => XS.iloadN X0.here hx rfl (hb hby dK32_0) rfl (XS.iloadN X0.here hx rfl (hb hby dK32_1) rfl (XS.icmpYes X0.here hx rfl (pc0 := 2) (pc' := 14) rfl (hb hby dK32_2) rfl (by decide) (by decide) (by decide) (XS.aloadN X0.here hx rfl (hb hby dK32_14) rfl rfl (XS.iloadN X0.here hx rfl (hb hby dK32_15) rfl kont))))) ?_
  show Go _ _ _ _ _ _ _ (s₁.setTop (mkF m 16 #[.val (.ref o), .val (.int (2 : Int32)), .val (.int (3 : Int32)), .val (.int sen)] [(.int (2 : Int32)), (.ref o)]))
  obtain ⟨cl_q101, Ar_q101, q1_q101, S_q101, N_q101, H_q101, G_q101⟩ := id V0_o
  have hin_q101 : ¬ ((2 : Int32) < 0 ∨ cl_q101.slots.size ≤ ((2 : Int32)).toNatClampNeg) := inb_of S_q101 ⟨by decide, by decide⟩
  have hat_q101 : cl_q101.slots[((2 : Int32)).toNatClampNeg]? = some (.int (nar .char sen)) := Has.at H_q101 hin_q101 rfl
  refine Go.by (X0.caload hx (j := (2 : Int32)) (v := (.int (nar .char sen))) (by first | exact Ar_q101.1 | (rw [e0]; exact Ar_q101.1)) (State.isArrayOf_alike hZ.alike Ar_q101.2.1) Ar_q101.2.2 hin_q101 hat_q101 (g := (mkF m 16 #[.val (.ref o), .val (.int (2 : Int32)), .val (.int (3 : Int32)), .val (.int sen)] [(.int (2 : Int32)), (.ref o)])) rfl rfl (hb hby dK32_16)) ?_
  show Go _ _ _ _ _ _ _ (s₁.setTop (mkF m 17 #[.val (.ref o), .val (.int (2 : Int32)), .val (.int (3 : Int32)), .val (.int sen)] [(.int (nar .char sen))]))
  refine Go.by (fun _ kont => XS.iloadN X0.here hx rfl (hb hby dK32_17) rfl kont) ?_
  show Go _ _ _ _ _ _ _ (s₁.setTop (mkF m 18 #[.val (.ref o), .val (.int (2 : Int32)), .val (.int (3 : Int32)), .val (.int sen)] [(.int sen), (.int (nar .char sen))]))
  refine Go.by (fun _ kont => XS.icmpNo X0.here hx rfl (hb hby dK32_18) rfl (teq hsen).2 kont) ?_
  show Go _ _ _ _ _ _ _ (s₁.setTop (mkF m 21 #[.val (.ref o), .val (.int (2 : Int32)), .val (.int (3 : Int32)), .val (.int sen)] []))
  refine Go.by (fun _ kont => XS.iconst X0.here hx rfl (hb hby dK32_21) (XS.goto X0.here hx rfl (pc0 := 22) (pc' := 26) rfl (hb hby dK32_22) (by decide) (by decide) kont)) ?_
  show Go _ _ _ _ _ _ _ (s₁.setTop (mkF m 26 #[.val (.ref o), .val (.int (2 : Int32)), .val (.int (3 : Int32)), .val (.int sen)] [(.int (1 : Int32))]))
  refine Go.retN X0 hx (t := .boolean) hret (by simp) hlk (hb hby dK32_26) ?_ (by decide) (by decide)
  show QK32 Z o sen kc_o v0 v1 v3 v4 v5 v6 v7 h0 n0 (some (.int (1 : Int32))) s₁.heap _
  rw [e0]
  exact ⟨rfl, N0, rfl⟩

theorem dK33_0 : decode method_3_code 0 = .ok (.iload_n 1, 1) := by decide +kernel
theorem dK33_1 : decode method_3_code 1 = .ok (.iload_n 2, 1) := by decide +kernel
theorem dK33_2 : decode method_3_code 2 = .ok (.if_icmp .lt 12, 3) := by decide +kernel
theorem dK33_5 : decode method_3_code 5 = .ok (.iload_n 1, 1) := by decide +kernel
theorem dK33_6 : decode method_3_code 6 = .ok (.iload_n 2, 1) := by decide +kernel
theorem dK33_7 : decode method_3_code 7 = .ok (.iconst 3, 1) := by decide +kernel
theorem dK33_8 : decode method_3_code 8 = .ok (.iadd, 1) := by decide +kernel
theorem dK33_9 : decode method_3_code 9 = .ok (.if_icmp .ge 5, 3) := by decide +kernel
theorem dK33_12 : decode method_3_code 12 = .ok (.iconst 1, 1) := by decide +kernel
theorem dK33_13 : decode method_3_code 13 = .ok (.ireturn, 1) := by decide +kernel
theorem pnK33 : plainName "com/example/pctenc/pctenc/EscapeWritePinLaw" = true := by first | (simp [plainName, overriddenIn]; done) | decide +kernel
theorem efK33 (m : MethodId) (o : Addr) (sen : Int32) : entryFrame m #[(.ref o), (.int (3 : Int32)), (.int (3 : Int32)), (.int sen)] 4 = mkF m 0 #[.val (.ref o), .val (.int (3 : Int32)), .val (.int (3 : Int32)), .val (.int sen)] [] := by first | (simp [entryFrame, mkF, argsToLocals, Value.category]; done) | rfl
def QK33 (Z : State) (o : Addr) (sen : Int32) (h0 : Heap) (n0 : Nat) (v : Option Value) (h : Heap) (L : List Loc) : Prop := (v = some (.int (1 : Int32)) ∧ Fr n0 L ∧ h = h0)
set_option maxRecDepth 65536 in
set_option maxHeartbeats 40000000 in
theorem rmK33 (l : Launch) (Z : State) (a0 : Array Value) (hw : ∀ d ∈ tables_1, d.before a0 Z = true) (ws : List Jvm.Cond) (o : Addr) (sen : Int32) (h0 : Heap) (n0 : Nat) (Z0 : n0 ≤ h0.size) :
    MetFree l (⟨"com/example/pctenc/pctenc/EscapeWritePinLaw", "kept", "([CIIC)Z"⟩ : MethodName) (head1 (Jvm.Cond.code (⟨"com/example/pctenc/pctenc/EscapeWritePinLaw", "kept", "([CIIC)Z"⟩ : MethodName) method_3_code 4 (some .boolean) :: ws) ({ frames := 0, cells := 0, slots := 0, locals := 0 } : Room)) (fun aa_ U_ => aa_ = #[(.ref o), (.int (3 : Int32)), (.int (3 : Int32)), (.int sen)] ∧ Z.Warmed39 U_.vm ∧ U_.heap = h0) (fun _ _ _ _ _ => True) (fun _ U_ o_ V_ => ∃ v_ L_, o_ = .returned v_ ∧ QK33 Z o sen h0 n0 v_ V_.heap L_ ∧ FrameEnd U_ o_ V_ L_ ({ frames := 0, cells := 0, slots := 0, locals := 0 } : Room).cells ({ frames := 0, cells := 0, slots := 0, locals := 0 } : Room).slots) := by
  refine MetFree.of_bodySF (plainFor_of_name pnK33) hisR ?_
  intro p e s m args below meth c s₁ Bd hml0 hP hK
  obtain ⟨rfl, hZ, hh⟩ := hP
  have hx := Bd.exec
  have hby := Bd.bytes
  have hml : c.maxLocals = 4 := hml0
  have hown : s.vm.findClass "com/example/pctenc/pctenc/EscapeWritePinLaw" = some m.cls := findClass_of_methodNamed Bd.named
  have hnm := (name_of_methodNamed Bd.named Bd.method).1
  have hlk : meth.locks = false := BodyLoose.notSynchronized Bd
  have hret : meth.sig.returnType = (some .boolean) := Bd.returns
  have X0 : Stand p l e ({ frames := 0, cells := 0, slots := 0, locals := 0 } : Room) s m #[(.ref o), (.int (3 : Int32)), (.int (3 : Int32)), (.int sen)] below meth c s₁ [] 0 0 := Stand.of_body Bd
  have e0 : s₁.heap = h0 := by rw [← hh, Bd.state]; rfl
  have N0 := Fr.nil n0
  show Go p e below s ({ frames := 0, cells := 0, slots := 0, locals := 0 } : Room).cells ({ frames := 0, cells := 0, slots := 0, locals := 0 } : Room).slots (QK33 Z o sen h0 n0) (s₁.setTop (entryFrame m #[(.ref o), (.int (3 : Int32)), (.int (3 : Int32)), (.int sen)] 4))
  rw [efK33]
  refine Go.by (fun _ kont => XS.iloadN X0.here hx rfl (hb hby dK33_0) rfl (XS.iloadN X0.here hx rfl (hb hby dK33_1) rfl (XS.icmpNo X0.here hx rfl (hb hby dK33_2) rfl (by decide) (XS.iloadN X0.here hx rfl (hb hby dK33_5) rfl (XS.iloadN X0.here hx rfl (hb hby dK33_6) rfl (XS.iconst X0.here hx rfl (hb hby dK33_7) kont)))))) ?_
  show Go _ _ _ _ _ _ _ (s₁.setTop (mkF m 8 #[.val (.ref o), .val (.int (3 : Int32)), .val (.int (3 : Int32)), .val (.int sen)] [(.int (3 : Int32)), (.int (3 : Int32)), (.int (3 : Int32))]))
  refine Go.by (fun _ kont => XS.iadd X0.here hx rfl (hb hby dK33_8) rfl kont) ?_
  show Go _ _ _ _ _ _ _ (s₁.setTop (mkF m 9 #[.val (.ref o), .val (.int (3 : Int32)), .val (.int (3 : Int32)), .val (.int sen)] [(.int ((3 : Int32) + (3 : Int32))), (.int (3 : Int32))]))
  rw [show ((3 : Int32) + (3 : Int32)) = (6 : Int32) from by decide]
  show Go _ _ _ _ _ _ _ (s₁.setTop (mkF m 9 #[.val (.ref o), .val (.int (3 : Int32)), .val (.int (3 : Int32)), .val (.int sen)] [(.int (6 : Int32)), (.int (3 : Int32))]))
  refine Go.by (fun _ kont => XS.icmpNo X0.here hx rfl (hb hby dK33_9) rfl (by decide) (XS.iconst X0.here hx rfl (hb hby dK33_12) kont)) ?_
  show Go _ _ _ _ _ _ _ (s₁.setTop (mkF m 13 #[.val (.ref o), .val (.int (3 : Int32)), .val (.int (3 : Int32)), .val (.int sen)] [(.int (1 : Int32))]))
  refine Go.retN X0 hx (t := .boolean) hret (by simp) hlk (hb hby dK33_13) ?_ (by decide) (by decide)
  show QK33 Z o sen h0 n0 (some (.int (1 : Int32))) s₁.heap _
  rw [e0]
  exact ⟨rfl, N0, rfl⟩

theorem dK34_0 : decode method_3_code 0 = .ok (.iload_n 1, 1) := by decide +kernel
theorem dK34_1 : decode method_3_code 1 = .ok (.iload_n 2, 1) := by decide +kernel
theorem dK34_2 : decode method_3_code 2 = .ok (.if_icmp .lt 12, 3) := by decide +kernel
theorem dK34_5 : decode method_3_code 5 = .ok (.iload_n 1, 1) := by decide +kernel
theorem dK34_6 : decode method_3_code 6 = .ok (.iload_n 2, 1) := by decide +kernel
theorem dK34_7 : decode method_3_code 7 = .ok (.iconst 3, 1) := by decide +kernel
theorem dK34_8 : decode method_3_code 8 = .ok (.iadd, 1) := by decide +kernel
theorem dK34_9 : decode method_3_code 9 = .ok (.if_icmp .ge 5, 3) := by decide +kernel
theorem dK34_12 : decode method_3_code 12 = .ok (.iconst 1, 1) := by decide +kernel
theorem dK34_13 : decode method_3_code 13 = .ok (.ireturn, 1) := by decide +kernel
theorem pnK34 : plainName "com/example/pctenc/pctenc/EscapeWritePinLaw" = true := by first | (simp [plainName, overriddenIn]; done) | decide +kernel
theorem efK34 (m : MethodId) (o : Addr) (sen : Int32) : entryFrame m #[(.ref o), (.int (4 : Int32)), (.int (3 : Int32)), (.int sen)] 4 = mkF m 0 #[.val (.ref o), .val (.int (4 : Int32)), .val (.int (3 : Int32)), .val (.int sen)] [] := by first | (simp [entryFrame, mkF, argsToLocals, Value.category]; done) | rfl
def QK34 (Z : State) (o : Addr) (sen : Int32) (h0 : Heap) (n0 : Nat) (v : Option Value) (h : Heap) (L : List Loc) : Prop := (v = some (.int (1 : Int32)) ∧ Fr n0 L ∧ h = h0)
set_option maxRecDepth 65536 in
set_option maxHeartbeats 40000000 in
theorem rmK34 (l : Launch) (Z : State) (a0 : Array Value) (hw : ∀ d ∈ tables_1, d.before a0 Z = true) (ws : List Jvm.Cond) (o : Addr) (sen : Int32) (h0 : Heap) (n0 : Nat) (Z0 : n0 ≤ h0.size) :
    MetFree l (⟨"com/example/pctenc/pctenc/EscapeWritePinLaw", "kept", "([CIIC)Z"⟩ : MethodName) (head1 (Jvm.Cond.code (⟨"com/example/pctenc/pctenc/EscapeWritePinLaw", "kept", "([CIIC)Z"⟩ : MethodName) method_3_code 4 (some .boolean) :: ws) ({ frames := 0, cells := 0, slots := 0, locals := 0 } : Room)) (fun aa_ U_ => aa_ = #[(.ref o), (.int (4 : Int32)), (.int (3 : Int32)), (.int sen)] ∧ Z.Warmed39 U_.vm ∧ U_.heap = h0) (fun _ _ _ _ _ => True) (fun _ U_ o_ V_ => ∃ v_ L_, o_ = .returned v_ ∧ QK34 Z o sen h0 n0 v_ V_.heap L_ ∧ FrameEnd U_ o_ V_ L_ ({ frames := 0, cells := 0, slots := 0, locals := 0 } : Room).cells ({ frames := 0, cells := 0, slots := 0, locals := 0 } : Room).slots) := by
  refine MetFree.of_bodySF (plainFor_of_name pnK34) hisR ?_
  intro p e s m args below meth c s₁ Bd hml0 hP hK
  obtain ⟨rfl, hZ, hh⟩ := hP
  have hx := Bd.exec
  have hby := Bd.bytes
  have hml : c.maxLocals = 4 := hml0
  have hown : s.vm.findClass "com/example/pctenc/pctenc/EscapeWritePinLaw" = some m.cls := findClass_of_methodNamed Bd.named
  have hnm := (name_of_methodNamed Bd.named Bd.method).1
  have hlk : meth.locks = false := BodyLoose.notSynchronized Bd
  have hret : meth.sig.returnType = (some .boolean) := Bd.returns
  have X0 : Stand p l e ({ frames := 0, cells := 0, slots := 0, locals := 0 } : Room) s m #[(.ref o), (.int (4 : Int32)), (.int (3 : Int32)), (.int sen)] below meth c s₁ [] 0 0 := Stand.of_body Bd
  have e0 : s₁.heap = h0 := by rw [← hh, Bd.state]; rfl
  have N0 := Fr.nil n0
  show Go p e below s ({ frames := 0, cells := 0, slots := 0, locals := 0 } : Room).cells ({ frames := 0, cells := 0, slots := 0, locals := 0 } : Room).slots (QK34 Z o sen h0 n0) (s₁.setTop (entryFrame m #[(.ref o), (.int (4 : Int32)), (.int (3 : Int32)), (.int sen)] 4))
  rw [efK34]
  refine Go.by (fun _ kont => XS.iloadN X0.here hx rfl (hb hby dK34_0) rfl (XS.iloadN X0.here hx rfl (hb hby dK34_1) rfl (XS.icmpNo X0.here hx rfl (hb hby dK34_2) rfl (by decide) (XS.iloadN X0.here hx rfl (hb hby dK34_5) rfl (XS.iloadN X0.here hx rfl (hb hby dK34_6) rfl (XS.iconst X0.here hx rfl (hb hby dK34_7) kont)))))) ?_
  show Go _ _ _ _ _ _ _ (s₁.setTop (mkF m 8 #[.val (.ref o), .val (.int (4 : Int32)), .val (.int (3 : Int32)), .val (.int sen)] [(.int (3 : Int32)), (.int (3 : Int32)), (.int (4 : Int32))]))
  refine Go.by (fun _ kont => XS.iadd X0.here hx rfl (hb hby dK34_8) rfl kont) ?_
  show Go _ _ _ _ _ _ _ (s₁.setTop (mkF m 9 #[.val (.ref o), .val (.int (4 : Int32)), .val (.int (3 : Int32)), .val (.int sen)] [(.int ((3 : Int32) + (3 : Int32))), (.int (4 : Int32))]))
  rw [show ((3 : Int32) + (3 : Int32)) = (6 : Int32) from by decide]
  show Go _ _ _ _ _ _ _ (s₁.setTop (mkF m 9 #[.val (.ref o), .val (.int (4 : Int32)), .val (.int (3 : Int32)), .val (.int sen)] [(.int (6 : Int32)), (.int (4 : Int32))]))
  refine Go.by (fun _ kont => XS.icmpNo X0.here hx rfl (hb hby dK34_9) rfl (by decide) (XS.iconst X0.here hx rfl (hb hby dK34_12) kont)) ?_
  show Go _ _ _ _ _ _ _ (s₁.setTop (mkF m 13 #[.val (.ref o), .val (.int (4 : Int32)), .val (.int (3 : Int32)), .val (.int sen)] [(.int (1 : Int32))]))
  refine Go.retN X0 hx (t := .boolean) hret (by simp) hlk (hb hby dK34_13) ?_ (by decide) (by decide)
  show QK34 Z o sen h0 n0 (some (.int (1 : Int32))) s₁.heap _
  rw [e0]
  exact ⟨rfl, N0, rfl⟩

theorem dK35_0 : decode method_3_code 0 = .ok (.iload_n 1, 1) := by decide +kernel
theorem dK35_1 : decode method_3_code 1 = .ok (.iload_n 2, 1) := by decide +kernel
theorem dK35_2 : decode method_3_code 2 = .ok (.if_icmp .lt 12, 3) := by decide +kernel
theorem dK35_5 : decode method_3_code 5 = .ok (.iload_n 1, 1) := by decide +kernel
theorem dK35_6 : decode method_3_code 6 = .ok (.iload_n 2, 1) := by decide +kernel
theorem dK35_7 : decode method_3_code 7 = .ok (.iconst 3, 1) := by decide +kernel
theorem dK35_8 : decode method_3_code 8 = .ok (.iadd, 1) := by decide +kernel
theorem dK35_9 : decode method_3_code 9 = .ok (.if_icmp .ge 5, 3) := by decide +kernel
theorem dK35_12 : decode method_3_code 12 = .ok (.iconst 1, 1) := by decide +kernel
theorem dK35_13 : decode method_3_code 13 = .ok (.ireturn, 1) := by decide +kernel
theorem pnK35 : plainName "com/example/pctenc/pctenc/EscapeWritePinLaw" = true := by first | (simp [plainName, overriddenIn]; done) | decide +kernel
theorem efK35 (m : MethodId) (o : Addr) (sen : Int32) : entryFrame m #[(.ref o), (.int (5 : Int32)), (.int (3 : Int32)), (.int sen)] 4 = mkF m 0 #[.val (.ref o), .val (.int (5 : Int32)), .val (.int (3 : Int32)), .val (.int sen)] [] := by first | (simp [entryFrame, mkF, argsToLocals, Value.category]; done) | rfl
def QK35 (Z : State) (o : Addr) (sen : Int32) (h0 : Heap) (n0 : Nat) (v : Option Value) (h : Heap) (L : List Loc) : Prop := (v = some (.int (1 : Int32)) ∧ Fr n0 L ∧ h = h0)
set_option maxRecDepth 65536 in
set_option maxHeartbeats 40000000 in
theorem rmK35 (l : Launch) (Z : State) (a0 : Array Value) (hw : ∀ d ∈ tables_1, d.before a0 Z = true) (ws : List Jvm.Cond) (o : Addr) (sen : Int32) (h0 : Heap) (n0 : Nat) (Z0 : n0 ≤ h0.size) :
    MetFree l (⟨"com/example/pctenc/pctenc/EscapeWritePinLaw", "kept", "([CIIC)Z"⟩ : MethodName) (head1 (Jvm.Cond.code (⟨"com/example/pctenc/pctenc/EscapeWritePinLaw", "kept", "([CIIC)Z"⟩ : MethodName) method_3_code 4 (some .boolean) :: ws) ({ frames := 0, cells := 0, slots := 0, locals := 0 } : Room)) (fun aa_ U_ => aa_ = #[(.ref o), (.int (5 : Int32)), (.int (3 : Int32)), (.int sen)] ∧ Z.Warmed39 U_.vm ∧ U_.heap = h0) (fun _ _ _ _ _ => True) (fun _ U_ o_ V_ => ∃ v_ L_, o_ = .returned v_ ∧ QK35 Z o sen h0 n0 v_ V_.heap L_ ∧ FrameEnd U_ o_ V_ L_ ({ frames := 0, cells := 0, slots := 0, locals := 0 } : Room).cells ({ frames := 0, cells := 0, slots := 0, locals := 0 } : Room).slots) := by
  refine MetFree.of_bodySF (plainFor_of_name pnK35) hisR ?_
  intro p e s m args below meth c s₁ Bd hml0 hP hK
  obtain ⟨rfl, hZ, hh⟩ := hP
  have hx := Bd.exec
  have hby := Bd.bytes
  have hml : c.maxLocals = 4 := hml0
  have hown : s.vm.findClass "com/example/pctenc/pctenc/EscapeWritePinLaw" = some m.cls := findClass_of_methodNamed Bd.named
  have hnm := (name_of_methodNamed Bd.named Bd.method).1
  have hlk : meth.locks = false := BodyLoose.notSynchronized Bd
  have hret : meth.sig.returnType = (some .boolean) := Bd.returns
  have X0 : Stand p l e ({ frames := 0, cells := 0, slots := 0, locals := 0 } : Room) s m #[(.ref o), (.int (5 : Int32)), (.int (3 : Int32)), (.int sen)] below meth c s₁ [] 0 0 := Stand.of_body Bd
  have e0 : s₁.heap = h0 := by rw [← hh, Bd.state]; rfl
  have N0 := Fr.nil n0
  show Go p e below s ({ frames := 0, cells := 0, slots := 0, locals := 0 } : Room).cells ({ frames := 0, cells := 0, slots := 0, locals := 0 } : Room).slots (QK35 Z o sen h0 n0) (s₁.setTop (entryFrame m #[(.ref o), (.int (5 : Int32)), (.int (3 : Int32)), (.int sen)] 4))
  rw [efK35]
  refine Go.by (fun _ kont => XS.iloadN X0.here hx rfl (hb hby dK35_0) rfl (XS.iloadN X0.here hx rfl (hb hby dK35_1) rfl (XS.icmpNo X0.here hx rfl (hb hby dK35_2) rfl (by decide) (XS.iloadN X0.here hx rfl (hb hby dK35_5) rfl (XS.iloadN X0.here hx rfl (hb hby dK35_6) rfl (XS.iconst X0.here hx rfl (hb hby dK35_7) kont)))))) ?_
  show Go _ _ _ _ _ _ _ (s₁.setTop (mkF m 8 #[.val (.ref o), .val (.int (5 : Int32)), .val (.int (3 : Int32)), .val (.int sen)] [(.int (3 : Int32)), (.int (3 : Int32)), (.int (5 : Int32))]))
  refine Go.by (fun _ kont => XS.iadd X0.here hx rfl (hb hby dK35_8) rfl kont) ?_
  show Go _ _ _ _ _ _ _ (s₁.setTop (mkF m 9 #[.val (.ref o), .val (.int (5 : Int32)), .val (.int (3 : Int32)), .val (.int sen)] [(.int ((3 : Int32) + (3 : Int32))), (.int (5 : Int32))]))
  rw [show ((3 : Int32) + (3 : Int32)) = (6 : Int32) from by decide]
  show Go _ _ _ _ _ _ _ (s₁.setTop (mkF m 9 #[.val (.ref o), .val (.int (5 : Int32)), .val (.int (3 : Int32)), .val (.int sen)] [(.int (6 : Int32)), (.int (5 : Int32))]))
  refine Go.by (fun _ kont => XS.icmpNo X0.here hx rfl (hb hby dK35_9) rfl (by decide) (XS.iconst X0.here hx rfl (hb hby dK35_12) kont)) ?_
  show Go _ _ _ _ _ _ _ (s₁.setTop (mkF m 13 #[.val (.ref o), .val (.int (5 : Int32)), .val (.int (3 : Int32)), .val (.int sen)] [(.int (1 : Int32))]))
  refine Go.retN X0 hx (t := .boolean) hret (by simp) hlk (hb hby dK35_13) ?_ (by decide) (by decide)
  show QK35 Z o sen h0 n0 (some (.int (1 : Int32))) s₁.heap _
  rw [e0]
  exact ⟨rfl, N0, rfl⟩

theorem dK36_0 : decode method_3_code 0 = .ok (.iload_n 1, 1) := by decide +kernel
theorem dK36_1 : decode method_3_code 1 = .ok (.iload_n 2, 1) := by decide +kernel
theorem dK36_2 : decode method_3_code 2 = .ok (.if_icmp .lt 12, 3) := by decide +kernel
theorem dK36_5 : decode method_3_code 5 = .ok (.iload_n 1, 1) := by decide +kernel
theorem dK36_6 : decode method_3_code 6 = .ok (.iload_n 2, 1) := by decide +kernel
theorem dK36_7 : decode method_3_code 7 = .ok (.iconst 3, 1) := by decide +kernel
theorem dK36_8 : decode method_3_code 8 = .ok (.iadd, 1) := by decide +kernel
theorem dK36_9 : decode method_3_code 9 = .ok (.if_icmp .ge 5, 3) := by decide +kernel
theorem dK36_14 : decode method_3_code 14 = .ok (.aload_n 0, 1) := by decide +kernel
theorem dK36_15 : decode method_3_code 15 = .ok (.iload_n 1, 1) := by decide +kernel
theorem dK36_16 : decode method_3_code 16 = .ok (.caload, 1) := by decide +kernel
theorem dK36_17 : decode method_3_code 17 = .ok (.iload_n 3, 1) := by decide +kernel
theorem dK36_18 : decode method_3_code 18 = .ok (.if_icmp .ne 7, 3) := by decide +kernel
theorem dK36_21 : decode method_3_code 21 = .ok (.iconst 1, 1) := by decide +kernel
theorem dK36_22 : decode method_3_code 22 = .ok (.goto 4, 3) := by decide +kernel
theorem dK36_26 : decode method_3_code 26 = .ok (.ireturn, 1) := by decide +kernel
theorem pnK36 : plainName "com/example/pctenc/pctenc/EscapeWritePinLaw" = true := by first | (simp [plainName, overriddenIn]; done) | decide +kernel
theorem efK36 (m : MethodId) (o : Addr) (sen : Int32) : entryFrame m #[(.ref o), (.int (6 : Int32)), (.int (3 : Int32)), (.int sen)] 4 = mkF m 0 #[.val (.ref o), .val (.int (6 : Int32)), .val (.int (3 : Int32)), .val (.int sen)] [] := by first | (simp [entryFrame, mkF, argsToLocals, Value.category]; done) | rfl
def QK36 (Z : State) (o : Addr) (sen : Int32) (kc_o : ClassId) (v0 : Int32) (v1 : Int32) (v2 : Int32) (v3 : Int32) (v4 : Int32) (v5 : Int32) (v7 : Int32) (h0 : Heap) (n0 : Nat) (v : Option Value) (h : Heap) (L : List Loc) : Prop := (v = some (.int (1 : Int32)) ∧ Fr n0 L ∧ h = h0)
set_option maxRecDepth 65536 in
set_option maxHeartbeats 40000000 in
theorem rmK36 (l : Launch) (Z : State) (a0 : Array Value) (hw : ∀ d ∈ tables_1, d.before a0 Z = true) (ws : List Jvm.Cond) (o : Addr) (sen : Int32) (kc_o : ClassId) (v0 : Int32) (v1 : Int32) (v2 : Int32) (v3 : Int32) (v4 : Int32) (v5 : Int32) (v7 : Int32) (h0 : Heap) (n0 : Nat) (Z0 : n0 ≤ h0.size) (V0_o : Arv Z h0 o kc_o .char (8 : Int32) [(.int v0), (.int v1), (.int v2), (.int v3), (.int v4), (.int v5), (.int (nar .char sen)), (.int v7)] (.int (0 : Int32))) (hsen : (nar .char sen) = sen) :
    MetFree l (⟨"com/example/pctenc/pctenc/EscapeWritePinLaw", "kept", "([CIIC)Z"⟩ : MethodName) (head1 (Jvm.Cond.code (⟨"com/example/pctenc/pctenc/EscapeWritePinLaw", "kept", "([CIIC)Z"⟩ : MethodName) method_3_code 4 (some .boolean) :: ws) ({ frames := 0, cells := 0, slots := 0, locals := 0 } : Room)) (fun aa_ U_ => aa_ = #[(.ref o), (.int (6 : Int32)), (.int (3 : Int32)), (.int sen)] ∧ Z.Warmed39 U_.vm ∧ U_.heap = h0) (fun _ _ _ _ _ => True) (fun _ U_ o_ V_ => ∃ v_ L_, o_ = .returned v_ ∧ QK36 Z o sen kc_o v0 v1 v2 v3 v4 v5 v7 h0 n0 v_ V_.heap L_ ∧ FrameEnd U_ o_ V_ L_ ({ frames := 0, cells := 0, slots := 0, locals := 0 } : Room).cells ({ frames := 0, cells := 0, slots := 0, locals := 0 } : Room).slots) := by
  refine MetFree.of_bodySF (plainFor_of_name pnK36) hisR ?_
  intro p e s m args below meth c s₁ Bd hml0 hP hK
  obtain ⟨rfl, hZ, hh⟩ := hP
  have hx := Bd.exec
  have hby := Bd.bytes
  have hml : c.maxLocals = 4 := hml0
  have hown : s.vm.findClass "com/example/pctenc/pctenc/EscapeWritePinLaw" = some m.cls := findClass_of_methodNamed Bd.named
  have hnm := (name_of_methodNamed Bd.named Bd.method).1
  have hlk : meth.locks = false := BodyLoose.notSynchronized Bd
  have hret : meth.sig.returnType = (some .boolean) := Bd.returns
  have X0 : Stand p l e ({ frames := 0, cells := 0, slots := 0, locals := 0 } : Room) s m #[(.ref o), (.int (6 : Int32)), (.int (3 : Int32)), (.int sen)] below meth c s₁ [] 0 0 := Stand.of_body Bd
  have e0 : s₁.heap = h0 := by rw [← hh, Bd.state]; rfl
  have N0 := Fr.nil n0
  show Go p e below s ({ frames := 0, cells := 0, slots := 0, locals := 0 } : Room).cells ({ frames := 0, cells := 0, slots := 0, locals := 0 } : Room).slots (QK36 Z o sen kc_o v0 v1 v2 v3 v4 v5 v7 h0 n0) (s₁.setTop (entryFrame m #[(.ref o), (.int (6 : Int32)), (.int (3 : Int32)), (.int sen)] 4))
  rw [efK36]
  refine Go.by (fun _ kont => XS.iloadN X0.here hx rfl (hb hby dK36_0) rfl (XS.iloadN X0.here hx rfl (hb hby dK36_1) rfl (XS.icmpNo X0.here hx rfl (hb hby dK36_2) rfl (by decide) (XS.iloadN X0.here hx rfl (hb hby dK36_5) rfl (XS.iloadN X0.here hx rfl (hb hby dK36_6) rfl (XS.iconst X0.here hx rfl (hb hby dK36_7) kont)))))) ?_
  show Go _ _ _ _ _ _ _ (s₁.setTop (mkF m 8 #[.val (.ref o), .val (.int (6 : Int32)), .val (.int (3 : Int32)), .val (.int sen)] [(.int (3 : Int32)), (.int (3 : Int32)), (.int (6 : Int32))]))
  refine Go.by (fun _ kont => XS.iadd X0.here hx rfl (hb hby dK36_8) rfl kont) ?_
  show Go _ _ _ _ _ _ _ (s₁.setTop (mkF m 9 #[.val (.ref o), .val (.int (6 : Int32)), .val (.int (3 : Int32)), .val (.int sen)] [(.int ((3 : Int32) + (3 : Int32))), (.int (6 : Int32))]))
  rw [show ((3 : Int32) + (3 : Int32)) = (6 : Int32) from by decide]
  show Go _ _ _ _ _ _ _ (s₁.setTop (mkF m 9 #[.val (.ref o), .val (.int (6 : Int32)), .val (.int (3 : Int32)), .val (.int sen)] [(.int (6 : Int32)), (.int (6 : Int32))]))
  refine Go.by (fun _ kont => XS.icmpYes X0.here hx rfl (pc0 := 9) (pc' := 14) rfl (hb hby dK36_9) rfl (by decide) (by decide) (by decide) (XS.aloadN X0.here hx rfl (hb hby dK36_14) rfl rfl (XS.iloadN X0.here hx rfl (hb hby dK36_15) rfl kont))) ?_
  show Go _ _ _ _ _ _ _ (s₁.setTop (mkF m 16 #[.val (.ref o), .val (.int (6 : Int32)), .val (.int (3 : Int32)), .val (.int sen)] [(.int (6 : Int32)), (.ref o)]))
  obtain ⟨cl_q101, Ar_q101, q1_q101, S_q101, N_q101, H_q101, G_q101⟩ := id V0_o
  have hin_q101 : ¬ ((6 : Int32) < 0 ∨ cl_q101.slots.size ≤ ((6 : Int32)).toNatClampNeg) := inb_of S_q101 ⟨by decide, by decide⟩
  have hat_q101 : cl_q101.slots[((6 : Int32)).toNatClampNeg]? = some (.int (nar .char sen)) := Has.at H_q101 hin_q101 rfl
  refine Go.by (X0.caload hx (j := (6 : Int32)) (v := (.int (nar .char sen))) (by first | exact Ar_q101.1 | (rw [e0]; exact Ar_q101.1)) (State.isArrayOf_alike hZ.alike Ar_q101.2.1) Ar_q101.2.2 hin_q101 hat_q101 (g := (mkF m 16 #[.val (.ref o), .val (.int (6 : Int32)), .val (.int (3 : Int32)), .val (.int sen)] [(.int (6 : Int32)), (.ref o)])) rfl rfl (hb hby dK36_16)) ?_
  show Go _ _ _ _ _ _ _ (s₁.setTop (mkF m 17 #[.val (.ref o), .val (.int (6 : Int32)), .val (.int (3 : Int32)), .val (.int sen)] [(.int (nar .char sen))]))
  refine Go.by (fun _ kont => XS.iloadN X0.here hx rfl (hb hby dK36_17) rfl kont) ?_
  show Go _ _ _ _ _ _ _ (s₁.setTop (mkF m 18 #[.val (.ref o), .val (.int (6 : Int32)), .val (.int (3 : Int32)), .val (.int sen)] [(.int sen), (.int (nar .char sen))]))
  refine Go.by (fun _ kont => XS.icmpNo X0.here hx rfl (hb hby dK36_18) rfl (teq hsen).2 kont) ?_
  show Go _ _ _ _ _ _ _ (s₁.setTop (mkF m 21 #[.val (.ref o), .val (.int (6 : Int32)), .val (.int (3 : Int32)), .val (.int sen)] []))
  refine Go.by (fun _ kont => XS.iconst X0.here hx rfl (hb hby dK36_21) (XS.goto X0.here hx rfl (pc0 := 22) (pc' := 26) rfl (hb hby dK36_22) (by decide) (by decide) kont)) ?_
  show Go _ _ _ _ _ _ _ (s₁.setTop (mkF m 26 #[.val (.ref o), .val (.int (6 : Int32)), .val (.int (3 : Int32)), .val (.int sen)] [(.int (1 : Int32))]))
  refine Go.retN X0 hx (t := .boolean) hret (by simp) hlk (hb hby dK36_26) ?_ (by decide) (by decide)
  show QK36 Z o sen kc_o v0 v1 v2 v3 v4 v5 v7 h0 n0 (some (.int (1 : Int32))) s₁.heap _
  rw [e0]
  exact ⟨rfl, N0, rfl⟩

theorem dK37_0 : decode method_3_code 0 = .ok (.iload_n 1, 1) := by decide +kernel
theorem dK37_1 : decode method_3_code 1 = .ok (.iload_n 2, 1) := by decide +kernel
theorem dK37_2 : decode method_3_code 2 = .ok (.if_icmp .lt 12, 3) := by decide +kernel
theorem dK37_5 : decode method_3_code 5 = .ok (.iload_n 1, 1) := by decide +kernel
theorem dK37_6 : decode method_3_code 6 = .ok (.iload_n 2, 1) := by decide +kernel
theorem dK37_7 : decode method_3_code 7 = .ok (.iconst 3, 1) := by decide +kernel
theorem dK37_8 : decode method_3_code 8 = .ok (.iadd, 1) := by decide +kernel
theorem dK37_9 : decode method_3_code 9 = .ok (.if_icmp .ge 5, 3) := by decide +kernel
theorem dK37_14 : decode method_3_code 14 = .ok (.aload_n 0, 1) := by decide +kernel
theorem dK37_15 : decode method_3_code 15 = .ok (.iload_n 1, 1) := by decide +kernel
theorem dK37_16 : decode method_3_code 16 = .ok (.caload, 1) := by decide +kernel
theorem dK37_17 : decode method_3_code 17 = .ok (.iload_n 3, 1) := by decide +kernel
theorem dK37_18 : decode method_3_code 18 = .ok (.if_icmp .ne 7, 3) := by decide +kernel
theorem dK37_21 : decode method_3_code 21 = .ok (.iconst 1, 1) := by decide +kernel
theorem dK37_22 : decode method_3_code 22 = .ok (.goto 4, 3) := by decide +kernel
theorem dK37_26 : decode method_3_code 26 = .ok (.ireturn, 1) := by decide +kernel
theorem pnK37 : plainName "com/example/pctenc/pctenc/EscapeWritePinLaw" = true := by first | (simp [plainName, overriddenIn]; done) | decide +kernel
theorem efK37 (m : MethodId) (o : Addr) (sen : Int32) : entryFrame m #[(.ref o), (.int (7 : Int32)), (.int (3 : Int32)), (.int sen)] 4 = mkF m 0 #[.val (.ref o), .val (.int (7 : Int32)), .val (.int (3 : Int32)), .val (.int sen)] [] := by first | (simp [entryFrame, mkF, argsToLocals, Value.category]; done) | rfl
def QK37 (Z : State) (o : Addr) (sen : Int32) (kc_o : ClassId) (v0 : Int32) (v1 : Int32) (v2 : Int32) (v3 : Int32) (v4 : Int32) (v5 : Int32) (v6 : Int32) (h0 : Heap) (n0 : Nat) (v : Option Value) (h : Heap) (L : List Loc) : Prop := (v = some (.int (1 : Int32)) ∧ Fr n0 L ∧ h = h0)
set_option maxRecDepth 65536 in
set_option maxHeartbeats 40000000 in
theorem rmK37 (l : Launch) (Z : State) (a0 : Array Value) (hw : ∀ d ∈ tables_1, d.before a0 Z = true) (ws : List Jvm.Cond) (o : Addr) (sen : Int32) (kc_o : ClassId) (v0 : Int32) (v1 : Int32) (v2 : Int32) (v3 : Int32) (v4 : Int32) (v5 : Int32) (v6 : Int32) (h0 : Heap) (n0 : Nat) (Z0 : n0 ≤ h0.size) (V0_o : Arv Z h0 o kc_o .char (8 : Int32) [(.int v0), (.int v1), (.int v2), (.int v3), (.int v4), (.int v5), (.int v6), (.int (nar .char sen))] (.int (0 : Int32))) (hsen : (nar .char sen) = sen) :
    MetFree l (⟨"com/example/pctenc/pctenc/EscapeWritePinLaw", "kept", "([CIIC)Z"⟩ : MethodName) (head1 (Jvm.Cond.code (⟨"com/example/pctenc/pctenc/EscapeWritePinLaw", "kept", "([CIIC)Z"⟩ : MethodName) method_3_code 4 (some .boolean) :: ws) ({ frames := 0, cells := 0, slots := 0, locals := 0 } : Room)) (fun aa_ U_ => aa_ = #[(.ref o), (.int (7 : Int32)), (.int (3 : Int32)), (.int sen)] ∧ Z.Warmed39 U_.vm ∧ U_.heap = h0) (fun _ _ _ _ _ => True) (fun _ U_ o_ V_ => ∃ v_ L_, o_ = .returned v_ ∧ QK37 Z o sen kc_o v0 v1 v2 v3 v4 v5 v6 h0 n0 v_ V_.heap L_ ∧ FrameEnd U_ o_ V_ L_ ({ frames := 0, cells := 0, slots := 0, locals := 0 } : Room).cells ({ frames := 0, cells := 0, slots := 0, locals := 0 } : Room).slots) := by
  refine MetFree.of_bodySF (plainFor_of_name pnK37) hisR ?_
  intro p e s m args below meth c s₁ Bd hml0 hP hK
  obtain ⟨rfl, hZ, hh⟩ := hP
  have hx := Bd.exec
  have hby := Bd.bytes
  have hml : c.maxLocals = 4 := hml0
  have hown : s.vm.findClass "com/example/pctenc/pctenc/EscapeWritePinLaw" = some m.cls := findClass_of_methodNamed Bd.named
  have hnm := (name_of_methodNamed Bd.named Bd.method).1
  have hlk : meth.locks = false := BodyLoose.notSynchronized Bd
  have hret : meth.sig.returnType = (some .boolean) := Bd.returns
  have X0 : Stand p l e ({ frames := 0, cells := 0, slots := 0, locals := 0 } : Room) s m #[(.ref o), (.int (7 : Int32)), (.int (3 : Int32)), (.int sen)] below meth c s₁ [] 0 0 := Stand.of_body Bd
  have e0 : s₁.heap = h0 := by rw [← hh, Bd.state]; rfl
  have N0 := Fr.nil n0
  show Go p e below s ({ frames := 0, cells := 0, slots := 0, locals := 0 } : Room).cells ({ frames := 0, cells := 0, slots := 0, locals := 0 } : Room).slots (QK37 Z o sen kc_o v0 v1 v2 v3 v4 v5 v6 h0 n0) (s₁.setTop (entryFrame m #[(.ref o), (.int (7 : Int32)), (.int (3 : Int32)), (.int sen)] 4))
  rw [efK37]
  refine Go.by (fun _ kont => XS.iloadN X0.here hx rfl (hb hby dK37_0) rfl (XS.iloadN X0.here hx rfl (hb hby dK37_1) rfl (XS.icmpNo X0.here hx rfl (hb hby dK37_2) rfl (by decide) (XS.iloadN X0.here hx rfl (hb hby dK37_5) rfl (XS.iloadN X0.here hx rfl (hb hby dK37_6) rfl (XS.iconst X0.here hx rfl (hb hby dK37_7) kont)))))) ?_
  show Go _ _ _ _ _ _ _ (s₁.setTop (mkF m 8 #[.val (.ref o), .val (.int (7 : Int32)), .val (.int (3 : Int32)), .val (.int sen)] [(.int (3 : Int32)), (.int (3 : Int32)), (.int (7 : Int32))]))
  refine Go.by (fun _ kont => XS.iadd X0.here hx rfl (hb hby dK37_8) rfl kont) ?_
  show Go _ _ _ _ _ _ _ (s₁.setTop (mkF m 9 #[.val (.ref o), .val (.int (7 : Int32)), .val (.int (3 : Int32)), .val (.int sen)] [(.int ((3 : Int32) + (3 : Int32))), (.int (7 : Int32))]))
  rw [show ((3 : Int32) + (3 : Int32)) = (6 : Int32) from by decide]
  show Go _ _ _ _ _ _ _ (s₁.setTop (mkF m 9 #[.val (.ref o), .val (.int (7 : Int32)), .val (.int (3 : Int32)), .val (.int sen)] [(.int (6 : Int32)), (.int (7 : Int32))]))
  refine Go.by (fun _ kont => XS.icmpYes X0.here hx rfl (pc0 := 9) (pc' := 14) rfl (hb hby dK37_9) rfl (by decide) (by decide) (by decide) (XS.aloadN X0.here hx rfl (hb hby dK37_14) rfl rfl (XS.iloadN X0.here hx rfl (hb hby dK37_15) rfl kont))) ?_
  show Go _ _ _ _ _ _ _ (s₁.setTop (mkF m 16 #[.val (.ref o), .val (.int (7 : Int32)), .val (.int (3 : Int32)), .val (.int sen)] [(.int (7 : Int32)), (.ref o)]))
  obtain ⟨cl_q101, Ar_q101, q1_q101, S_q101, N_q101, H_q101, G_q101⟩ := id V0_o
  have hin_q101 : ¬ ((7 : Int32) < 0 ∨ cl_q101.slots.size ≤ ((7 : Int32)).toNatClampNeg) := inb_of S_q101 ⟨by decide, by decide⟩
  have hat_q101 : cl_q101.slots[((7 : Int32)).toNatClampNeg]? = some (.int (nar .char sen)) := Has.at H_q101 hin_q101 rfl
  refine Go.by (X0.caload hx (j := (7 : Int32)) (v := (.int (nar .char sen))) (by first | exact Ar_q101.1 | (rw [e0]; exact Ar_q101.1)) (State.isArrayOf_alike hZ.alike Ar_q101.2.1) Ar_q101.2.2 hin_q101 hat_q101 (g := (mkF m 16 #[.val (.ref o), .val (.int (7 : Int32)), .val (.int (3 : Int32)), .val (.int sen)] [(.int (7 : Int32)), (.ref o)])) rfl rfl (hb hby dK37_16)) ?_
  show Go _ _ _ _ _ _ _ (s₁.setTop (mkF m 17 #[.val (.ref o), .val (.int (7 : Int32)), .val (.int (3 : Int32)), .val (.int sen)] [(.int (nar .char sen))]))
  refine Go.by (fun _ kont => XS.iloadN X0.here hx rfl (hb hby dK37_17) rfl kont) ?_
  show Go _ _ _ _ _ _ _ (s₁.setTop (mkF m 18 #[.val (.ref o), .val (.int (7 : Int32)), .val (.int (3 : Int32)), .val (.int sen)] [(.int sen), (.int (nar .char sen))]))
  refine Go.by (fun _ kont => XS.icmpNo X0.here hx rfl (hb hby dK37_18) rfl (teq hsen).2 kont) ?_
  show Go _ _ _ _ _ _ _ (s₁.setTop (mkF m 21 #[.val (.ref o), .val (.int (7 : Int32)), .val (.int (3 : Int32)), .val (.int sen)] []))
  refine Go.by (fun _ kont => XS.iconst X0.here hx rfl (hb hby dK37_21) (XS.goto X0.here hx rfl (pc0 := 22) (pc' := 26) rfl (hb hby dK37_22) (by decide) (by decide) kont)) ?_
  show Go _ _ _ _ _ _ _ (s₁.setTop (mkF m 26 #[.val (.ref o), .val (.int (7 : Int32)), .val (.int (3 : Int32)), .val (.int sen)] [(.int (1 : Int32))]))
  refine Go.retN X0 hx (t := .boolean) hret (by simp) hlk (hb hby dK37_26) ?_ (by decide) (by decide)
  show QK37 Z o sen kc_o v0 v1 v2 v3 v4 v5 v6 h0 n0 (some (.int (1 : Int32))) s₁.heap _
  rw [e0]
  exact ⟨rfl, N0, rfl⟩

theorem dK40_0 : decode method_3_code 0 = .ok (.iload_n 1, 1) := by decide +kernel
theorem dK40_1 : decode method_3_code 1 = .ok (.iload_n 2, 1) := by decide +kernel
theorem dK40_2 : decode method_3_code 2 = .ok (.if_icmp .lt 12, 3) := by decide +kernel
theorem dK40_14 : decode method_3_code 14 = .ok (.aload_n 0, 1) := by decide +kernel
theorem dK40_15 : decode method_3_code 15 = .ok (.iload_n 1, 1) := by decide +kernel
theorem dK40_16 : decode method_3_code 16 = .ok (.caload, 1) := by decide +kernel
theorem dK40_17 : decode method_3_code 17 = .ok (.iload_n 3, 1) := by decide +kernel
theorem dK40_18 : decode method_3_code 18 = .ok (.if_icmp .ne 7, 3) := by decide +kernel
theorem dK40_21 : decode method_3_code 21 = .ok (.iconst 1, 1) := by decide +kernel
theorem dK40_22 : decode method_3_code 22 = .ok (.goto 4, 3) := by decide +kernel
theorem dK40_26 : decode method_3_code 26 = .ok (.ireturn, 1) := by decide +kernel
theorem pnK40 : plainName "com/example/pctenc/pctenc/EscapeWritePinLaw" = true := by first | (simp [plainName, overriddenIn]; done) | decide +kernel
theorem efK40 (m : MethodId) (o : Addr) (sen : Int32) : entryFrame m #[(.ref o), (.int (0 : Int32)), (.int (4 : Int32)), (.int sen)] 4 = mkF m 0 #[.val (.ref o), .val (.int (0 : Int32)), .val (.int (4 : Int32)), .val (.int sen)] [] := by first | (simp [entryFrame, mkF, argsToLocals, Value.category]; done) | rfl
def QK40 (Z : State) (o : Addr) (sen : Int32) (kc_o : ClassId) (v1 : Int32) (v2 : Int32) (v3 : Int32) (v4 : Int32) (v5 : Int32) (v6 : Int32) (v7 : Int32) (h0 : Heap) (n0 : Nat) (v : Option Value) (h : Heap) (L : List Loc) : Prop := (v = some (.int (1 : Int32)) ∧ Fr n0 L ∧ h = h0)
set_option maxRecDepth 65536 in
set_option maxHeartbeats 40000000 in
theorem rmK40 (l : Launch) (Z : State) (a0 : Array Value) (hw : ∀ d ∈ tables_1, d.before a0 Z = true) (ws : List Jvm.Cond) (o : Addr) (sen : Int32) (kc_o : ClassId) (v1 : Int32) (v2 : Int32) (v3 : Int32) (v4 : Int32) (v5 : Int32) (v6 : Int32) (v7 : Int32) (h0 : Heap) (n0 : Nat) (Z0 : n0 ≤ h0.size) (V0_o : Arv Z h0 o kc_o .char (8 : Int32) [(.int (nar .char sen)), (.int v1), (.int v2), (.int v3), (.int v4), (.int v5), (.int v6), (.int v7)] (.int (0 : Int32))) (hsen : (nar .char sen) = sen) :
    MetFree l (⟨"com/example/pctenc/pctenc/EscapeWritePinLaw", "kept", "([CIIC)Z"⟩ : MethodName) (head1 (Jvm.Cond.code (⟨"com/example/pctenc/pctenc/EscapeWritePinLaw", "kept", "([CIIC)Z"⟩ : MethodName) method_3_code 4 (some .boolean) :: ws) ({ frames := 0, cells := 0, slots := 0, locals := 0 } : Room)) (fun aa_ U_ => aa_ = #[(.ref o), (.int (0 : Int32)), (.int (4 : Int32)), (.int sen)] ∧ Z.Warmed39 U_.vm ∧ U_.heap = h0) (fun _ _ _ _ _ => True) (fun _ U_ o_ V_ => ∃ v_ L_, o_ = .returned v_ ∧ QK40 Z o sen kc_o v1 v2 v3 v4 v5 v6 v7 h0 n0 v_ V_.heap L_ ∧ FrameEnd U_ o_ V_ L_ ({ frames := 0, cells := 0, slots := 0, locals := 0 } : Room).cells ({ frames := 0, cells := 0, slots := 0, locals := 0 } : Room).slots) := by
  refine MetFree.of_bodySF (plainFor_of_name pnK40) hisR ?_
  intro p e s m args below meth c s₁ Bd hml0 hP hK
  obtain ⟨rfl, hZ, hh⟩ := hP
  have hx := Bd.exec
  have hby := Bd.bytes
  have hml : c.maxLocals = 4 := hml0
  have hown : s.vm.findClass "com/example/pctenc/pctenc/EscapeWritePinLaw" = some m.cls := findClass_of_methodNamed Bd.named
  have hnm := (name_of_methodNamed Bd.named Bd.method).1
  have hlk : meth.locks = false := BodyLoose.notSynchronized Bd
  have hret : meth.sig.returnType = (some .boolean) := Bd.returns
  have X0 : Stand p l e ({ frames := 0, cells := 0, slots := 0, locals := 0 } : Room) s m #[(.ref o), (.int (0 : Int32)), (.int (4 : Int32)), (.int sen)] below meth c s₁ [] 0 0 := Stand.of_body Bd
  have e0 : s₁.heap = h0 := by rw [← hh, Bd.state]; rfl
  have N0 := Fr.nil n0
  show Go p e below s ({ frames := 0, cells := 0, slots := 0, locals := 0 } : Room).cells ({ frames := 0, cells := 0, slots := 0, locals := 0 } : Room).slots (QK40 Z o sen kc_o v1 v2 v3 v4 v5 v6 v7 h0 n0) (s₁.setTop (entryFrame m #[(.ref o), (.int (0 : Int32)), (.int (4 : Int32)), (.int sen)] 4))
  rw [efK40]
  refine Go.by (fun _ kont => XS.iloadN X0.here hx rfl (hb hby dK40_0) rfl (XS.iloadN X0.here hx rfl (hb hby dK40_1) rfl (XS.icmpYes X0.here hx rfl (pc0 := 2) (pc' := 14) rfl (hb hby dK40_2) rfl (by decide) (by decide) (by decide) (XS.aloadN X0.here hx rfl (hb hby dK40_14) rfl rfl (XS.iloadN X0.here hx rfl (hb hby dK40_15) rfl kont))))) ?_
  show Go _ _ _ _ _ _ _ (s₁.setTop (mkF m 16 #[.val (.ref o), .val (.int (0 : Int32)), .val (.int (4 : Int32)), .val (.int sen)] [(.int (0 : Int32)), (.ref o)]))
  obtain ⟨cl_q101, Ar_q101, q1_q101, S_q101, N_q101, H_q101, G_q101⟩ := id V0_o
  have hin_q101 : ¬ ((0 : Int32) < 0 ∨ cl_q101.slots.size ≤ ((0 : Int32)).toNatClampNeg) := inb_of S_q101 ⟨by decide, by decide⟩
  have hat_q101 : cl_q101.slots[((0 : Int32)).toNatClampNeg]? = some (.int (nar .char sen)) := Has.at H_q101 hin_q101 rfl
  refine Go.by (X0.caload hx (j := (0 : Int32)) (v := (.int (nar .char sen))) (by first | exact Ar_q101.1 | (rw [e0]; exact Ar_q101.1)) (State.isArrayOf_alike hZ.alike Ar_q101.2.1) Ar_q101.2.2 hin_q101 hat_q101 (g := (mkF m 16 #[.val (.ref o), .val (.int (0 : Int32)), .val (.int (4 : Int32)), .val (.int sen)] [(.int (0 : Int32)), (.ref o)])) rfl rfl (hb hby dK40_16)) ?_
  show Go _ _ _ _ _ _ _ (s₁.setTop (mkF m 17 #[.val (.ref o), .val (.int (0 : Int32)), .val (.int (4 : Int32)), .val (.int sen)] [(.int (nar .char sen))]))
  refine Go.by (fun _ kont => XS.iloadN X0.here hx rfl (hb hby dK40_17) rfl kont) ?_
  show Go _ _ _ _ _ _ _ (s₁.setTop (mkF m 18 #[.val (.ref o), .val (.int (0 : Int32)), .val (.int (4 : Int32)), .val (.int sen)] [(.int sen), (.int (nar .char sen))]))
  refine Go.by (fun _ kont => XS.icmpNo X0.here hx rfl (hb hby dK40_18) rfl (teq hsen).2 kont) ?_
  show Go _ _ _ _ _ _ _ (s₁.setTop (mkF m 21 #[.val (.ref o), .val (.int (0 : Int32)), .val (.int (4 : Int32)), .val (.int sen)] []))
  refine Go.by (fun _ kont => XS.iconst X0.here hx rfl (hb hby dK40_21) (XS.goto X0.here hx rfl (pc0 := 22) (pc' := 26) rfl (hb hby dK40_22) (by decide) (by decide) kont)) ?_
  show Go _ _ _ _ _ _ _ (s₁.setTop (mkF m 26 #[.val (.ref o), .val (.int (0 : Int32)), .val (.int (4 : Int32)), .val (.int sen)] [(.int (1 : Int32))]))
  refine Go.retN X0 hx (t := .boolean) hret (by simp) hlk (hb hby dK40_26) ?_ (by decide) (by decide)
  show QK40 Z o sen kc_o v1 v2 v3 v4 v5 v6 v7 h0 n0 (some (.int (1 : Int32))) s₁.heap _
  rw [e0]
  exact ⟨rfl, N0, rfl⟩

theorem dK41_0 : decode method_3_code 0 = .ok (.iload_n 1, 1) := by decide +kernel
theorem dK41_1 : decode method_3_code 1 = .ok (.iload_n 2, 1) := by decide +kernel
theorem dK41_2 : decode method_3_code 2 = .ok (.if_icmp .lt 12, 3) := by decide +kernel
theorem dK41_14 : decode method_3_code 14 = .ok (.aload_n 0, 1) := by decide +kernel
theorem dK41_15 : decode method_3_code 15 = .ok (.iload_n 1, 1) := by decide +kernel
theorem dK41_16 : decode method_3_code 16 = .ok (.caload, 1) := by decide +kernel
theorem dK41_17 : decode method_3_code 17 = .ok (.iload_n 3, 1) := by decide +kernel
theorem dK41_18 : decode method_3_code 18 = .ok (.if_icmp .ne 7, 3) := by decide +kernel
theorem dK41_21 : decode method_3_code 21 = .ok (.iconst 1, 1) := by decide +kernel
theorem dK41_22 : decode method_3_code 22 = .ok (.goto 4, 3) := by decide +kernel
theorem dK41_26 : decode method_3_code 26 = .ok (.ireturn, 1) := by decide +kernel
theorem pnK41 : plainName "com/example/pctenc/pctenc/EscapeWritePinLaw" = true := by first | (simp [plainName, overriddenIn]; done) | decide +kernel
theorem efK41 (m : MethodId) (o : Addr) (sen : Int32) : entryFrame m #[(.ref o), (.int (1 : Int32)), (.int (4 : Int32)), (.int sen)] 4 = mkF m 0 #[.val (.ref o), .val (.int (1 : Int32)), .val (.int (4 : Int32)), .val (.int sen)] [] := by first | (simp [entryFrame, mkF, argsToLocals, Value.category]; done) | rfl
def QK41 (Z : State) (o : Addr) (sen : Int32) (kc_o : ClassId) (v0 : Int32) (v2 : Int32) (v3 : Int32) (v4 : Int32) (v5 : Int32) (v6 : Int32) (v7 : Int32) (h0 : Heap) (n0 : Nat) (v : Option Value) (h : Heap) (L : List Loc) : Prop := (v = some (.int (1 : Int32)) ∧ Fr n0 L ∧ h = h0)
set_option maxRecDepth 65536 in
set_option maxHeartbeats 40000000 in
theorem rmK41 (l : Launch) (Z : State) (a0 : Array Value) (hw : ∀ d ∈ tables_1, d.before a0 Z = true) (ws : List Jvm.Cond) (o : Addr) (sen : Int32) (kc_o : ClassId) (v0 : Int32) (v2 : Int32) (v3 : Int32) (v4 : Int32) (v5 : Int32) (v6 : Int32) (v7 : Int32) (h0 : Heap) (n0 : Nat) (Z0 : n0 ≤ h0.size) (V0_o : Arv Z h0 o kc_o .char (8 : Int32) [(.int v0), (.int (nar .char sen)), (.int v2), (.int v3), (.int v4), (.int v5), (.int v6), (.int v7)] (.int (0 : Int32))) (hsen : (nar .char sen) = sen) :
    MetFree l (⟨"com/example/pctenc/pctenc/EscapeWritePinLaw", "kept", "([CIIC)Z"⟩ : MethodName) (head1 (Jvm.Cond.code (⟨"com/example/pctenc/pctenc/EscapeWritePinLaw", "kept", "([CIIC)Z"⟩ : MethodName) method_3_code 4 (some .boolean) :: ws) ({ frames := 0, cells := 0, slots := 0, locals := 0 } : Room)) (fun aa_ U_ => aa_ = #[(.ref o), (.int (1 : Int32)), (.int (4 : Int32)), (.int sen)] ∧ Z.Warmed39 U_.vm ∧ U_.heap = h0) (fun _ _ _ _ _ => True) (fun _ U_ o_ V_ => ∃ v_ L_, o_ = .returned v_ ∧ QK41 Z o sen kc_o v0 v2 v3 v4 v5 v6 v7 h0 n0 v_ V_.heap L_ ∧ FrameEnd U_ o_ V_ L_ ({ frames := 0, cells := 0, slots := 0, locals := 0 } : Room).cells ({ frames := 0, cells := 0, slots := 0, locals := 0 } : Room).slots) := by
  refine MetFree.of_bodySF (plainFor_of_name pnK41) hisR ?_
  intro p e s m args below meth c s₁ Bd hml0 hP hK
  obtain ⟨rfl, hZ, hh⟩ := hP
  have hx := Bd.exec
  have hby := Bd.bytes
  have hml : c.maxLocals = 4 := hml0
  have hown : s.vm.findClass "com/example/pctenc/pctenc/EscapeWritePinLaw" = some m.cls := findClass_of_methodNamed Bd.named
  have hnm := (name_of_methodNamed Bd.named Bd.method).1
  have hlk : meth.locks = false := BodyLoose.notSynchronized Bd
  have hret : meth.sig.returnType = (some .boolean) := Bd.returns
  have X0 : Stand p l e ({ frames := 0, cells := 0, slots := 0, locals := 0 } : Room) s m #[(.ref o), (.int (1 : Int32)), (.int (4 : Int32)), (.int sen)] below meth c s₁ [] 0 0 := Stand.of_body Bd
  have e0 : s₁.heap = h0 := by rw [← hh, Bd.state]; rfl
  have N0 := Fr.nil n0
  show Go p e below s ({ frames := 0, cells := 0, slots := 0, locals := 0 } : Room).cells ({ frames := 0, cells := 0, slots := 0, locals := 0 } : Room).slots (QK41 Z o sen kc_o v0 v2 v3 v4 v5 v6 v7 h0 n0) (s₁.setTop (entryFrame m #[(.ref o), (.int (1 : Int32)), (.int (4 : Int32)), (.int sen)] 4))
  rw [efK41]
  refine Go.by (fun _ kont => XS.iloadN X0.here hx rfl (hb hby dK41_0) rfl (XS.iloadN X0.here hx rfl (hb hby dK41_1) rfl (XS.icmpYes X0.here hx rfl (pc0 := 2) (pc' := 14) rfl (hb hby dK41_2) rfl (by decide) (by decide) (by decide) (XS.aloadN X0.here hx rfl (hb hby dK41_14) rfl rfl (XS.iloadN X0.here hx rfl (hb hby dK41_15) rfl kont))))) ?_
  show Go _ _ _ _ _ _ _ (s₁.setTop (mkF m 16 #[.val (.ref o), .val (.int (1 : Int32)), .val (.int (4 : Int32)), .val (.int sen)] [(.int (1 : Int32)), (.ref o)]))
  obtain ⟨cl_q101, Ar_q101, q1_q101, S_q101, N_q101, H_q101, G_q101⟩ := id V0_o
  have hin_q101 : ¬ ((1 : Int32) < 0 ∨ cl_q101.slots.size ≤ ((1 : Int32)).toNatClampNeg) := inb_of S_q101 ⟨by decide, by decide⟩
  have hat_q101 : cl_q101.slots[((1 : Int32)).toNatClampNeg]? = some (.int (nar .char sen)) := Has.at H_q101 hin_q101 rfl
  refine Go.by (X0.caload hx (j := (1 : Int32)) (v := (.int (nar .char sen))) (by first | exact Ar_q101.1 | (rw [e0]; exact Ar_q101.1)) (State.isArrayOf_alike hZ.alike Ar_q101.2.1) Ar_q101.2.2 hin_q101 hat_q101 (g := (mkF m 16 #[.val (.ref o), .val (.int (1 : Int32)), .val (.int (4 : Int32)), .val (.int sen)] [(.int (1 : Int32)), (.ref o)])) rfl rfl (hb hby dK41_16)) ?_
  show Go _ _ _ _ _ _ _ (s₁.setTop (mkF m 17 #[.val (.ref o), .val (.int (1 : Int32)), .val (.int (4 : Int32)), .val (.int sen)] [(.int (nar .char sen))]))
  refine Go.by (fun _ kont => XS.iloadN X0.here hx rfl (hb hby dK41_17) rfl kont) ?_
  show Go _ _ _ _ _ _ _ (s₁.setTop (mkF m 18 #[.val (.ref o), .val (.int (1 : Int32)), .val (.int (4 : Int32)), .val (.int sen)] [(.int sen), (.int (nar .char sen))]))
  refine Go.by (fun _ kont => XS.icmpNo X0.here hx rfl (hb hby dK41_18) rfl (teq hsen).2 kont) ?_
  show Go _ _ _ _ _ _ _ (s₁.setTop (mkF m 21 #[.val (.ref o), .val (.int (1 : Int32)), .val (.int (4 : Int32)), .val (.int sen)] []))
  refine Go.by (fun _ kont => XS.iconst X0.here hx rfl (hb hby dK41_21) (XS.goto X0.here hx rfl (pc0 := 22) (pc' := 26) rfl (hb hby dK41_22) (by decide) (by decide) kont)) ?_
  show Go _ _ _ _ _ _ _ (s₁.setTop (mkF m 26 #[.val (.ref o), .val (.int (1 : Int32)), .val (.int (4 : Int32)), .val (.int sen)] [(.int (1 : Int32))]))
  refine Go.retN X0 hx (t := .boolean) hret (by simp) hlk (hb hby dK41_26) ?_ (by decide) (by decide)
  show QK41 Z o sen kc_o v0 v2 v3 v4 v5 v6 v7 h0 n0 (some (.int (1 : Int32))) s₁.heap _
  rw [e0]
  exact ⟨rfl, N0, rfl⟩

theorem dK42_0 : decode method_3_code 0 = .ok (.iload_n 1, 1) := by decide +kernel
theorem dK42_1 : decode method_3_code 1 = .ok (.iload_n 2, 1) := by decide +kernel
theorem dK42_2 : decode method_3_code 2 = .ok (.if_icmp .lt 12, 3) := by decide +kernel
theorem dK42_14 : decode method_3_code 14 = .ok (.aload_n 0, 1) := by decide +kernel
theorem dK42_15 : decode method_3_code 15 = .ok (.iload_n 1, 1) := by decide +kernel
theorem dK42_16 : decode method_3_code 16 = .ok (.caload, 1) := by decide +kernel
theorem dK42_17 : decode method_3_code 17 = .ok (.iload_n 3, 1) := by decide +kernel
theorem dK42_18 : decode method_3_code 18 = .ok (.if_icmp .ne 7, 3) := by decide +kernel
theorem dK42_21 : decode method_3_code 21 = .ok (.iconst 1, 1) := by decide +kernel
theorem dK42_22 : decode method_3_code 22 = .ok (.goto 4, 3) := by decide +kernel
theorem dK42_26 : decode method_3_code 26 = .ok (.ireturn, 1) := by decide +kernel
theorem pnK42 : plainName "com/example/pctenc/pctenc/EscapeWritePinLaw" = true := by first | (simp [plainName, overriddenIn]; done) | decide +kernel
theorem efK42 (m : MethodId) (o : Addr) (sen : Int32) : entryFrame m #[(.ref o), (.int (2 : Int32)), (.int (4 : Int32)), (.int sen)] 4 = mkF m 0 #[.val (.ref o), .val (.int (2 : Int32)), .val (.int (4 : Int32)), .val (.int sen)] [] := by first | (simp [entryFrame, mkF, argsToLocals, Value.category]; done) | rfl
def QK42 (Z : State) (o : Addr) (sen : Int32) (kc_o : ClassId) (v0 : Int32) (v1 : Int32) (v3 : Int32) (v4 : Int32) (v5 : Int32) (v6 : Int32) (v7 : Int32) (h0 : Heap) (n0 : Nat) (v : Option Value) (h : Heap) (L : List Loc) : Prop := (v = some (.int (1 : Int32)) ∧ Fr n0 L ∧ h = h0)
set_option maxRecDepth 65536 in
set_option maxHeartbeats 40000000 in
theorem rmK42 (l : Launch) (Z : State) (a0 : Array Value) (hw : ∀ d ∈ tables_1, d.before a0 Z = true) (ws : List Jvm.Cond) (o : Addr) (sen : Int32) (kc_o : ClassId) (v0 : Int32) (v1 : Int32) (v3 : Int32) (v4 : Int32) (v5 : Int32) (v6 : Int32) (v7 : Int32) (h0 : Heap) (n0 : Nat) (Z0 : n0 ≤ h0.size) (V0_o : Arv Z h0 o kc_o .char (8 : Int32) [(.int v0), (.int v1), (.int (nar .char sen)), (.int v3), (.int v4), (.int v5), (.int v6), (.int v7)] (.int (0 : Int32))) (hsen : (nar .char sen) = sen) :
    MetFree l (⟨"com/example/pctenc/pctenc/EscapeWritePinLaw", "kept", "([CIIC)Z"⟩ : MethodName) (head1 (Jvm.Cond.code (⟨"com/example/pctenc/pctenc/EscapeWritePinLaw", "kept", "([CIIC)Z"⟩ : MethodName) method_3_code 4 (some .boolean) :: ws) ({ frames := 0, cells := 0, slots := 0, locals := 0 } : Room)) (fun aa_ U_ => aa_ = #[(.ref o), (.int (2 : Int32)), (.int (4 : Int32)), (.int sen)] ∧ Z.Warmed39 U_.vm ∧ U_.heap = h0) (fun _ _ _ _ _ => True) (fun _ U_ o_ V_ => ∃ v_ L_, o_ = .returned v_ ∧ QK42 Z o sen kc_o v0 v1 v3 v4 v5 v6 v7 h0 n0 v_ V_.heap L_ ∧ FrameEnd U_ o_ V_ L_ ({ frames := 0, cells := 0, slots := 0, locals := 0 } : Room).cells ({ frames := 0, cells := 0, slots := 0, locals := 0 } : Room).slots) := by
  refine MetFree.of_bodySF (plainFor_of_name pnK42) hisR ?_
  intro p e s m args below meth c s₁ Bd hml0 hP hK
  obtain ⟨rfl, hZ, hh⟩ := hP
  have hx := Bd.exec
  have hby := Bd.bytes
  have hml : c.maxLocals = 4 := hml0
  have hown : s.vm.findClass "com/example/pctenc/pctenc/EscapeWritePinLaw" = some m.cls := findClass_of_methodNamed Bd.named
  have hnm := (name_of_methodNamed Bd.named Bd.method).1
  have hlk : meth.locks = false := BodyLoose.notSynchronized Bd
  have hret : meth.sig.returnType = (some .boolean) := Bd.returns
  have X0 : Stand p l e ({ frames := 0, cells := 0, slots := 0, locals := 0 } : Room) s m #[(.ref o), (.int (2 : Int32)), (.int (4 : Int32)), (.int sen)] below meth c s₁ [] 0 0 := Stand.of_body Bd
  have e0 : s₁.heap = h0 := by rw [← hh, Bd.state]; rfl
  have N0 := Fr.nil n0
  show Go p e below s ({ frames := 0, cells := 0, slots := 0, locals := 0 } : Room).cells ({ frames := 0, cells := 0, slots := 0, locals := 0 } : Room).slots (QK42 Z o sen kc_o v0 v1 v3 v4 v5 v6 v7 h0 n0) (s₁.setTop (entryFrame m #[(.ref o), (.int (2 : Int32)), (.int (4 : Int32)), (.int sen)] 4))
  rw [efK42]
  refine Go.by (fun _ kont => XS.iloadN X0.here hx rfl (hb hby dK42_0) rfl (XS.iloadN X0.here hx rfl (hb hby dK42_1) rfl (XS.icmpYes X0.here hx rfl (pc0 := 2) (pc' := 14) rfl (hb hby dK42_2) rfl (by decide) (by decide) (by decide) (XS.aloadN X0.here hx rfl (hb hby dK42_14) rfl rfl (XS.iloadN X0.here hx rfl (hb hby dK42_15) rfl kont))))) ?_
  show Go _ _ _ _ _ _ _ (s₁.setTop (mkF m 16 #[.val (.ref o), .val (.int (2 : Int32)), .val (.int (4 : Int32)), .val (.int sen)] [(.int (2 : Int32)), (.ref o)]))
  obtain ⟨cl_q101, Ar_q101, q1_q101, S_q101, N_q101, H_q101, G_q101⟩ := id V0_o
  have hin_q101 : ¬ ((2 : Int32) < 0 ∨ cl_q101.slots.size ≤ ((2 : Int32)).toNatClampNeg) := inb_of S_q101 ⟨by decide, by decide⟩
  have hat_q101 : cl_q101.slots[((2 : Int32)).toNatClampNeg]? = some (.int (nar .char sen)) := Has.at H_q101 hin_q101 rfl
  refine Go.by (X0.caload hx (j := (2 : Int32)) (v := (.int (nar .char sen))) (by first | exact Ar_q101.1 | (rw [e0]; exact Ar_q101.1)) (State.isArrayOf_alike hZ.alike Ar_q101.2.1) Ar_q101.2.2 hin_q101 hat_q101 (g := (mkF m 16 #[.val (.ref o), .val (.int (2 : Int32)), .val (.int (4 : Int32)), .val (.int sen)] [(.int (2 : Int32)), (.ref o)])) rfl rfl (hb hby dK42_16)) ?_
  show Go _ _ _ _ _ _ _ (s₁.setTop (mkF m 17 #[.val (.ref o), .val (.int (2 : Int32)), .val (.int (4 : Int32)), .val (.int sen)] [(.int (nar .char sen))]))
  refine Go.by (fun _ kont => XS.iloadN X0.here hx rfl (hb hby dK42_17) rfl kont) ?_
  show Go _ _ _ _ _ _ _ (s₁.setTop (mkF m 18 #[.val (.ref o), .val (.int (2 : Int32)), .val (.int (4 : Int32)), .val (.int sen)] [(.int sen), (.int (nar .char sen))]))
  refine Go.by (fun _ kont => XS.icmpNo X0.here hx rfl (hb hby dK42_18) rfl (teq hsen).2 kont) ?_
  show Go _ _ _ _ _ _ _ (s₁.setTop (mkF m 21 #[.val (.ref o), .val (.int (2 : Int32)), .val (.int (4 : Int32)), .val (.int sen)] []))
  refine Go.by (fun _ kont => XS.iconst X0.here hx rfl (hb hby dK42_21) (XS.goto X0.here hx rfl (pc0 := 22) (pc' := 26) rfl (hb hby dK42_22) (by decide) (by decide) kont)) ?_
  show Go _ _ _ _ _ _ _ (s₁.setTop (mkF m 26 #[.val (.ref o), .val (.int (2 : Int32)), .val (.int (4 : Int32)), .val (.int sen)] [(.int (1 : Int32))]))
  refine Go.retN X0 hx (t := .boolean) hret (by simp) hlk (hb hby dK42_26) ?_ (by decide) (by decide)
  show QK42 Z o sen kc_o v0 v1 v3 v4 v5 v6 v7 h0 n0 (some (.int (1 : Int32))) s₁.heap _
  rw [e0]
  exact ⟨rfl, N0, rfl⟩

theorem dK43_0 : decode method_3_code 0 = .ok (.iload_n 1, 1) := by decide +kernel
theorem dK43_1 : decode method_3_code 1 = .ok (.iload_n 2, 1) := by decide +kernel
theorem dK43_2 : decode method_3_code 2 = .ok (.if_icmp .lt 12, 3) := by decide +kernel
theorem dK43_14 : decode method_3_code 14 = .ok (.aload_n 0, 1) := by decide +kernel
theorem dK43_15 : decode method_3_code 15 = .ok (.iload_n 1, 1) := by decide +kernel
theorem dK43_16 : decode method_3_code 16 = .ok (.caload, 1) := by decide +kernel
theorem dK43_17 : decode method_3_code 17 = .ok (.iload_n 3, 1) := by decide +kernel
theorem dK43_18 : decode method_3_code 18 = .ok (.if_icmp .ne 7, 3) := by decide +kernel
theorem dK43_21 : decode method_3_code 21 = .ok (.iconst 1, 1) := by decide +kernel
theorem dK43_22 : decode method_3_code 22 = .ok (.goto 4, 3) := by decide +kernel
theorem dK43_26 : decode method_3_code 26 = .ok (.ireturn, 1) := by decide +kernel
theorem pnK43 : plainName "com/example/pctenc/pctenc/EscapeWritePinLaw" = true := by first | (simp [plainName, overriddenIn]; done) | decide +kernel
theorem efK43 (m : MethodId) (o : Addr) (sen : Int32) : entryFrame m #[(.ref o), (.int (3 : Int32)), (.int (4 : Int32)), (.int sen)] 4 = mkF m 0 #[.val (.ref o), .val (.int (3 : Int32)), .val (.int (4 : Int32)), .val (.int sen)] [] := by first | (simp [entryFrame, mkF, argsToLocals, Value.category]; done) | rfl
def QK43 (Z : State) (o : Addr) (sen : Int32) (kc_o : ClassId) (v0 : Int32) (v1 : Int32) (v2 : Int32) (v4 : Int32) (v5 : Int32) (v6 : Int32) (v7 : Int32) (h0 : Heap) (n0 : Nat) (v : Option Value) (h : Heap) (L : List Loc) : Prop := (v = some (.int (1 : Int32)) ∧ Fr n0 L ∧ h = h0)
set_option maxRecDepth 65536 in
set_option maxHeartbeats 40000000 in
theorem rmK43 (l : Launch) (Z : State) (a0 : Array Value) (hw : ∀ d ∈ tables_1, d.before a0 Z = true) (ws : List Jvm.Cond) (o : Addr) (sen : Int32) (kc_o : ClassId) (v0 : Int32) (v1 : Int32) (v2 : Int32) (v4 : Int32) (v5 : Int32) (v6 : Int32) (v7 : Int32) (h0 : Heap) (n0 : Nat) (Z0 : n0 ≤ h0.size) (V0_o : Arv Z h0 o kc_o .char (8 : Int32) [(.int v0), (.int v1), (.int v2), (.int (nar .char sen)), (.int v4), (.int v5), (.int v6), (.int v7)] (.int (0 : Int32))) (hsen : (nar .char sen) = sen) :
    MetFree l (⟨"com/example/pctenc/pctenc/EscapeWritePinLaw", "kept", "([CIIC)Z"⟩ : MethodName) (head1 (Jvm.Cond.code (⟨"com/example/pctenc/pctenc/EscapeWritePinLaw", "kept", "([CIIC)Z"⟩ : MethodName) method_3_code 4 (some .boolean) :: ws) ({ frames := 0, cells := 0, slots := 0, locals := 0 } : Room)) (fun aa_ U_ => aa_ = #[(.ref o), (.int (3 : Int32)), (.int (4 : Int32)), (.int sen)] ∧ Z.Warmed39 U_.vm ∧ U_.heap = h0) (fun _ _ _ _ _ => True) (fun _ U_ o_ V_ => ∃ v_ L_, o_ = .returned v_ ∧ QK43 Z o sen kc_o v0 v1 v2 v4 v5 v6 v7 h0 n0 v_ V_.heap L_ ∧ FrameEnd U_ o_ V_ L_ ({ frames := 0, cells := 0, slots := 0, locals := 0 } : Room).cells ({ frames := 0, cells := 0, slots := 0, locals := 0 } : Room).slots) := by
  refine MetFree.of_bodySF (plainFor_of_name pnK43) hisR ?_
  intro p e s m args below meth c s₁ Bd hml0 hP hK
  obtain ⟨rfl, hZ, hh⟩ := hP
  have hx := Bd.exec
  have hby := Bd.bytes
  have hml : c.maxLocals = 4 := hml0
  have hown : s.vm.findClass "com/example/pctenc/pctenc/EscapeWritePinLaw" = some m.cls := findClass_of_methodNamed Bd.named
  have hnm := (name_of_methodNamed Bd.named Bd.method).1
  have hlk : meth.locks = false := BodyLoose.notSynchronized Bd
  have hret : meth.sig.returnType = (some .boolean) := Bd.returns
  have X0 : Stand p l e ({ frames := 0, cells := 0, slots := 0, locals := 0 } : Room) s m #[(.ref o), (.int (3 : Int32)), (.int (4 : Int32)), (.int sen)] below meth c s₁ [] 0 0 := Stand.of_body Bd
  have e0 : s₁.heap = h0 := by rw [← hh, Bd.state]; rfl
  have N0 := Fr.nil n0
  show Go p e below s ({ frames := 0, cells := 0, slots := 0, locals := 0 } : Room).cells ({ frames := 0, cells := 0, slots := 0, locals := 0 } : Room).slots (QK43 Z o sen kc_o v0 v1 v2 v4 v5 v6 v7 h0 n0) (s₁.setTop (entryFrame m #[(.ref o), (.int (3 : Int32)), (.int (4 : Int32)), (.int sen)] 4))
  rw [efK43]
  refine Go.by (fun _ kont => XS.iloadN X0.here hx rfl (hb hby dK43_0) rfl (XS.iloadN X0.here hx rfl (hb hby dK43_1) rfl (XS.icmpYes X0.here hx rfl (pc0 := 2) (pc' := 14) rfl (hb hby dK43_2) rfl (by decide) (by decide) (by decide) (XS.aloadN X0.here hx rfl (hb hby dK43_14) rfl rfl (XS.iloadN X0.here hx rfl (hb hby dK43_15) rfl kont))))) ?_
  show Go _ _ _ _ _ _ _ (s₁.setTop (mkF m 16 #[.val (.ref o), .val (.int (3 : Int32)), .val (.int (4 : Int32)), .val (.int sen)] [(.int (3 : Int32)), (.ref o)]))
  obtain ⟨cl_q101, Ar_q101, q1_q101, S_q101, N_q101, H_q101, G_q101⟩ := id V0_o
  have hin_q101 : ¬ ((3 : Int32) < 0 ∨ cl_q101.slots.size ≤ ((3 : Int32)).toNatClampNeg) := inb_of S_q101 ⟨by decide, by decide⟩
  have hat_q101 : cl_q101.slots[((3 : Int32)).toNatClampNeg]? = some (.int (nar .char sen)) := Has.at H_q101 hin_q101 rfl
  refine Go.by (X0.caload hx (j := (3 : Int32)) (v := (.int (nar .char sen))) (by first | exact Ar_q101.1 | (rw [e0]; exact Ar_q101.1)) (State.isArrayOf_alike hZ.alike Ar_q101.2.1) Ar_q101.2.2 hin_q101 hat_q101 (g := (mkF m 16 #[.val (.ref o), .val (.int (3 : Int32)), .val (.int (4 : Int32)), .val (.int sen)] [(.int (3 : Int32)), (.ref o)])) rfl rfl (hb hby dK43_16)) ?_
  show Go _ _ _ _ _ _ _ (s₁.setTop (mkF m 17 #[.val (.ref o), .val (.int (3 : Int32)), .val (.int (4 : Int32)), .val (.int sen)] [(.int (nar .char sen))]))
  refine Go.by (fun _ kont => XS.iloadN X0.here hx rfl (hb hby dK43_17) rfl kont) ?_
  show Go _ _ _ _ _ _ _ (s₁.setTop (mkF m 18 #[.val (.ref o), .val (.int (3 : Int32)), .val (.int (4 : Int32)), .val (.int sen)] [(.int sen), (.int (nar .char sen))]))
  refine Go.by (fun _ kont => XS.icmpNo X0.here hx rfl (hb hby dK43_18) rfl (teq hsen).2 kont) ?_
  show Go _ _ _ _ _ _ _ (s₁.setTop (mkF m 21 #[.val (.ref o), .val (.int (3 : Int32)), .val (.int (4 : Int32)), .val (.int sen)] []))
  refine Go.by (fun _ kont => XS.iconst X0.here hx rfl (hb hby dK43_21) (XS.goto X0.here hx rfl (pc0 := 22) (pc' := 26) rfl (hb hby dK43_22) (by decide) (by decide) kont)) ?_
  show Go _ _ _ _ _ _ _ (s₁.setTop (mkF m 26 #[.val (.ref o), .val (.int (3 : Int32)), .val (.int (4 : Int32)), .val (.int sen)] [(.int (1 : Int32))]))
  refine Go.retN X0 hx (t := .boolean) hret (by simp) hlk (hb hby dK43_26) ?_ (by decide) (by decide)
  show QK43 Z o sen kc_o v0 v1 v2 v4 v5 v6 v7 h0 n0 (some (.int (1 : Int32))) s₁.heap _
  rw [e0]
  exact ⟨rfl, N0, rfl⟩

theorem dK44_0 : decode method_3_code 0 = .ok (.iload_n 1, 1) := by decide +kernel
theorem dK44_1 : decode method_3_code 1 = .ok (.iload_n 2, 1) := by decide +kernel
theorem dK44_2 : decode method_3_code 2 = .ok (.if_icmp .lt 12, 3) := by decide +kernel
theorem dK44_5 : decode method_3_code 5 = .ok (.iload_n 1, 1) := by decide +kernel
theorem dK44_6 : decode method_3_code 6 = .ok (.iload_n 2, 1) := by decide +kernel
theorem dK44_7 : decode method_3_code 7 = .ok (.iconst 3, 1) := by decide +kernel
theorem dK44_8 : decode method_3_code 8 = .ok (.iadd, 1) := by decide +kernel
theorem dK44_9 : decode method_3_code 9 = .ok (.if_icmp .ge 5, 3) := by decide +kernel
theorem dK44_12 : decode method_3_code 12 = .ok (.iconst 1, 1) := by decide +kernel
theorem dK44_13 : decode method_3_code 13 = .ok (.ireturn, 1) := by decide +kernel
theorem pnK44 : plainName "com/example/pctenc/pctenc/EscapeWritePinLaw" = true := by first | (simp [plainName, overriddenIn]; done) | decide +kernel
theorem efK44 (m : MethodId) (o : Addr) (sen : Int32) : entryFrame m #[(.ref o), (.int (4 : Int32)), (.int (4 : Int32)), (.int sen)] 4 = mkF m 0 #[.val (.ref o), .val (.int (4 : Int32)), .val (.int (4 : Int32)), .val (.int sen)] [] := by first | (simp [entryFrame, mkF, argsToLocals, Value.category]; done) | rfl
def QK44 (Z : State) (o : Addr) (sen : Int32) (h0 : Heap) (n0 : Nat) (v : Option Value) (h : Heap) (L : List Loc) : Prop := (v = some (.int (1 : Int32)) ∧ Fr n0 L ∧ h = h0)
set_option maxRecDepth 65536 in
set_option maxHeartbeats 40000000 in
theorem rmK44 (l : Launch) (Z : State) (a0 : Array Value) (hw : ∀ d ∈ tables_1, d.before a0 Z = true) (ws : List Jvm.Cond) (o : Addr) (sen : Int32) (h0 : Heap) (n0 : Nat) (Z0 : n0 ≤ h0.size) :
    MetFree l (⟨"com/example/pctenc/pctenc/EscapeWritePinLaw", "kept", "([CIIC)Z"⟩ : MethodName) (head1 (Jvm.Cond.code (⟨"com/example/pctenc/pctenc/EscapeWritePinLaw", "kept", "([CIIC)Z"⟩ : MethodName) method_3_code 4 (some .boolean) :: ws) ({ frames := 0, cells := 0, slots := 0, locals := 0 } : Room)) (fun aa_ U_ => aa_ = #[(.ref o), (.int (4 : Int32)), (.int (4 : Int32)), (.int sen)] ∧ Z.Warmed39 U_.vm ∧ U_.heap = h0) (fun _ _ _ _ _ => True) (fun _ U_ o_ V_ => ∃ v_ L_, o_ = .returned v_ ∧ QK44 Z o sen h0 n0 v_ V_.heap L_ ∧ FrameEnd U_ o_ V_ L_ ({ frames := 0, cells := 0, slots := 0, locals := 0 } : Room).cells ({ frames := 0, cells := 0, slots := 0, locals := 0 } : Room).slots) := by
  refine MetFree.of_bodySF (plainFor_of_name pnK44) hisR ?_
  intro p e s m args below meth c s₁ Bd hml0 hP hK
  obtain ⟨rfl, hZ, hh⟩ := hP
  have hx := Bd.exec
  have hby := Bd.bytes
  have hml : c.maxLocals = 4 := hml0
  have hown : s.vm.findClass "com/example/pctenc/pctenc/EscapeWritePinLaw" = some m.cls := findClass_of_methodNamed Bd.named
  have hnm := (name_of_methodNamed Bd.named Bd.method).1
  have hlk : meth.locks = false := BodyLoose.notSynchronized Bd
  have hret : meth.sig.returnType = (some .boolean) := Bd.returns
  have X0 : Stand p l e ({ frames := 0, cells := 0, slots := 0, locals := 0 } : Room) s m #[(.ref o), (.int (4 : Int32)), (.int (4 : Int32)), (.int sen)] below meth c s₁ [] 0 0 := Stand.of_body Bd
  have e0 : s₁.heap = h0 := by rw [← hh, Bd.state]; rfl
  have N0 := Fr.nil n0
  show Go p e below s ({ frames := 0, cells := 0, slots := 0, locals := 0 } : Room).cells ({ frames := 0, cells := 0, slots := 0, locals := 0 } : Room).slots (QK44 Z o sen h0 n0) (s₁.setTop (entryFrame m #[(.ref o), (.int (4 : Int32)), (.int (4 : Int32)), (.int sen)] 4))
  rw [efK44]
  refine Go.by (fun _ kont => XS.iloadN X0.here hx rfl (hb hby dK44_0) rfl (XS.iloadN X0.here hx rfl (hb hby dK44_1) rfl (XS.icmpNo X0.here hx rfl (hb hby dK44_2) rfl (by decide) (XS.iloadN X0.here hx rfl (hb hby dK44_5) rfl (XS.iloadN X0.here hx rfl (hb hby dK44_6) rfl (XS.iconst X0.here hx rfl (hb hby dK44_7) kont)))))) ?_
  show Go _ _ _ _ _ _ _ (s₁.setTop (mkF m 8 #[.val (.ref o), .val (.int (4 : Int32)), .val (.int (4 : Int32)), .val (.int sen)] [(.int (3 : Int32)), (.int (4 : Int32)), (.int (4 : Int32))]))
  refine Go.by (fun _ kont => XS.iadd X0.here hx rfl (hb hby dK44_8) rfl kont) ?_
  show Go _ _ _ _ _ _ _ (s₁.setTop (mkF m 9 #[.val (.ref o), .val (.int (4 : Int32)), .val (.int (4 : Int32)), .val (.int sen)] [(.int ((4 : Int32) + (3 : Int32))), (.int (4 : Int32))]))
  rw [show ((4 : Int32) + (3 : Int32)) = (7 : Int32) from by decide]
  show Go _ _ _ _ _ _ _ (s₁.setTop (mkF m 9 #[.val (.ref o), .val (.int (4 : Int32)), .val (.int (4 : Int32)), .val (.int sen)] [(.int (7 : Int32)), (.int (4 : Int32))]))
  refine Go.by (fun _ kont => XS.icmpNo X0.here hx rfl (hb hby dK44_9) rfl (by decide) (XS.iconst X0.here hx rfl (hb hby dK44_12) kont)) ?_
  show Go _ _ _ _ _ _ _ (s₁.setTop (mkF m 13 #[.val (.ref o), .val (.int (4 : Int32)), .val (.int (4 : Int32)), .val (.int sen)] [(.int (1 : Int32))]))
  refine Go.retN X0 hx (t := .boolean) hret (by simp) hlk (hb hby dK44_13) ?_ (by decide) (by decide)
  show QK44 Z o sen h0 n0 (some (.int (1 : Int32))) s₁.heap _
  rw [e0]
  exact ⟨rfl, N0, rfl⟩

theorem dK45_0 : decode method_3_code 0 = .ok (.iload_n 1, 1) := by decide +kernel
theorem dK45_1 : decode method_3_code 1 = .ok (.iload_n 2, 1) := by decide +kernel
theorem dK45_2 : decode method_3_code 2 = .ok (.if_icmp .lt 12, 3) := by decide +kernel
theorem dK45_5 : decode method_3_code 5 = .ok (.iload_n 1, 1) := by decide +kernel
theorem dK45_6 : decode method_3_code 6 = .ok (.iload_n 2, 1) := by decide +kernel
theorem dK45_7 : decode method_3_code 7 = .ok (.iconst 3, 1) := by decide +kernel
theorem dK45_8 : decode method_3_code 8 = .ok (.iadd, 1) := by decide +kernel
theorem dK45_9 : decode method_3_code 9 = .ok (.if_icmp .ge 5, 3) := by decide +kernel
theorem dK45_12 : decode method_3_code 12 = .ok (.iconst 1, 1) := by decide +kernel
theorem dK45_13 : decode method_3_code 13 = .ok (.ireturn, 1) := by decide +kernel
theorem pnK45 : plainName "com/example/pctenc/pctenc/EscapeWritePinLaw" = true := by first | (simp [plainName, overriddenIn]; done) | decide +kernel
theorem efK45 (m : MethodId) (o : Addr) (sen : Int32) : entryFrame m #[(.ref o), (.int (5 : Int32)), (.int (4 : Int32)), (.int sen)] 4 = mkF m 0 #[.val (.ref o), .val (.int (5 : Int32)), .val (.int (4 : Int32)), .val (.int sen)] [] := by first | (simp [entryFrame, mkF, argsToLocals, Value.category]; done) | rfl
def QK45 (Z : State) (o : Addr) (sen : Int32) (h0 : Heap) (n0 : Nat) (v : Option Value) (h : Heap) (L : List Loc) : Prop := (v = some (.int (1 : Int32)) ∧ Fr n0 L ∧ h = h0)
set_option maxRecDepth 65536 in
set_option maxHeartbeats 40000000 in
theorem rmK45 (l : Launch) (Z : State) (a0 : Array Value) (hw : ∀ d ∈ tables_1, d.before a0 Z = true) (ws : List Jvm.Cond) (o : Addr) (sen : Int32) (h0 : Heap) (n0 : Nat) (Z0 : n0 ≤ h0.size) :
    MetFree l (⟨"com/example/pctenc/pctenc/EscapeWritePinLaw", "kept", "([CIIC)Z"⟩ : MethodName) (head1 (Jvm.Cond.code (⟨"com/example/pctenc/pctenc/EscapeWritePinLaw", "kept", "([CIIC)Z"⟩ : MethodName) method_3_code 4 (some .boolean) :: ws) ({ frames := 0, cells := 0, slots := 0, locals := 0 } : Room)) (fun aa_ U_ => aa_ = #[(.ref o), (.int (5 : Int32)), (.int (4 : Int32)), (.int sen)] ∧ Z.Warmed39 U_.vm ∧ U_.heap = h0) (fun _ _ _ _ _ => True) (fun _ U_ o_ V_ => ∃ v_ L_, o_ = .returned v_ ∧ QK45 Z o sen h0 n0 v_ V_.heap L_ ∧ FrameEnd U_ o_ V_ L_ ({ frames := 0, cells := 0, slots := 0, locals := 0 } : Room).cells ({ frames := 0, cells := 0, slots := 0, locals := 0 } : Room).slots) := by
  refine MetFree.of_bodySF (plainFor_of_name pnK45) hisR ?_
  intro p e s m args below meth c s₁ Bd hml0 hP hK
  obtain ⟨rfl, hZ, hh⟩ := hP
  have hx := Bd.exec
  have hby := Bd.bytes
  have hml : c.maxLocals = 4 := hml0
  have hown : s.vm.findClass "com/example/pctenc/pctenc/EscapeWritePinLaw" = some m.cls := findClass_of_methodNamed Bd.named
  have hnm := (name_of_methodNamed Bd.named Bd.method).1
  have hlk : meth.locks = false := BodyLoose.notSynchronized Bd
  have hret : meth.sig.returnType = (some .boolean) := Bd.returns
  have X0 : Stand p l e ({ frames := 0, cells := 0, slots := 0, locals := 0 } : Room) s m #[(.ref o), (.int (5 : Int32)), (.int (4 : Int32)), (.int sen)] below meth c s₁ [] 0 0 := Stand.of_body Bd
  have e0 : s₁.heap = h0 := by rw [← hh, Bd.state]; rfl
  have N0 := Fr.nil n0
  show Go p e below s ({ frames := 0, cells := 0, slots := 0, locals := 0 } : Room).cells ({ frames := 0, cells := 0, slots := 0, locals := 0 } : Room).slots (QK45 Z o sen h0 n0) (s₁.setTop (entryFrame m #[(.ref o), (.int (5 : Int32)), (.int (4 : Int32)), (.int sen)] 4))
  rw [efK45]
  refine Go.by (fun _ kont => XS.iloadN X0.here hx rfl (hb hby dK45_0) rfl (XS.iloadN X0.here hx rfl (hb hby dK45_1) rfl (XS.icmpNo X0.here hx rfl (hb hby dK45_2) rfl (by decide) (XS.iloadN X0.here hx rfl (hb hby dK45_5) rfl (XS.iloadN X0.here hx rfl (hb hby dK45_6) rfl (XS.iconst X0.here hx rfl (hb hby dK45_7) kont)))))) ?_
  show Go _ _ _ _ _ _ _ (s₁.setTop (mkF m 8 #[.val (.ref o), .val (.int (5 : Int32)), .val (.int (4 : Int32)), .val (.int sen)] [(.int (3 : Int32)), (.int (4 : Int32)), (.int (5 : Int32))]))
  refine Go.by (fun _ kont => XS.iadd X0.here hx rfl (hb hby dK45_8) rfl kont) ?_
  show Go _ _ _ _ _ _ _ (s₁.setTop (mkF m 9 #[.val (.ref o), .val (.int (5 : Int32)), .val (.int (4 : Int32)), .val (.int sen)] [(.int ((4 : Int32) + (3 : Int32))), (.int (5 : Int32))]))
  rw [show ((4 : Int32) + (3 : Int32)) = (7 : Int32) from by decide]
  show Go _ _ _ _ _ _ _ (s₁.setTop (mkF m 9 #[.val (.ref o), .val (.int (5 : Int32)), .val (.int (4 : Int32)), .val (.int sen)] [(.int (7 : Int32)), (.int (5 : Int32))]))
  refine Go.by (fun _ kont => XS.icmpNo X0.here hx rfl (hb hby dK45_9) rfl (by decide) (XS.iconst X0.here hx rfl (hb hby dK45_12) kont)) ?_
  show Go _ _ _ _ _ _ _ (s₁.setTop (mkF m 13 #[.val (.ref o), .val (.int (5 : Int32)), .val (.int (4 : Int32)), .val (.int sen)] [(.int (1 : Int32))]))
  refine Go.retN X0 hx (t := .boolean) hret (by simp) hlk (hb hby dK45_13) ?_ (by decide) (by decide)
  show QK45 Z o sen h0 n0 (some (.int (1 : Int32))) s₁.heap _
  rw [e0]
  exact ⟨rfl, N0, rfl⟩

theorem dK46_0 : decode method_3_code 0 = .ok (.iload_n 1, 1) := by decide +kernel
theorem dK46_1 : decode method_3_code 1 = .ok (.iload_n 2, 1) := by decide +kernel
theorem dK46_2 : decode method_3_code 2 = .ok (.if_icmp .lt 12, 3) := by decide +kernel
theorem dK46_5 : decode method_3_code 5 = .ok (.iload_n 1, 1) := by decide +kernel
theorem dK46_6 : decode method_3_code 6 = .ok (.iload_n 2, 1) := by decide +kernel
theorem dK46_7 : decode method_3_code 7 = .ok (.iconst 3, 1) := by decide +kernel
theorem dK46_8 : decode method_3_code 8 = .ok (.iadd, 1) := by decide +kernel
theorem dK46_9 : decode method_3_code 9 = .ok (.if_icmp .ge 5, 3) := by decide +kernel
theorem dK46_12 : decode method_3_code 12 = .ok (.iconst 1, 1) := by decide +kernel
theorem dK46_13 : decode method_3_code 13 = .ok (.ireturn, 1) := by decide +kernel
theorem pnK46 : plainName "com/example/pctenc/pctenc/EscapeWritePinLaw" = true := by first | (simp [plainName, overriddenIn]; done) | decide +kernel
theorem efK46 (m : MethodId) (o : Addr) (sen : Int32) : entryFrame m #[(.ref o), (.int (6 : Int32)), (.int (4 : Int32)), (.int sen)] 4 = mkF m 0 #[.val (.ref o), .val (.int (6 : Int32)), .val (.int (4 : Int32)), .val (.int sen)] [] := by first | (simp [entryFrame, mkF, argsToLocals, Value.category]; done) | rfl
def QK46 (Z : State) (o : Addr) (sen : Int32) (h0 : Heap) (n0 : Nat) (v : Option Value) (h : Heap) (L : List Loc) : Prop := (v = some (.int (1 : Int32)) ∧ Fr n0 L ∧ h = h0)
set_option maxRecDepth 65536 in
set_option maxHeartbeats 40000000 in
theorem rmK46 (l : Launch) (Z : State) (a0 : Array Value) (hw : ∀ d ∈ tables_1, d.before a0 Z = true) (ws : List Jvm.Cond) (o : Addr) (sen : Int32) (h0 : Heap) (n0 : Nat) (Z0 : n0 ≤ h0.size) :
    MetFree l (⟨"com/example/pctenc/pctenc/EscapeWritePinLaw", "kept", "([CIIC)Z"⟩ : MethodName) (head1 (Jvm.Cond.code (⟨"com/example/pctenc/pctenc/EscapeWritePinLaw", "kept", "([CIIC)Z"⟩ : MethodName) method_3_code 4 (some .boolean) :: ws) ({ frames := 0, cells := 0, slots := 0, locals := 0 } : Room)) (fun aa_ U_ => aa_ = #[(.ref o), (.int (6 : Int32)), (.int (4 : Int32)), (.int sen)] ∧ Z.Warmed39 U_.vm ∧ U_.heap = h0) (fun _ _ _ _ _ => True) (fun _ U_ o_ V_ => ∃ v_ L_, o_ = .returned v_ ∧ QK46 Z o sen h0 n0 v_ V_.heap L_ ∧ FrameEnd U_ o_ V_ L_ ({ frames := 0, cells := 0, slots := 0, locals := 0 } : Room).cells ({ frames := 0, cells := 0, slots := 0, locals := 0 } : Room).slots) := by
  refine MetFree.of_bodySF (plainFor_of_name pnK46) hisR ?_
  intro p e s m args below meth c s₁ Bd hml0 hP hK
  obtain ⟨rfl, hZ, hh⟩ := hP
  have hx := Bd.exec
  have hby := Bd.bytes
  have hml : c.maxLocals = 4 := hml0
  have hown : s.vm.findClass "com/example/pctenc/pctenc/EscapeWritePinLaw" = some m.cls := findClass_of_methodNamed Bd.named
  have hnm := (name_of_methodNamed Bd.named Bd.method).1
  have hlk : meth.locks = false := BodyLoose.notSynchronized Bd
  have hret : meth.sig.returnType = (some .boolean) := Bd.returns
  have X0 : Stand p l e ({ frames := 0, cells := 0, slots := 0, locals := 0 } : Room) s m #[(.ref o), (.int (6 : Int32)), (.int (4 : Int32)), (.int sen)] below meth c s₁ [] 0 0 := Stand.of_body Bd
  have e0 : s₁.heap = h0 := by rw [← hh, Bd.state]; rfl
  have N0 := Fr.nil n0
  show Go p e below s ({ frames := 0, cells := 0, slots := 0, locals := 0 } : Room).cells ({ frames := 0, cells := 0, slots := 0, locals := 0 } : Room).slots (QK46 Z o sen h0 n0) (s₁.setTop (entryFrame m #[(.ref o), (.int (6 : Int32)), (.int (4 : Int32)), (.int sen)] 4))
  rw [efK46]
  refine Go.by (fun _ kont => XS.iloadN X0.here hx rfl (hb hby dK46_0) rfl (XS.iloadN X0.here hx rfl (hb hby dK46_1) rfl (XS.icmpNo X0.here hx rfl (hb hby dK46_2) rfl (by decide) (XS.iloadN X0.here hx rfl (hb hby dK46_5) rfl (XS.iloadN X0.here hx rfl (hb hby dK46_6) rfl (XS.iconst X0.here hx rfl (hb hby dK46_7) kont)))))) ?_
  show Go _ _ _ _ _ _ _ (s₁.setTop (mkF m 8 #[.val (.ref o), .val (.int (6 : Int32)), .val (.int (4 : Int32)), .val (.int sen)] [(.int (3 : Int32)), (.int (4 : Int32)), (.int (6 : Int32))]))
  refine Go.by (fun _ kont => XS.iadd X0.here hx rfl (hb hby dK46_8) rfl kont) ?_
  show Go _ _ _ _ _ _ _ (s₁.setTop (mkF m 9 #[.val (.ref o), .val (.int (6 : Int32)), .val (.int (4 : Int32)), .val (.int sen)] [(.int ((4 : Int32) + (3 : Int32))), (.int (6 : Int32))]))
  rw [show ((4 : Int32) + (3 : Int32)) = (7 : Int32) from by decide]
  show Go _ _ _ _ _ _ _ (s₁.setTop (mkF m 9 #[.val (.ref o), .val (.int (6 : Int32)), .val (.int (4 : Int32)), .val (.int sen)] [(.int (7 : Int32)), (.int (6 : Int32))]))
  refine Go.by (fun _ kont => XS.icmpNo X0.here hx rfl (hb hby dK46_9) rfl (by decide) (XS.iconst X0.here hx rfl (hb hby dK46_12) kont)) ?_
  show Go _ _ _ _ _ _ _ (s₁.setTop (mkF m 13 #[.val (.ref o), .val (.int (6 : Int32)), .val (.int (4 : Int32)), .val (.int sen)] [(.int (1 : Int32))]))
  refine Go.retN X0 hx (t := .boolean) hret (by simp) hlk (hb hby dK46_13) ?_ (by decide) (by decide)
  show QK46 Z o sen h0 n0 (some (.int (1 : Int32))) s₁.heap _
  rw [e0]
  exact ⟨rfl, N0, rfl⟩

theorem dK47_0 : decode method_3_code 0 = .ok (.iload_n 1, 1) := by decide +kernel
theorem dK47_1 : decode method_3_code 1 = .ok (.iload_n 2, 1) := by decide +kernel
theorem dK47_2 : decode method_3_code 2 = .ok (.if_icmp .lt 12, 3) := by decide +kernel
theorem dK47_5 : decode method_3_code 5 = .ok (.iload_n 1, 1) := by decide +kernel
theorem dK47_6 : decode method_3_code 6 = .ok (.iload_n 2, 1) := by decide +kernel
theorem dK47_7 : decode method_3_code 7 = .ok (.iconst 3, 1) := by decide +kernel
theorem dK47_8 : decode method_3_code 8 = .ok (.iadd, 1) := by decide +kernel
theorem dK47_9 : decode method_3_code 9 = .ok (.if_icmp .ge 5, 3) := by decide +kernel
theorem dK47_14 : decode method_3_code 14 = .ok (.aload_n 0, 1) := by decide +kernel
theorem dK47_15 : decode method_3_code 15 = .ok (.iload_n 1, 1) := by decide +kernel
theorem dK47_16 : decode method_3_code 16 = .ok (.caload, 1) := by decide +kernel
theorem dK47_17 : decode method_3_code 17 = .ok (.iload_n 3, 1) := by decide +kernel
theorem dK47_18 : decode method_3_code 18 = .ok (.if_icmp .ne 7, 3) := by decide +kernel
theorem dK47_21 : decode method_3_code 21 = .ok (.iconst 1, 1) := by decide +kernel
theorem dK47_22 : decode method_3_code 22 = .ok (.goto 4, 3) := by decide +kernel
theorem dK47_26 : decode method_3_code 26 = .ok (.ireturn, 1) := by decide +kernel
theorem pnK47 : plainName "com/example/pctenc/pctenc/EscapeWritePinLaw" = true := by first | (simp [plainName, overriddenIn]; done) | decide +kernel
theorem efK47 (m : MethodId) (o : Addr) (sen : Int32) : entryFrame m #[(.ref o), (.int (7 : Int32)), (.int (4 : Int32)), (.int sen)] 4 = mkF m 0 #[.val (.ref o), .val (.int (7 : Int32)), .val (.int (4 : Int32)), .val (.int sen)] [] := by first | (simp [entryFrame, mkF, argsToLocals, Value.category]; done) | rfl
def QK47 (Z : State) (o : Addr) (sen : Int32) (kc_o : ClassId) (v0 : Int32) (v1 : Int32) (v2 : Int32) (v3 : Int32) (v4 : Int32) (v5 : Int32) (v6 : Int32) (h0 : Heap) (n0 : Nat) (v : Option Value) (h : Heap) (L : List Loc) : Prop := (v = some (.int (1 : Int32)) ∧ Fr n0 L ∧ h = h0)
set_option maxRecDepth 65536 in
set_option maxHeartbeats 40000000 in
theorem rmK47 (l : Launch) (Z : State) (a0 : Array Value) (hw : ∀ d ∈ tables_1, d.before a0 Z = true) (ws : List Jvm.Cond) (o : Addr) (sen : Int32) (kc_o : ClassId) (v0 : Int32) (v1 : Int32) (v2 : Int32) (v3 : Int32) (v4 : Int32) (v5 : Int32) (v6 : Int32) (h0 : Heap) (n0 : Nat) (Z0 : n0 ≤ h0.size) (V0_o : Arv Z h0 o kc_o .char (8 : Int32) [(.int v0), (.int v1), (.int v2), (.int v3), (.int v4), (.int v5), (.int v6), (.int (nar .char sen))] (.int (0 : Int32))) (hsen : (nar .char sen) = sen) :
    MetFree l (⟨"com/example/pctenc/pctenc/EscapeWritePinLaw", "kept", "([CIIC)Z"⟩ : MethodName) (head1 (Jvm.Cond.code (⟨"com/example/pctenc/pctenc/EscapeWritePinLaw", "kept", "([CIIC)Z"⟩ : MethodName) method_3_code 4 (some .boolean) :: ws) ({ frames := 0, cells := 0, slots := 0, locals := 0 } : Room)) (fun aa_ U_ => aa_ = #[(.ref o), (.int (7 : Int32)), (.int (4 : Int32)), (.int sen)] ∧ Z.Warmed39 U_.vm ∧ U_.heap = h0) (fun _ _ _ _ _ => True) (fun _ U_ o_ V_ => ∃ v_ L_, o_ = .returned v_ ∧ QK47 Z o sen kc_o v0 v1 v2 v3 v4 v5 v6 h0 n0 v_ V_.heap L_ ∧ FrameEnd U_ o_ V_ L_ ({ frames := 0, cells := 0, slots := 0, locals := 0 } : Room).cells ({ frames := 0, cells := 0, slots := 0, locals := 0 } : Room).slots) := by
  refine MetFree.of_bodySF (plainFor_of_name pnK47) hisR ?_
  intro p e s m args below meth c s₁ Bd hml0 hP hK
  obtain ⟨rfl, hZ, hh⟩ := hP
  have hx := Bd.exec
  have hby := Bd.bytes
  have hml : c.maxLocals = 4 := hml0
  have hown : s.vm.findClass "com/example/pctenc/pctenc/EscapeWritePinLaw" = some m.cls := findClass_of_methodNamed Bd.named
  have hnm := (name_of_methodNamed Bd.named Bd.method).1
  have hlk : meth.locks = false := BodyLoose.notSynchronized Bd
  have hret : meth.sig.returnType = (some .boolean) := Bd.returns
  have X0 : Stand p l e ({ frames := 0, cells := 0, slots := 0, locals := 0 } : Room) s m #[(.ref o), (.int (7 : Int32)), (.int (4 : Int32)), (.int sen)] below meth c s₁ [] 0 0 := Stand.of_body Bd
  have e0 : s₁.heap = h0 := by rw [← hh, Bd.state]; rfl
  have N0 := Fr.nil n0
  show Go p e below s ({ frames := 0, cells := 0, slots := 0, locals := 0 } : Room).cells ({ frames := 0, cells := 0, slots := 0, locals := 0 } : Room).slots (QK47 Z o sen kc_o v0 v1 v2 v3 v4 v5 v6 h0 n0) (s₁.setTop (entryFrame m #[(.ref o), (.int (7 : Int32)), (.int (4 : Int32)), (.int sen)] 4))
  rw [efK47]
  refine Go.by (fun _ kont => XS.iloadN X0.here hx rfl (hb hby dK47_0) rfl (XS.iloadN X0.here hx rfl (hb hby dK47_1) rfl (XS.icmpNo X0.here hx rfl (hb hby dK47_2) rfl (by decide) (XS.iloadN X0.here hx rfl (hb hby dK47_5) rfl (XS.iloadN X0.here hx rfl (hb hby dK47_6) rfl (XS.iconst X0.here hx rfl (hb hby dK47_7) kont)))))) ?_
  show Go _ _ _ _ _ _ _ (s₁.setTop (mkF m 8 #[.val (.ref o), .val (.int (7 : Int32)), .val (.int (4 : Int32)), .val (.int sen)] [(.int (3 : Int32)), (.int (4 : Int32)), (.int (7 : Int32))]))
  refine Go.by (fun _ kont => XS.iadd X0.here hx rfl (hb hby dK47_8) rfl kont) ?_
  show Go _ _ _ _ _ _ _ (s₁.setTop (mkF m 9 #[.val (.ref o), .val (.int (7 : Int32)), .val (.int (4 : Int32)), .val (.int sen)] [(.int ((4 : Int32) + (3 : Int32))), (.int (7 : Int32))]))
  rw [show ((4 : Int32) + (3 : Int32)) = (7 : Int32) from by decide]
  show Go _ _ _ _ _ _ _ (s₁.setTop (mkF m 9 #[.val (.ref o), .val (.int (7 : Int32)), .val (.int (4 : Int32)), .val (.int sen)] [(.int (7 : Int32)), (.int (7 : Int32))]))
  refine Go.by (fun _ kont => XS.icmpYes X0.here hx rfl (pc0 := 9) (pc' := 14) rfl (hb hby dK47_9) rfl (by decide) (by decide) (by decide) (XS.aloadN X0.here hx rfl (hb hby dK47_14) rfl rfl (XS.iloadN X0.here hx rfl (hb hby dK47_15) rfl kont))) ?_
  show Go _ _ _ _ _ _ _ (s₁.setTop (mkF m 16 #[.val (.ref o), .val (.int (7 : Int32)), .val (.int (4 : Int32)), .val (.int sen)] [(.int (7 : Int32)), (.ref o)]))
  obtain ⟨cl_q101, Ar_q101, q1_q101, S_q101, N_q101, H_q101, G_q101⟩ := id V0_o
  have hin_q101 : ¬ ((7 : Int32) < 0 ∨ cl_q101.slots.size ≤ ((7 : Int32)).toNatClampNeg) := inb_of S_q101 ⟨by decide, by decide⟩
  have hat_q101 : cl_q101.slots[((7 : Int32)).toNatClampNeg]? = some (.int (nar .char sen)) := Has.at H_q101 hin_q101 rfl
  refine Go.by (X0.caload hx (j := (7 : Int32)) (v := (.int (nar .char sen))) (by first | exact Ar_q101.1 | (rw [e0]; exact Ar_q101.1)) (State.isArrayOf_alike hZ.alike Ar_q101.2.1) Ar_q101.2.2 hin_q101 hat_q101 (g := (mkF m 16 #[.val (.ref o), .val (.int (7 : Int32)), .val (.int (4 : Int32)), .val (.int sen)] [(.int (7 : Int32)), (.ref o)])) rfl rfl (hb hby dK47_16)) ?_
  show Go _ _ _ _ _ _ _ (s₁.setTop (mkF m 17 #[.val (.ref o), .val (.int (7 : Int32)), .val (.int (4 : Int32)), .val (.int sen)] [(.int (nar .char sen))]))
  refine Go.by (fun _ kont => XS.iloadN X0.here hx rfl (hb hby dK47_17) rfl kont) ?_
  show Go _ _ _ _ _ _ _ (s₁.setTop (mkF m 18 #[.val (.ref o), .val (.int (7 : Int32)), .val (.int (4 : Int32)), .val (.int sen)] [(.int sen), (.int (nar .char sen))]))
  refine Go.by (fun _ kont => XS.icmpNo X0.here hx rfl (hb hby dK47_18) rfl (teq hsen).2 kont) ?_
  show Go _ _ _ _ _ _ _ (s₁.setTop (mkF m 21 #[.val (.ref o), .val (.int (7 : Int32)), .val (.int (4 : Int32)), .val (.int sen)] []))
  refine Go.by (fun _ kont => XS.iconst X0.here hx rfl (hb hby dK47_21) (XS.goto X0.here hx rfl (pc0 := 22) (pc' := 26) rfl (hb hby dK47_22) (by decide) (by decide) kont)) ?_
  show Go _ _ _ _ _ _ _ (s₁.setTop (mkF m 26 #[.val (.ref o), .val (.int (7 : Int32)), .val (.int (4 : Int32)), .val (.int sen)] [(.int (1 : Int32))]))
  refine Go.retN X0 hx (t := .boolean) hret (by simp) hlk (hb hby dK47_26) ?_ (by decide) (by decide)
  show QK47 Z o sen kc_o v0 v1 v2 v3 v4 v5 v6 h0 n0 (some (.int (1 : Int32))) s₁.heap _
  rw [e0]
  exact ⟨rfl, N0, rfl⟩

theorem dK50_0 : decode method_3_code 0 = .ok (.iload_n 1, 1) := by decide +kernel
theorem dK50_1 : decode method_3_code 1 = .ok (.iload_n 2, 1) := by decide +kernel
theorem dK50_2 : decode method_3_code 2 = .ok (.if_icmp .lt 12, 3) := by decide +kernel
theorem dK50_14 : decode method_3_code 14 = .ok (.aload_n 0, 1) := by decide +kernel
theorem dK50_15 : decode method_3_code 15 = .ok (.iload_n 1, 1) := by decide +kernel
theorem dK50_16 : decode method_3_code 16 = .ok (.caload, 1) := by decide +kernel
theorem dK50_17 : decode method_3_code 17 = .ok (.iload_n 3, 1) := by decide +kernel
theorem dK50_18 : decode method_3_code 18 = .ok (.if_icmp .ne 7, 3) := by decide +kernel
theorem dK50_21 : decode method_3_code 21 = .ok (.iconst 1, 1) := by decide +kernel
theorem dK50_22 : decode method_3_code 22 = .ok (.goto 4, 3) := by decide +kernel
theorem dK50_26 : decode method_3_code 26 = .ok (.ireturn, 1) := by decide +kernel
theorem pnK50 : plainName "com/example/pctenc/pctenc/EscapeWritePinLaw" = true := by first | (simp [plainName, overriddenIn]; done) | decide +kernel
theorem efK50 (m : MethodId) (o : Addr) (sen : Int32) : entryFrame m #[(.ref o), (.int (0 : Int32)), (.int (5 : Int32)), (.int sen)] 4 = mkF m 0 #[.val (.ref o), .val (.int (0 : Int32)), .val (.int (5 : Int32)), .val (.int sen)] [] := by first | (simp [entryFrame, mkF, argsToLocals, Value.category]; done) | rfl
def QK50 (Z : State) (o : Addr) (sen : Int32) (kc_o : ClassId) (v1 : Int32) (v2 : Int32) (v3 : Int32) (v4 : Int32) (v5 : Int32) (v6 : Int32) (v7 : Int32) (h0 : Heap) (n0 : Nat) (v : Option Value) (h : Heap) (L : List Loc) : Prop := (v = some (.int (1 : Int32)) ∧ Fr n0 L ∧ h = h0)
set_option maxRecDepth 65536 in
set_option maxHeartbeats 40000000 in
theorem rmK50 (l : Launch) (Z : State) (a0 : Array Value) (hw : ∀ d ∈ tables_1, d.before a0 Z = true) (ws : List Jvm.Cond) (o : Addr) (sen : Int32) (kc_o : ClassId) (v1 : Int32) (v2 : Int32) (v3 : Int32) (v4 : Int32) (v5 : Int32) (v6 : Int32) (v7 : Int32) (h0 : Heap) (n0 : Nat) (Z0 : n0 ≤ h0.size) (V0_o : Arv Z h0 o kc_o .char (8 : Int32) [(.int (nar .char sen)), (.int v1), (.int v2), (.int v3), (.int v4), (.int v5), (.int v6), (.int v7)] (.int (0 : Int32))) (hsen : (nar .char sen) = sen) :
    MetFree l (⟨"com/example/pctenc/pctenc/EscapeWritePinLaw", "kept", "([CIIC)Z"⟩ : MethodName) (head1 (Jvm.Cond.code (⟨"com/example/pctenc/pctenc/EscapeWritePinLaw", "kept", "([CIIC)Z"⟩ : MethodName) method_3_code 4 (some .boolean) :: ws) ({ frames := 0, cells := 0, slots := 0, locals := 0 } : Room)) (fun aa_ U_ => aa_ = #[(.ref o), (.int (0 : Int32)), (.int (5 : Int32)), (.int sen)] ∧ Z.Warmed39 U_.vm ∧ U_.heap = h0) (fun _ _ _ _ _ => True) (fun _ U_ o_ V_ => ∃ v_ L_, o_ = .returned v_ ∧ QK50 Z o sen kc_o v1 v2 v3 v4 v5 v6 v7 h0 n0 v_ V_.heap L_ ∧ FrameEnd U_ o_ V_ L_ ({ frames := 0, cells := 0, slots := 0, locals := 0 } : Room).cells ({ frames := 0, cells := 0, slots := 0, locals := 0 } : Room).slots) := by
  refine MetFree.of_bodySF (plainFor_of_name pnK50) hisR ?_
  intro p e s m args below meth c s₁ Bd hml0 hP hK
  obtain ⟨rfl, hZ, hh⟩ := hP
  have hx := Bd.exec
  have hby := Bd.bytes
  have hml : c.maxLocals = 4 := hml0
  have hown : s.vm.findClass "com/example/pctenc/pctenc/EscapeWritePinLaw" = some m.cls := findClass_of_methodNamed Bd.named
  have hnm := (name_of_methodNamed Bd.named Bd.method).1
  have hlk : meth.locks = false := BodyLoose.notSynchronized Bd
  have hret : meth.sig.returnType = (some .boolean) := Bd.returns
  have X0 : Stand p l e ({ frames := 0, cells := 0, slots := 0, locals := 0 } : Room) s m #[(.ref o), (.int (0 : Int32)), (.int (5 : Int32)), (.int sen)] below meth c s₁ [] 0 0 := Stand.of_body Bd
  have e0 : s₁.heap = h0 := by rw [← hh, Bd.state]; rfl
  have N0 := Fr.nil n0
  show Go p e below s ({ frames := 0, cells := 0, slots := 0, locals := 0 } : Room).cells ({ frames := 0, cells := 0, slots := 0, locals := 0 } : Room).slots (QK50 Z o sen kc_o v1 v2 v3 v4 v5 v6 v7 h0 n0) (s₁.setTop (entryFrame m #[(.ref o), (.int (0 : Int32)), (.int (5 : Int32)), (.int sen)] 4))
  rw [efK50]
  refine Go.by (fun _ kont => XS.iloadN X0.here hx rfl (hb hby dK50_0) rfl (XS.iloadN X0.here hx rfl (hb hby dK50_1) rfl (XS.icmpYes X0.here hx rfl (pc0 := 2) (pc' := 14) rfl (hb hby dK50_2) rfl (by decide) (by decide) (by decide) (XS.aloadN X0.here hx rfl (hb hby dK50_14) rfl rfl (XS.iloadN X0.here hx rfl (hb hby dK50_15) rfl kont))))) ?_
  show Go _ _ _ _ _ _ _ (s₁.setTop (mkF m 16 #[.val (.ref o), .val (.int (0 : Int32)), .val (.int (5 : Int32)), .val (.int sen)] [(.int (0 : Int32)), (.ref o)]))
  obtain ⟨cl_q101, Ar_q101, q1_q101, S_q101, N_q101, H_q101, G_q101⟩ := id V0_o
  have hin_q101 : ¬ ((0 : Int32) < 0 ∨ cl_q101.slots.size ≤ ((0 : Int32)).toNatClampNeg) := inb_of S_q101 ⟨by decide, by decide⟩
  have hat_q101 : cl_q101.slots[((0 : Int32)).toNatClampNeg]? = some (.int (nar .char sen)) := Has.at H_q101 hin_q101 rfl
  refine Go.by (X0.caload hx (j := (0 : Int32)) (v := (.int (nar .char sen))) (by first | exact Ar_q101.1 | (rw [e0]; exact Ar_q101.1)) (State.isArrayOf_alike hZ.alike Ar_q101.2.1) Ar_q101.2.2 hin_q101 hat_q101 (g := (mkF m 16 #[.val (.ref o), .val (.int (0 : Int32)), .val (.int (5 : Int32)), .val (.int sen)] [(.int (0 : Int32)), (.ref o)])) rfl rfl (hb hby dK50_16)) ?_
  show Go _ _ _ _ _ _ _ (s₁.setTop (mkF m 17 #[.val (.ref o), .val (.int (0 : Int32)), .val (.int (5 : Int32)), .val (.int sen)] [(.int (nar .char sen))]))
  refine Go.by (fun _ kont => XS.iloadN X0.here hx rfl (hb hby dK50_17) rfl kont) ?_
  show Go _ _ _ _ _ _ _ (s₁.setTop (mkF m 18 #[.val (.ref o), .val (.int (0 : Int32)), .val (.int (5 : Int32)), .val (.int sen)] [(.int sen), (.int (nar .char sen))]))
  refine Go.by (fun _ kont => XS.icmpNo X0.here hx rfl (hb hby dK50_18) rfl (teq hsen).2 kont) ?_
  show Go _ _ _ _ _ _ _ (s₁.setTop (mkF m 21 #[.val (.ref o), .val (.int (0 : Int32)), .val (.int (5 : Int32)), .val (.int sen)] []))
  refine Go.by (fun _ kont => XS.iconst X0.here hx rfl (hb hby dK50_21) (XS.goto X0.here hx rfl (pc0 := 22) (pc' := 26) rfl (hb hby dK50_22) (by decide) (by decide) kont)) ?_
  show Go _ _ _ _ _ _ _ (s₁.setTop (mkF m 26 #[.val (.ref o), .val (.int (0 : Int32)), .val (.int (5 : Int32)), .val (.int sen)] [(.int (1 : Int32))]))
  refine Go.retN X0 hx (t := .boolean) hret (by simp) hlk (hb hby dK50_26) ?_ (by decide) (by decide)
  show QK50 Z o sen kc_o v1 v2 v3 v4 v5 v6 v7 h0 n0 (some (.int (1 : Int32))) s₁.heap _
  rw [e0]
  exact ⟨rfl, N0, rfl⟩

theorem dK51_0 : decode method_3_code 0 = .ok (.iload_n 1, 1) := by decide +kernel
theorem dK51_1 : decode method_3_code 1 = .ok (.iload_n 2, 1) := by decide +kernel
theorem dK51_2 : decode method_3_code 2 = .ok (.if_icmp .lt 12, 3) := by decide +kernel
theorem dK51_14 : decode method_3_code 14 = .ok (.aload_n 0, 1) := by decide +kernel
theorem dK51_15 : decode method_3_code 15 = .ok (.iload_n 1, 1) := by decide +kernel
theorem dK51_16 : decode method_3_code 16 = .ok (.caload, 1) := by decide +kernel
theorem dK51_17 : decode method_3_code 17 = .ok (.iload_n 3, 1) := by decide +kernel
theorem dK51_18 : decode method_3_code 18 = .ok (.if_icmp .ne 7, 3) := by decide +kernel
theorem dK51_21 : decode method_3_code 21 = .ok (.iconst 1, 1) := by decide +kernel
theorem dK51_22 : decode method_3_code 22 = .ok (.goto 4, 3) := by decide +kernel
theorem dK51_26 : decode method_3_code 26 = .ok (.ireturn, 1) := by decide +kernel
theorem pnK51 : plainName "com/example/pctenc/pctenc/EscapeWritePinLaw" = true := by first | (simp [plainName, overriddenIn]; done) | decide +kernel
theorem efK51 (m : MethodId) (o : Addr) (sen : Int32) : entryFrame m #[(.ref o), (.int (1 : Int32)), (.int (5 : Int32)), (.int sen)] 4 = mkF m 0 #[.val (.ref o), .val (.int (1 : Int32)), .val (.int (5 : Int32)), .val (.int sen)] [] := by first | (simp [entryFrame, mkF, argsToLocals, Value.category]; done) | rfl
def QK51 (Z : State) (o : Addr) (sen : Int32) (kc_o : ClassId) (v0 : Int32) (v2 : Int32) (v3 : Int32) (v4 : Int32) (v5 : Int32) (v6 : Int32) (v7 : Int32) (h0 : Heap) (n0 : Nat) (v : Option Value) (h : Heap) (L : List Loc) : Prop := (v = some (.int (1 : Int32)) ∧ Fr n0 L ∧ h = h0)
set_option maxRecDepth 65536 in
set_option maxHeartbeats 40000000 in
theorem rmK51 (l : Launch) (Z : State) (a0 : Array Value) (hw : ∀ d ∈ tables_1, d.before a0 Z = true) (ws : List Jvm.Cond) (o : Addr) (sen : Int32) (kc_o : ClassId) (v0 : Int32) (v2 : Int32) (v3 : Int32) (v4 : Int32) (v5 : Int32) (v6 : Int32) (v7 : Int32) (h0 : Heap) (n0 : Nat) (Z0 : n0 ≤ h0.size) (V0_o : Arv Z h0 o kc_o .char (8 : Int32) [(.int v0), (.int (nar .char sen)), (.int v2), (.int v3), (.int v4), (.int v5), (.int v6), (.int v7)] (.int (0 : Int32))) (hsen : (nar .char sen) = sen) :
    MetFree l (⟨"com/example/pctenc/pctenc/EscapeWritePinLaw", "kept", "([CIIC)Z"⟩ : MethodName) (head1 (Jvm.Cond.code (⟨"com/example/pctenc/pctenc/EscapeWritePinLaw", "kept", "([CIIC)Z"⟩ : MethodName) method_3_code 4 (some .boolean) :: ws) ({ frames := 0, cells := 0, slots := 0, locals := 0 } : Room)) (fun aa_ U_ => aa_ = #[(.ref o), (.int (1 : Int32)), (.int (5 : Int32)), (.int sen)] ∧ Z.Warmed39 U_.vm ∧ U_.heap = h0) (fun _ _ _ _ _ => True) (fun _ U_ o_ V_ => ∃ v_ L_, o_ = .returned v_ ∧ QK51 Z o sen kc_o v0 v2 v3 v4 v5 v6 v7 h0 n0 v_ V_.heap L_ ∧ FrameEnd U_ o_ V_ L_ ({ frames := 0, cells := 0, slots := 0, locals := 0 } : Room).cells ({ frames := 0, cells := 0, slots := 0, locals := 0 } : Room).slots) := by
  refine MetFree.of_bodySF (plainFor_of_name pnK51) hisR ?_
  intro p e s m args below meth c s₁ Bd hml0 hP hK
  obtain ⟨rfl, hZ, hh⟩ := hP
  have hx := Bd.exec
  have hby := Bd.bytes
  have hml : c.maxLocals = 4 := hml0
  have hown : s.vm.findClass "com/example/pctenc/pctenc/EscapeWritePinLaw" = some m.cls := findClass_of_methodNamed Bd.named
  have hnm := (name_of_methodNamed Bd.named Bd.method).1
  have hlk : meth.locks = false := BodyLoose.notSynchronized Bd
  have hret : meth.sig.returnType = (some .boolean) := Bd.returns
  have X0 : Stand p l e ({ frames := 0, cells := 0, slots := 0, locals := 0 } : Room) s m #[(.ref o), (.int (1 : Int32)), (.int (5 : Int32)), (.int sen)] below meth c s₁ [] 0 0 := Stand.of_body Bd
  have e0 : s₁.heap = h0 := by rw [← hh, Bd.state]; rfl
  have N0 := Fr.nil n0
  show Go p e below s ({ frames := 0, cells := 0, slots := 0, locals := 0 } : Room).cells ({ frames := 0, cells := 0, slots := 0, locals := 0 } : Room).slots (QK51 Z o sen kc_o v0 v2 v3 v4 v5 v6 v7 h0 n0) (s₁.setTop (entryFrame m #[(.ref o), (.int (1 : Int32)), (.int (5 : Int32)), (.int sen)] 4))
  rw [efK51]
  refine Go.by (fun _ kont => XS.iloadN X0.here hx rfl (hb hby dK51_0) rfl (XS.iloadN X0.here hx rfl (hb hby dK51_1) rfl (XS.icmpYes X0.here hx rfl (pc0 := 2) (pc' := 14) rfl (hb hby dK51_2) rfl (by decide) (by decide) (by decide) (XS.aloadN X0.here hx rfl (hb hby dK51_14) rfl rfl (XS.iloadN X0.here hx rfl (hb hby dK51_15) rfl kont))))) ?_
  show Go _ _ _ _ _ _ _ (s₁.setTop (mkF m 16 #[.val (.ref o), .val (.int (1 : Int32)), .val (.int (5 : Int32)), .val (.int sen)] [(.int (1 : Int32)), (.ref o)]))
  obtain ⟨cl_q101, Ar_q101, q1_q101, S_q101, N_q101, H_q101, G_q101⟩ := id V0_o
  have hin_q101 : ¬ ((1 : Int32) < 0 ∨ cl_q101.slots.size ≤ ((1 : Int32)).toNatClampNeg) := inb_of S_q101 ⟨by decide, by decide⟩
  have hat_q101 : cl_q101.slots[((1 : Int32)).toNatClampNeg]? = some (.int (nar .char sen)) := Has.at H_q101 hin_q101 rfl
  refine Go.by (X0.caload hx (j := (1 : Int32)) (v := (.int (nar .char sen))) (by first | exact Ar_q101.1 | (rw [e0]; exact Ar_q101.1)) (State.isArrayOf_alike hZ.alike Ar_q101.2.1) Ar_q101.2.2 hin_q101 hat_q101 (g := (mkF m 16 #[.val (.ref o), .val (.int (1 : Int32)), .val (.int (5 : Int32)), .val (.int sen)] [(.int (1 : Int32)), (.ref o)])) rfl rfl (hb hby dK51_16)) ?_
  show Go _ _ _ _ _ _ _ (s₁.setTop (mkF m 17 #[.val (.ref o), .val (.int (1 : Int32)), .val (.int (5 : Int32)), .val (.int sen)] [(.int (nar .char sen))]))
  refine Go.by (fun _ kont => XS.iloadN X0.here hx rfl (hb hby dK51_17) rfl kont) ?_
  show Go _ _ _ _ _ _ _ (s₁.setTop (mkF m 18 #[.val (.ref o), .val (.int (1 : Int32)), .val (.int (5 : Int32)), .val (.int sen)] [(.int sen), (.int (nar .char sen))]))
  refine Go.by (fun _ kont => XS.icmpNo X0.here hx rfl (hb hby dK51_18) rfl (teq hsen).2 kont) ?_
  show Go _ _ _ _ _ _ _ (s₁.setTop (mkF m 21 #[.val (.ref o), .val (.int (1 : Int32)), .val (.int (5 : Int32)), .val (.int sen)] []))
  refine Go.by (fun _ kont => XS.iconst X0.here hx rfl (hb hby dK51_21) (XS.goto X0.here hx rfl (pc0 := 22) (pc' := 26) rfl (hb hby dK51_22) (by decide) (by decide) kont)) ?_
  show Go _ _ _ _ _ _ _ (s₁.setTop (mkF m 26 #[.val (.ref o), .val (.int (1 : Int32)), .val (.int (5 : Int32)), .val (.int sen)] [(.int (1 : Int32))]))
  refine Go.retN X0 hx (t := .boolean) hret (by simp) hlk (hb hby dK51_26) ?_ (by decide) (by decide)
  show QK51 Z o sen kc_o v0 v2 v3 v4 v5 v6 v7 h0 n0 (some (.int (1 : Int32))) s₁.heap _
  rw [e0]
  exact ⟨rfl, N0, rfl⟩

theorem dK52_0 : decode method_3_code 0 = .ok (.iload_n 1, 1) := by decide +kernel
theorem dK52_1 : decode method_3_code 1 = .ok (.iload_n 2, 1) := by decide +kernel
theorem dK52_2 : decode method_3_code 2 = .ok (.if_icmp .lt 12, 3) := by decide +kernel
theorem dK52_14 : decode method_3_code 14 = .ok (.aload_n 0, 1) := by decide +kernel
theorem dK52_15 : decode method_3_code 15 = .ok (.iload_n 1, 1) := by decide +kernel
theorem dK52_16 : decode method_3_code 16 = .ok (.caload, 1) := by decide +kernel
theorem dK52_17 : decode method_3_code 17 = .ok (.iload_n 3, 1) := by decide +kernel
theorem dK52_18 : decode method_3_code 18 = .ok (.if_icmp .ne 7, 3) := by decide +kernel
theorem dK52_21 : decode method_3_code 21 = .ok (.iconst 1, 1) := by decide +kernel
theorem dK52_22 : decode method_3_code 22 = .ok (.goto 4, 3) := by decide +kernel
theorem dK52_26 : decode method_3_code 26 = .ok (.ireturn, 1) := by decide +kernel
theorem pnK52 : plainName "com/example/pctenc/pctenc/EscapeWritePinLaw" = true := by first | (simp [plainName, overriddenIn]; done) | decide +kernel
theorem efK52 (m : MethodId) (o : Addr) (sen : Int32) : entryFrame m #[(.ref o), (.int (2 : Int32)), (.int (5 : Int32)), (.int sen)] 4 = mkF m 0 #[.val (.ref o), .val (.int (2 : Int32)), .val (.int (5 : Int32)), .val (.int sen)] [] := by first | (simp [entryFrame, mkF, argsToLocals, Value.category]; done) | rfl
def QK52 (Z : State) (o : Addr) (sen : Int32) (kc_o : ClassId) (v0 : Int32) (v1 : Int32) (v3 : Int32) (v4 : Int32) (v5 : Int32) (v6 : Int32) (v7 : Int32) (h0 : Heap) (n0 : Nat) (v : Option Value) (h : Heap) (L : List Loc) : Prop := (v = some (.int (1 : Int32)) ∧ Fr n0 L ∧ h = h0)
set_option maxRecDepth 65536 in
set_option maxHeartbeats 40000000 in
theorem rmK52 (l : Launch) (Z : State) (a0 : Array Value) (hw : ∀ d ∈ tables_1, d.before a0 Z = true) (ws : List Jvm.Cond) (o : Addr) (sen : Int32) (kc_o : ClassId) (v0 : Int32) (v1 : Int32) (v3 : Int32) (v4 : Int32) (v5 : Int32) (v6 : Int32) (v7 : Int32) (h0 : Heap) (n0 : Nat) (Z0 : n0 ≤ h0.size) (V0_o : Arv Z h0 o kc_o .char (8 : Int32) [(.int v0), (.int v1), (.int (nar .char sen)), (.int v3), (.int v4), (.int v5), (.int v6), (.int v7)] (.int (0 : Int32))) (hsen : (nar .char sen) = sen) :
    MetFree l (⟨"com/example/pctenc/pctenc/EscapeWritePinLaw", "kept", "([CIIC)Z"⟩ : MethodName) (head1 (Jvm.Cond.code (⟨"com/example/pctenc/pctenc/EscapeWritePinLaw", "kept", "([CIIC)Z"⟩ : MethodName) method_3_code 4 (some .boolean) :: ws) ({ frames := 0, cells := 0, slots := 0, locals := 0 } : Room)) (fun aa_ U_ => aa_ = #[(.ref o), (.int (2 : Int32)), (.int (5 : Int32)), (.int sen)] ∧ Z.Warmed39 U_.vm ∧ U_.heap = h0) (fun _ _ _ _ _ => True) (fun _ U_ o_ V_ => ∃ v_ L_, o_ = .returned v_ ∧ QK52 Z o sen kc_o v0 v1 v3 v4 v5 v6 v7 h0 n0 v_ V_.heap L_ ∧ FrameEnd U_ o_ V_ L_ ({ frames := 0, cells := 0, slots := 0, locals := 0 } : Room).cells ({ frames := 0, cells := 0, slots := 0, locals := 0 } : Room).slots) := by
  refine MetFree.of_bodySF (plainFor_of_name pnK52) hisR ?_
  intro p e s m args below meth c s₁ Bd hml0 hP hK
  obtain ⟨rfl, hZ, hh⟩ := hP
  have hx := Bd.exec
  have hby := Bd.bytes
  have hml : c.maxLocals = 4 := hml0
  have hown : s.vm.findClass "com/example/pctenc/pctenc/EscapeWritePinLaw" = some m.cls := findClass_of_methodNamed Bd.named
  have hnm := (name_of_methodNamed Bd.named Bd.method).1
  have hlk : meth.locks = false := BodyLoose.notSynchronized Bd
  have hret : meth.sig.returnType = (some .boolean) := Bd.returns
  have X0 : Stand p l e ({ frames := 0, cells := 0, slots := 0, locals := 0 } : Room) s m #[(.ref o), (.int (2 : Int32)), (.int (5 : Int32)), (.int sen)] below meth c s₁ [] 0 0 := Stand.of_body Bd
  have e0 : s₁.heap = h0 := by rw [← hh, Bd.state]; rfl
  have N0 := Fr.nil n0
  show Go p e below s ({ frames := 0, cells := 0, slots := 0, locals := 0 } : Room).cells ({ frames := 0, cells := 0, slots := 0, locals := 0 } : Room).slots (QK52 Z o sen kc_o v0 v1 v3 v4 v5 v6 v7 h0 n0) (s₁.setTop (entryFrame m #[(.ref o), (.int (2 : Int32)), (.int (5 : Int32)), (.int sen)] 4))
  rw [efK52]
  refine Go.by (fun _ kont => XS.iloadN X0.here hx rfl (hb hby dK52_0) rfl (XS.iloadN X0.here hx rfl (hb hby dK52_1) rfl (XS.icmpYes X0.here hx rfl (pc0 := 2) (pc' := 14) rfl (hb hby dK52_2) rfl (by decide) (by decide) (by decide) (XS.aloadN X0.here hx rfl (hb hby dK52_14) rfl rfl (XS.iloadN X0.here hx rfl (hb hby dK52_15) rfl kont))))) ?_
  show Go _ _ _ _ _ _ _ (s₁.setTop (mkF m 16 #[.val (.ref o), .val (.int (2 : Int32)), .val (.int (5 : Int32)), .val (.int sen)] [(.int (2 : Int32)), (.ref o)]))
  obtain ⟨cl_q101, Ar_q101, q1_q101, S_q101, N_q101, H_q101, G_q101⟩ := id V0_o
  have hin_q101 : ¬ ((2 : Int32) < 0 ∨ cl_q101.slots.size ≤ ((2 : Int32)).toNatClampNeg) := inb_of S_q101 ⟨by decide, by decide⟩
  have hat_q101 : cl_q101.slots[((2 : Int32)).toNatClampNeg]? = some (.int (nar .char sen)) := Has.at H_q101 hin_q101 rfl
  refine Go.by (X0.caload hx (j := (2 : Int32)) (v := (.int (nar .char sen))) (by first | exact Ar_q101.1 | (rw [e0]; exact Ar_q101.1)) (State.isArrayOf_alike hZ.alike Ar_q101.2.1) Ar_q101.2.2 hin_q101 hat_q101 (g := (mkF m 16 #[.val (.ref o), .val (.int (2 : Int32)), .val (.int (5 : Int32)), .val (.int sen)] [(.int (2 : Int32)), (.ref o)])) rfl rfl (hb hby dK52_16)) ?_
  show Go _ _ _ _ _ _ _ (s₁.setTop (mkF m 17 #[.val (.ref o), .val (.int (2 : Int32)), .val (.int (5 : Int32)), .val (.int sen)] [(.int (nar .char sen))]))
  refine Go.by (fun _ kont => XS.iloadN X0.here hx rfl (hb hby dK52_17) rfl kont) ?_
  show Go _ _ _ _ _ _ _ (s₁.setTop (mkF m 18 #[.val (.ref o), .val (.int (2 : Int32)), .val (.int (5 : Int32)), .val (.int sen)] [(.int sen), (.int (nar .char sen))]))
  refine Go.by (fun _ kont => XS.icmpNo X0.here hx rfl (hb hby dK52_18) rfl (teq hsen).2 kont) ?_
  show Go _ _ _ _ _ _ _ (s₁.setTop (mkF m 21 #[.val (.ref o), .val (.int (2 : Int32)), .val (.int (5 : Int32)), .val (.int sen)] []))
  refine Go.by (fun _ kont => XS.iconst X0.here hx rfl (hb hby dK52_21) (XS.goto X0.here hx rfl (pc0 := 22) (pc' := 26) rfl (hb hby dK52_22) (by decide) (by decide) kont)) ?_
  show Go _ _ _ _ _ _ _ (s₁.setTop (mkF m 26 #[.val (.ref o), .val (.int (2 : Int32)), .val (.int (5 : Int32)), .val (.int sen)] [(.int (1 : Int32))]))
  refine Go.retN X0 hx (t := .boolean) hret (by simp) hlk (hb hby dK52_26) ?_ (by decide) (by decide)
  show QK52 Z o sen kc_o v0 v1 v3 v4 v5 v6 v7 h0 n0 (some (.int (1 : Int32))) s₁.heap _
  rw [e0]
  exact ⟨rfl, N0, rfl⟩

theorem dK53_0 : decode method_3_code 0 = .ok (.iload_n 1, 1) := by decide +kernel
theorem dK53_1 : decode method_3_code 1 = .ok (.iload_n 2, 1) := by decide +kernel
theorem dK53_2 : decode method_3_code 2 = .ok (.if_icmp .lt 12, 3) := by decide +kernel
theorem dK53_14 : decode method_3_code 14 = .ok (.aload_n 0, 1) := by decide +kernel
theorem dK53_15 : decode method_3_code 15 = .ok (.iload_n 1, 1) := by decide +kernel
theorem dK53_16 : decode method_3_code 16 = .ok (.caload, 1) := by decide +kernel
theorem dK53_17 : decode method_3_code 17 = .ok (.iload_n 3, 1) := by decide +kernel
theorem dK53_18 : decode method_3_code 18 = .ok (.if_icmp .ne 7, 3) := by decide +kernel
theorem dK53_21 : decode method_3_code 21 = .ok (.iconst 1, 1) := by decide +kernel
theorem dK53_22 : decode method_3_code 22 = .ok (.goto 4, 3) := by decide +kernel
theorem dK53_26 : decode method_3_code 26 = .ok (.ireturn, 1) := by decide +kernel
theorem pnK53 : plainName "com/example/pctenc/pctenc/EscapeWritePinLaw" = true := by first | (simp [plainName, overriddenIn]; done) | decide +kernel
theorem efK53 (m : MethodId) (o : Addr) (sen : Int32) : entryFrame m #[(.ref o), (.int (3 : Int32)), (.int (5 : Int32)), (.int sen)] 4 = mkF m 0 #[.val (.ref o), .val (.int (3 : Int32)), .val (.int (5 : Int32)), .val (.int sen)] [] := by first | (simp [entryFrame, mkF, argsToLocals, Value.category]; done) | rfl
def QK53 (Z : State) (o : Addr) (sen : Int32) (kc_o : ClassId) (v0 : Int32) (v1 : Int32) (v2 : Int32) (v4 : Int32) (v5 : Int32) (v6 : Int32) (v7 : Int32) (h0 : Heap) (n0 : Nat) (v : Option Value) (h : Heap) (L : List Loc) : Prop := (v = some (.int (1 : Int32)) ∧ Fr n0 L ∧ h = h0)
set_option maxRecDepth 65536 in
set_option maxHeartbeats 40000000 in
theorem rmK53 (l : Launch) (Z : State) (a0 : Array Value) (hw : ∀ d ∈ tables_1, d.before a0 Z = true) (ws : List Jvm.Cond) (o : Addr) (sen : Int32) (kc_o : ClassId) (v0 : Int32) (v1 : Int32) (v2 : Int32) (v4 : Int32) (v5 : Int32) (v6 : Int32) (v7 : Int32) (h0 : Heap) (n0 : Nat) (Z0 : n0 ≤ h0.size) (V0_o : Arv Z h0 o kc_o .char (8 : Int32) [(.int v0), (.int v1), (.int v2), (.int (nar .char sen)), (.int v4), (.int v5), (.int v6), (.int v7)] (.int (0 : Int32))) (hsen : (nar .char sen) = sen) :
    MetFree l (⟨"com/example/pctenc/pctenc/EscapeWritePinLaw", "kept", "([CIIC)Z"⟩ : MethodName) (head1 (Jvm.Cond.code (⟨"com/example/pctenc/pctenc/EscapeWritePinLaw", "kept", "([CIIC)Z"⟩ : MethodName) method_3_code 4 (some .boolean) :: ws) ({ frames := 0, cells := 0, slots := 0, locals := 0 } : Room)) (fun aa_ U_ => aa_ = #[(.ref o), (.int (3 : Int32)), (.int (5 : Int32)), (.int sen)] ∧ Z.Warmed39 U_.vm ∧ U_.heap = h0) (fun _ _ _ _ _ => True) (fun _ U_ o_ V_ => ∃ v_ L_, o_ = .returned v_ ∧ QK53 Z o sen kc_o v0 v1 v2 v4 v5 v6 v7 h0 n0 v_ V_.heap L_ ∧ FrameEnd U_ o_ V_ L_ ({ frames := 0, cells := 0, slots := 0, locals := 0 } : Room).cells ({ frames := 0, cells := 0, slots := 0, locals := 0 } : Room).slots) := by
  refine MetFree.of_bodySF (plainFor_of_name pnK53) hisR ?_
  intro p e s m args below meth c s₁ Bd hml0 hP hK
  obtain ⟨rfl, hZ, hh⟩ := hP
  have hx := Bd.exec
  have hby := Bd.bytes
  have hml : c.maxLocals = 4 := hml0
  have hown : s.vm.findClass "com/example/pctenc/pctenc/EscapeWritePinLaw" = some m.cls := findClass_of_methodNamed Bd.named
  have hnm := (name_of_methodNamed Bd.named Bd.method).1
  have hlk : meth.locks = false := BodyLoose.notSynchronized Bd
  have hret : meth.sig.returnType = (some .boolean) := Bd.returns
  have X0 : Stand p l e ({ frames := 0, cells := 0, slots := 0, locals := 0 } : Room) s m #[(.ref o), (.int (3 : Int32)), (.int (5 : Int32)), (.int sen)] below meth c s₁ [] 0 0 := Stand.of_body Bd
  have e0 : s₁.heap = h0 := by rw [← hh, Bd.state]; rfl
  have N0 := Fr.nil n0
  show Go p e below s ({ frames := 0, cells := 0, slots := 0, locals := 0 } : Room).cells ({ frames := 0, cells := 0, slots := 0, locals := 0 } : Room).slots (QK53 Z o sen kc_o v0 v1 v2 v4 v5 v6 v7 h0 n0) (s₁.setTop (entryFrame m #[(.ref o), (.int (3 : Int32)), (.int (5 : Int32)), (.int sen)] 4))
  rw [efK53]
  refine Go.by (fun _ kont => XS.iloadN X0.here hx rfl (hb hby dK53_0) rfl (XS.iloadN X0.here hx rfl (hb hby dK53_1) rfl (XS.icmpYes X0.here hx rfl (pc0 := 2) (pc' := 14) rfl (hb hby dK53_2) rfl (by decide) (by decide) (by decide) (XS.aloadN X0.here hx rfl (hb hby dK53_14) rfl rfl (XS.iloadN X0.here hx rfl (hb hby dK53_15) rfl kont))))) ?_
  show Go _ _ _ _ _ _ _ (s₁.setTop (mkF m 16 #[.val (.ref o), .val (.int (3 : Int32)), .val (.int (5 : Int32)), .val (.int sen)] [(.int (3 : Int32)), (.ref o)]))
  obtain ⟨cl_q101, Ar_q101, q1_q101, S_q101, N_q101, H_q101, G_q101⟩ := id V0_o
  have hin_q101 : ¬ ((3 : Int32) < 0 ∨ cl_q101.slots.size ≤ ((3 : Int32)).toNatClampNeg) := inb_of S_q101 ⟨by decide, by decide⟩
  have hat_q101 : cl_q101.slots[((3 : Int32)).toNatClampNeg]? = some (.int (nar .char sen)) := Has.at H_q101 hin_q101 rfl
  refine Go.by (X0.caload hx (j := (3 : Int32)) (v := (.int (nar .char sen))) (by first | exact Ar_q101.1 | (rw [e0]; exact Ar_q101.1)) (State.isArrayOf_alike hZ.alike Ar_q101.2.1) Ar_q101.2.2 hin_q101 hat_q101 (g := (mkF m 16 #[.val (.ref o), .val (.int (3 : Int32)), .val (.int (5 : Int32)), .val (.int sen)] [(.int (3 : Int32)), (.ref o)])) rfl rfl (hb hby dK53_16)) ?_
  show Go _ _ _ _ _ _ _ (s₁.setTop (mkF m 17 #[.val (.ref o), .val (.int (3 : Int32)), .val (.int (5 : Int32)), .val (.int sen)] [(.int (nar .char sen))]))
  refine Go.by (fun _ kont => XS.iloadN X0.here hx rfl (hb hby dK53_17) rfl kont) ?_
  show Go _ _ _ _ _ _ _ (s₁.setTop (mkF m 18 #[.val (.ref o), .val (.int (3 : Int32)), .val (.int (5 : Int32)), .val (.int sen)] [(.int sen), (.int (nar .char sen))]))
  refine Go.by (fun _ kont => XS.icmpNo X0.here hx rfl (hb hby dK53_18) rfl (teq hsen).2 kont) ?_
  show Go _ _ _ _ _ _ _ (s₁.setTop (mkF m 21 #[.val (.ref o), .val (.int (3 : Int32)), .val (.int (5 : Int32)), .val (.int sen)] []))
  refine Go.by (fun _ kont => XS.iconst X0.here hx rfl (hb hby dK53_21) (XS.goto X0.here hx rfl (pc0 := 22) (pc' := 26) rfl (hb hby dK53_22) (by decide) (by decide) kont)) ?_
  show Go _ _ _ _ _ _ _ (s₁.setTop (mkF m 26 #[.val (.ref o), .val (.int (3 : Int32)), .val (.int (5 : Int32)), .val (.int sen)] [(.int (1 : Int32))]))
  refine Go.retN X0 hx (t := .boolean) hret (by simp) hlk (hb hby dK53_26) ?_ (by decide) (by decide)
  show QK53 Z o sen kc_o v0 v1 v2 v4 v5 v6 v7 h0 n0 (some (.int (1 : Int32))) s₁.heap _
  rw [e0]
  exact ⟨rfl, N0, rfl⟩

theorem dK54_0 : decode method_3_code 0 = .ok (.iload_n 1, 1) := by decide +kernel
theorem dK54_1 : decode method_3_code 1 = .ok (.iload_n 2, 1) := by decide +kernel
theorem dK54_2 : decode method_3_code 2 = .ok (.if_icmp .lt 12, 3) := by decide +kernel
theorem dK54_14 : decode method_3_code 14 = .ok (.aload_n 0, 1) := by decide +kernel
theorem dK54_15 : decode method_3_code 15 = .ok (.iload_n 1, 1) := by decide +kernel
theorem dK54_16 : decode method_3_code 16 = .ok (.caload, 1) := by decide +kernel
theorem dK54_17 : decode method_3_code 17 = .ok (.iload_n 3, 1) := by decide +kernel
theorem dK54_18 : decode method_3_code 18 = .ok (.if_icmp .ne 7, 3) := by decide +kernel
theorem dK54_21 : decode method_3_code 21 = .ok (.iconst 1, 1) := by decide +kernel
theorem dK54_22 : decode method_3_code 22 = .ok (.goto 4, 3) := by decide +kernel
theorem dK54_26 : decode method_3_code 26 = .ok (.ireturn, 1) := by decide +kernel
theorem pnK54 : plainName "com/example/pctenc/pctenc/EscapeWritePinLaw" = true := by first | (simp [plainName, overriddenIn]; done) | decide +kernel
theorem efK54 (m : MethodId) (o : Addr) (sen : Int32) : entryFrame m #[(.ref o), (.int (4 : Int32)), (.int (5 : Int32)), (.int sen)] 4 = mkF m 0 #[.val (.ref o), .val (.int (4 : Int32)), .val (.int (5 : Int32)), .val (.int sen)] [] := by first | (simp [entryFrame, mkF, argsToLocals, Value.category]; done) | rfl
def QK54 (Z : State) (o : Addr) (sen : Int32) (kc_o : ClassId) (v0 : Int32) (v1 : Int32) (v2 : Int32) (v3 : Int32) (v5 : Int32) (v6 : Int32) (v7 : Int32) (h0 : Heap) (n0 : Nat) (v : Option Value) (h : Heap) (L : List Loc) : Prop := (v = some (.int (1 : Int32)) ∧ Fr n0 L ∧ h = h0)
set_option maxRecDepth 65536 in
set_option maxHeartbeats 40000000 in
theorem rmK54 (l : Launch) (Z : State) (a0 : Array Value) (hw : ∀ d ∈ tables_1, d.before a0 Z = true) (ws : List Jvm.Cond) (o : Addr) (sen : Int32) (kc_o : ClassId) (v0 : Int32) (v1 : Int32) (v2 : Int32) (v3 : Int32) (v5 : Int32) (v6 : Int32) (v7 : Int32) (h0 : Heap) (n0 : Nat) (Z0 : n0 ≤ h0.size) (V0_o : Arv Z h0 o kc_o .char (8 : Int32) [(.int v0), (.int v1), (.int v2), (.int v3), (.int (nar .char sen)), (.int v5), (.int v6), (.int v7)] (.int (0 : Int32))) (hsen : (nar .char sen) = sen) :
    MetFree l (⟨"com/example/pctenc/pctenc/EscapeWritePinLaw", "kept", "([CIIC)Z"⟩ : MethodName) (head1 (Jvm.Cond.code (⟨"com/example/pctenc/pctenc/EscapeWritePinLaw", "kept", "([CIIC)Z"⟩ : MethodName) method_3_code 4 (some .boolean) :: ws) ({ frames := 0, cells := 0, slots := 0, locals := 0 } : Room)) (fun aa_ U_ => aa_ = #[(.ref o), (.int (4 : Int32)), (.int (5 : Int32)), (.int sen)] ∧ Z.Warmed39 U_.vm ∧ U_.heap = h0) (fun _ _ _ _ _ => True) (fun _ U_ o_ V_ => ∃ v_ L_, o_ = .returned v_ ∧ QK54 Z o sen kc_o v0 v1 v2 v3 v5 v6 v7 h0 n0 v_ V_.heap L_ ∧ FrameEnd U_ o_ V_ L_ ({ frames := 0, cells := 0, slots := 0, locals := 0 } : Room).cells ({ frames := 0, cells := 0, slots := 0, locals := 0 } : Room).slots) := by
  refine MetFree.of_bodySF (plainFor_of_name pnK54) hisR ?_
  intro p e s m args below meth c s₁ Bd hml0 hP hK
  obtain ⟨rfl, hZ, hh⟩ := hP
  have hx := Bd.exec
  have hby := Bd.bytes
  have hml : c.maxLocals = 4 := hml0
  have hown : s.vm.findClass "com/example/pctenc/pctenc/EscapeWritePinLaw" = some m.cls := findClass_of_methodNamed Bd.named
  have hnm := (name_of_methodNamed Bd.named Bd.method).1
  have hlk : meth.locks = false := BodyLoose.notSynchronized Bd
  have hret : meth.sig.returnType = (some .boolean) := Bd.returns
  have X0 : Stand p l e ({ frames := 0, cells := 0, slots := 0, locals := 0 } : Room) s m #[(.ref o), (.int (4 : Int32)), (.int (5 : Int32)), (.int sen)] below meth c s₁ [] 0 0 := Stand.of_body Bd
  have e0 : s₁.heap = h0 := by rw [← hh, Bd.state]; rfl
  have N0 := Fr.nil n0
  show Go p e below s ({ frames := 0, cells := 0, slots := 0, locals := 0 } : Room).cells ({ frames := 0, cells := 0, slots := 0, locals := 0 } : Room).slots (QK54 Z o sen kc_o v0 v1 v2 v3 v5 v6 v7 h0 n0) (s₁.setTop (entryFrame m #[(.ref o), (.int (4 : Int32)), (.int (5 : Int32)), (.int sen)] 4))
  rw [efK54]
  refine Go.by (fun _ kont => XS.iloadN X0.here hx rfl (hb hby dK54_0) rfl (XS.iloadN X0.here hx rfl (hb hby dK54_1) rfl (XS.icmpYes X0.here hx rfl (pc0 := 2) (pc' := 14) rfl (hb hby dK54_2) rfl (by decide) (by decide) (by decide) (XS.aloadN X0.here hx rfl (hb hby dK54_14) rfl rfl (XS.iloadN X0.here hx rfl (hb hby dK54_15) rfl kont))))) ?_
  show Go _ _ _ _ _ _ _ (s₁.setTop (mkF m 16 #[.val (.ref o), .val (.int (4 : Int32)), .val (.int (5 : Int32)), .val (.int sen)] [(.int (4 : Int32)), (.ref o)]))
  obtain ⟨cl_q101, Ar_q101, q1_q101, S_q101, N_q101, H_q101, G_q101⟩ := id V0_o
  have hin_q101 : ¬ ((4 : Int32) < 0 ∨ cl_q101.slots.size ≤ ((4 : Int32)).toNatClampNeg) := inb_of S_q101 ⟨by decide, by decide⟩
  have hat_q101 : cl_q101.slots[((4 : Int32)).toNatClampNeg]? = some (.int (nar .char sen)) := Has.at H_q101 hin_q101 rfl
  refine Go.by (X0.caload hx (j := (4 : Int32)) (v := (.int (nar .char sen))) (by first | exact Ar_q101.1 | (rw [e0]; exact Ar_q101.1)) (State.isArrayOf_alike hZ.alike Ar_q101.2.1) Ar_q101.2.2 hin_q101 hat_q101 (g := (mkF m 16 #[.val (.ref o), .val (.int (4 : Int32)), .val (.int (5 : Int32)), .val (.int sen)] [(.int (4 : Int32)), (.ref o)])) rfl rfl (hb hby dK54_16)) ?_
  show Go _ _ _ _ _ _ _ (s₁.setTop (mkF m 17 #[.val (.ref o), .val (.int (4 : Int32)), .val (.int (5 : Int32)), .val (.int sen)] [(.int (nar .char sen))]))
  refine Go.by (fun _ kont => XS.iloadN X0.here hx rfl (hb hby dK54_17) rfl kont) ?_
  show Go _ _ _ _ _ _ _ (s₁.setTop (mkF m 18 #[.val (.ref o), .val (.int (4 : Int32)), .val (.int (5 : Int32)), .val (.int sen)] [(.int sen), (.int (nar .char sen))]))
  refine Go.by (fun _ kont => XS.icmpNo X0.here hx rfl (hb hby dK54_18) rfl (teq hsen).2 kont) ?_
  show Go _ _ _ _ _ _ _ (s₁.setTop (mkF m 21 #[.val (.ref o), .val (.int (4 : Int32)), .val (.int (5 : Int32)), .val (.int sen)] []))
  refine Go.by (fun _ kont => XS.iconst X0.here hx rfl (hb hby dK54_21) (XS.goto X0.here hx rfl (pc0 := 22) (pc' := 26) rfl (hb hby dK54_22) (by decide) (by decide) kont)) ?_
  show Go _ _ _ _ _ _ _ (s₁.setTop (mkF m 26 #[.val (.ref o), .val (.int (4 : Int32)), .val (.int (5 : Int32)), .val (.int sen)] [(.int (1 : Int32))]))
  refine Go.retN X0 hx (t := .boolean) hret (by simp) hlk (hb hby dK54_26) ?_ (by decide) (by decide)
  show QK54 Z o sen kc_o v0 v1 v2 v3 v5 v6 v7 h0 n0 (some (.int (1 : Int32))) s₁.heap _
  rw [e0]
  exact ⟨rfl, N0, rfl⟩

theorem dK55_0 : decode method_3_code 0 = .ok (.iload_n 1, 1) := by decide +kernel
theorem dK55_1 : decode method_3_code 1 = .ok (.iload_n 2, 1) := by decide +kernel
theorem dK55_2 : decode method_3_code 2 = .ok (.if_icmp .lt 12, 3) := by decide +kernel
theorem dK55_5 : decode method_3_code 5 = .ok (.iload_n 1, 1) := by decide +kernel
theorem dK55_6 : decode method_3_code 6 = .ok (.iload_n 2, 1) := by decide +kernel
theorem dK55_7 : decode method_3_code 7 = .ok (.iconst 3, 1) := by decide +kernel
theorem dK55_8 : decode method_3_code 8 = .ok (.iadd, 1) := by decide +kernel
theorem dK55_9 : decode method_3_code 9 = .ok (.if_icmp .ge 5, 3) := by decide +kernel
theorem dK55_12 : decode method_3_code 12 = .ok (.iconst 1, 1) := by decide +kernel
theorem dK55_13 : decode method_3_code 13 = .ok (.ireturn, 1) := by decide +kernel
theorem pnK55 : plainName "com/example/pctenc/pctenc/EscapeWritePinLaw" = true := by first | (simp [plainName, overriddenIn]; done) | decide +kernel
theorem efK55 (m : MethodId) (o : Addr) (sen : Int32) : entryFrame m #[(.ref o), (.int (5 : Int32)), (.int (5 : Int32)), (.int sen)] 4 = mkF m 0 #[.val (.ref o), .val (.int (5 : Int32)), .val (.int (5 : Int32)), .val (.int sen)] [] := by first | (simp [entryFrame, mkF, argsToLocals, Value.category]; done) | rfl
def QK55 (Z : State) (o : Addr) (sen : Int32) (h0 : Heap) (n0 : Nat) (v : Option Value) (h : Heap) (L : List Loc) : Prop := (v = some (.int (1 : Int32)) ∧ Fr n0 L ∧ h = h0)
set_option maxRecDepth 65536 in
set_option maxHeartbeats 40000000 in
theorem rmK55 (l : Launch) (Z : State) (a0 : Array Value) (hw : ∀ d ∈ tables_1, d.before a0 Z = true) (ws : List Jvm.Cond) (o : Addr) (sen : Int32) (h0 : Heap) (n0 : Nat) (Z0 : n0 ≤ h0.size) :
    MetFree l (⟨"com/example/pctenc/pctenc/EscapeWritePinLaw", "kept", "([CIIC)Z"⟩ : MethodName) (head1 (Jvm.Cond.code (⟨"com/example/pctenc/pctenc/EscapeWritePinLaw", "kept", "([CIIC)Z"⟩ : MethodName) method_3_code 4 (some .boolean) :: ws) ({ frames := 0, cells := 0, slots := 0, locals := 0 } : Room)) (fun aa_ U_ => aa_ = #[(.ref o), (.int (5 : Int32)), (.int (5 : Int32)), (.int sen)] ∧ Z.Warmed39 U_.vm ∧ U_.heap = h0) (fun _ _ _ _ _ => True) (fun _ U_ o_ V_ => ∃ v_ L_, o_ = .returned v_ ∧ QK55 Z o sen h0 n0 v_ V_.heap L_ ∧ FrameEnd U_ o_ V_ L_ ({ frames := 0, cells := 0, slots := 0, locals := 0 } : Room).cells ({ frames := 0, cells := 0, slots := 0, locals := 0 } : Room).slots) := by
  refine MetFree.of_bodySF (plainFor_of_name pnK55) hisR ?_
  intro p e s m args below meth c s₁ Bd hml0 hP hK
  obtain ⟨rfl, hZ, hh⟩ := hP
  have hx := Bd.exec
  have hby := Bd.bytes
  have hml : c.maxLocals = 4 := hml0
  have hown : s.vm.findClass "com/example/pctenc/pctenc/EscapeWritePinLaw" = some m.cls := findClass_of_methodNamed Bd.named
  have hnm := (name_of_methodNamed Bd.named Bd.method).1
  have hlk : meth.locks = false := BodyLoose.notSynchronized Bd
  have hret : meth.sig.returnType = (some .boolean) := Bd.returns
  have X0 : Stand p l e ({ frames := 0, cells := 0, slots := 0, locals := 0 } : Room) s m #[(.ref o), (.int (5 : Int32)), (.int (5 : Int32)), (.int sen)] below meth c s₁ [] 0 0 := Stand.of_body Bd
  have e0 : s₁.heap = h0 := by rw [← hh, Bd.state]; rfl
  have N0 := Fr.nil n0
  show Go p e below s ({ frames := 0, cells := 0, slots := 0, locals := 0 } : Room).cells ({ frames := 0, cells := 0, slots := 0, locals := 0 } : Room).slots (QK55 Z o sen h0 n0) (s₁.setTop (entryFrame m #[(.ref o), (.int (5 : Int32)), (.int (5 : Int32)), (.int sen)] 4))
  rw [efK55]
  refine Go.by (fun _ kont => XS.iloadN X0.here hx rfl (hb hby dK55_0) rfl (XS.iloadN X0.here hx rfl (hb hby dK55_1) rfl (XS.icmpNo X0.here hx rfl (hb hby dK55_2) rfl (by decide) (XS.iloadN X0.here hx rfl (hb hby dK55_5) rfl (XS.iloadN X0.here hx rfl (hb hby dK55_6) rfl (XS.iconst X0.here hx rfl (hb hby dK55_7) kont)))))) ?_
  show Go _ _ _ _ _ _ _ (s₁.setTop (mkF m 8 #[.val (.ref o), .val (.int (5 : Int32)), .val (.int (5 : Int32)), .val (.int sen)] [(.int (3 : Int32)), (.int (5 : Int32)), (.int (5 : Int32))]))
  refine Go.by (fun _ kont => XS.iadd X0.here hx rfl (hb hby dK55_8) rfl kont) ?_
  show Go _ _ _ _ _ _ _ (s₁.setTop (mkF m 9 #[.val (.ref o), .val (.int (5 : Int32)), .val (.int (5 : Int32)), .val (.int sen)] [(.int ((5 : Int32) + (3 : Int32))), (.int (5 : Int32))]))
  rw [show ((5 : Int32) + (3 : Int32)) = (8 : Int32) from by decide]
  show Go _ _ _ _ _ _ _ (s₁.setTop (mkF m 9 #[.val (.ref o), .val (.int (5 : Int32)), .val (.int (5 : Int32)), .val (.int sen)] [(.int (8 : Int32)), (.int (5 : Int32))]))
  refine Go.by (fun _ kont => XS.icmpNo X0.here hx rfl (hb hby dK55_9) rfl (by decide) (XS.iconst X0.here hx rfl (hb hby dK55_12) kont)) ?_
  show Go _ _ _ _ _ _ _ (s₁.setTop (mkF m 13 #[.val (.ref o), .val (.int (5 : Int32)), .val (.int (5 : Int32)), .val (.int sen)] [(.int (1 : Int32))]))
  refine Go.retN X0 hx (t := .boolean) hret (by simp) hlk (hb hby dK55_13) ?_ (by decide) (by decide)
  show QK55 Z o sen h0 n0 (some (.int (1 : Int32))) s₁.heap _
  rw [e0]
  exact ⟨rfl, N0, rfl⟩

theorem dK56_0 : decode method_3_code 0 = .ok (.iload_n 1, 1) := by decide +kernel
theorem dK56_1 : decode method_3_code 1 = .ok (.iload_n 2, 1) := by decide +kernel
theorem dK56_2 : decode method_3_code 2 = .ok (.if_icmp .lt 12, 3) := by decide +kernel
theorem dK56_5 : decode method_3_code 5 = .ok (.iload_n 1, 1) := by decide +kernel
theorem dK56_6 : decode method_3_code 6 = .ok (.iload_n 2, 1) := by decide +kernel
theorem dK56_7 : decode method_3_code 7 = .ok (.iconst 3, 1) := by decide +kernel
theorem dK56_8 : decode method_3_code 8 = .ok (.iadd, 1) := by decide +kernel
theorem dK56_9 : decode method_3_code 9 = .ok (.if_icmp .ge 5, 3) := by decide +kernel
theorem dK56_12 : decode method_3_code 12 = .ok (.iconst 1, 1) := by decide +kernel
theorem dK56_13 : decode method_3_code 13 = .ok (.ireturn, 1) := by decide +kernel
theorem pnK56 : plainName "com/example/pctenc/pctenc/EscapeWritePinLaw" = true := by first | (simp [plainName, overriddenIn]; done) | decide +kernel
theorem efK56 (m : MethodId) (o : Addr) (sen : Int32) : entryFrame m #[(.ref o), (.int (6 : Int32)), (.int (5 : Int32)), (.int sen)] 4 = mkF m 0 #[.val (.ref o), .val (.int (6 : Int32)), .val (.int (5 : Int32)), .val (.int sen)] [] := by first | (simp [entryFrame, mkF, argsToLocals, Value.category]; done) | rfl
def QK56 (Z : State) (o : Addr) (sen : Int32) (h0 : Heap) (n0 : Nat) (v : Option Value) (h : Heap) (L : List Loc) : Prop := (v = some (.int (1 : Int32)) ∧ Fr n0 L ∧ h = h0)
set_option maxRecDepth 65536 in
set_option maxHeartbeats 40000000 in
theorem rmK56 (l : Launch) (Z : State) (a0 : Array Value) (hw : ∀ d ∈ tables_1, d.before a0 Z = true) (ws : List Jvm.Cond) (o : Addr) (sen : Int32) (h0 : Heap) (n0 : Nat) (Z0 : n0 ≤ h0.size) :
    MetFree l (⟨"com/example/pctenc/pctenc/EscapeWritePinLaw", "kept", "([CIIC)Z"⟩ : MethodName) (head1 (Jvm.Cond.code (⟨"com/example/pctenc/pctenc/EscapeWritePinLaw", "kept", "([CIIC)Z"⟩ : MethodName) method_3_code 4 (some .boolean) :: ws) ({ frames := 0, cells := 0, slots := 0, locals := 0 } : Room)) (fun aa_ U_ => aa_ = #[(.ref o), (.int (6 : Int32)), (.int (5 : Int32)), (.int sen)] ∧ Z.Warmed39 U_.vm ∧ U_.heap = h0) (fun _ _ _ _ _ => True) (fun _ U_ o_ V_ => ∃ v_ L_, o_ = .returned v_ ∧ QK56 Z o sen h0 n0 v_ V_.heap L_ ∧ FrameEnd U_ o_ V_ L_ ({ frames := 0, cells := 0, slots := 0, locals := 0 } : Room).cells ({ frames := 0, cells := 0, slots := 0, locals := 0 } : Room).slots) := by
  refine MetFree.of_bodySF (plainFor_of_name pnK56) hisR ?_
  intro p e s m args below meth c s₁ Bd hml0 hP hK
  obtain ⟨rfl, hZ, hh⟩ := hP
  have hx := Bd.exec
  have hby := Bd.bytes
  have hml : c.maxLocals = 4 := hml0
  have hown : s.vm.findClass "com/example/pctenc/pctenc/EscapeWritePinLaw" = some m.cls := findClass_of_methodNamed Bd.named
  have hnm := (name_of_methodNamed Bd.named Bd.method).1
  have hlk : meth.locks = false := BodyLoose.notSynchronized Bd
  have hret : meth.sig.returnType = (some .boolean) := Bd.returns
  have X0 : Stand p l e ({ frames := 0, cells := 0, slots := 0, locals := 0 } : Room) s m #[(.ref o), (.int (6 : Int32)), (.int (5 : Int32)), (.int sen)] below meth c s₁ [] 0 0 := Stand.of_body Bd
  have e0 : s₁.heap = h0 := by rw [← hh, Bd.state]; rfl
  have N0 := Fr.nil n0
  show Go p e below s ({ frames := 0, cells := 0, slots := 0, locals := 0 } : Room).cells ({ frames := 0, cells := 0, slots := 0, locals := 0 } : Room).slots (QK56 Z o sen h0 n0) (s₁.setTop (entryFrame m #[(.ref o), (.int (6 : Int32)), (.int (5 : Int32)), (.int sen)] 4))
  rw [efK56]
  refine Go.by (fun _ kont => XS.iloadN X0.here hx rfl (hb hby dK56_0) rfl (XS.iloadN X0.here hx rfl (hb hby dK56_1) rfl (XS.icmpNo X0.here hx rfl (hb hby dK56_2) rfl (by decide) (XS.iloadN X0.here hx rfl (hb hby dK56_5) rfl (XS.iloadN X0.here hx rfl (hb hby dK56_6) rfl (XS.iconst X0.here hx rfl (hb hby dK56_7) kont)))))) ?_
  show Go _ _ _ _ _ _ _ (s₁.setTop (mkF m 8 #[.val (.ref o), .val (.int (6 : Int32)), .val (.int (5 : Int32)), .val (.int sen)] [(.int (3 : Int32)), (.int (5 : Int32)), (.int (6 : Int32))]))
  refine Go.by (fun _ kont => XS.iadd X0.here hx rfl (hb hby dK56_8) rfl kont) ?_
  show Go _ _ _ _ _ _ _ (s₁.setTop (mkF m 9 #[.val (.ref o), .val (.int (6 : Int32)), .val (.int (5 : Int32)), .val (.int sen)] [(.int ((5 : Int32) + (3 : Int32))), (.int (6 : Int32))]))
  rw [show ((5 : Int32) + (3 : Int32)) = (8 : Int32) from by decide]
  show Go _ _ _ _ _ _ _ (s₁.setTop (mkF m 9 #[.val (.ref o), .val (.int (6 : Int32)), .val (.int (5 : Int32)), .val (.int sen)] [(.int (8 : Int32)), (.int (6 : Int32))]))
  refine Go.by (fun _ kont => XS.icmpNo X0.here hx rfl (hb hby dK56_9) rfl (by decide) (XS.iconst X0.here hx rfl (hb hby dK56_12) kont)) ?_
  show Go _ _ _ _ _ _ _ (s₁.setTop (mkF m 13 #[.val (.ref o), .val (.int (6 : Int32)), .val (.int (5 : Int32)), .val (.int sen)] [(.int (1 : Int32))]))
  refine Go.retN X0 hx (t := .boolean) hret (by simp) hlk (hb hby dK56_13) ?_ (by decide) (by decide)
  show QK56 Z o sen h0 n0 (some (.int (1 : Int32))) s₁.heap _
  rw [e0]
  exact ⟨rfl, N0, rfl⟩

theorem dK57_0 : decode method_3_code 0 = .ok (.iload_n 1, 1) := by decide +kernel
theorem dK57_1 : decode method_3_code 1 = .ok (.iload_n 2, 1) := by decide +kernel
theorem dK57_2 : decode method_3_code 2 = .ok (.if_icmp .lt 12, 3) := by decide +kernel
theorem dK57_5 : decode method_3_code 5 = .ok (.iload_n 1, 1) := by decide +kernel
theorem dK57_6 : decode method_3_code 6 = .ok (.iload_n 2, 1) := by decide +kernel
theorem dK57_7 : decode method_3_code 7 = .ok (.iconst 3, 1) := by decide +kernel
theorem dK57_8 : decode method_3_code 8 = .ok (.iadd, 1) := by decide +kernel
theorem dK57_9 : decode method_3_code 9 = .ok (.if_icmp .ge 5, 3) := by decide +kernel
theorem dK57_12 : decode method_3_code 12 = .ok (.iconst 1, 1) := by decide +kernel
theorem dK57_13 : decode method_3_code 13 = .ok (.ireturn, 1) := by decide +kernel
theorem pnK57 : plainName "com/example/pctenc/pctenc/EscapeWritePinLaw" = true := by first | (simp [plainName, overriddenIn]; done) | decide +kernel
theorem efK57 (m : MethodId) (o : Addr) (sen : Int32) : entryFrame m #[(.ref o), (.int (7 : Int32)), (.int (5 : Int32)), (.int sen)] 4 = mkF m 0 #[.val (.ref o), .val (.int (7 : Int32)), .val (.int (5 : Int32)), .val (.int sen)] [] := by first | (simp [entryFrame, mkF, argsToLocals, Value.category]; done) | rfl
def QK57 (Z : State) (o : Addr) (sen : Int32) (h0 : Heap) (n0 : Nat) (v : Option Value) (h : Heap) (L : List Loc) : Prop := (v = some (.int (1 : Int32)) ∧ Fr n0 L ∧ h = h0)
set_option maxRecDepth 65536 in
set_option maxHeartbeats 40000000 in
theorem rmK57 (l : Launch) (Z : State) (a0 : Array Value) (hw : ∀ d ∈ tables_1, d.before a0 Z = true) (ws : List Jvm.Cond) (o : Addr) (sen : Int32) (h0 : Heap) (n0 : Nat) (Z0 : n0 ≤ h0.size) :
    MetFree l (⟨"com/example/pctenc/pctenc/EscapeWritePinLaw", "kept", "([CIIC)Z"⟩ : MethodName) (head1 (Jvm.Cond.code (⟨"com/example/pctenc/pctenc/EscapeWritePinLaw", "kept", "([CIIC)Z"⟩ : MethodName) method_3_code 4 (some .boolean) :: ws) ({ frames := 0, cells := 0, slots := 0, locals := 0 } : Room)) (fun aa_ U_ => aa_ = #[(.ref o), (.int (7 : Int32)), (.int (5 : Int32)), (.int sen)] ∧ Z.Warmed39 U_.vm ∧ U_.heap = h0) (fun _ _ _ _ _ => True) (fun _ U_ o_ V_ => ∃ v_ L_, o_ = .returned v_ ∧ QK57 Z o sen h0 n0 v_ V_.heap L_ ∧ FrameEnd U_ o_ V_ L_ ({ frames := 0, cells := 0, slots := 0, locals := 0 } : Room).cells ({ frames := 0, cells := 0, slots := 0, locals := 0 } : Room).slots) := by
  refine MetFree.of_bodySF (plainFor_of_name pnK57) hisR ?_
  intro p e s m args below meth c s₁ Bd hml0 hP hK
  obtain ⟨rfl, hZ, hh⟩ := hP
  have hx := Bd.exec
  have hby := Bd.bytes
  have hml : c.maxLocals = 4 := hml0
  have hown : s.vm.findClass "com/example/pctenc/pctenc/EscapeWritePinLaw" = some m.cls := findClass_of_methodNamed Bd.named
  have hnm := (name_of_methodNamed Bd.named Bd.method).1
  have hlk : meth.locks = false := BodyLoose.notSynchronized Bd
  have hret : meth.sig.returnType = (some .boolean) := Bd.returns
  have X0 : Stand p l e ({ frames := 0, cells := 0, slots := 0, locals := 0 } : Room) s m #[(.ref o), (.int (7 : Int32)), (.int (5 : Int32)), (.int sen)] below meth c s₁ [] 0 0 := Stand.of_body Bd
  have e0 : s₁.heap = h0 := by rw [← hh, Bd.state]; rfl
  have N0 := Fr.nil n0
  show Go p e below s ({ frames := 0, cells := 0, slots := 0, locals := 0 } : Room).cells ({ frames := 0, cells := 0, slots := 0, locals := 0 } : Room).slots (QK57 Z o sen h0 n0) (s₁.setTop (entryFrame m #[(.ref o), (.int (7 : Int32)), (.int (5 : Int32)), (.int sen)] 4))
  rw [efK57]
  refine Go.by (fun _ kont => XS.iloadN X0.here hx rfl (hb hby dK57_0) rfl (XS.iloadN X0.here hx rfl (hb hby dK57_1) rfl (XS.icmpNo X0.here hx rfl (hb hby dK57_2) rfl (by decide) (XS.iloadN X0.here hx rfl (hb hby dK57_5) rfl (XS.iloadN X0.here hx rfl (hb hby dK57_6) rfl (XS.iconst X0.here hx rfl (hb hby dK57_7) kont)))))) ?_
  show Go _ _ _ _ _ _ _ (s₁.setTop (mkF m 8 #[.val (.ref o), .val (.int (7 : Int32)), .val (.int (5 : Int32)), .val (.int sen)] [(.int (3 : Int32)), (.int (5 : Int32)), (.int (7 : Int32))]))
  refine Go.by (fun _ kont => XS.iadd X0.here hx rfl (hb hby dK57_8) rfl kont) ?_
  show Go _ _ _ _ _ _ _ (s₁.setTop (mkF m 9 #[.val (.ref o), .val (.int (7 : Int32)), .val (.int (5 : Int32)), .val (.int sen)] [(.int ((5 : Int32) + (3 : Int32))), (.int (7 : Int32))]))
  rw [show ((5 : Int32) + (3 : Int32)) = (8 : Int32) from by decide]
  show Go _ _ _ _ _ _ _ (s₁.setTop (mkF m 9 #[.val (.ref o), .val (.int (7 : Int32)), .val (.int (5 : Int32)), .val (.int sen)] [(.int (8 : Int32)), (.int (7 : Int32))]))
  refine Go.by (fun _ kont => XS.icmpNo X0.here hx rfl (hb hby dK57_9) rfl (by decide) (XS.iconst X0.here hx rfl (hb hby dK57_12) kont)) ?_
  show Go _ _ _ _ _ _ _ (s₁.setTop (mkF m 13 #[.val (.ref o), .val (.int (7 : Int32)), .val (.int (5 : Int32)), .val (.int sen)] [(.int (1 : Int32))]))
  refine Go.retN X0 hx (t := .boolean) hret (by simp) hlk (hb hby dK57_13) ?_ (by decide) (by decide)
  show QK57 Z o sen h0 n0 (some (.int (1 : Int32))) s₁.heap _
  rw [e0]
  exact ⟨rfl, N0, rfl⟩

theorem pd0_0 : parseMethodDescriptor "([CII)I" = some ⟨[(.array .char), .int, .int], some .int⟩ := by decide +kernel
theorem pd0_1 : parseMethodDescriptor "(I)C" = some ⟨[.int], some .char⟩ := by decide +kernel
theorem pd0_2 : parseMethodDescriptor "([CIIC)Z" = some ⟨[(.array .char), .int, .int, .char], some .boolean⟩ := by decide +kernel
theorem pn0 : plainName "com/example/pctenc/pctenc/EscapeWritePinLaw" = true := by first | (simp [plainName, overriddenIn]; done) | decide +kernel
theorem ef0 (m : MethodId) (a1 : Int32) (x1 : Int32) (s1 : Int32) : entryFrame m #[(.int a1), (.int x1), (.int s1)] maxLocals = mkF m 0 #[.val (.int a1), .val (.int x1), .val (.int s1), .unset, .unset, .unset, .unset, .unset] [] := by first | (simp [entryFrame, mkF, argsToLocals, Value.category, maxLocals]; done) | rfl
def Q0 (Z : State) (h0 : Heap) (n0 : Nat) (v : Option Value) (h : Heap) (L : List Loc) : Prop := v = some (.int 1) ∧ Fr n0 L
set_option maxRecDepth 65536 in
set_option maxHeartbeats 40000000 in
theorem rm0 (l : Launch) (Z : State) (a0 : Array Value) (hw : ∀ d ∈ tables_1, d.before a0 Z = true) (ws : List Jvm.Cond) (a1 : Int32) (x1 : Int32) (s1 : Int32) (s_UPPER_HEX : Addr) (kcx : ClassId) (h0 : Heap) (n0 : Nat) (Z0 : n0 ≤ h0.size) (Vh : HX Z h0 s_UPPER_HEX kcx) (Sh : Sta Z h0 "com/example/pctenc/pctenc/Escape" "UPPER_HEX" "[C" (.ref s_UPPER_HEX)) :
    MetFree l x (head1 (Jvm.Cond.code x code maxLocals ret :: ws) room_1) (fun aa_ U_ => aa_ = #[(.int a1), (.int x1), (.int s1)] ∧ Z.Warmed39 U_.vm ∧ U_.heap = h0) (fun _ _ _ _ _ => True) (fun _ U_ o_ V_ => ∃ v_ L_, o_ = .returned v_ ∧ Q0 Z h0 n0 v_ V_.heap L_ ∧ FrameEnd U_ o_ V_ L_ 16 128) := by
  refine MetFree.of_bodySF (plainFor_of_name pn0) hisR ?_
  intro p e s m args below meth c s₁ Bd hml0 hP hK
  obtain ⟨rfl, hZ, hh⟩ := hP
  have hx := Bd.exec
  have hby := Bd.bytes
  have hml : c.maxLocals = 8 := hml0
  have hown : s.vm.findClass "com/example/pctenc/pctenc/EscapeWritePinLaw" = some m.cls := findClass_of_methodNamed Bd.named
  have hnm := (name_of_methodNamed Bd.named Bd.method).1
  have hlk : meth.locks = false := BodyLoose.notSynchronized Bd
  have hret : meth.sig.returnType = (some .boolean) := Bd.returns
  have X0 : Stand p l e room_1 s m #[(.int a1), (.int x1), (.int s1)] below meth c s₁ [] 0 0 := Stand.of_body Bd
  have e0 : s₁.heap = h0 := by rw [← hh, Bd.state]; rfl
  have N0 := Fr.nil n0
  show Go p e below s 16 128 (Q0 Z h0 n0) (s₁.setTop (entryFrame m #[(.int a1), (.int x1), (.int s1)] maxLocals))
  rw [ef0]
  refine Go.by (fun _ kont => XS.iloadN X0.here hx rfl (hb hby at_0) rfl (XS.bipush X0.here hx rfl (hb hby at_1) (XS.iand X0.here hx rfl (hb hby at_3) rfl (XS.bipush X0.here hx rfl (hb hby at_4) (iremM X0 hx rfl (hb hby at_6) rfl (by decide) (XS.istoreN X0.here hx rfl (hb hby at_7) rfl (l' := #[.val (.int a1), .val (.int x1), .val (.int s1), .val (.int ((a1 &&& (7 : Int32)) % (6 : Int32))), .unset, .unset, .unset, .unset]) rfl kont)))))) ?_
  show Go _ _ _ _ _ _ _ (s₁.setTop (mkF m 8 #[.val (.int a1), .val (.int x1), .val (.int s1), .val (.int ((a1 &&& (7 : Int32)) % (6 : Int32))), .unset, .unset, .unset, .unset] []))
  refine Go.by (fun _ kont => XS.iloadN X0.here hx rfl (hb hby at_8) rfl (XS.sipush X0.here hx rfl (hb hby at_9) (XS.iand X0.here hx rfl (hb hby at_12) rfl (XS.istore X0.here hx rfl (hb hby at_13) rfl (l' := #[.val (.int a1), .val (.int x1), .val (.int s1), .val (.int ((a1 &&& (7 : Int32)) % (6 : Int32))), .val (.int (x1 &&& (255 : Int32))), .unset, .unset, .unset]) rfl (XS.iloadN X0.here hx rfl (hb hby at_15) rfl (X0.ldcInt hx hown (mvT hZ (hw _ (List.mem_of_getElem? (i := 0) rfl))) (g := (mkF m 16 #[.val (.int a1), .val (.int x1), .val (.int s1), .val (.int ((a1 &&& (7 : Int32)) % (6 : Int32))), .val (.int (x1 &&& (255 : Int32))), .unset, .unset, .unset] [(.int s1)])) rfl (hb hby at_16) _ kont)))))) ?_
  show Go _ _ _ _ _ _ _ (s₁.setTop (mkF m 18 #[.val (.int a1), .val (.int x1), .val (.int s1), .val (.int ((a1 &&& (7 : Int32)) % (6 : Int32))), .val (.int (x1 &&& (255 : Int32))), .unset, .unset, .unset] [(.int (65535 : Int32)), (.int s1)]))
  refine Go.by (fun _ kont => XS.iand X0.here hx rfl (hb hby at_18) rfl (XS.i2c X0.here hx rfl (hb hby at_19) rfl (XS.istore X0.here hx rfl (hb hby at_20) rfl (l' := #[.val (.int a1), .val (.int x1), .val (.int s1), .val (.int ((a1 &&& (7 : Int32)) % (6 : Int32))), .val (.int (x1 &&& (255 : Int32))), .val (.int ((s1 &&& (65535 : Int32)).toUInt32.toUInt16.toUInt32.toInt32)), .unset, .unset]) rfl kont))) ?_
  show Go _ _ _ _ _ _ _ (s₁.setTop (mkF m 22 #[.val (.int a1), .val (.int x1), .val (.int s1), .val (.int ((a1 &&& (7 : Int32)) % (6 : Int32))), .val (.int (x1 &&& (255 : Int32))), .val (.int ((s1 &&& (65535 : Int32)).toUInt32.toUInt16.toUInt32.toInt32)), .unset, .unset] []))
  have Bb := own_b x1
  generalize (x1 &&& (255 : Int32)) = bb at Bb ⊢
  have hsen := own_sen (s1 &&& (65535 : Int32))
  generalize ((s1 &&& (65535 : Int32)).toUInt32.toUInt16.toUInt32.toInt32) = sen at hsen ⊢
  show Go _ _ _ _ _ _ _ (s₁.setTop (mkF m 22 #[.val (.int a1), .val (.int x1), .val (.int s1), .val (.int ((a1 &&& (7 : Int32)) % (6 : Int32))), .val (.int bb), .val (.int sen), .unset, .unset] []))
  refine Go.by (fun _ kont => XS.bipush X0.here hx rfl (hb hby at_22) kont) ?_
  show Go _ _ _ _ _ _ _ (s₁.setTop (mkF m 24 #[.val (.int a1), .val (.int x1), .val (.int s1), .val (.int ((a1 &&& (7 : Int32)) % (6 : Int32))), .val (.int bb), .val (.int sen), .unset, .unset] [(.int (8 : Int32))]))
  obtain ⟨T101, h101, k101, X101, e101, X_101, A101, st101⟩ := newP X0 hx hZ (hw _ (List.mem_of_getElem? (i := 1) rfl)) e0 (g := (mkF m 24 #[.val (.int a1), .val (.int x1), .val (.int s1), .val (.int ((a1 &&& (7 : Int32)) % (6 : Int32))), .val (.int bb), .val (.int sen), .unset, .unset] [(.int (8 : Int32))])) rfl (hb hby at_24) rfl (by decide) (cap := 8) (by decide) (by decide) (by decide) (by decide)
  obtain ⟨b101, g101⟩ : ∃ z, z = h0.size := ⟨_, rfl⟩
  rw [← g101] at A101 st101
  have ne_s_UPPER_HEX_b101 : s_UPPER_HEX ≠ b101 := Nat.ne_of_lt (Nat.lt_of_lt_of_le Vh.lt (Nat.le_of_eq g101.symm))
  have ge_b101 : n0 ≤ b101 := Nat.le_trans Z0 (Nat.le_of_eq g101.symm)
  have sz_b101 : h0.size ≤ b101 := Nat.le_trans (Keep.refl h0 []).1 (Nat.le_of_eq g101.symm)
  have V102_s_UPPER_HEX := Vh.ext X_101
  have S102_UPPER_HEX := Sh.ext X_101
  have Z102 := Nat.le_trans Z0 X_101.1
  have K102 : Keep h0 h101 [] := (Keep.refl h0 []).ext X_101
  have V101 : Arv Z h101 b101 k101 .char (8 : Int32) [(.int (0 : Int32)), (.int (0 : Int32)), (.int (0 : Int32)), (.int (0 : Int32)), (.int (0 : Int32)), (.int (0 : Int32)), (.int (0 : Int32)), (.int (0 : Int32))] (.int (0 : Int32)) := (Arv.new A101 (by decide)).pad (pad_rep [] (.int (0 : Int32)) 8)
  refine Go.by st101 ?_
  show Go _ _ _ _ _ _ _ (T101.setTop (mkF m 26 #[.val (.int a1), .val (.int x1), .val (.int s1), .val (.int ((a1 &&& (7 : Int32)) % (6 : Int32))), .val (.int bb), .val (.int sen), .unset, .unset] [(.ref b101)]))
  refine Go.by (fun _ kont => XS.astore X101.here hx rfl (hb hby at_26) rfl rfl (l' := #[.val (.int a1), .val (.int x1), .val (.int s1), .val (.int ((a1 &&& (7 : Int32)) % (6 : Int32))), .val (.int bb), .val (.int sen), .val (.ref b101), .unset]) rfl (XS.aload X101.here hx rfl (hb hby at_28) rfl rfl (XS.iconst X101.here hx rfl (hb hby at_30) (XS.iload X101.here hx rfl (hb hby at_31) rfl kont)))) ?_
  show Go _ _ _ _ _ _ _ (T101.setTop (mkF m 33 #[.val (.int a1), .val (.int x1), .val (.int s1), .val (.int ((a1 &&& (7 : Int32)) % (6 : Int32))), .val (.int bb), .val (.int sen), .val (.ref b101), .unset] [(.int sen), (.int (0 : Int32)), (.ref b101)]))
  obtain ⟨cl_q103, Ar_q103, q1_q103, S_q103, N_q103, H_q103, G_q103⟩ := id V101
  have hin_q103 : ¬ ((0 : Int32) < 0 ∨ cl_q103.slots.size ≤ ((0 : Int32)).toNatClampNeg) := inb_of S_q103 ⟨by decide, by decide⟩
  obtain ⟨T104, h104, X104, e104, W104, st104⟩ := stC X101 hx hZ e101 Ar_q103 (j := (0 : Int32)) hin_q103 (g := (mkF m 33 #[.val (.int a1), .val (.int x1), .val (.int s1), .val (.int ((a1 &&& (7 : Int32)) % (6 : Int32))), .val (.int bb), .val (.int sen), .val (.ref b101), .unset] [(.int sen), (.int (0 : Int32)), (.ref b101)])) rfl rfl (hb hby at_33)
  have V104 : Arv Z h104 b101 k101 .char (8 : Int32) [(.int (nar .char sen)), (.int (0 : Int32)), (.int (0 : Int32)), (.int (0 : Int32)), (.int (0 : Int32)), (.int (0 : Int32)), (.int (0 : Int32)), (.int (0 : Int32))] (.int (0 : Int32)) := Arv.set Ar_q103 q1_q103 S_q103 N_q103 H_q103 G_q103 (fits_nar_char _) W104 0 rfl (Nat.le_of_ble_eq_true rfl)
  have V105_s_UPPER_HEX := V102_s_UPPER_HEX.other W104 ne_s_UPPER_HEX_b101
  have S105_UPPER_HEX := S102_UPPER_HEX.wr W104
  have Z105 := Nat.le_trans Z102 (Keep.of_wr W104).1
  have K105 : Keep h0 h104 [] := K102.wr W104 (Or.inr sz_b101)
  have N104 := Fr.snoc X104 N0 ge_b101
  refine Go.by st104 ?_
  show Go _ _ _ _ _ _ _ (T104.setTop (mkF m 34 #[.val (.int a1), .val (.int x1), .val (.int s1), .val (.int ((a1 &&& (7 : Int32)) % (6 : Int32))), .val (.int bb), .val (.int sen), .val (.ref b101), .unset] []))
  refine Go.by (fun _ kont => XS.aload X104.here hx rfl (hb hby at_34) rfl rfl (XS.iconst X104.here hx rfl (hb hby at_36) (XS.iload X104.here hx rfl (hb hby at_37) rfl kont))) ?_
  show Go _ _ _ _ _ _ _ (T104.setTop (mkF m 39 #[.val (.int a1), .val (.int x1), .val (.int s1), .val (.int ((a1 &&& (7 : Int32)) % (6 : Int32))), .val (.int bb), .val (.int sen), .val (.ref b101), .unset] [(.int sen), (.int (1 : Int32)), (.ref b101)]))
  obtain ⟨cl_q106, Ar_q106, q1_q106, S_q106, N_q106, H_q106, G_q106⟩ := id V104
  have hin_q106 : ¬ ((1 : Int32) < 0 ∨ cl_q106.slots.size ≤ ((1 : Int32)).toNatClampNeg) := inb_of S_q106 ⟨by decide, by decide⟩
  obtain ⟨T107, h107, X107, e107, W107, st107⟩ := stC X104 hx hZ e104 Ar_q106 (j := (1 : Int32)) hin_q106 (g := (mkF m 39 #[.val (.int a1), .val (.int x1), .val (.int s1), .val (.int ((a1 &&& (7 : Int32)) % (6 : Int32))), .val (.int bb), .val (.int sen), .val (.ref b101), .unset] [(.int sen), (.int (1 : Int32)), (.ref b101)])) rfl rfl (hb hby at_39)
  have V107 : Arv Z h107 b101 k101 .char (8 : Int32) [(.int (nar .char sen)), (.int (nar .char sen)), (.int (0 : Int32)), (.int (0 : Int32)), (.int (0 : Int32)), (.int (0 : Int32)), (.int (0 : Int32)), (.int (0 : Int32))] (.int (0 : Int32)) := Arv.set Ar_q106 q1_q106 S_q106 N_q106 H_q106 G_q106 (fits_nar_char _) W107 1 rfl (Nat.le_of_ble_eq_true rfl)
  have V108_s_UPPER_HEX := V105_s_UPPER_HEX.other W107 ne_s_UPPER_HEX_b101
  have S108_UPPER_HEX := S105_UPPER_HEX.wr W107
  have Z108 := Nat.le_trans Z105 (Keep.of_wr W107).1
  have K108 : Keep h0 h107 [] := K105.wr W107 (Or.inr sz_b101)
  have N107 := Fr.snoc X107 N104 ge_b101
  refine Go.by st107 ?_
  show Go _ _ _ _ _ _ _ (T107.setTop (mkF m 40 #[.val (.int a1), .val (.int x1), .val (.int s1), .val (.int ((a1 &&& (7 : Int32)) % (6 : Int32))), .val (.int bb), .val (.int sen), .val (.ref b101), .unset] []))
  refine Go.by (fun _ kont => XS.aload X107.here hx rfl (hb hby at_40) rfl rfl (XS.iconst X107.here hx rfl (hb hby at_42) (XS.iload X107.here hx rfl (hb hby at_43) rfl kont))) ?_
  show Go _ _ _ _ _ _ _ (T107.setTop (mkF m 45 #[.val (.int a1), .val (.int x1), .val (.int s1), .val (.int ((a1 &&& (7 : Int32)) % (6 : Int32))), .val (.int bb), .val (.int sen), .val (.ref b101), .unset] [(.int sen), (.int (2 : Int32)), (.ref b101)]))
  obtain ⟨cl_q109, Ar_q109, q1_q109, S_q109, N_q109, H_q109, G_q109⟩ := id V107
  have hin_q109 : ¬ ((2 : Int32) < 0 ∨ cl_q109.slots.size ≤ ((2 : Int32)).toNatClampNeg) := inb_of S_q109 ⟨by decide, by decide⟩
  obtain ⟨T110, h110, X110, e110, W110, st110⟩ := stC X107 hx hZ e107 Ar_q109 (j := (2 : Int32)) hin_q109 (g := (mkF m 45 #[.val (.int a1), .val (.int x1), .val (.int s1), .val (.int ((a1 &&& (7 : Int32)) % (6 : Int32))), .val (.int bb), .val (.int sen), .val (.ref b101), .unset] [(.int sen), (.int (2 : Int32)), (.ref b101)])) rfl rfl (hb hby at_45)
  have V110 : Arv Z h110 b101 k101 .char (8 : Int32) [(.int (nar .char sen)), (.int (nar .char sen)), (.int (nar .char sen)), (.int (0 : Int32)), (.int (0 : Int32)), (.int (0 : Int32)), (.int (0 : Int32)), (.int (0 : Int32))] (.int (0 : Int32)) := Arv.set Ar_q109 q1_q109 S_q109 N_q109 H_q109 G_q109 (fits_nar_char _) W110 2 rfl (Nat.le_of_ble_eq_true rfl)
  have V111_s_UPPER_HEX := V108_s_UPPER_HEX.other W110 ne_s_UPPER_HEX_b101
  have S111_UPPER_HEX := S108_UPPER_HEX.wr W110
  have Z111 := Nat.le_trans Z108 (Keep.of_wr W110).1
  have K111 : Keep h0 h110 [] := K108.wr W110 (Or.inr sz_b101)
  have N110 := Fr.snoc X110 N107 ge_b101
  refine Go.by st110 ?_
  show Go _ _ _ _ _ _ _ (T110.setTop (mkF m 46 #[.val (.int a1), .val (.int x1), .val (.int s1), .val (.int ((a1 &&& (7 : Int32)) % (6 : Int32))), .val (.int bb), .val (.int sen), .val (.ref b101), .unset] []))
  refine Go.by (fun _ kont => XS.aload X110.here hx rfl (hb hby at_46) rfl rfl (XS.iconst X110.here hx rfl (hb hby at_48) (XS.iload X110.here hx rfl (hb hby at_49) rfl kont))) ?_
  show Go _ _ _ _ _ _ _ (T110.setTop (mkF m 51 #[.val (.int a1), .val (.int x1), .val (.int s1), .val (.int ((a1 &&& (7 : Int32)) % (6 : Int32))), .val (.int bb), .val (.int sen), .val (.ref b101), .unset] [(.int sen), (.int (3 : Int32)), (.ref b101)]))
  obtain ⟨cl_q112, Ar_q112, q1_q112, S_q112, N_q112, H_q112, G_q112⟩ := id V110
  have hin_q112 : ¬ ((3 : Int32) < 0 ∨ cl_q112.slots.size ≤ ((3 : Int32)).toNatClampNeg) := inb_of S_q112 ⟨by decide, by decide⟩
  obtain ⟨T113, h113, X113, e113, W113, st113⟩ := stC X110 hx hZ e110 Ar_q112 (j := (3 : Int32)) hin_q112 (g := (mkF m 51 #[.val (.int a1), .val (.int x1), .val (.int s1), .val (.int ((a1 &&& (7 : Int32)) % (6 : Int32))), .val (.int bb), .val (.int sen), .val (.ref b101), .unset] [(.int sen), (.int (3 : Int32)), (.ref b101)])) rfl rfl (hb hby at_51)
  have V113 : Arv Z h113 b101 k101 .char (8 : Int32) [(.int (nar .char sen)), (.int (nar .char sen)), (.int (nar .char sen)), (.int (nar .char sen)), (.int (0 : Int32)), (.int (0 : Int32)), (.int (0 : Int32)), (.int (0 : Int32))] (.int (0 : Int32)) := Arv.set Ar_q112 q1_q112 S_q112 N_q112 H_q112 G_q112 (fits_nar_char _) W113 3 rfl (Nat.le_of_ble_eq_true rfl)
  have V114_s_UPPER_HEX := V111_s_UPPER_HEX.other W113 ne_s_UPPER_HEX_b101
  have S114_UPPER_HEX := S111_UPPER_HEX.wr W113
  have Z114 := Nat.le_trans Z111 (Keep.of_wr W113).1
  have K114 : Keep h0 h113 [] := K111.wr W113 (Or.inr sz_b101)
  have N113 := Fr.snoc X113 N110 ge_b101
  refine Go.by st113 ?_
  show Go _ _ _ _ _ _ _ (T113.setTop (mkF m 52 #[.val (.int a1), .val (.int x1), .val (.int s1), .val (.int ((a1 &&& (7 : Int32)) % (6 : Int32))), .val (.int bb), .val (.int sen), .val (.ref b101), .unset] []))
  refine Go.by (fun _ kont => XS.aload X113.here hx rfl (hb hby at_52) rfl rfl (XS.iconst X113.here hx rfl (hb hby at_54) (XS.iload X113.here hx rfl (hb hby at_55) rfl kont))) ?_
  show Go _ _ _ _ _ _ _ (T113.setTop (mkF m 57 #[.val (.int a1), .val (.int x1), .val (.int s1), .val (.int ((a1 &&& (7 : Int32)) % (6 : Int32))), .val (.int bb), .val (.int sen), .val (.ref b101), .unset] [(.int sen), (.int (4 : Int32)), (.ref b101)]))
  obtain ⟨cl_q115, Ar_q115, q1_q115, S_q115, N_q115, H_q115, G_q115⟩ := id V113
  have hin_q115 : ¬ ((4 : Int32) < 0 ∨ cl_q115.slots.size ≤ ((4 : Int32)).toNatClampNeg) := inb_of S_q115 ⟨by decide, by decide⟩
  obtain ⟨T116, h116, X116, e116, W116, st116⟩ := stC X113 hx hZ e113 Ar_q115 (j := (4 : Int32)) hin_q115 (g := (mkF m 57 #[.val (.int a1), .val (.int x1), .val (.int s1), .val (.int ((a1 &&& (7 : Int32)) % (6 : Int32))), .val (.int bb), .val (.int sen), .val (.ref b101), .unset] [(.int sen), (.int (4 : Int32)), (.ref b101)])) rfl rfl (hb hby at_57)
  have V116 : Arv Z h116 b101 k101 .char (8 : Int32) [(.int (nar .char sen)), (.int (nar .char sen)), (.int (nar .char sen)), (.int (nar .char sen)), (.int (nar .char sen)), (.int (0 : Int32)), (.int (0 : Int32)), (.int (0 : Int32))] (.int (0 : Int32)) := Arv.set Ar_q115 q1_q115 S_q115 N_q115 H_q115 G_q115 (fits_nar_char _) W116 4 rfl (Nat.le_of_ble_eq_true rfl)
  have V117_s_UPPER_HEX := V114_s_UPPER_HEX.other W116 ne_s_UPPER_HEX_b101
  have S117_UPPER_HEX := S114_UPPER_HEX.wr W116
  have Z117 := Nat.le_trans Z114 (Keep.of_wr W116).1
  have K117 : Keep h0 h116 [] := K114.wr W116 (Or.inr sz_b101)
  have N116 := Fr.snoc X116 N113 ge_b101
  refine Go.by st116 ?_
  show Go _ _ _ _ _ _ _ (T116.setTop (mkF m 58 #[.val (.int a1), .val (.int x1), .val (.int s1), .val (.int ((a1 &&& (7 : Int32)) % (6 : Int32))), .val (.int bb), .val (.int sen), .val (.ref b101), .unset] []))
  refine Go.by (fun _ kont => XS.aload X116.here hx rfl (hb hby at_58) rfl rfl (XS.iconst X116.here hx rfl (hb hby at_60) (XS.iload X116.here hx rfl (hb hby at_61) rfl kont))) ?_
  show Go _ _ _ _ _ _ _ (T116.setTop (mkF m 63 #[.val (.int a1), .val (.int x1), .val (.int s1), .val (.int ((a1 &&& (7 : Int32)) % (6 : Int32))), .val (.int bb), .val (.int sen), .val (.ref b101), .unset] [(.int sen), (.int (5 : Int32)), (.ref b101)]))
  obtain ⟨cl_q118, Ar_q118, q1_q118, S_q118, N_q118, H_q118, G_q118⟩ := id V116
  have hin_q118 : ¬ ((5 : Int32) < 0 ∨ cl_q118.slots.size ≤ ((5 : Int32)).toNatClampNeg) := inb_of S_q118 ⟨by decide, by decide⟩
  obtain ⟨T119, h119, X119, e119, W119, st119⟩ := stC X116 hx hZ e116 Ar_q118 (j := (5 : Int32)) hin_q118 (g := (mkF m 63 #[.val (.int a1), .val (.int x1), .val (.int s1), .val (.int ((a1 &&& (7 : Int32)) % (6 : Int32))), .val (.int bb), .val (.int sen), .val (.ref b101), .unset] [(.int sen), (.int (5 : Int32)), (.ref b101)])) rfl rfl (hb hby at_63)
  have V119 : Arv Z h119 b101 k101 .char (8 : Int32) [(.int (nar .char sen)), (.int (nar .char sen)), (.int (nar .char sen)), (.int (nar .char sen)), (.int (nar .char sen)), (.int (nar .char sen)), (.int (0 : Int32)), (.int (0 : Int32))] (.int (0 : Int32)) := Arv.set Ar_q118 q1_q118 S_q118 N_q118 H_q118 G_q118 (fits_nar_char _) W119 5 rfl (Nat.le_of_ble_eq_true rfl)
  have V120_s_UPPER_HEX := V117_s_UPPER_HEX.other W119 ne_s_UPPER_HEX_b101
  have S120_UPPER_HEX := S117_UPPER_HEX.wr W119
  have Z120 := Nat.le_trans Z117 (Keep.of_wr W119).1
  have K120 : Keep h0 h119 [] := K117.wr W119 (Or.inr sz_b101)
  have N119 := Fr.snoc X119 N116 ge_b101
  refine Go.by st119 ?_
  show Go _ _ _ _ _ _ _ (T119.setTop (mkF m 64 #[.val (.int a1), .val (.int x1), .val (.int s1), .val (.int ((a1 &&& (7 : Int32)) % (6 : Int32))), .val (.int bb), .val (.int sen), .val (.ref b101), .unset] []))
  refine Go.by (fun _ kont => XS.aload X119.here hx rfl (hb hby at_64) rfl rfl (XS.bipush X119.here hx rfl (hb hby at_66) (XS.iload X119.here hx rfl (hb hby at_68) rfl kont))) ?_
  show Go _ _ _ _ _ _ _ (T119.setTop (mkF m 70 #[.val (.int a1), .val (.int x1), .val (.int s1), .val (.int ((a1 &&& (7 : Int32)) % (6 : Int32))), .val (.int bb), .val (.int sen), .val (.ref b101), .unset] [(.int sen), (.int (6 : Int32)), (.ref b101)]))
  obtain ⟨cl_q121, Ar_q121, q1_q121, S_q121, N_q121, H_q121, G_q121⟩ := id V119
  have hin_q121 : ¬ ((6 : Int32) < 0 ∨ cl_q121.slots.size ≤ ((6 : Int32)).toNatClampNeg) := inb_of S_q121 ⟨by decide, by decide⟩
  obtain ⟨T122, h122, X122, e122, W122, st122⟩ := stC X119 hx hZ e119 Ar_q121 (j := (6 : Int32)) hin_q121 (g := (mkF m 70 #[.val (.int a1), .val (.int x1), .val (.int s1), .val (.int ((a1 &&& (7 : Int32)) % (6 : Int32))), .val (.int bb), .val (.int sen), .val (.ref b101), .unset] [(.int sen), (.int (6 : Int32)), (.ref b101)])) rfl rfl (hb hby at_70)
  have V122 : Arv Z h122 b101 k101 .char (8 : Int32) [(.int (nar .char sen)), (.int (nar .char sen)), (.int (nar .char sen)), (.int (nar .char sen)), (.int (nar .char sen)), (.int (nar .char sen)), (.int (nar .char sen)), (.int (0 : Int32))] (.int (0 : Int32)) := Arv.set Ar_q121 q1_q121 S_q121 N_q121 H_q121 G_q121 (fits_nar_char _) W122 6 rfl (Nat.le_of_ble_eq_true rfl)
  have V123_s_UPPER_HEX := V120_s_UPPER_HEX.other W122 ne_s_UPPER_HEX_b101
  have S123_UPPER_HEX := S120_UPPER_HEX.wr W122
  have Z123 := Nat.le_trans Z120 (Keep.of_wr W122).1
  have K123 : Keep h0 h122 [] := K120.wr W122 (Or.inr sz_b101)
  have N122 := Fr.snoc X122 N119 ge_b101
  refine Go.by st122 ?_
  show Go _ _ _ _ _ _ _ (T122.setTop (mkF m 71 #[.val (.int a1), .val (.int x1), .val (.int s1), .val (.int ((a1 &&& (7 : Int32)) % (6 : Int32))), .val (.int bb), .val (.int sen), .val (.ref b101), .unset] []))
  refine Go.by (fun _ kont => XS.aload X122.here hx rfl (hb hby at_71) rfl rfl (XS.bipush X122.here hx rfl (hb hby at_73) (XS.iload X122.here hx rfl (hb hby at_75) rfl kont))) ?_
  show Go _ _ _ _ _ _ _ (T122.setTop (mkF m 77 #[.val (.int a1), .val (.int x1), .val (.int s1), .val (.int ((a1 &&& (7 : Int32)) % (6 : Int32))), .val (.int bb), .val (.int sen), .val (.ref b101), .unset] [(.int sen), (.int (7 : Int32)), (.ref b101)]))
  obtain ⟨cl_q124, Ar_q124, q1_q124, S_q124, N_q124, H_q124, G_q124⟩ := id V122
  have hin_q124 : ¬ ((7 : Int32) < 0 ∨ cl_q124.slots.size ≤ ((7 : Int32)).toNatClampNeg) := inb_of S_q124 ⟨by decide, by decide⟩
  obtain ⟨T125, h125, X125, e125, W125, st125⟩ := stC X122 hx hZ e122 Ar_q124 (j := (7 : Int32)) hin_q124 (g := (mkF m 77 #[.val (.int a1), .val (.int x1), .val (.int s1), .val (.int ((a1 &&& (7 : Int32)) % (6 : Int32))), .val (.int bb), .val (.int sen), .val (.ref b101), .unset] [(.int sen), (.int (7 : Int32)), (.ref b101)])) rfl rfl (hb hby at_77)
  have V125 : Arv Z h125 b101 k101 .char (8 : Int32) [(.int (nar .char sen)), (.int (nar .char sen)), (.int (nar .char sen)), (.int (nar .char sen)), (.int (nar .char sen)), (.int (nar .char sen)), (.int (nar .char sen)), (.int (nar .char sen))] (.int (0 : Int32)) := Arv.set Ar_q124 q1_q124 S_q124 N_q124 H_q124 G_q124 (fits_nar_char _) W125 7 rfl (Nat.le_of_ble_eq_true rfl)
  have V126_s_UPPER_HEX := V123_s_UPPER_HEX.other W125 ne_s_UPPER_HEX_b101
  have S126_UPPER_HEX := S123_UPPER_HEX.wr W125
  have Z126 := Nat.le_trans Z123 (Keep.of_wr W125).1
  have K126 : Keep h0 h125 [] := K123.wr W125 (Or.inr sz_b101)
  have N125 := Fr.snoc X125 N122 ge_b101
  refine Go.by st125 ?_
  show Go _ _ _ _ _ _ _ (T125.setTop (mkF m 78 #[.val (.int a1), .val (.int x1), .val (.int s1), .val (.int ((a1 &&& (7 : Int32)) % (6 : Int32))), .val (.int bb), .val (.int sen), .val (.ref b101), .unset] []))
  have C_at_ := own_e6 a1
  generalize hg_at_ : ((a1 &&& (7 : Int32)) % (6 : Int32)) = at_ at C_at_ ⊢
  rcases C_at_ with rfl | rfl | rfl | rfl | rfl | rfl
  · show Go _ _ _ _ _ _ _ (T125.setTop (mkF m 78 #[.val (.int a1), .val (.int x1), .val (.int s1), .val (.int (0 : Int32)), .val (.int bb), .val (.int sen), .val (.ref b101), .unset] []))
    refine Go.by (fun _ kont => XS.aload X125.here hx rfl (hb hby at_78) rfl rfl (XS.iloadN X125.here hx rfl (hb hby at_80) rfl (XS.iload X125.here hx rfl (hb hby at_81) rfl kont))) ?_
    show Go _ _ _ _ _ _ _ (T125.setTop (mkF m 83 #[.val (.int a1), .val (.int x1), .val (.int s1), .val (.int (0 : Int32)), .val (.int bb), .val (.int sen), .val (.ref b101), .unset] [(.int bb), (.int (0 : Int32)), (.ref b101)]))
    obtain ⟨_, _, ⟨T127, L127, k127, n127⟩, -, X127, ⟨Lc127, hQ127, l127, y127, z127⟩, st127⟩ := Jvm.LawKit.callS X125 hx (y := (⟨"com/example/pctenc/pctenc/Escape", "write", "([CII)I"⟩ : MethodName)) hown (mvT hZ (hw _ (List.mem_of_getElem? (i := 2) rfl))) (mvT hZ (hw _ (List.mem_of_getElem? (i := 3) rfl))) (mvT hZ (hw _ (List.mem_of_getElem? (i := 4) rfl))) (mvT hZ (hw _ (List.mem_of_getElem? (i := 5) rfl))) (by decide) (backOf (W := 0) (rmW0 l Z a0 hw [] b101 bb k101 s_UPPER_HEX kcx (nar .char sen) (nar .char sen) (nar .char sen) (nar .char sen) (nar .char sen) (nar .char sen) (nar .char sen) (nar .char sen) h125 n0 Z126 V125 V126_s_UPPER_HEX S126_UPPER_HEX ne_s_UPPER_HEX_b101 ge_b101 Bb) hZ (hw _ (List.mem_of_getElem? (i := 5) rfl)) (hw _ (List.mem_of_getElem? (i := 4) rfl)) (by decide) (by decide)) (g := (mkF m 83 #[.val (.int a1), .val (.int x1), .val (.int s1), .val (.int (0 : Int32)), .val (.int bb), .val (.int sen), .val (.ref b101), .unset] [(.int bb), (.int (0 : Int32)), (.ref b101)])) rfl (by rw [hml]; rfl) (argsL := [(.ref b101), (.int (0 : Int32)), (.int bb)]) (rest := []) (lenOf pd0_0 rfl) rfl (by show 2 * 0 + _ ≤ _; exact Nat.le_of_eq rfl) (hb hby at_83) (fun _ _ => ⟨rfl, e125, (by decide : 1 + 0 ≤ _), (by decide : 8 + 0 ≤ _)⟩)
    dsimp only [Pt.U, Pt.locs, Pt.cells, Pt.slots] at X127 l127 y127 z127 st127 hQ127
    subst l127 y127 z127
    obtain ⟨rfl, N127q, K127, V127z⟩ := hQ127
    have V128_s_UPPER_HEX := V126_s_UPPER_HEX.keep K127 (ninS ne_s_UPPER_HEX_b101 nin0)
    have Z128 := Nat.le_trans Z126 K127.1
    have K128 : Keep h0 T127.heap [] := Keep.trans K126 K127 (allS (Or.inr sz_b101) all0)
    have N127 := Fr.app N125 N127q
    refine Go.by st127 ?_
    show Go _ _ _ _ _ _ _ (T127.setTop (mkF m 86 #[.val (.int a1), .val (.int x1), .val (.int s1), .val (.int (0 : Int32)), .val (.int bb), .val (.int sen), .val (.ref b101), .unset] [(.int (3 : Int32))]))
    refine Go.by (fun _ kont => XS.istore X127.here hx rfl (hb hby at_86) rfl (l' := #[.val (.int a1), .val (.int x1), .val (.int s1), .val (.int (0 : Int32)), .val (.int bb), .val (.int sen), .val (.ref b101), .val (.int (3 : Int32))]) rfl (XS.iload X127.here hx rfl (hb hby at_88) rfl (XS.iloadN X127.here hx rfl (hb hby at_90) rfl (XS.iconst X127.here hx rfl (hb hby at_91) (XS.iadd X127.here hx rfl (hb hby at_92) rfl kont))))) ?_
    show Go _ _ _ _ _ _ _ (T127.setTop (mkF m 93 #[.val (.int a1), .val (.int x1), .val (.int s1), .val (.int (0 : Int32)), .val (.int bb), .val (.int sen), .val (.ref b101), .val (.int (3 : Int32))] [(.int ((0 : Int32) + (3 : Int32))), (.int (3 : Int32))]))
    rw [show ((0 : Int32) + (3 : Int32)) = (3 : Int32) from by decide]
    show Go _ _ _ _ _ _ _ (T127.setTop (mkF m 93 #[.val (.int a1), .val (.int x1), .val (.int s1), .val (.int (0 : Int32)), .val (.int bb), .val (.int sen), .val (.ref b101), .val (.int (3 : Int32))] [(.int (3 : Int32)), (.int (3 : Int32))]))
    refine Go.by (fun _ kont => XS.icmpYes X127.here hx rfl (pc0 := 93) (pc' := 98) rfl (hb hby at_93) rfl (by decide) (by decide) (by decide) (XS.aload X127.here hx rfl (hb hby at_98) rfl rfl (XS.iloadN X127.here hx rfl (hb hby at_100) rfl kont))) ?_
    show Go _ _ _ _ _ _ _ (T127.setTop (mkF m 101 #[.val (.int a1), .val (.int x1), .val (.int s1), .val (.int (0 : Int32)), .val (.int bb), .val (.int sen), .val (.ref b101), .val (.int (3 : Int32))] [(.int (0 : Int32)), (.ref b101)]))
    obtain ⟨cl_q129, Ar_q129, q1_q129, S_q129, N_q129, H_q129, G_q129⟩ := id V127z
    have hin_q129 : ¬ ((0 : Int32) < 0 ∨ cl_q129.slots.size ≤ ((0 : Int32)).toNatClampNeg) := inb_of S_q129 ⟨by decide, by decide⟩
    have hat_q129 : cl_q129.slots[((0 : Int32)).toNatClampNeg]? = some (.int (nar .char (37 : Int32))) := Has.at H_q129 hin_q129 rfl
    refine Go.by (X127.caload hx (j := (0 : Int32)) (v := (.int (nar .char (37 : Int32)))) (by first | exact Ar_q129.1 | (rw [rfl]; exact Ar_q129.1)) (State.isArrayOf_alike hZ.alike Ar_q129.2.1) Ar_q129.2.2 hin_q129 hat_q129 (g := (mkF m 101 #[.val (.int a1), .val (.int x1), .val (.int s1), .val (.int (0 : Int32)), .val (.int bb), .val (.int sen), .val (.ref b101), .val (.int (3 : Int32))] [(.int (0 : Int32)), (.ref b101)])) rfl rfl (hb hby at_101)) ?_
    show Go _ _ _ _ _ _ _ (T127.setTop (mkF m 102 #[.val (.int a1), .val (.int x1), .val (.int s1), .val (.int (0 : Int32)), .val (.int bb), .val (.int sen), .val (.ref b101), .val (.int (3 : Int32))] [(.int (nar .char (37 : Int32)))]))
    refine Go.by (fun _ kont => XS.bipush X127.here hx rfl (hb hby at_102) kont) ?_
    show Go _ _ _ _ _ _ _ (T127.setTop (mkF m 104 #[.val (.int a1), .val (.int x1), .val (.int s1), .val (.int (0 : Int32)), .val (.int bb), .val (.int sen), .val (.ref b101), .val (.int (3 : Int32))] [(.int (37 : Int32)), (.int (nar .char (37 : Int32)))]))
    have hd130 : (nar .char (37 : Int32)) = (37 : Int32) := by decide
    refine Go.by (fun _ kont => XS.icmpYes X127.here hx rfl (pc0 := 104) (pc' := 109) rfl (hb hby at_104) rfl (teq hd130).1 (by decide) (by decide) kont) ?_
    show Go _ _ _ _ _ _ _ (T127.setTop (mkF m 109 #[.val (.int a1), .val (.int x1), .val (.int s1), .val (.int (0 : Int32)), .val (.int bb), .val (.int sen), .val (.ref b101), .val (.int (3 : Int32))] []))
    refine Go.by (fun _ kont => XS.aload X127.here hx rfl (hb hby at_109) rfl rfl (XS.iloadN X127.here hx rfl (hb hby at_111) rfl (XS.iconst X127.here hx rfl (hb hby at_112) (XS.iadd X127.here hx rfl (hb hby at_113) rfl kont)))) ?_
    show Go _ _ _ _ _ _ _ (T127.setTop (mkF m 114 #[.val (.int a1), .val (.int x1), .val (.int s1), .val (.int (0 : Int32)), .val (.int bb), .val (.int sen), .val (.ref b101), .val (.int (3 : Int32))] [(.int ((0 : Int32) + (1 : Int32))), (.ref b101)]))
    rw [show ((0 : Int32) + (1 : Int32)) = (1 : Int32) from by decide]
    show Go _ _ _ _ _ _ _ (T127.setTop (mkF m 114 #[.val (.int a1), .val (.int x1), .val (.int s1), .val (.int (0 : Int32)), .val (.int bb), .val (.int sen), .val (.ref b101), .val (.int (3 : Int32))] [(.int (1 : Int32)), (.ref b101)]))
    obtain ⟨cl_q131, Ar_q131, q1_q131, S_q131, N_q131, H_q131, G_q131⟩ := id V127z
    have hin_q131 : ¬ ((1 : Int32) < 0 ∨ cl_q131.slots.size ≤ ((1 : Int32)).toNatClampNeg) := inb_of S_q131 ⟨by decide, by decide⟩
    have hat_q131 : cl_q131.slots[((1 : Int32)).toNatClampNeg]? = some (.int (nar .char (own_hx ((bb.toUInt32 >>> ((4 : Int32) &&& 31).toUInt32).toInt32)))) := Has.at H_q131 hin_q131 rfl
    refine Go.by (X127.caload hx (j := (1 : Int32)) (v := (.int (nar .char (own_hx ((bb.toUInt32 >>> ((4 : Int32) &&& 31).toUInt32).toInt32))))) (by first | exact Ar_q131.1 | (rw [rfl]; exact Ar_q131.1)) (State.isArrayOf_alike hZ.alike Ar_q131.2.1) Ar_q131.2.2 hin_q131 hat_q131 (g := (mkF m 114 #[.val (.int a1), .val (.int x1), .val (.int s1), .val (.int (0 : Int32)), .val (.int bb), .val (.int sen), .val (.ref b101), .val (.int (3 : Int32))] [(.int (1 : Int32)), (.ref b101)])) rfl rfl (hb hby at_114)) ?_
    show Go _ _ _ _ _ _ _ (T127.setTop (mkF m 115 #[.val (.int a1), .val (.int x1), .val (.int s1), .val (.int (0 : Int32)), .val (.int bb), .val (.int sen), .val (.ref b101), .val (.int (3 : Int32))] [(.int (nar .char (own_hx ((bb.toUInt32 >>> ((4 : Int32) &&& 31).toUInt32).toInt32))))]))
    refine Go.by (fun _ kont => XS.iload X127.here hx rfl (hb hby at_115) rfl (XS.iconst X127.here hx rfl (hb hby at_117) (XS.ishr X127.here hx rfl (hb hby at_118) rfl kont))) ?_
    show Go _ _ _ _ _ _ _ (T127.setTop (mkF m 119 #[.val (.int a1), .val (.int x1), .val (.int s1), .val (.int (0 : Int32)), .val (.int bb), .val (.int sen), .val (.ref b101), .val (.int (3 : Int32))] [(.int (bb >>> ((4 : Int32) &&& 31))), (.int (nar .char (own_hx ((bb.toUInt32 >>> ((4 : Int32) &&& 31).toUInt32).toInt32))))]))
    obtain ⟨_, _, ⟨T132, L132, k132, n132⟩, -, X132, ⟨Lc132, hQ132, l132, y132, z132⟩, st132⟩ := Jvm.LawKit.callS X127 hx (y := (⟨"com/example/pctenc/pctenc/EscapeWritePinLaw", "hex", "(I)C"⟩ : MethodName)) hown (mvT hZ (hw _ (List.mem_of_getElem? (i := 8) rfl))) (mvT hZ (hw _ (List.mem_of_getElem? (i := 9) rfl))) (mvT hZ (hw _ (List.mem_of_getElem? (i := 10) rfl))) (mvT hZ (hw _ (List.mem_of_getElem? (i := 11) rfl))) (by decide) (backOf (W := 1) (rmHx l Z a0 hw [] (bb >>> ((4 : Int32) &&& 31)) T127.heap n0 Z128 ) hZ (hw _ (List.mem_of_getElem? (i := 11) rfl)) (hw _ (List.mem_of_getElem? (i := 10) rfl)) (by decide) (by decide)) (g := (mkF m 119 #[.val (.int a1), .val (.int x1), .val (.int s1), .val (.int (0 : Int32)), .val (.int bb), .val (.int sen), .val (.ref b101), .val (.int (3 : Int32))] [(.int (bb >>> ((4 : Int32) &&& 31))), (.int (nar .char (own_hx ((bb.toUInt32 >>> ((4 : Int32) &&& 31).toUInt32).toInt32))))])) rfl (by rw [hml]; rfl) (argsL := [(.int (bb >>> ((4 : Int32) &&& 31)))]) (rest := [(.int (nar .char (own_hx ((bb.toUInt32 >>> ((4 : Int32) &&& 31).toUInt32).toInt32))))]) (lenOf pd0_1 rfl) rfl (by show 2 * 0 + _ ≤ _; exact Nat.le_of_eq rfl) (hb hby at_119) (fun _ _ => ⟨rfl, rfl, (by decide : 1 + 0 ≤ _), (by decide : 8 + 0 ≤ _)⟩)
    dsimp only [Pt.U, Pt.locs, Pt.cells, Pt.slots] at X132 l132 y132 z132 st132 hQ132
    subst l132 y132 z132
    obtain ⟨rfl, N132q, eh132⟩ := hQ132
    have N132 := Fr.app N127 N132q
    refine Go.by st132 ?_
    show Go _ _ _ _ _ _ _ (T132.setTop (mkF m 122 #[.val (.int a1), .val (.int x1), .val (.int s1), .val (.int (0 : Int32)), .val (.int bb), .val (.int sen), .val (.ref b101), .val (.int (3 : Int32))] [(.int (fHx (bb >>> ((4 : Int32) &&& 31)))), (.int (nar .char (own_hx ((bb.toUInt32 >>> ((4 : Int32) &&& 31).toUInt32).toInt32))))]))
    have hd133 : (nar .char (own_hx ((bb.toUInt32 >>> ((4 : Int32) &&& 31).toUInt32).toInt32))) = (fHx (bb >>> ((4 : Int32) &&& 31))) := own_hi bb Bb
    refine Go.by (fun _ kont => XS.icmpYes X132.here hx rfl (pc0 := 122) (pc' := 127) rfl (hb hby at_122) rfl (teq hd133).1 (by decide) (by decide) kont) ?_
    show Go _ _ _ _ _ _ _ (T132.setTop (mkF m 127 #[.val (.int a1), .val (.int x1), .val (.int s1), .val (.int (0 : Int32)), .val (.int bb), .val (.int sen), .val (.ref b101), .val (.int (3 : Int32))] []))
    refine Go.by (fun _ kont => XS.aload X132.here hx rfl (hb hby at_127) rfl rfl (XS.iloadN X132.here hx rfl (hb hby at_129) rfl (XS.iconst X132.here hx rfl (hb hby at_130) (XS.iadd X132.here hx rfl (hb hby at_131) rfl kont)))) ?_
    show Go _ _ _ _ _ _ _ (T132.setTop (mkF m 132 #[.val (.int a1), .val (.int x1), .val (.int s1), .val (.int (0 : Int32)), .val (.int bb), .val (.int sen), .val (.ref b101), .val (.int (3 : Int32))] [(.int ((0 : Int32) + (2 : Int32))), (.ref b101)]))
    rw [show ((0 : Int32) + (2 : Int32)) = (2 : Int32) from by decide]
    show Go _ _ _ _ _ _ _ (T132.setTop (mkF m 132 #[.val (.int a1), .val (.int x1), .val (.int s1), .val (.int (0 : Int32)), .val (.int bb), .val (.int sen), .val (.ref b101), .val (.int (3 : Int32))] [(.int (2 : Int32)), (.ref b101)]))
    obtain ⟨cl_q134, Ar_q134, q1_q134, S_q134, N_q134, H_q134, G_q134⟩ := id V127z
    have hin_q134 : ¬ ((2 : Int32) < 0 ∨ cl_q134.slots.size ≤ ((2 : Int32)).toNatClampNeg) := inb_of S_q134 ⟨by decide, by decide⟩
    have hat_q134 : cl_q134.slots[((2 : Int32)).toNatClampNeg]? = some (.int (nar .char (own_hx (bb &&& (15 : Int32))))) := Has.at H_q134 hin_q134 rfl
    refine Go.by (X132.caload hx (j := (2 : Int32)) (v := (.int (nar .char (own_hx (bb &&& (15 : Int32)))))) (by first | exact Ar_q134.1 | (rw [eh132]; exact Ar_q134.1)) (State.isArrayOf_alike hZ.alike Ar_q134.2.1) Ar_q134.2.2 hin_q134 hat_q134 (g := (mkF m 132 #[.val (.int a1), .val (.int x1), .val (.int s1), .val (.int (0 : Int32)), .val (.int bb), .val (.int sen), .val (.ref b101), .val (.int (3 : Int32))] [(.int (2 : Int32)), (.ref b101)])) rfl rfl (hb hby at_132)) ?_
    show Go _ _ _ _ _ _ _ (T132.setTop (mkF m 133 #[.val (.int a1), .val (.int x1), .val (.int s1), .val (.int (0 : Int32)), .val (.int bb), .val (.int sen), .val (.ref b101), .val (.int (3 : Int32))] [(.int (nar .char (own_hx (bb &&& (15 : Int32)))))]))
    refine Go.by (fun _ kont => XS.iload X132.here hx rfl (hb hby at_133) rfl (XS.bipush X132.here hx rfl (hb hby at_135) (XS.iand X132.here hx rfl (hb hby at_137) rfl kont))) ?_
    show Go _ _ _ _ _ _ _ (T132.setTop (mkF m 138 #[.val (.int a1), .val (.int x1), .val (.int s1), .val (.int (0 : Int32)), .val (.int bb), .val (.int sen), .val (.ref b101), .val (.int (3 : Int32))] [(.int (bb &&& (15 : Int32))), (.int (nar .char (own_hx (bb &&& (15 : Int32)))))]))
    obtain ⟨_, _, ⟨T135, L135, k135, n135⟩, -, X135, ⟨Lc135, hQ135, l135, y135, z135⟩, st135⟩ := Jvm.LawKit.callS X132 hx (y := (⟨"com/example/pctenc/pctenc/EscapeWritePinLaw", "hex", "(I)C"⟩ : MethodName)) hown (mvT hZ (hw _ (List.mem_of_getElem? (i := 8) rfl))) (mvT hZ (hw _ (List.mem_of_getElem? (i := 9) rfl))) (mvT hZ (hw _ (List.mem_of_getElem? (i := 10) rfl))) (mvT hZ (hw _ (List.mem_of_getElem? (i := 11) rfl))) (by decide) (backOf (W := 1) (rmHx l Z a0 hw [] (bb &&& (15 : Int32)) T127.heap n0 Z128 ) hZ (hw _ (List.mem_of_getElem? (i := 11) rfl)) (hw _ (List.mem_of_getElem? (i := 10) rfl)) (by decide) (by decide)) (g := (mkF m 138 #[.val (.int a1), .val (.int x1), .val (.int s1), .val (.int (0 : Int32)), .val (.int bb), .val (.int sen), .val (.ref b101), .val (.int (3 : Int32))] [(.int (bb &&& (15 : Int32))), (.int (nar .char (own_hx (bb &&& (15 : Int32)))))])) rfl (by rw [hml]; rfl) (argsL := [(.int (bb &&& (15 : Int32)))]) (rest := [(.int (nar .char (own_hx (bb &&& (15 : Int32)))))]) (lenOf pd0_1 rfl) rfl (by show 2 * 0 + _ ≤ _; exact Nat.le_of_eq rfl) (hb hby at_138) (fun _ _ => ⟨rfl, eh132, (by decide : 1 + 0 ≤ _), (by decide : 8 + 0 ≤ _)⟩)
    dsimp only [Pt.U, Pt.locs, Pt.cells, Pt.slots] at X135 l135 y135 z135 st135 hQ135
    subst l135 y135 z135
    obtain ⟨rfl, N135q, eh135⟩ := hQ135
    have N135 := Fr.app N132 N135q
    refine Go.by st135 ?_
    show Go _ _ _ _ _ _ _ (T135.setTop (mkF m 141 #[.val (.int a1), .val (.int x1), .val (.int s1), .val (.int (0 : Int32)), .val (.int bb), .val (.int sen), .val (.ref b101), .val (.int (3 : Int32))] [(.int (fHx (bb &&& (15 : Int32)))), (.int (nar .char (own_hx (bb &&& (15 : Int32)))))]))
    have hd136 : (nar .char (own_hx (bb &&& (15 : Int32)))) = (fHx (bb &&& (15 : Int32))) := own_dig _ (own_loB bb)
    refine Go.by (fun _ kont => XS.icmpYes X135.here hx rfl (pc0 := 141) (pc' := 146) rfl (hb hby at_141) rfl (teq hd136).1 (by decide) (by decide) kont) ?_
    show Go _ _ _ _ _ _ _ (T135.setTop (mkF m 146 #[.val (.int a1), .val (.int x1), .val (.int s1), .val (.int (0 : Int32)), .val (.int bb), .val (.int sen), .val (.ref b101), .val (.int (3 : Int32))] []))
    refine Go.by (fun _ kont => XS.aload X135.here hx rfl (hb hby at_146) rfl rfl (XS.iconst X135.here hx rfl (hb hby at_148) (XS.iloadN X135.here hx rfl (hb hby at_149) rfl (XS.iload X135.here hx rfl (hb hby at_150) rfl kont)))) ?_
    show Go _ _ _ _ _ _ _ (T135.setTop (mkF m 152 #[.val (.int a1), .val (.int x1), .val (.int s1), .val (.int (0 : Int32)), .val (.int bb), .val (.int sen), .val (.ref b101), .val (.int (3 : Int32))] [(.int sen), (.int (0 : Int32)), (.int (0 : Int32)), (.ref b101)]))
    obtain ⟨_, _, ⟨T137, L137, k137, n137⟩, -, X137, ⟨Lc137, hQ137, l137, y137, z137⟩, st137⟩ := Jvm.LawKit.callS X135 hx (y := (⟨"com/example/pctenc/pctenc/EscapeWritePinLaw", "kept", "([CIIC)Z"⟩ : MethodName)) hown (mvT hZ (hw _ (List.mem_of_getElem? (i := 12) rfl))) (mvT hZ (hw _ (List.mem_of_getElem? (i := 13) rfl))) (mvT hZ (hw _ (List.mem_of_getElem? (i := 10) rfl))) (mvT hZ (hw _ (List.mem_of_getElem? (i := 14) rfl))) (by decide) (backOf (W := 0) (rmK00 l Z a0 hw [] b101 sen T127.heap n0 Z128 ) hZ (hw _ (List.mem_of_getElem? (i := 14) rfl)) (hw _ (List.mem_of_getElem? (i := 10) rfl)) (by decide) (by decide)) (g := (mkF m 152 #[.val (.int a1), .val (.int x1), .val (.int s1), .val (.int (0 : Int32)), .val (.int bb), .val (.int sen), .val (.ref b101), .val (.int (3 : Int32))] [(.int sen), (.int (0 : Int32)), (.int (0 : Int32)), (.ref b101)])) rfl (by rw [hml]; rfl) (argsL := [(.ref b101), (.int (0 : Int32)), (.int (0 : Int32)), (.int sen)]) (rest := []) (lenOf pd0_2 rfl) rfl (by show 2 * 0 + _ ≤ _; exact Nat.le_of_eq rfl) (hb hby at_152) (fun _ _ => ⟨rfl, eh135, (by decide : 1 + 0 ≤ _), (by decide : 8 + 0 ≤ _)⟩)
    dsimp only [Pt.U, Pt.locs, Pt.cells, Pt.slots] at X137 l137 y137 z137 st137 hQ137
    subst l137 y137 z137
    obtain ⟨rfl, N137q, eh137⟩ := hQ137
    have N137 := Fr.app N135 N137q
    refine Go.by st137 ?_
    show Go _ _ _ _ _ _ _ (T137.setTop (mkF m 155 #[.val (.int a1), .val (.int x1), .val (.int s1), .val (.int (0 : Int32)), .val (.int bb), .val (.int sen), .val (.ref b101), .val (.int (3 : Int32))] [(.int (1 : Int32))]))
    refine Go.by (fun _ kont => XS.ifNo X137.here hx rfl (hb hby at_155) rfl (by decide) (XS.aload X137.here hx rfl (hb hby at_158) rfl rfl (XS.iconst X137.here hx rfl (hb hby at_160) (XS.iloadN X137.here hx rfl (hb hby at_161) rfl (XS.iload X137.here hx rfl (hb hby at_162) rfl kont))))) ?_
    show Go _ _ _ _ _ _ _ (T137.setTop (mkF m 164 #[.val (.int a1), .val (.int x1), .val (.int s1), .val (.int (0 : Int32)), .val (.int bb), .val (.int sen), .val (.ref b101), .val (.int (3 : Int32))] [(.int sen), (.int (0 : Int32)), (.int (1 : Int32)), (.ref b101)]))
    obtain ⟨_, _, ⟨T138, L138, k138, n138⟩, -, X138, ⟨Lc138, hQ138, l138, y138, z138⟩, st138⟩ := Jvm.LawKit.callS X137 hx (y := (⟨"com/example/pctenc/pctenc/EscapeWritePinLaw", "kept", "([CIIC)Z"⟩ : MethodName)) hown (mvT hZ (hw _ (List.mem_of_getElem? (i := 12) rfl))) (mvT hZ (hw _ (List.mem_of_getElem? (i := 13) rfl))) (mvT hZ (hw _ (List.mem_of_getElem? (i := 10) rfl))) (mvT hZ (hw _ (List.mem_of_getElem? (i := 14) rfl))) (by decide) (backOf (W := 0) (rmK01 l Z a0 hw [] b101 sen T127.heap n0 Z128 ) hZ (hw _ (List.mem_of_getElem? (i := 14) rfl)) (hw _ (List.mem_of_getElem? (i := 10) rfl)) (by decide) (by decide)) (g := (mkF m 164 #[.val (.int a1), .val (.int x1), .val (.int s1), .val (.int (0 : Int32)), .val (.int bb), .val (.int sen), .val (.ref b101), .val (.int (3 : Int32))] [(.int sen), (.int (0 : Int32)), (.int (1 : Int32)), (.ref b101)])) rfl (by rw [hml]; rfl) (argsL := [(.ref b101), (.int (1 : Int32)), (.int (0 : Int32)), (.int sen)]) (rest := []) (lenOf pd0_2 rfl) rfl (by show 2 * 0 + _ ≤ _; exact Nat.le_of_eq rfl) (hb hby at_164) (fun _ _ => ⟨rfl, eh137, (by decide : 1 + 0 ≤ _), (by decide : 8 + 0 ≤ _)⟩)
    dsimp only [Pt.U, Pt.locs, Pt.cells, Pt.slots] at X138 l138 y138 z138 st138 hQ138
    subst l138 y138 z138
    obtain ⟨rfl, N138q, eh138⟩ := hQ138
    have N138 := Fr.app N137 N138q
    refine Go.by st138 ?_
    show Go _ _ _ _ _ _ _ (T138.setTop (mkF m 167 #[.val (.int a1), .val (.int x1), .val (.int s1), .val (.int (0 : Int32)), .val (.int bb), .val (.int sen), .val (.ref b101), .val (.int (3 : Int32))] [(.int (1 : Int32))]))
    refine Go.by (fun _ kont => XS.ifNo X138.here hx rfl (hb hby at_167) rfl (by decide) (XS.aload X138.here hx rfl (hb hby at_170) rfl rfl (XS.iconst X138.here hx rfl (hb hby at_172) (XS.iloadN X138.here hx rfl (hb hby at_173) rfl (XS.iload X138.here hx rfl (hb hby at_174) rfl kont))))) ?_
    show Go _ _ _ _ _ _ _ (T138.setTop (mkF m 176 #[.val (.int a1), .val (.int x1), .val (.int s1), .val (.int (0 : Int32)), .val (.int bb), .val (.int sen), .val (.ref b101), .val (.int (3 : Int32))] [(.int sen), (.int (0 : Int32)), (.int (2 : Int32)), (.ref b101)]))
    obtain ⟨_, _, ⟨T139, L139, k139, n139⟩, -, X139, ⟨Lc139, hQ139, l139, y139, z139⟩, st139⟩ := Jvm.LawKit.callS X138 hx (y := (⟨"com/example/pctenc/pctenc/EscapeWritePinLaw", "kept", "([CIIC)Z"⟩ : MethodName)) hown (mvT hZ (hw _ (List.mem_of_getElem? (i := 12) rfl))) (mvT hZ (hw _ (List.mem_of_getElem? (i := 13) rfl))) (mvT hZ (hw _ (List.mem_of_getElem? (i := 10) rfl))) (mvT hZ (hw _ (List.mem_of_getElem? (i := 14) rfl))) (by decide) (backOf (W := 0) (rmK02 l Z a0 hw [] b101 sen T127.heap n0 Z128 ) hZ (hw _ (List.mem_of_getElem? (i := 14) rfl)) (hw _ (List.mem_of_getElem? (i := 10) rfl)) (by decide) (by decide)) (g := (mkF m 176 #[.val (.int a1), .val (.int x1), .val (.int s1), .val (.int (0 : Int32)), .val (.int bb), .val (.int sen), .val (.ref b101), .val (.int (3 : Int32))] [(.int sen), (.int (0 : Int32)), (.int (2 : Int32)), (.ref b101)])) rfl (by rw [hml]; rfl) (argsL := [(.ref b101), (.int (2 : Int32)), (.int (0 : Int32)), (.int sen)]) (rest := []) (lenOf pd0_2 rfl) rfl (by show 2 * 0 + _ ≤ _; exact Nat.le_of_eq rfl) (hb hby at_176) (fun _ _ => ⟨rfl, eh138, (by decide : 1 + 0 ≤ _), (by decide : 8 + 0 ≤ _)⟩)
    dsimp only [Pt.U, Pt.locs, Pt.cells, Pt.slots] at X139 l139 y139 z139 st139 hQ139
    subst l139 y139 z139
    obtain ⟨rfl, N139q, eh139⟩ := hQ139
    have N139 := Fr.app N138 N139q
    refine Go.by st139 ?_
    show Go _ _ _ _ _ _ _ (T139.setTop (mkF m 179 #[.val (.int a1), .val (.int x1), .val (.int s1), .val (.int (0 : Int32)), .val (.int bb), .val (.int sen), .val (.ref b101), .val (.int (3 : Int32))] [(.int (1 : Int32))]))
    refine Go.by (fun _ kont => XS.ifNo X139.here hx rfl (hb hby at_179) rfl (by decide) (XS.aload X139.here hx rfl (hb hby at_182) rfl rfl (XS.iconst X139.here hx rfl (hb hby at_184) (XS.iloadN X139.here hx rfl (hb hby at_185) rfl (XS.iload X139.here hx rfl (hb hby at_186) rfl kont))))) ?_
    show Go _ _ _ _ _ _ _ (T139.setTop (mkF m 188 #[.val (.int a1), .val (.int x1), .val (.int s1), .val (.int (0 : Int32)), .val (.int bb), .val (.int sen), .val (.ref b101), .val (.int (3 : Int32))] [(.int sen), (.int (0 : Int32)), (.int (3 : Int32)), (.ref b101)]))
    obtain ⟨_, _, ⟨T140, L140, k140, n140⟩, -, X140, ⟨Lc140, hQ140, l140, y140, z140⟩, st140⟩ := Jvm.LawKit.callS X139 hx (y := (⟨"com/example/pctenc/pctenc/EscapeWritePinLaw", "kept", "([CIIC)Z"⟩ : MethodName)) hown (mvT hZ (hw _ (List.mem_of_getElem? (i := 12) rfl))) (mvT hZ (hw _ (List.mem_of_getElem? (i := 13) rfl))) (mvT hZ (hw _ (List.mem_of_getElem? (i := 10) rfl))) (mvT hZ (hw _ (List.mem_of_getElem? (i := 14) rfl))) (by decide) (backOf (W := 0) (rmK03 l Z a0 hw [] b101 sen k101 (nar .char (37 : Int32)) (nar .char (own_hx ((bb.toUInt32 >>> ((4 : Int32) &&& 31).toUInt32).toInt32))) (nar .char (own_hx (bb &&& (15 : Int32)))) (nar .char sen) (nar .char sen) (nar .char sen) (nar .char sen) T127.heap n0 Z128 V127z hsen) hZ (hw _ (List.mem_of_getElem? (i := 14) rfl)) (hw _ (List.mem_of_getElem? (i := 10) rfl)) (by decide) (by decide)) (g := (mkF m 188 #[.val (.int a1), .val (.int x1), .val (.int s1), .val (.int (0 : Int32)), .val (.int bb), .val (.int sen), .val (.ref b101), .val (.int (3 : Int32))] [(.int sen), (.int (0 : Int32)), (.int (3 : Int32)), (.ref b101)])) rfl (by rw [hml]; rfl) (argsL := [(.ref b101), (.int (3 : Int32)), (.int (0 : Int32)), (.int sen)]) (rest := []) (lenOf pd0_2 rfl) rfl (by show 2 * 0 + _ ≤ _; exact Nat.le_of_eq rfl) (hb hby at_188) (fun _ _ => ⟨rfl, eh139, (by decide : 1 + 0 ≤ _), (by decide : 8 + 0 ≤ _)⟩)
    dsimp only [Pt.U, Pt.locs, Pt.cells, Pt.slots] at X140 l140 y140 z140 st140 hQ140
    subst l140 y140 z140
    obtain ⟨rfl, N140q, eh140⟩ := hQ140
    have N140 := Fr.app N139 N140q
    refine Go.by st140 ?_
    show Go _ _ _ _ _ _ _ (T140.setTop (mkF m 191 #[.val (.int a1), .val (.int x1), .val (.int s1), .val (.int (0 : Int32)), .val (.int bb), .val (.int sen), .val (.ref b101), .val (.int (3 : Int32))] [(.int (1 : Int32))]))
    refine Go.by (fun _ kont => XS.ifNo X140.here hx rfl (hb hby at_191) rfl (by decide) (XS.aload X140.here hx rfl (hb hby at_194) rfl rfl (XS.iconst X140.here hx rfl (hb hby at_196) (XS.iloadN X140.here hx rfl (hb hby at_197) rfl (XS.iload X140.here hx rfl (hb hby at_198) rfl kont))))) ?_
    show Go _ _ _ _ _ _ _ (T140.setTop (mkF m 200 #[.val (.int a1), .val (.int x1), .val (.int s1), .val (.int (0 : Int32)), .val (.int bb), .val (.int sen), .val (.ref b101), .val (.int (3 : Int32))] [(.int sen), (.int (0 : Int32)), (.int (4 : Int32)), (.ref b101)]))
    obtain ⟨_, _, ⟨T141, L141, k141, n141⟩, -, X141, ⟨Lc141, hQ141, l141, y141, z141⟩, st141⟩ := Jvm.LawKit.callS X140 hx (y := (⟨"com/example/pctenc/pctenc/EscapeWritePinLaw", "kept", "([CIIC)Z"⟩ : MethodName)) hown (mvT hZ (hw _ (List.mem_of_getElem? (i := 12) rfl))) (mvT hZ (hw _ (List.mem_of_getElem? (i := 13) rfl))) (mvT hZ (hw _ (List.mem_of_getElem? (i := 10) rfl))) (mvT hZ (hw _ (List.mem_of_getElem? (i := 14) rfl))) (by decide) (backOf (W := 0) (rmK04 l Z a0 hw [] b101 sen k101 (nar .char (37 : Int32)) (nar .char (own_hx ((bb.toUInt32 >>> ((4 : Int32) &&& 31).toUInt32).toInt32))) (nar .char (own_hx (bb &&& (15 : Int32)))) (nar .char sen) (nar .char sen) (nar .char sen) (nar .char sen) T127.heap n0 Z128 V127z hsen) hZ (hw _ (List.mem_of_getElem? (i := 14) rfl)) (hw _ (List.mem_of_getElem? (i := 10) rfl)) (by decide) (by decide)) (g := (mkF m 200 #[.val (.int a1), .val (.int x1), .val (.int s1), .val (.int (0 : Int32)), .val (.int bb), .val (.int sen), .val (.ref b101), .val (.int (3 : Int32))] [(.int sen), (.int (0 : Int32)), (.int (4 : Int32)), (.ref b101)])) rfl (by rw [hml]; rfl) (argsL := [(.ref b101), (.int (4 : Int32)), (.int (0 : Int32)), (.int sen)]) (rest := []) (lenOf pd0_2 rfl) rfl (by show 2 * 0 + _ ≤ _; exact Nat.le_of_eq rfl) (hb hby at_200) (fun _ _ => ⟨rfl, eh140, (by decide : 1 + 0 ≤ _), (by decide : 8 + 0 ≤ _)⟩)
    dsimp only [Pt.U, Pt.locs, Pt.cells, Pt.slots] at X141 l141 y141 z141 st141 hQ141
    subst l141 y141 z141
    obtain ⟨rfl, N141q, eh141⟩ := hQ141
    have N141 := Fr.app N140 N141q
    refine Go.by st141 ?_
    show Go _ _ _ _ _ _ _ (T141.setTop (mkF m 203 #[.val (.int a1), .val (.int x1), .val (.int s1), .val (.int (0 : Int32)), .val (.int bb), .val (.int sen), .val (.ref b101), .val (.int (3 : Int32))] [(.int (1 : Int32))]))
    refine Go.by (fun _ kont => XS.ifNo X141.here hx rfl (hb hby at_203) rfl (by decide) (XS.aload X141.here hx rfl (hb hby at_206) rfl rfl (XS.iconst X141.here hx rfl (hb hby at_208) (XS.iloadN X141.here hx rfl (hb hby at_209) rfl (XS.iload X141.here hx rfl (hb hby at_210) rfl kont))))) ?_
    show Go _ _ _ _ _ _ _ (T141.setTop (mkF m 212 #[.val (.int a1), .val (.int x1), .val (.int s1), .val (.int (0 : Int32)), .val (.int bb), .val (.int sen), .val (.ref b101), .val (.int (3 : Int32))] [(.int sen), (.int (0 : Int32)), (.int (5 : Int32)), (.ref b101)]))
    obtain ⟨_, _, ⟨T142, L142, k142, n142⟩, -, X142, ⟨Lc142, hQ142, l142, y142, z142⟩, st142⟩ := Jvm.LawKit.callS X141 hx (y := (⟨"com/example/pctenc/pctenc/EscapeWritePinLaw", "kept", "([CIIC)Z"⟩ : MethodName)) hown (mvT hZ (hw _ (List.mem_of_getElem? (i := 12) rfl))) (mvT hZ (hw _ (List.mem_of_getElem? (i := 13) rfl))) (mvT hZ (hw _ (List.mem_of_getElem? (i := 10) rfl))) (mvT hZ (hw _ (List.mem_of_getElem? (i := 14) rfl))) (by decide) (backOf (W := 0) (rmK05 l Z a0 hw [] b101 sen k101 (nar .char (37 : Int32)) (nar .char (own_hx ((bb.toUInt32 >>> ((4 : Int32) &&& 31).toUInt32).toInt32))) (nar .char (own_hx (bb &&& (15 : Int32)))) (nar .char sen) (nar .char sen) (nar .char sen) (nar .char sen) T127.heap n0 Z128 V127z hsen) hZ (hw _ (List.mem_of_getElem? (i := 14) rfl)) (hw _ (List.mem_of_getElem? (i := 10) rfl)) (by decide) (by decide)) (g := (mkF m 212 #[.val (.int a1), .val (.int x1), .val (.int s1), .val (.int (0 : Int32)), .val (.int bb), .val (.int sen), .val (.ref b101), .val (.int (3 : Int32))] [(.int sen), (.int (0 : Int32)), (.int (5 : Int32)), (.ref b101)])) rfl (by rw [hml]; rfl) (argsL := [(.ref b101), (.int (5 : Int32)), (.int (0 : Int32)), (.int sen)]) (rest := []) (lenOf pd0_2 rfl) rfl (by show 2 * 0 + _ ≤ _; exact Nat.le_of_eq rfl) (hb hby at_212) (fun _ _ => ⟨rfl, eh141, (by decide : 1 + 0 ≤ _), (by decide : 8 + 0 ≤ _)⟩)
    dsimp only [Pt.U, Pt.locs, Pt.cells, Pt.slots] at X142 l142 y142 z142 st142 hQ142
    subst l142 y142 z142
    obtain ⟨rfl, N142q, eh142⟩ := hQ142
    have N142 := Fr.app N141 N142q
    refine Go.by st142 ?_
    show Go _ _ _ _ _ _ _ (T142.setTop (mkF m 215 #[.val (.int a1), .val (.int x1), .val (.int s1), .val (.int (0 : Int32)), .val (.int bb), .val (.int sen), .val (.ref b101), .val (.int (3 : Int32))] [(.int (1 : Int32))]))
    refine Go.by (fun _ kont => XS.ifNo X142.here hx rfl (hb hby at_215) rfl (by decide) (XS.aload X142.here hx rfl (hb hby at_218) rfl rfl (XS.bipush X142.here hx rfl (hb hby at_220) (XS.iloadN X142.here hx rfl (hb hby at_222) rfl (XS.iload X142.here hx rfl (hb hby at_223) rfl kont))))) ?_
    show Go _ _ _ _ _ _ _ (T142.setTop (mkF m 225 #[.val (.int a1), .val (.int x1), .val (.int s1), .val (.int (0 : Int32)), .val (.int bb), .val (.int sen), .val (.ref b101), .val (.int (3 : Int32))] [(.int sen), (.int (0 : Int32)), (.int (6 : Int32)), (.ref b101)]))
    obtain ⟨_, _, ⟨T143, L143, k143, n143⟩, -, X143, ⟨Lc143, hQ143, l143, y143, z143⟩, st143⟩ := Jvm.LawKit.callS X142 hx (y := (⟨"com/example/pctenc/pctenc/EscapeWritePinLaw", "kept", "([CIIC)Z"⟩ : MethodName)) hown (mvT hZ (hw _ (List.mem_of_getElem? (i := 12) rfl))) (mvT hZ (hw _ (List.mem_of_getElem? (i := 13) rfl))) (mvT hZ (hw _ (List.mem_of_getElem? (i := 10) rfl))) (mvT hZ (hw _ (List.mem_of_getElem? (i := 14) rfl))) (by decide) (backOf (W := 0) (rmK06 l Z a0 hw [] b101 sen k101 (nar .char (37 : Int32)) (nar .char (own_hx ((bb.toUInt32 >>> ((4 : Int32) &&& 31).toUInt32).toInt32))) (nar .char (own_hx (bb &&& (15 : Int32)))) (nar .char sen) (nar .char sen) (nar .char sen) (nar .char sen) T127.heap n0 Z128 V127z hsen) hZ (hw _ (List.mem_of_getElem? (i := 14) rfl)) (hw _ (List.mem_of_getElem? (i := 10) rfl)) (by decide) (by decide)) (g := (mkF m 225 #[.val (.int a1), .val (.int x1), .val (.int s1), .val (.int (0 : Int32)), .val (.int bb), .val (.int sen), .val (.ref b101), .val (.int (3 : Int32))] [(.int sen), (.int (0 : Int32)), (.int (6 : Int32)), (.ref b101)])) rfl (by rw [hml]; rfl) (argsL := [(.ref b101), (.int (6 : Int32)), (.int (0 : Int32)), (.int sen)]) (rest := []) (lenOf pd0_2 rfl) rfl (by show 2 * 0 + _ ≤ _; exact Nat.le_of_eq rfl) (hb hby at_225) (fun _ _ => ⟨rfl, eh142, (by decide : 1 + 0 ≤ _), (by decide : 8 + 0 ≤ _)⟩)
    dsimp only [Pt.U, Pt.locs, Pt.cells, Pt.slots] at X143 l143 y143 z143 st143 hQ143
    subst l143 y143 z143
    obtain ⟨rfl, N143q, eh143⟩ := hQ143
    have N143 := Fr.app N142 N143q
    refine Go.by st143 ?_
    show Go _ _ _ _ _ _ _ (T143.setTop (mkF m 228 #[.val (.int a1), .val (.int x1), .val (.int s1), .val (.int (0 : Int32)), .val (.int bb), .val (.int sen), .val (.ref b101), .val (.int (3 : Int32))] [(.int (1 : Int32))]))
    refine Go.by (fun _ kont => XS.ifNo X143.here hx rfl (hb hby at_228) rfl (by decide) (XS.aload X143.here hx rfl (hb hby at_231) rfl rfl (XS.bipush X143.here hx rfl (hb hby at_233) (XS.iloadN X143.here hx rfl (hb hby at_235) rfl (XS.iload X143.here hx rfl (hb hby at_236) rfl kont))))) ?_
    show Go _ _ _ _ _ _ _ (T143.setTop (mkF m 238 #[.val (.int a1), .val (.int x1), .val (.int s1), .val (.int (0 : Int32)), .val (.int bb), .val (.int sen), .val (.ref b101), .val (.int (3 : Int32))] [(.int sen), (.int (0 : Int32)), (.int (7 : Int32)), (.ref b101)]))
    obtain ⟨_, _, ⟨T144, L144, k144, n144⟩, -, X144, ⟨Lc144, hQ144, l144, y144, z144⟩, st144⟩ := Jvm.LawKit.callS X143 hx (y := (⟨"com/example/pctenc/pctenc/EscapeWritePinLaw", "kept", "([CIIC)Z"⟩ : MethodName)) hown (mvT hZ (hw _ (List.mem_of_getElem? (i := 12) rfl))) (mvT hZ (hw _ (List.mem_of_getElem? (i := 13) rfl))) (mvT hZ (hw _ (List.mem_of_getElem? (i := 10) rfl))) (mvT hZ (hw _ (List.mem_of_getElem? (i := 14) rfl))) (by decide) (backOf (W := 0) (rmK07 l Z a0 hw [] b101 sen k101 (nar .char (37 : Int32)) (nar .char (own_hx ((bb.toUInt32 >>> ((4 : Int32) &&& 31).toUInt32).toInt32))) (nar .char (own_hx (bb &&& (15 : Int32)))) (nar .char sen) (nar .char sen) (nar .char sen) (nar .char sen) T127.heap n0 Z128 V127z hsen) hZ (hw _ (List.mem_of_getElem? (i := 14) rfl)) (hw _ (List.mem_of_getElem? (i := 10) rfl)) (by decide) (by decide)) (g := (mkF m 238 #[.val (.int a1), .val (.int x1), .val (.int s1), .val (.int (0 : Int32)), .val (.int bb), .val (.int sen), .val (.ref b101), .val (.int (3 : Int32))] [(.int sen), (.int (0 : Int32)), (.int (7 : Int32)), (.ref b101)])) rfl (by rw [hml]; rfl) (argsL := [(.ref b101), (.int (7 : Int32)), (.int (0 : Int32)), (.int sen)]) (rest := []) (lenOf pd0_2 rfl) rfl (by show 2 * 0 + _ ≤ _; exact Nat.le_of_eq rfl) (hb hby at_238) (fun _ _ => ⟨rfl, eh143, (by decide : 1 + 0 ≤ _), (by decide : 8 + 0 ≤ _)⟩)
    dsimp only [Pt.U, Pt.locs, Pt.cells, Pt.slots] at X144 l144 y144 z144 st144 hQ144
    subst l144 y144 z144
    obtain ⟨rfl, N144q, eh144⟩ := hQ144
    have N144 := Fr.app N143 N144q
    refine Go.by st144 ?_
    show Go _ _ _ _ _ _ _ (T144.setTop (mkF m 241 #[.val (.int a1), .val (.int x1), .val (.int s1), .val (.int (0 : Int32)), .val (.int bb), .val (.int sen), .val (.ref b101), .val (.int (3 : Int32))] [(.int (1 : Int32))]))
    refine Go.by (fun _ kont => XS.ifNo X144.here hx rfl (hb hby at_241) rfl (by decide) (XS.iconst X144.here hx rfl (hb hby at_244) (XS.goto X144.here hx rfl (pc0 := 245) (pc' := 249) rfl (hb hby at_245) (by decide) (by decide) kont))) ?_
    show Go _ _ _ _ _ _ _ (T144.setTop (mkF m 249 #[.val (.int a1), .val (.int x1), .val (.int s1), .val (.int (0 : Int32)), .val (.int bb), .val (.int sen), .val (.ref b101), .val (.int (3 : Int32))] [(.int (1 : Int32))]))
    refine Go.retN X144 hx (t := .boolean) hret (by simp) hlk (hb hby at_249) ?_ (by decide) (by decide)
    show Q0 Z h0 n0 (some (.int (1 : Int32))) T144.heap _
    rw [eh144]
    exact ⟨rfl, N144⟩
  · show Go _ _ _ _ _ _ _ (T125.setTop (mkF m 78 #[.val (.int a1), .val (.int x1), .val (.int s1), .val (.int (1 : Int32)), .val (.int bb), .val (.int sen), .val (.ref b101), .unset] []))
    refine Go.by (fun _ kont => XS.aload X125.here hx rfl (hb hby at_78) rfl rfl (XS.iloadN X125.here hx rfl (hb hby at_80) rfl (XS.iload X125.here hx rfl (hb hby at_81) rfl kont))) ?_
    show Go _ _ _ _ _ _ _ (T125.setTop (mkF m 83 #[.val (.int a1), .val (.int x1), .val (.int s1), .val (.int (1 : Int32)), .val (.int bb), .val (.int sen), .val (.ref b101), .unset] [(.int bb), (.int (1 : Int32)), (.ref b101)]))
    obtain ⟨_, _, ⟨T145, L145, k145, n145⟩, -, X145, ⟨Lc145, hQ145, l145, y145, z145⟩, st145⟩ := Jvm.LawKit.callS X125 hx (y := (⟨"com/example/pctenc/pctenc/Escape", "write", "([CII)I"⟩ : MethodName)) hown (mvT hZ (hw _ (List.mem_of_getElem? (i := 2) rfl))) (mvT hZ (hw _ (List.mem_of_getElem? (i := 3) rfl))) (mvT hZ (hw _ (List.mem_of_getElem? (i := 4) rfl))) (mvT hZ (hw _ (List.mem_of_getElem? (i := 5) rfl))) (by decide) (backOf (W := 0) (rmW1 l Z a0 hw [] b101 bb k101 s_UPPER_HEX kcx (nar .char sen) (nar .char sen) (nar .char sen) (nar .char sen) (nar .char sen) (nar .char sen) (nar .char sen) (nar .char sen) h125 n0 Z126 V125 V126_s_UPPER_HEX S126_UPPER_HEX ne_s_UPPER_HEX_b101 ge_b101 Bb) hZ (hw _ (List.mem_of_getElem? (i := 5) rfl)) (hw _ (List.mem_of_getElem? (i := 4) rfl)) (by decide) (by decide)) (g := (mkF m 83 #[.val (.int a1), .val (.int x1), .val (.int s1), .val (.int (1 : Int32)), .val (.int bb), .val (.int sen), .val (.ref b101), .unset] [(.int bb), (.int (1 : Int32)), (.ref b101)])) rfl (by rw [hml]; rfl) (argsL := [(.ref b101), (.int (1 : Int32)), (.int bb)]) (rest := []) (lenOf pd0_0 rfl) rfl (by show 2 * 0 + _ ≤ _; exact Nat.le_of_eq rfl) (hb hby at_83) (fun _ _ => ⟨rfl, e125, (by decide : 1 + 0 ≤ _), (by decide : 8 + 0 ≤ _)⟩)
    dsimp only [Pt.U, Pt.locs, Pt.cells, Pt.slots] at X145 l145 y145 z145 st145 hQ145
    subst l145 y145 z145
    obtain ⟨rfl, N145q, K145, V145z⟩ := hQ145
    have V146_s_UPPER_HEX := V126_s_UPPER_HEX.keep K145 (ninS ne_s_UPPER_HEX_b101 nin0)
    have Z146 := Nat.le_trans Z126 K145.1
    have K146 : Keep h0 T145.heap [] := Keep.trans K126 K145 (allS (Or.inr sz_b101) all0)
    have N145 := Fr.app N125 N145q
    refine Go.by st145 ?_
    show Go _ _ _ _ _ _ _ (T145.setTop (mkF m 86 #[.val (.int a1), .val (.int x1), .val (.int s1), .val (.int (1 : Int32)), .val (.int bb), .val (.int sen), .val (.ref b101), .unset] [(.int (4 : Int32))]))
    refine Go.by (fun _ kont => XS.istore X145.here hx rfl (hb hby at_86) rfl (l' := #[.val (.int a1), .val (.int x1), .val (.int s1), .val (.int (1 : Int32)), .val (.int bb), .val (.int sen), .val (.ref b101), .val (.int (4 : Int32))]) rfl (XS.iload X145.here hx rfl (hb hby at_88) rfl (XS.iloadN X145.here hx rfl (hb hby at_90) rfl (XS.iconst X145.here hx rfl (hb hby at_91) (XS.iadd X145.here hx rfl (hb hby at_92) rfl kont))))) ?_
    show Go _ _ _ _ _ _ _ (T145.setTop (mkF m 93 #[.val (.int a1), .val (.int x1), .val (.int s1), .val (.int (1 : Int32)), .val (.int bb), .val (.int sen), .val (.ref b101), .val (.int (4 : Int32))] [(.int ((1 : Int32) + (3 : Int32))), (.int (4 : Int32))]))
    rw [show ((1 : Int32) + (3 : Int32)) = (4 : Int32) from by decide]
    show Go _ _ _ _ _ _ _ (T145.setTop (mkF m 93 #[.val (.int a1), .val (.int x1), .val (.int s1), .val (.int (1 : Int32)), .val (.int bb), .val (.int sen), .val (.ref b101), .val (.int (4 : Int32))] [(.int (4 : Int32)), (.int (4 : Int32))]))
    refine Go.by (fun _ kont => XS.icmpYes X145.here hx rfl (pc0 := 93) (pc' := 98) rfl (hb hby at_93) rfl (by decide) (by decide) (by decide) (XS.aload X145.here hx rfl (hb hby at_98) rfl rfl (XS.iloadN X145.here hx rfl (hb hby at_100) rfl kont))) ?_
    show Go _ _ _ _ _ _ _ (T145.setTop (mkF m 101 #[.val (.int a1), .val (.int x1), .val (.int s1), .val (.int (1 : Int32)), .val (.int bb), .val (.int sen), .val (.ref b101), .val (.int (4 : Int32))] [(.int (1 : Int32)), (.ref b101)]))
    obtain ⟨cl_q147, Ar_q147, q1_q147, S_q147, N_q147, H_q147, G_q147⟩ := id V145z
    have hin_q147 : ¬ ((1 : Int32) < 0 ∨ cl_q147.slots.size ≤ ((1 : Int32)).toNatClampNeg) := inb_of S_q147 ⟨by decide, by decide⟩
    have hat_q147 : cl_q147.slots[((1 : Int32)).toNatClampNeg]? = some (.int (nar .char (37 : Int32))) := Has.at H_q147 hin_q147 rfl
    refine Go.by (X145.caload hx (j := (1 : Int32)) (v := (.int (nar .char (37 : Int32)))) (by first | exact Ar_q147.1 | (rw [rfl]; exact Ar_q147.1)) (State.isArrayOf_alike hZ.alike Ar_q147.2.1) Ar_q147.2.2 hin_q147 hat_q147 (g := (mkF m 101 #[.val (.int a1), .val (.int x1), .val (.int s1), .val (.int (1 : Int32)), .val (.int bb), .val (.int sen), .val (.ref b101), .val (.int (4 : Int32))] [(.int (1 : Int32)), (.ref b101)])) rfl rfl (hb hby at_101)) ?_
    show Go _ _ _ _ _ _ _ (T145.setTop (mkF m 102 #[.val (.int a1), .val (.int x1), .val (.int s1), .val (.int (1 : Int32)), .val (.int bb), .val (.int sen), .val (.ref b101), .val (.int (4 : Int32))] [(.int (nar .char (37 : Int32)))]))
    refine Go.by (fun _ kont => XS.bipush X145.here hx rfl (hb hby at_102) kont) ?_
    show Go _ _ _ _ _ _ _ (T145.setTop (mkF m 104 #[.val (.int a1), .val (.int x1), .val (.int s1), .val (.int (1 : Int32)), .val (.int bb), .val (.int sen), .val (.ref b101), .val (.int (4 : Int32))] [(.int (37 : Int32)), (.int (nar .char (37 : Int32)))]))
    have hd148 : (nar .char (37 : Int32)) = (37 : Int32) := by decide
    refine Go.by (fun _ kont => XS.icmpYes X145.here hx rfl (pc0 := 104) (pc' := 109) rfl (hb hby at_104) rfl (teq hd148).1 (by decide) (by decide) kont) ?_
    show Go _ _ _ _ _ _ _ (T145.setTop (mkF m 109 #[.val (.int a1), .val (.int x1), .val (.int s1), .val (.int (1 : Int32)), .val (.int bb), .val (.int sen), .val (.ref b101), .val (.int (4 : Int32))] []))
    refine Go.by (fun _ kont => XS.aload X145.here hx rfl (hb hby at_109) rfl rfl (XS.iloadN X145.here hx rfl (hb hby at_111) rfl (XS.iconst X145.here hx rfl (hb hby at_112) (XS.iadd X145.here hx rfl (hb hby at_113) rfl kont)))) ?_
    show Go _ _ _ _ _ _ _ (T145.setTop (mkF m 114 #[.val (.int a1), .val (.int x1), .val (.int s1), .val (.int (1 : Int32)), .val (.int bb), .val (.int sen), .val (.ref b101), .val (.int (4 : Int32))] [(.int ((1 : Int32) + (1 : Int32))), (.ref b101)]))
    rw [show ((1 : Int32) + (1 : Int32)) = (2 : Int32) from by decide]
    show Go _ _ _ _ _ _ _ (T145.setTop (mkF m 114 #[.val (.int a1), .val (.int x1), .val (.int s1), .val (.int (1 : Int32)), .val (.int bb), .val (.int sen), .val (.ref b101), .val (.int (4 : Int32))] [(.int (2 : Int32)), (.ref b101)]))
    obtain ⟨cl_q149, Ar_q149, q1_q149, S_q149, N_q149, H_q149, G_q149⟩ := id V145z
    have hin_q149 : ¬ ((2 : Int32) < 0 ∨ cl_q149.slots.size ≤ ((2 : Int32)).toNatClampNeg) := inb_of S_q149 ⟨by decide, by decide⟩
    have hat_q149 : cl_q149.slots[((2 : Int32)).toNatClampNeg]? = some (.int (nar .char (own_hx ((bb.toUInt32 >>> ((4 : Int32) &&& 31).toUInt32).toInt32)))) := Has.at H_q149 hin_q149 rfl
    refine Go.by (X145.caload hx (j := (2 : Int32)) (v := (.int (nar .char (own_hx ((bb.toUInt32 >>> ((4 : Int32) &&& 31).toUInt32).toInt32))))) (by first | exact Ar_q149.1 | (rw [rfl]; exact Ar_q149.1)) (State.isArrayOf_alike hZ.alike Ar_q149.2.1) Ar_q149.2.2 hin_q149 hat_q149 (g := (mkF m 114 #[.val (.int a1), .val (.int x1), .val (.int s1), .val (.int (1 : Int32)), .val (.int bb), .val (.int sen), .val (.ref b101), .val (.int (4 : Int32))] [(.int (2 : Int32)), (.ref b101)])) rfl rfl (hb hby at_114)) ?_
    show Go _ _ _ _ _ _ _ (T145.setTop (mkF m 115 #[.val (.int a1), .val (.int x1), .val (.int s1), .val (.int (1 : Int32)), .val (.int bb), .val (.int sen), .val (.ref b101), .val (.int (4 : Int32))] [(.int (nar .char (own_hx ((bb.toUInt32 >>> ((4 : Int32) &&& 31).toUInt32).toInt32))))]))
    refine Go.by (fun _ kont => XS.iload X145.here hx rfl (hb hby at_115) rfl (XS.iconst X145.here hx rfl (hb hby at_117) (XS.ishr X145.here hx rfl (hb hby at_118) rfl kont))) ?_
    show Go _ _ _ _ _ _ _ (T145.setTop (mkF m 119 #[.val (.int a1), .val (.int x1), .val (.int s1), .val (.int (1 : Int32)), .val (.int bb), .val (.int sen), .val (.ref b101), .val (.int (4 : Int32))] [(.int (bb >>> ((4 : Int32) &&& 31))), (.int (nar .char (own_hx ((bb.toUInt32 >>> ((4 : Int32) &&& 31).toUInt32).toInt32))))]))
    obtain ⟨_, _, ⟨T150, L150, k150, n150⟩, -, X150, ⟨Lc150, hQ150, l150, y150, z150⟩, st150⟩ := Jvm.LawKit.callS X145 hx (y := (⟨"com/example/pctenc/pctenc/EscapeWritePinLaw", "hex", "(I)C"⟩ : MethodName)) hown (mvT hZ (hw _ (List.mem_of_getElem? (i := 8) rfl))) (mvT hZ (hw _ (List.mem_of_getElem? (i := 9) rfl))) (mvT hZ (hw _ (List.mem_of_getElem? (i := 10) rfl))) (mvT hZ (hw _ (List.mem_of_getElem? (i := 11) rfl))) (by decide) (backOf (W := 1) (rmHx l Z a0 hw [] (bb >>> ((4 : Int32) &&& 31)) T145.heap n0 Z146 ) hZ (hw _ (List.mem_of_getElem? (i := 11) rfl)) (hw _ (List.mem_of_getElem? (i := 10) rfl)) (by decide) (by decide)) (g := (mkF m 119 #[.val (.int a1), .val (.int x1), .val (.int s1), .val (.int (1 : Int32)), .val (.int bb), .val (.int sen), .val (.ref b101), .val (.int (4 : Int32))] [(.int (bb >>> ((4 : Int32) &&& 31))), (.int (nar .char (own_hx ((bb.toUInt32 >>> ((4 : Int32) &&& 31).toUInt32).toInt32))))])) rfl (by rw [hml]; rfl) (argsL := [(.int (bb >>> ((4 : Int32) &&& 31)))]) (rest := [(.int (nar .char (own_hx ((bb.toUInt32 >>> ((4 : Int32) &&& 31).toUInt32).toInt32))))]) (lenOf pd0_1 rfl) rfl (by show 2 * 0 + _ ≤ _; exact Nat.le_of_eq rfl) (hb hby at_119) (fun _ _ => ⟨rfl, rfl, (by decide : 1 + 0 ≤ _), (by decide : 8 + 0 ≤ _)⟩)
    dsimp only [Pt.U, Pt.locs, Pt.cells, Pt.slots] at X150 l150 y150 z150 st150 hQ150
    subst l150 y150 z150
    obtain ⟨rfl, N150q, eh150⟩ := hQ150
    have N150 := Fr.app N145 N150q
    refine Go.by st150 ?_
    show Go _ _ _ _ _ _ _ (T150.setTop (mkF m 122 #[.val (.int a1), .val (.int x1), .val (.int s1), .val (.int (1 : Int32)), .val (.int bb), .val (.int sen), .val (.ref b101), .val (.int (4 : Int32))] [(.int (fHx (bb >>> ((4 : Int32) &&& 31)))), (.int (nar .char (own_hx ((bb.toUInt32 >>> ((4 : Int32) &&& 31).toUInt32).toInt32))))]))
    have hd151 : (nar .char (own_hx ((bb.toUInt32 >>> ((4 : Int32) &&& 31).toUInt32).toInt32))) = (fHx (bb >>> ((4 : Int32) &&& 31))) := own_hi bb Bb
    refine Go.by (fun _ kont => XS.icmpYes X150.here hx rfl (pc0 := 122) (pc' := 127) rfl (hb hby at_122) rfl (teq hd151).1 (by decide) (by decide) kont) ?_
    show Go _ _ _ _ _ _ _ (T150.setTop (mkF m 127 #[.val (.int a1), .val (.int x1), .val (.int s1), .val (.int (1 : Int32)), .val (.int bb), .val (.int sen), .val (.ref b101), .val (.int (4 : Int32))] []))
    refine Go.by (fun _ kont => XS.aload X150.here hx rfl (hb hby at_127) rfl rfl (XS.iloadN X150.here hx rfl (hb hby at_129) rfl (XS.iconst X150.here hx rfl (hb hby at_130) (XS.iadd X150.here hx rfl (hb hby at_131) rfl kont)))) ?_
    show Go _ _ _ _ _ _ _ (T150.setTop (mkF m 132 #[.val (.int a1), .val (.int x1), .val (.int s1), .val (.int (1 : Int32)), .val (.int bb), .val (.int sen), .val (.ref b101), .val (.int (4 : Int32))] [(.int ((1 : Int32) + (2 : Int32))), (.ref b101)]))
    rw [show ((1 : Int32) + (2 : Int32)) = (3 : Int32) from by decide]
    show Go _ _ _ _ _ _ _ (T150.setTop (mkF m 132 #[.val (.int a1), .val (.int x1), .val (.int s1), .val (.int (1 : Int32)), .val (.int bb), .val (.int sen), .val (.ref b101), .val (.int (4 : Int32))] [(.int (3 : Int32)), (.ref b101)]))
    obtain ⟨cl_q152, Ar_q152, q1_q152, S_q152, N_q152, H_q152, G_q152⟩ := id V145z
    have hin_q152 : ¬ ((3 : Int32) < 0 ∨ cl_q152.slots.size ≤ ((3 : Int32)).toNatClampNeg) := inb_of S_q152 ⟨by decide, by decide⟩
    have hat_q152 : cl_q152.slots[((3 : Int32)).toNatClampNeg]? = some (.int (nar .char (own_hx (bb &&& (15 : Int32))))) := Has.at H_q152 hin_q152 rfl
    refine Go.by (X150.caload hx (j := (3 : Int32)) (v := (.int (nar .char (own_hx (bb &&& (15 : Int32)))))) (by first | exact Ar_q152.1 | (rw [eh150]; exact Ar_q152.1)) (State.isArrayOf_alike hZ.alike Ar_q152.2.1) Ar_q152.2.2 hin_q152 hat_q152 (g := (mkF m 132 #[.val (.int a1), .val (.int x1), .val (.int s1), .val (.int (1 : Int32)), .val (.int bb), .val (.int sen), .val (.ref b101), .val (.int (4 : Int32))] [(.int (3 : Int32)), (.ref b101)])) rfl rfl (hb hby at_132)) ?_
    show Go _ _ _ _ _ _ _ (T150.setTop (mkF m 133 #[.val (.int a1), .val (.int x1), .val (.int s1), .val (.int (1 : Int32)), .val (.int bb), .val (.int sen), .val (.ref b101), .val (.int (4 : Int32))] [(.int (nar .char (own_hx (bb &&& (15 : Int32)))))]))
    refine Go.by (fun _ kont => XS.iload X150.here hx rfl (hb hby at_133) rfl (XS.bipush X150.here hx rfl (hb hby at_135) (XS.iand X150.here hx rfl (hb hby at_137) rfl kont))) ?_
    show Go _ _ _ _ _ _ _ (T150.setTop (mkF m 138 #[.val (.int a1), .val (.int x1), .val (.int s1), .val (.int (1 : Int32)), .val (.int bb), .val (.int sen), .val (.ref b101), .val (.int (4 : Int32))] [(.int (bb &&& (15 : Int32))), (.int (nar .char (own_hx (bb &&& (15 : Int32)))))]))
    obtain ⟨_, _, ⟨T153, L153, k153, n153⟩, -, X153, ⟨Lc153, hQ153, l153, y153, z153⟩, st153⟩ := Jvm.LawKit.callS X150 hx (y := (⟨"com/example/pctenc/pctenc/EscapeWritePinLaw", "hex", "(I)C"⟩ : MethodName)) hown (mvT hZ (hw _ (List.mem_of_getElem? (i := 8) rfl))) (mvT hZ (hw _ (List.mem_of_getElem? (i := 9) rfl))) (mvT hZ (hw _ (List.mem_of_getElem? (i := 10) rfl))) (mvT hZ (hw _ (List.mem_of_getElem? (i := 11) rfl))) (by decide) (backOf (W := 1) (rmHx l Z a0 hw [] (bb &&& (15 : Int32)) T145.heap n0 Z146 ) hZ (hw _ (List.mem_of_getElem? (i := 11) rfl)) (hw _ (List.mem_of_getElem? (i := 10) rfl)) (by decide) (by decide)) (g := (mkF m 138 #[.val (.int a1), .val (.int x1), .val (.int s1), .val (.int (1 : Int32)), .val (.int bb), .val (.int sen), .val (.ref b101), .val (.int (4 : Int32))] [(.int (bb &&& (15 : Int32))), (.int (nar .char (own_hx (bb &&& (15 : Int32)))))])) rfl (by rw [hml]; rfl) (argsL := [(.int (bb &&& (15 : Int32)))]) (rest := [(.int (nar .char (own_hx (bb &&& (15 : Int32)))))]) (lenOf pd0_1 rfl) rfl (by show 2 * 0 + _ ≤ _; exact Nat.le_of_eq rfl) (hb hby at_138) (fun _ _ => ⟨rfl, eh150, (by decide : 1 + 0 ≤ _), (by decide : 8 + 0 ≤ _)⟩)
    dsimp only [Pt.U, Pt.locs, Pt.cells, Pt.slots] at X153 l153 y153 z153 st153 hQ153
    subst l153 y153 z153
    obtain ⟨rfl, N153q, eh153⟩ := hQ153
    have N153 := Fr.app N150 N153q
    refine Go.by st153 ?_
    show Go _ _ _ _ _ _ _ (T153.setTop (mkF m 141 #[.val (.int a1), .val (.int x1), .val (.int s1), .val (.int (1 : Int32)), .val (.int bb), .val (.int sen), .val (.ref b101), .val (.int (4 : Int32))] [(.int (fHx (bb &&& (15 : Int32)))), (.int (nar .char (own_hx (bb &&& (15 : Int32)))))]))
    have hd154 : (nar .char (own_hx (bb &&& (15 : Int32)))) = (fHx (bb &&& (15 : Int32))) := own_dig _ (own_loB bb)
    refine Go.by (fun _ kont => XS.icmpYes X153.here hx rfl (pc0 := 141) (pc' := 146) rfl (hb hby at_141) rfl (teq hd154).1 (by decide) (by decide) kont) ?_
    show Go _ _ _ _ _ _ _ (T153.setTop (mkF m 146 #[.val (.int a1), .val (.int x1), .val (.int s1), .val (.int (1 : Int32)), .val (.int bb), .val (.int sen), .val (.ref b101), .val (.int (4 : Int32))] []))
    refine Go.by (fun _ kont => XS.aload X153.here hx rfl (hb hby at_146) rfl rfl (XS.iconst X153.here hx rfl (hb hby at_148) (XS.iloadN X153.here hx rfl (hb hby at_149) rfl (XS.iload X153.here hx rfl (hb hby at_150) rfl kont)))) ?_
    show Go _ _ _ _ _ _ _ (T153.setTop (mkF m 152 #[.val (.int a1), .val (.int x1), .val (.int s1), .val (.int (1 : Int32)), .val (.int bb), .val (.int sen), .val (.ref b101), .val (.int (4 : Int32))] [(.int sen), (.int (1 : Int32)), (.int (0 : Int32)), (.ref b101)]))
    obtain ⟨_, _, ⟨T155, L155, k155, n155⟩, -, X155, ⟨Lc155, hQ155, l155, y155, z155⟩, st155⟩ := Jvm.LawKit.callS X153 hx (y := (⟨"com/example/pctenc/pctenc/EscapeWritePinLaw", "kept", "([CIIC)Z"⟩ : MethodName)) hown (mvT hZ (hw _ (List.mem_of_getElem? (i := 12) rfl))) (mvT hZ (hw _ (List.mem_of_getElem? (i := 13) rfl))) (mvT hZ (hw _ (List.mem_of_getElem? (i := 10) rfl))) (mvT hZ (hw _ (List.mem_of_getElem? (i := 14) rfl))) (by decide) (backOf (W := 0) (rmK10 l Z a0 hw [] b101 sen k101 (nar .char (37 : Int32)) (nar .char (own_hx ((bb.toUInt32 >>> ((4 : Int32) &&& 31).toUInt32).toInt32))) (nar .char (own_hx (bb &&& (15 : Int32)))) (nar .char sen) (nar .char sen) (nar .char sen) (nar .char sen) T145.heap n0 Z146 V145z hsen) hZ (hw _ (List.mem_of_getElem? (i := 14) rfl)) (hw _ (List.mem_of_getElem? (i := 10) rfl)) (by decide) (by decide)) (g := (mkF m 152 #[.val (.int a1), .val (.int x1), .val (.int s1), .val (.int (1 : Int32)), .val (.int bb), .val (.int sen), .val (.ref b101), .val (.int (4 : Int32))] [(.int sen), (.int (1 : Int32)), (.int (0 : Int32)), (.ref b101)])) rfl (by rw [hml]; rfl) (argsL := [(.ref b101), (.int (0 : Int32)), (.int (1 : Int32)), (.int sen)]) (rest := []) (lenOf pd0_2 rfl) rfl (by show 2 * 0 + _ ≤ _; exact Nat.le_of_eq rfl) (hb hby at_152) (fun _ _ => ⟨rfl, eh153, (by decide : 1 + 0 ≤ _), (by decide : 8 + 0 ≤ _)⟩)
    dsimp only [Pt.U, Pt.locs, Pt.cells, Pt.slots] at X155 l155 y155 z155 st155 hQ155
    subst l155 y155 z155
    obtain ⟨rfl, N155q, eh155⟩ := hQ155
    have N155 := Fr.app N153 N155q
    refine Go.by st155 ?_
    show Go _ _ _ _ _ _ _ (T155.setTop (mkF m 155 #[.val (.int a1), .val (.int x1), .val (.int s1), .val (.int (1 : Int32)), .val (.int bb), .val (.int sen), .val (.ref b101), .val (.int (4 : Int32))] [(.int (1 : Int32))]))
    refine Go.by (fun _ kont => XS.ifNo X155.here hx rfl (hb hby at_155) rfl (by decide) (XS.aload X155.here hx rfl (hb hby at_158) rfl rfl (XS.iconst X155.here hx rfl (hb hby at_160) (XS.iloadN X155.here hx rfl (hb hby at_161) rfl (XS.iload X155.here hx rfl (hb hby at_162) rfl kont))))) ?_
    show Go _ _ _ _ _ _ _ (T155.setTop (mkF m 164 #[.val (.int a1), .val (.int x1), .val (.int s1), .val (.int (1 : Int32)), .val (.int bb), .val (.int sen), .val (.ref b101), .val (.int (4 : Int32))] [(.int sen), (.int (1 : Int32)), (.int (1 : Int32)), (.ref b101)]))
    obtain ⟨_, _, ⟨T156, L156, k156, n156⟩, -, X156, ⟨Lc156, hQ156, l156, y156, z156⟩, st156⟩ := Jvm.LawKit.callS X155 hx (y := (⟨"com/example/pctenc/pctenc/EscapeWritePinLaw", "kept", "([CIIC)Z"⟩ : MethodName)) hown (mvT hZ (hw _ (List.mem_of_getElem? (i := 12) rfl))) (mvT hZ (hw _ (List.mem_of_getElem? (i := 13) rfl))) (mvT hZ (hw _ (List.mem_of_getElem? (i := 10) rfl))) (mvT hZ (hw _ (List.mem_of_getElem? (i := 14) rfl))) (by decide) (backOf (W := 0) (rmK11 l Z a0 hw [] b101 sen T145.heap n0 Z146 ) hZ (hw _ (List.mem_of_getElem? (i := 14) rfl)) (hw _ (List.mem_of_getElem? (i := 10) rfl)) (by decide) (by decide)) (g := (mkF m 164 #[.val (.int a1), .val (.int x1), .val (.int s1), .val (.int (1 : Int32)), .val (.int bb), .val (.int sen), .val (.ref b101), .val (.int (4 : Int32))] [(.int sen), (.int (1 : Int32)), (.int (1 : Int32)), (.ref b101)])) rfl (by rw [hml]; rfl) (argsL := [(.ref b101), (.int (1 : Int32)), (.int (1 : Int32)), (.int sen)]) (rest := []) (lenOf pd0_2 rfl) rfl (by show 2 * 0 + _ ≤ _; exact Nat.le_of_eq rfl) (hb hby at_164) (fun _ _ => ⟨rfl, eh155, (by decide : 1 + 0 ≤ _), (by decide : 8 + 0 ≤ _)⟩)
    dsimp only [Pt.U, Pt.locs, Pt.cells, Pt.slots] at X156 l156 y156 z156 st156 hQ156
    subst l156 y156 z156
    obtain ⟨rfl, N156q, eh156⟩ := hQ156
    have N156 := Fr.app N155 N156q
    refine Go.by st156 ?_
    show Go _ _ _ _ _ _ _ (T156.setTop (mkF m 167 #[.val (.int a1), .val (.int x1), .val (.int s1), .val (.int (1 : Int32)), .val (.int bb), .val (.int sen), .val (.ref b101), .val (.int (4 : Int32))] [(.int (1 : Int32))]))
    refine Go.by (fun _ kont => XS.ifNo X156.here hx rfl (hb hby at_167) rfl (by decide) (XS.aload X156.here hx rfl (hb hby at_170) rfl rfl (XS.iconst X156.here hx rfl (hb hby at_172) (XS.iloadN X156.here hx rfl (hb hby at_173) rfl (XS.iload X156.here hx rfl (hb hby at_174) rfl kont))))) ?_
    show Go _ _ _ _ _ _ _ (T156.setTop (mkF m 176 #[.val (.int a1), .val (.int x1), .val (.int s1), .val (.int (1 : Int32)), .val (.int bb), .val (.int sen), .val (.ref b101), .val (.int (4 : Int32))] [(.int sen), (.int (1 : Int32)), (.int (2 : Int32)), (.ref b101)]))
    obtain ⟨_, _, ⟨T157, L157, k157, n157⟩, -, X157, ⟨Lc157, hQ157, l157, y157, z157⟩, st157⟩ := Jvm.LawKit.callS X156 hx (y := (⟨"com/example/pctenc/pctenc/EscapeWritePinLaw", "kept", "([CIIC)Z"⟩ : MethodName)) hown (mvT hZ (hw _ (List.mem_of_getElem? (i := 12) rfl))) (mvT hZ (hw _ (List.mem_of_getElem? (i := 13) rfl))) (mvT hZ (hw _ (List.mem_of_getElem? (i := 10) rfl))) (mvT hZ (hw _ (List.mem_of_getElem? (i := 14) rfl))) (by decide) (backOf (W := 0) (rmK12 l Z a0 hw [] b101 sen T145.heap n0 Z146 ) hZ (hw _ (List.mem_of_getElem? (i := 14) rfl)) (hw _ (List.mem_of_getElem? (i := 10) rfl)) (by decide) (by decide)) (g := (mkF m 176 #[.val (.int a1), .val (.int x1), .val (.int s1), .val (.int (1 : Int32)), .val (.int bb), .val (.int sen), .val (.ref b101), .val (.int (4 : Int32))] [(.int sen), (.int (1 : Int32)), (.int (2 : Int32)), (.ref b101)])) rfl (by rw [hml]; rfl) (argsL := [(.ref b101), (.int (2 : Int32)), (.int (1 : Int32)), (.int sen)]) (rest := []) (lenOf pd0_2 rfl) rfl (by show 2 * 0 + _ ≤ _; exact Nat.le_of_eq rfl) (hb hby at_176) (fun _ _ => ⟨rfl, eh156, (by decide : 1 + 0 ≤ _), (by decide : 8 + 0 ≤ _)⟩)
    dsimp only [Pt.U, Pt.locs, Pt.cells, Pt.slots] at X157 l157 y157 z157 st157 hQ157
    subst l157 y157 z157
    obtain ⟨rfl, N157q, eh157⟩ := hQ157
    have N157 := Fr.app N156 N157q
    refine Go.by st157 ?_
    show Go _ _ _ _ _ _ _ (T157.setTop (mkF m 179 #[.val (.int a1), .val (.int x1), .val (.int s1), .val (.int (1 : Int32)), .val (.int bb), .val (.int sen), .val (.ref b101), .val (.int (4 : Int32))] [(.int (1 : Int32))]))
    refine Go.by (fun _ kont => XS.ifNo X157.here hx rfl (hb hby at_179) rfl (by decide) (XS.aload X157.here hx rfl (hb hby at_182) rfl rfl (XS.iconst X157.here hx rfl (hb hby at_184) (XS.iloadN X157.here hx rfl (hb hby at_185) rfl (XS.iload X157.here hx rfl (hb hby at_186) rfl kont))))) ?_
    show Go _ _ _ _ _ _ _ (T157.setTop (mkF m 188 #[.val (.int a1), .val (.int x1), .val (.int s1), .val (.int (1 : Int32)), .val (.int bb), .val (.int sen), .val (.ref b101), .val (.int (4 : Int32))] [(.int sen), (.int (1 : Int32)), (.int (3 : Int32)), (.ref b101)]))
    obtain ⟨_, _, ⟨T158, L158, k158, n158⟩, -, X158, ⟨Lc158, hQ158, l158, y158, z158⟩, st158⟩ := Jvm.LawKit.callS X157 hx (y := (⟨"com/example/pctenc/pctenc/EscapeWritePinLaw", "kept", "([CIIC)Z"⟩ : MethodName)) hown (mvT hZ (hw _ (List.mem_of_getElem? (i := 12) rfl))) (mvT hZ (hw _ (List.mem_of_getElem? (i := 13) rfl))) (mvT hZ (hw _ (List.mem_of_getElem? (i := 10) rfl))) (mvT hZ (hw _ (List.mem_of_getElem? (i := 14) rfl))) (by decide) (backOf (W := 0) (rmK13 l Z a0 hw [] b101 sen T145.heap n0 Z146 ) hZ (hw _ (List.mem_of_getElem? (i := 14) rfl)) (hw _ (List.mem_of_getElem? (i := 10) rfl)) (by decide) (by decide)) (g := (mkF m 188 #[.val (.int a1), .val (.int x1), .val (.int s1), .val (.int (1 : Int32)), .val (.int bb), .val (.int sen), .val (.ref b101), .val (.int (4 : Int32))] [(.int sen), (.int (1 : Int32)), (.int (3 : Int32)), (.ref b101)])) rfl (by rw [hml]; rfl) (argsL := [(.ref b101), (.int (3 : Int32)), (.int (1 : Int32)), (.int sen)]) (rest := []) (lenOf pd0_2 rfl) rfl (by show 2 * 0 + _ ≤ _; exact Nat.le_of_eq rfl) (hb hby at_188) (fun _ _ => ⟨rfl, eh157, (by decide : 1 + 0 ≤ _), (by decide : 8 + 0 ≤ _)⟩)
    dsimp only [Pt.U, Pt.locs, Pt.cells, Pt.slots] at X158 l158 y158 z158 st158 hQ158
    subst l158 y158 z158
    obtain ⟨rfl, N158q, eh158⟩ := hQ158
    have N158 := Fr.app N157 N158q
    refine Go.by st158 ?_
    show Go _ _ _ _ _ _ _ (T158.setTop (mkF m 191 #[.val (.int a1), .val (.int x1), .val (.int s1), .val (.int (1 : Int32)), .val (.int bb), .val (.int sen), .val (.ref b101), .val (.int (4 : Int32))] [(.int (1 : Int32))]))
    refine Go.by (fun _ kont => XS.ifNo X158.here hx rfl (hb hby at_191) rfl (by decide) (XS.aload X158.here hx rfl (hb hby at_194) rfl rfl (XS.iconst X158.here hx rfl (hb hby at_196) (XS.iloadN X158.here hx rfl (hb hby at_197) rfl (XS.iload X158.here hx rfl (hb hby at_198) rfl kont))))) ?_
    show Go _ _ _ _ _ _ _ (T158.setTop (mkF m 200 #[.val (.int a1), .val (.int x1), .val (.int s1), .val (.int (1 : Int32)), .val (.int bb), .val (.int sen), .val (.ref b101), .val (.int (4 : Int32))] [(.int sen), (.int (1 : Int32)), (.int (4 : Int32)), (.ref b101)]))
    obtain ⟨_, _, ⟨T159, L159, k159, n159⟩, -, X159, ⟨Lc159, hQ159, l159, y159, z159⟩, st159⟩ := Jvm.LawKit.callS X158 hx (y := (⟨"com/example/pctenc/pctenc/EscapeWritePinLaw", "kept", "([CIIC)Z"⟩ : MethodName)) hown (mvT hZ (hw _ (List.mem_of_getElem? (i := 12) rfl))) (mvT hZ (hw _ (List.mem_of_getElem? (i := 13) rfl))) (mvT hZ (hw _ (List.mem_of_getElem? (i := 10) rfl))) (mvT hZ (hw _ (List.mem_of_getElem? (i := 14) rfl))) (by decide) (backOf (W := 0) (rmK14 l Z a0 hw [] b101 sen k101 (nar .char sen) (nar .char (37 : Int32)) (nar .char (own_hx ((bb.toUInt32 >>> ((4 : Int32) &&& 31).toUInt32).toInt32))) (nar .char (own_hx (bb &&& (15 : Int32)))) (nar .char sen) (nar .char sen) (nar .char sen) T145.heap n0 Z146 V145z hsen) hZ (hw _ (List.mem_of_getElem? (i := 14) rfl)) (hw _ (List.mem_of_getElem? (i := 10) rfl)) (by decide) (by decide)) (g := (mkF m 200 #[.val (.int a1), .val (.int x1), .val (.int s1), .val (.int (1 : Int32)), .val (.int bb), .val (.int sen), .val (.ref b101), .val (.int (4 : Int32))] [(.int sen), (.int (1 : Int32)), (.int (4 : Int32)), (.ref b101)])) rfl (by rw [hml]; rfl) (argsL := [(.ref b101), (.int (4 : Int32)), (.int (1 : Int32)), (.int sen)]) (rest := []) (lenOf pd0_2 rfl) rfl (by show 2 * 0 + _ ≤ _; exact Nat.le_of_eq rfl) (hb hby at_200) (fun _ _ => ⟨rfl, eh158, (by decide : 1 + 0 ≤ _), (by decide : 8 + 0 ≤ _)⟩)
    dsimp only [Pt.U, Pt.locs, Pt.cells, Pt.slots] at X159 l159 y159 z159 st159 hQ159
    subst l159 y159 z159
    obtain ⟨rfl, N159q, eh159⟩ := hQ159
    have N159 := Fr.app N158 N159q
    refine Go.by st159 ?_
    show Go _ _ _ _ _ _ _ (T159.setTop (mkF m 203 #[.val (.int a1), .val (.int x1), .val (.int s1), .val (.int (1 : Int32)), .val (.int bb), .val (.int sen), .val (.ref b101), .val (.int (4 : Int32))] [(.int (1 : Int32))]))
    refine Go.by (fun _ kont => XS.ifNo X159.here hx rfl (hb hby at_203) rfl (by decide) (XS.aload X159.here hx rfl (hb hby at_206) rfl rfl (XS.iconst X159.here hx rfl (hb hby at_208) (XS.iloadN X159.here hx rfl (hb hby at_209) rfl (XS.iload X159.here hx rfl (hb hby at_210) rfl kont))))) ?_
    show Go _ _ _ _ _ _ _ (T159.setTop (mkF m 212 #[.val (.int a1), .val (.int x1), .val (.int s1), .val (.int (1 : Int32)), .val (.int bb), .val (.int sen), .val (.ref b101), .val (.int (4 : Int32))] [(.int sen), (.int (1 : Int32)), (.int (5 : Int32)), (.ref b101)]))
    obtain ⟨_, _, ⟨T160, L160, k160, n160⟩, -, X160, ⟨Lc160, hQ160, l160, y160, z160⟩, st160⟩ := Jvm.LawKit.callS X159 hx (y := (⟨"com/example/pctenc/pctenc/EscapeWritePinLaw", "kept", "([CIIC)Z"⟩ : MethodName)) hown (mvT hZ (hw _ (List.mem_of_getElem? (i := 12) rfl))) (mvT hZ (hw _ (List.mem_of_getElem? (i := 13) rfl))) (mvT hZ (hw _ (List.mem_of_getElem? (i := 10) rfl))) (mvT hZ (hw _ (List.mem_of_getElem? (i := 14) rfl))) (by decide) (backOf (W := 0) (rmK15 l Z a0 hw [] b101 sen k101 (nar .char sen) (nar .char (37 : Int32)) (nar .char (own_hx ((bb.toUInt32 >>> ((4 : Int32) &&& 31).toUInt32).toInt32))) (nar .char (own_hx (bb &&& (15 : Int32)))) (nar .char sen) (nar .char sen) (nar .char sen) T145.heap n0 Z146 V145z hsen) hZ (hw _ (List.mem_of_getElem? (i := 14) rfl)) (hw _ (List.mem_of_getElem? (i := 10) rfl)) (by decide) (by decide)) (g := (mkF m 212 #[.val (.int a1), .val (.int x1), .val (.int s1), .val (.int (1 : Int32)), .val (.int bb), .val (.int sen), .val (.ref b101), .val (.int (4 : Int32))] [(.int sen), (.int (1 : Int32)), (.int (5 : Int32)), (.ref b101)])) rfl (by rw [hml]; rfl) (argsL := [(.ref b101), (.int (5 : Int32)), (.int (1 : Int32)), (.int sen)]) (rest := []) (lenOf pd0_2 rfl) rfl (by show 2 * 0 + _ ≤ _; exact Nat.le_of_eq rfl) (hb hby at_212) (fun _ _ => ⟨rfl, eh159, (by decide : 1 + 0 ≤ _), (by decide : 8 + 0 ≤ _)⟩)
    dsimp only [Pt.U, Pt.locs, Pt.cells, Pt.slots] at X160 l160 y160 z160 st160 hQ160
    subst l160 y160 z160
    obtain ⟨rfl, N160q, eh160⟩ := hQ160
    have N160 := Fr.app N159 N160q
    refine Go.by st160 ?_
    show Go _ _ _ _ _ _ _ (T160.setTop (mkF m 215 #[.val (.int a1), .val (.int x1), .val (.int s1), .val (.int (1 : Int32)), .val (.int bb), .val (.int sen), .val (.ref b101), .val (.int (4 : Int32))] [(.int (1 : Int32))]))
    refine Go.by (fun _ kont => XS.ifNo X160.here hx rfl (hb hby at_215) rfl (by decide) (XS.aload X160.here hx rfl (hb hby at_218) rfl rfl (XS.bipush X160.here hx rfl (hb hby at_220) (XS.iloadN X160.here hx rfl (hb hby at_222) rfl (XS.iload X160.here hx rfl (hb hby at_223) rfl kont))))) ?_
    show Go _ _ _ _ _ _ _ (T160.setTop (mkF m 225 #[.val (.int a1), .val (.int x1), .val (.int s1), .val (.int (1 : Int32)), .val (.int bb), .val (.int sen), .val (.ref b101), .val (.int (4 : Int32))] [(.int sen), (.int (1 : Int32)), (.int (6 : Int32)), (.ref b101)]))
    obtain ⟨_, _, ⟨T161, L161, k161, n161⟩, -, X161, ⟨Lc161, hQ161, l161, y161, z161⟩, st161⟩ := Jvm.LawKit.callS X160 hx (y := (⟨"com/example/pctenc/pctenc/EscapeWritePinLaw", "kept", "([CIIC)Z"⟩ : MethodName)) hown (mvT hZ (hw _ (List.mem_of_getElem? (i := 12) rfl))) (mvT hZ (hw _ (List.mem_of_getElem? (i := 13) rfl))) (mvT hZ (hw _ (List.mem_of_getElem? (i := 10) rfl))) (mvT hZ (hw _ (List.mem_of_getElem? (i := 14) rfl))) (by decide) (backOf (W := 0) (rmK16 l Z a0 hw [] b101 sen k101 (nar .char sen) (nar .char (37 : Int32)) (nar .char (own_hx ((bb.toUInt32 >>> ((4 : Int32) &&& 31).toUInt32).toInt32))) (nar .char (own_hx (bb &&& (15 : Int32)))) (nar .char sen) (nar .char sen) (nar .char sen) T145.heap n0 Z146 V145z hsen) hZ (hw _ (List.mem_of_getElem? (i := 14) rfl)) (hw _ (List.mem_of_getElem? (i := 10) rfl)) (by decide) (by decide)) (g := (mkF m 225 #[.val (.int a1), .val (.int x1), .val (.int s1), .val (.int (1 : Int32)), .val (.int bb), .val (.int sen), .val (.ref b101), .val (.int (4 : Int32))] [(.int sen), (.int (1 : Int32)), (.int (6 : Int32)), (.ref b101)])) rfl (by rw [hml]; rfl) (argsL := [(.ref b101), (.int (6 : Int32)), (.int (1 : Int32)), (.int sen)]) (rest := []) (lenOf pd0_2 rfl) rfl (by show 2 * 0 + _ ≤ _; exact Nat.le_of_eq rfl) (hb hby at_225) (fun _ _ => ⟨rfl, eh160, (by decide : 1 + 0 ≤ _), (by decide : 8 + 0 ≤ _)⟩)
    dsimp only [Pt.U, Pt.locs, Pt.cells, Pt.slots] at X161 l161 y161 z161 st161 hQ161
    subst l161 y161 z161
    obtain ⟨rfl, N161q, eh161⟩ := hQ161
    have N161 := Fr.app N160 N161q
    refine Go.by st161 ?_
    show Go _ _ _ _ _ _ _ (T161.setTop (mkF m 228 #[.val (.int a1), .val (.int x1), .val (.int s1), .val (.int (1 : Int32)), .val (.int bb), .val (.int sen), .val (.ref b101), .val (.int (4 : Int32))] [(.int (1 : Int32))]))
    refine Go.by (fun _ kont => XS.ifNo X161.here hx rfl (hb hby at_228) rfl (by decide) (XS.aload X161.here hx rfl (hb hby at_231) rfl rfl (XS.bipush X161.here hx rfl (hb hby at_233) (XS.iloadN X161.here hx rfl (hb hby at_235) rfl (XS.iload X161.here hx rfl (hb hby at_236) rfl kont))))) ?_
    show Go _ _ _ _ _ _ _ (T161.setTop (mkF m 238 #[.val (.int a1), .val (.int x1), .val (.int s1), .val (.int (1 : Int32)), .val (.int bb), .val (.int sen), .val (.ref b101), .val (.int (4 : Int32))] [(.int sen), (.int (1 : Int32)), (.int (7 : Int32)), (.ref b101)]))
    obtain ⟨_, _, ⟨T162, L162, k162, n162⟩, -, X162, ⟨Lc162, hQ162, l162, y162, z162⟩, st162⟩ := Jvm.LawKit.callS X161 hx (y := (⟨"com/example/pctenc/pctenc/EscapeWritePinLaw", "kept", "([CIIC)Z"⟩ : MethodName)) hown (mvT hZ (hw _ (List.mem_of_getElem? (i := 12) rfl))) (mvT hZ (hw _ (List.mem_of_getElem? (i := 13) rfl))) (mvT hZ (hw _ (List.mem_of_getElem? (i := 10) rfl))) (mvT hZ (hw _ (List.mem_of_getElem? (i := 14) rfl))) (by decide) (backOf (W := 0) (rmK17 l Z a0 hw [] b101 sen k101 (nar .char sen) (nar .char (37 : Int32)) (nar .char (own_hx ((bb.toUInt32 >>> ((4 : Int32) &&& 31).toUInt32).toInt32))) (nar .char (own_hx (bb &&& (15 : Int32)))) (nar .char sen) (nar .char sen) (nar .char sen) T145.heap n0 Z146 V145z hsen) hZ (hw _ (List.mem_of_getElem? (i := 14) rfl)) (hw _ (List.mem_of_getElem? (i := 10) rfl)) (by decide) (by decide)) (g := (mkF m 238 #[.val (.int a1), .val (.int x1), .val (.int s1), .val (.int (1 : Int32)), .val (.int bb), .val (.int sen), .val (.ref b101), .val (.int (4 : Int32))] [(.int sen), (.int (1 : Int32)), (.int (7 : Int32)), (.ref b101)])) rfl (by rw [hml]; rfl) (argsL := [(.ref b101), (.int (7 : Int32)), (.int (1 : Int32)), (.int sen)]) (rest := []) (lenOf pd0_2 rfl) rfl (by show 2 * 0 + _ ≤ _; exact Nat.le_of_eq rfl) (hb hby at_238) (fun _ _ => ⟨rfl, eh161, (by decide : 1 + 0 ≤ _), (by decide : 8 + 0 ≤ _)⟩)
    dsimp only [Pt.U, Pt.locs, Pt.cells, Pt.slots] at X162 l162 y162 z162 st162 hQ162
    subst l162 y162 z162
    obtain ⟨rfl, N162q, eh162⟩ := hQ162
    have N162 := Fr.app N161 N162q
    refine Go.by st162 ?_
    show Go _ _ _ _ _ _ _ (T162.setTop (mkF m 241 #[.val (.int a1), .val (.int x1), .val (.int s1), .val (.int (1 : Int32)), .val (.int bb), .val (.int sen), .val (.ref b101), .val (.int (4 : Int32))] [(.int (1 : Int32))]))
    refine Go.by (fun _ kont => XS.ifNo X162.here hx rfl (hb hby at_241) rfl (by decide) (XS.iconst X162.here hx rfl (hb hby at_244) (XS.goto X162.here hx rfl (pc0 := 245) (pc' := 249) rfl (hb hby at_245) (by decide) (by decide) kont))) ?_
    show Go _ _ _ _ _ _ _ (T162.setTop (mkF m 249 #[.val (.int a1), .val (.int x1), .val (.int s1), .val (.int (1 : Int32)), .val (.int bb), .val (.int sen), .val (.ref b101), .val (.int (4 : Int32))] [(.int (1 : Int32))]))
    refine Go.retN X162 hx (t := .boolean) hret (by simp) hlk (hb hby at_249) ?_ (by decide) (by decide)
    show Q0 Z h0 n0 (some (.int (1 : Int32))) T162.heap _
    rw [eh162]
    exact ⟨rfl, N162⟩
  · show Go _ _ _ _ _ _ _ (T125.setTop (mkF m 78 #[.val (.int a1), .val (.int x1), .val (.int s1), .val (.int (2 : Int32)), .val (.int bb), .val (.int sen), .val (.ref b101), .unset] []))
    refine Go.by (fun _ kont => XS.aload X125.here hx rfl (hb hby at_78) rfl rfl (XS.iloadN X125.here hx rfl (hb hby at_80) rfl (XS.iload X125.here hx rfl (hb hby at_81) rfl kont))) ?_
    show Go _ _ _ _ _ _ _ (T125.setTop (mkF m 83 #[.val (.int a1), .val (.int x1), .val (.int s1), .val (.int (2 : Int32)), .val (.int bb), .val (.int sen), .val (.ref b101), .unset] [(.int bb), (.int (2 : Int32)), (.ref b101)]))
    obtain ⟨_, _, ⟨T163, L163, k163, n163⟩, -, X163, ⟨Lc163, hQ163, l163, y163, z163⟩, st163⟩ := Jvm.LawKit.callS X125 hx (y := (⟨"com/example/pctenc/pctenc/Escape", "write", "([CII)I"⟩ : MethodName)) hown (mvT hZ (hw _ (List.mem_of_getElem? (i := 2) rfl))) (mvT hZ (hw _ (List.mem_of_getElem? (i := 3) rfl))) (mvT hZ (hw _ (List.mem_of_getElem? (i := 4) rfl))) (mvT hZ (hw _ (List.mem_of_getElem? (i := 5) rfl))) (by decide) (backOf (W := 0) (rmW2 l Z a0 hw [] b101 bb k101 s_UPPER_HEX kcx (nar .char sen) (nar .char sen) (nar .char sen) (nar .char sen) (nar .char sen) (nar .char sen) (nar .char sen) (nar .char sen) h125 n0 Z126 V125 V126_s_UPPER_HEX S126_UPPER_HEX ne_s_UPPER_HEX_b101 ge_b101 Bb) hZ (hw _ (List.mem_of_getElem? (i := 5) rfl)) (hw _ (List.mem_of_getElem? (i := 4) rfl)) (by decide) (by decide)) (g := (mkF m 83 #[.val (.int a1), .val (.int x1), .val (.int s1), .val (.int (2 : Int32)), .val (.int bb), .val (.int sen), .val (.ref b101), .unset] [(.int bb), (.int (2 : Int32)), (.ref b101)])) rfl (by rw [hml]; rfl) (argsL := [(.ref b101), (.int (2 : Int32)), (.int bb)]) (rest := []) (lenOf pd0_0 rfl) rfl (by show 2 * 0 + _ ≤ _; exact Nat.le_of_eq rfl) (hb hby at_83) (fun _ _ => ⟨rfl, e125, (by decide : 1 + 0 ≤ _), (by decide : 8 + 0 ≤ _)⟩)
    dsimp only [Pt.U, Pt.locs, Pt.cells, Pt.slots] at X163 l163 y163 z163 st163 hQ163
    subst l163 y163 z163
    obtain ⟨rfl, N163q, K163, V163z⟩ := hQ163
    have V164_s_UPPER_HEX := V126_s_UPPER_HEX.keep K163 (ninS ne_s_UPPER_HEX_b101 nin0)
    have Z164 := Nat.le_trans Z126 K163.1
    have K164 : Keep h0 T163.heap [] := Keep.trans K126 K163 (allS (Or.inr sz_b101) all0)
    have N163 := Fr.app N125 N163q
    refine Go.by st163 ?_
    show Go _ _ _ _ _ _ _ (T163.setTop (mkF m 86 #[.val (.int a1), .val (.int x1), .val (.int s1), .val (.int (2 : Int32)), .val (.int bb), .val (.int sen), .val (.ref b101), .unset] [(.int (5 : Int32))]))
    refine Go.by (fun _ kont => XS.istore X163.here hx rfl (hb hby at_86) rfl (l' := #[.val (.int a1), .val (.int x1), .val (.int s1), .val (.int (2 : Int32)), .val (.int bb), .val (.int sen), .val (.ref b101), .val (.int (5 : Int32))]) rfl (XS.iload X163.here hx rfl (hb hby at_88) rfl (XS.iloadN X163.here hx rfl (hb hby at_90) rfl (XS.iconst X163.here hx rfl (hb hby at_91) (XS.iadd X163.here hx rfl (hb hby at_92) rfl kont))))) ?_
    show Go _ _ _ _ _ _ _ (T163.setTop (mkF m 93 #[.val (.int a1), .val (.int x1), .val (.int s1), .val (.int (2 : Int32)), .val (.int bb), .val (.int sen), .val (.ref b101), .val (.int (5 : Int32))] [(.int ((2 : Int32) + (3 : Int32))), (.int (5 : Int32))]))
    rw [show ((2 : Int32) + (3 : Int32)) = (5 : Int32) from by decide]
    show Go _ _ _ _ _ _ _ (T163.setTop (mkF m 93 #[.val (.int a1), .val (.int x1), .val (.int s1), .val (.int (2 : Int32)), .val (.int bb), .val (.int sen), .val (.ref b101), .val (.int (5 : Int32))] [(.int (5 : Int32)), (.int (5 : Int32))]))
    refine Go.by (fun _ kont => XS.icmpYes X163.here hx rfl (pc0 := 93) (pc' := 98) rfl (hb hby at_93) rfl (by decide) (by decide) (by decide) (XS.aload X163.here hx rfl (hb hby at_98) rfl rfl (XS.iloadN X163.here hx rfl (hb hby at_100) rfl kont))) ?_
    show Go _ _ _ _ _ _ _ (T163.setTop (mkF m 101 #[.val (.int a1), .val (.int x1), .val (.int s1), .val (.int (2 : Int32)), .val (.int bb), .val (.int sen), .val (.ref b101), .val (.int (5 : Int32))] [(.int (2 : Int32)), (.ref b101)]))
    obtain ⟨cl_q165, Ar_q165, q1_q165, S_q165, N_q165, H_q165, G_q165⟩ := id V163z
    have hin_q165 : ¬ ((2 : Int32) < 0 ∨ cl_q165.slots.size ≤ ((2 : Int32)).toNatClampNeg) := inb_of S_q165 ⟨by decide, by decide⟩
    have hat_q165 : cl_q165.slots[((2 : Int32)).toNatClampNeg]? = some (.int (nar .char (37 : Int32))) := Has.at H_q165 hin_q165 rfl
    refine Go.by (X163.caload hx (j := (2 : Int32)) (v := (.int (nar .char (37 : Int32)))) (by first | exact Ar_q165.1 | (rw [rfl]; exact Ar_q165.1)) (State.isArrayOf_alike hZ.alike Ar_q165.2.1) Ar_q165.2.2 hin_q165 hat_q165 (g := (mkF m 101 #[.val (.int a1), .val (.int x1), .val (.int s1), .val (.int (2 : Int32)), .val (.int bb), .val (.int sen), .val (.ref b101), .val (.int (5 : Int32))] [(.int (2 : Int32)), (.ref b101)])) rfl rfl (hb hby at_101)) ?_
    show Go _ _ _ _ _ _ _ (T163.setTop (mkF m 102 #[.val (.int a1), .val (.int x1), .val (.int s1), .val (.int (2 : Int32)), .val (.int bb), .val (.int sen), .val (.ref b101), .val (.int (5 : Int32))] [(.int (nar .char (37 : Int32)))]))
    refine Go.by (fun _ kont => XS.bipush X163.here hx rfl (hb hby at_102) kont) ?_
    show Go _ _ _ _ _ _ _ (T163.setTop (mkF m 104 #[.val (.int a1), .val (.int x1), .val (.int s1), .val (.int (2 : Int32)), .val (.int bb), .val (.int sen), .val (.ref b101), .val (.int (5 : Int32))] [(.int (37 : Int32)), (.int (nar .char (37 : Int32)))]))
    have hd166 : (nar .char (37 : Int32)) = (37 : Int32) := by decide
    refine Go.by (fun _ kont => XS.icmpYes X163.here hx rfl (pc0 := 104) (pc' := 109) rfl (hb hby at_104) rfl (teq hd166).1 (by decide) (by decide) kont) ?_
    show Go _ _ _ _ _ _ _ (T163.setTop (mkF m 109 #[.val (.int a1), .val (.int x1), .val (.int s1), .val (.int (2 : Int32)), .val (.int bb), .val (.int sen), .val (.ref b101), .val (.int (5 : Int32))] []))
    refine Go.by (fun _ kont => XS.aload X163.here hx rfl (hb hby at_109) rfl rfl (XS.iloadN X163.here hx rfl (hb hby at_111) rfl (XS.iconst X163.here hx rfl (hb hby at_112) (XS.iadd X163.here hx rfl (hb hby at_113) rfl kont)))) ?_
    show Go _ _ _ _ _ _ _ (T163.setTop (mkF m 114 #[.val (.int a1), .val (.int x1), .val (.int s1), .val (.int (2 : Int32)), .val (.int bb), .val (.int sen), .val (.ref b101), .val (.int (5 : Int32))] [(.int ((2 : Int32) + (1 : Int32))), (.ref b101)]))
    rw [show ((2 : Int32) + (1 : Int32)) = (3 : Int32) from by decide]
    show Go _ _ _ _ _ _ _ (T163.setTop (mkF m 114 #[.val (.int a1), .val (.int x1), .val (.int s1), .val (.int (2 : Int32)), .val (.int bb), .val (.int sen), .val (.ref b101), .val (.int (5 : Int32))] [(.int (3 : Int32)), (.ref b101)]))
    obtain ⟨cl_q167, Ar_q167, q1_q167, S_q167, N_q167, H_q167, G_q167⟩ := id V163z
    have hin_q167 : ¬ ((3 : Int32) < 0 ∨ cl_q167.slots.size ≤ ((3 : Int32)).toNatClampNeg) := inb_of S_q167 ⟨by decide, by decide⟩
    have hat_q167 : cl_q167.slots[((3 : Int32)).toNatClampNeg]? = some (.int (nar .char (own_hx ((bb.toUInt32 >>> ((4 : Int32) &&& 31).toUInt32).toInt32)))) := Has.at H_q167 hin_q167 rfl
    refine Go.by (X163.caload hx (j := (3 : Int32)) (v := (.int (nar .char (own_hx ((bb.toUInt32 >>> ((4 : Int32) &&& 31).toUInt32).toInt32))))) (by first | exact Ar_q167.1 | (rw [rfl]; exact Ar_q167.1)) (State.isArrayOf_alike hZ.alike Ar_q167.2.1) Ar_q167.2.2 hin_q167 hat_q167 (g := (mkF m 114 #[.val (.int a1), .val (.int x1), .val (.int s1), .val (.int (2 : Int32)), .val (.int bb), .val (.int sen), .val (.ref b101), .val (.int (5 : Int32))] [(.int (3 : Int32)), (.ref b101)])) rfl rfl (hb hby at_114)) ?_
    show Go _ _ _ _ _ _ _ (T163.setTop (mkF m 115 #[.val (.int a1), .val (.int x1), .val (.int s1), .val (.int (2 : Int32)), .val (.int bb), .val (.int sen), .val (.ref b101), .val (.int (5 : Int32))] [(.int (nar .char (own_hx ((bb.toUInt32 >>> ((4 : Int32) &&& 31).toUInt32).toInt32))))]))
    refine Go.by (fun _ kont => XS.iload X163.here hx rfl (hb hby at_115) rfl (XS.iconst X163.here hx rfl (hb hby at_117) (XS.ishr X163.here hx rfl (hb hby at_118) rfl kont))) ?_
    show Go _ _ _ _ _ _ _ (T163.setTop (mkF m 119 #[.val (.int a1), .val (.int x1), .val (.int s1), .val (.int (2 : Int32)), .val (.int bb), .val (.int sen), .val (.ref b101), .val (.int (5 : Int32))] [(.int (bb >>> ((4 : Int32) &&& 31))), (.int (nar .char (own_hx ((bb.toUInt32 >>> ((4 : Int32) &&& 31).toUInt32).toInt32))))]))
    obtain ⟨_, _, ⟨T168, L168, k168, n168⟩, -, X168, ⟨Lc168, hQ168, l168, y168, z168⟩, st168⟩ := Jvm.LawKit.callS X163 hx (y := (⟨"com/example/pctenc/pctenc/EscapeWritePinLaw", "hex", "(I)C"⟩ : MethodName)) hown (mvT hZ (hw _ (List.mem_of_getElem? (i := 8) rfl))) (mvT hZ (hw _ (List.mem_of_getElem? (i := 9) rfl))) (mvT hZ (hw _ (List.mem_of_getElem? (i := 10) rfl))) (mvT hZ (hw _ (List.mem_of_getElem? (i := 11) rfl))) (by decide) (backOf (W := 1) (rmHx l Z a0 hw [] (bb >>> ((4 : Int32) &&& 31)) T163.heap n0 Z164 ) hZ (hw _ (List.mem_of_getElem? (i := 11) rfl)) (hw _ (List.mem_of_getElem? (i := 10) rfl)) (by decide) (by decide)) (g := (mkF m 119 #[.val (.int a1), .val (.int x1), .val (.int s1), .val (.int (2 : Int32)), .val (.int bb), .val (.int sen), .val (.ref b101), .val (.int (5 : Int32))] [(.int (bb >>> ((4 : Int32) &&& 31))), (.int (nar .char (own_hx ((bb.toUInt32 >>> ((4 : Int32) &&& 31).toUInt32).toInt32))))])) rfl (by rw [hml]; rfl) (argsL := [(.int (bb >>> ((4 : Int32) &&& 31)))]) (rest := [(.int (nar .char (own_hx ((bb.toUInt32 >>> ((4 : Int32) &&& 31).toUInt32).toInt32))))]) (lenOf pd0_1 rfl) rfl (by show 2 * 0 + _ ≤ _; exact Nat.le_of_eq rfl) (hb hby at_119) (fun _ _ => ⟨rfl, rfl, (by decide : 1 + 0 ≤ _), (by decide : 8 + 0 ≤ _)⟩)
    dsimp only [Pt.U, Pt.locs, Pt.cells, Pt.slots] at X168 l168 y168 z168 st168 hQ168
    subst l168 y168 z168
    obtain ⟨rfl, N168q, eh168⟩ := hQ168
    have N168 := Fr.app N163 N168q
    refine Go.by st168 ?_
    show Go _ _ _ _ _ _ _ (T168.setTop (mkF m 122 #[.val (.int a1), .val (.int x1), .val (.int s1), .val (.int (2 : Int32)), .val (.int bb), .val (.int sen), .val (.ref b101), .val (.int (5 : Int32))] [(.int (fHx (bb >>> ((4 : Int32) &&& 31)))), (.int (nar .char (own_hx ((bb.toUInt32 >>> ((4 : Int32) &&& 31).toUInt32).toInt32))))]))
    have hd169 : (nar .char (own_hx ((bb.toUInt32 >>> ((4 : Int32) &&& 31).toUInt32).toInt32))) = (fHx (bb >>> ((4 : Int32) &&& 31))) := own_hi bb Bb
    refine Go.by (fun _ kont => XS.icmpYes X168.here hx rfl (pc0 := 122) (pc' := 127) rfl (hb hby at_122) rfl (teq hd169).1 (by decide) (by decide) kont) ?_
    show Go _ _ _ _ _ _ _ (T168.setTop (mkF m 127 #[.val (.int a1), .val (.int x1), .val (.int s1), .val (.int (2 : Int32)), .val (.int bb), .val (.int sen), .val (.ref b101), .val (.int (5 : Int32))] []))
    refine Go.by (fun _ kont => XS.aload X168.here hx rfl (hb hby at_127) rfl rfl (XS.iloadN X168.here hx rfl (hb hby at_129) rfl (XS.iconst X168.here hx rfl (hb hby at_130) (XS.iadd X168.here hx rfl (hb hby at_131) rfl kont)))) ?_
    show Go _ _ _ _ _ _ _ (T168.setTop (mkF m 132 #[.val (.int a1), .val (.int x1), .val (.int s1), .val (.int (2 : Int32)), .val (.int bb), .val (.int sen), .val (.ref b101), .val (.int (5 : Int32))] [(.int ((2 : Int32) + (2 : Int32))), (.ref b101)]))
    rw [show ((2 : Int32) + (2 : Int32)) = (4 : Int32) from by decide]
    show Go _ _ _ _ _ _ _ (T168.setTop (mkF m 132 #[.val (.int a1), .val (.int x1), .val (.int s1), .val (.int (2 : Int32)), .val (.int bb), .val (.int sen), .val (.ref b101), .val (.int (5 : Int32))] [(.int (4 : Int32)), (.ref b101)]))
    obtain ⟨cl_q170, Ar_q170, q1_q170, S_q170, N_q170, H_q170, G_q170⟩ := id V163z
    have hin_q170 : ¬ ((4 : Int32) < 0 ∨ cl_q170.slots.size ≤ ((4 : Int32)).toNatClampNeg) := inb_of S_q170 ⟨by decide, by decide⟩
    have hat_q170 : cl_q170.slots[((4 : Int32)).toNatClampNeg]? = some (.int (nar .char (own_hx (bb &&& (15 : Int32))))) := Has.at H_q170 hin_q170 rfl
    refine Go.by (X168.caload hx (j := (4 : Int32)) (v := (.int (nar .char (own_hx (bb &&& (15 : Int32)))))) (by first | exact Ar_q170.1 | (rw [eh168]; exact Ar_q170.1)) (State.isArrayOf_alike hZ.alike Ar_q170.2.1) Ar_q170.2.2 hin_q170 hat_q170 (g := (mkF m 132 #[.val (.int a1), .val (.int x1), .val (.int s1), .val (.int (2 : Int32)), .val (.int bb), .val (.int sen), .val (.ref b101), .val (.int (5 : Int32))] [(.int (4 : Int32)), (.ref b101)])) rfl rfl (hb hby at_132)) ?_
    show Go _ _ _ _ _ _ _ (T168.setTop (mkF m 133 #[.val (.int a1), .val (.int x1), .val (.int s1), .val (.int (2 : Int32)), .val (.int bb), .val (.int sen), .val (.ref b101), .val (.int (5 : Int32))] [(.int (nar .char (own_hx (bb &&& (15 : Int32)))))]))
    refine Go.by (fun _ kont => XS.iload X168.here hx rfl (hb hby at_133) rfl (XS.bipush X168.here hx rfl (hb hby at_135) (XS.iand X168.here hx rfl (hb hby at_137) rfl kont))) ?_
    show Go _ _ _ _ _ _ _ (T168.setTop (mkF m 138 #[.val (.int a1), .val (.int x1), .val (.int s1), .val (.int (2 : Int32)), .val (.int bb), .val (.int sen), .val (.ref b101), .val (.int (5 : Int32))] [(.int (bb &&& (15 : Int32))), (.int (nar .char (own_hx (bb &&& (15 : Int32)))))]))
    obtain ⟨_, _, ⟨T171, L171, k171, n171⟩, -, X171, ⟨Lc171, hQ171, l171, y171, z171⟩, st171⟩ := Jvm.LawKit.callS X168 hx (y := (⟨"com/example/pctenc/pctenc/EscapeWritePinLaw", "hex", "(I)C"⟩ : MethodName)) hown (mvT hZ (hw _ (List.mem_of_getElem? (i := 8) rfl))) (mvT hZ (hw _ (List.mem_of_getElem? (i := 9) rfl))) (mvT hZ (hw _ (List.mem_of_getElem? (i := 10) rfl))) (mvT hZ (hw _ (List.mem_of_getElem? (i := 11) rfl))) (by decide) (backOf (W := 1) (rmHx l Z a0 hw [] (bb &&& (15 : Int32)) T163.heap n0 Z164 ) hZ (hw _ (List.mem_of_getElem? (i := 11) rfl)) (hw _ (List.mem_of_getElem? (i := 10) rfl)) (by decide) (by decide)) (g := (mkF m 138 #[.val (.int a1), .val (.int x1), .val (.int s1), .val (.int (2 : Int32)), .val (.int bb), .val (.int sen), .val (.ref b101), .val (.int (5 : Int32))] [(.int (bb &&& (15 : Int32))), (.int (nar .char (own_hx (bb &&& (15 : Int32)))))])) rfl (by rw [hml]; rfl) (argsL := [(.int (bb &&& (15 : Int32)))]) (rest := [(.int (nar .char (own_hx (bb &&& (15 : Int32)))))]) (lenOf pd0_1 rfl) rfl (by show 2 * 0 + _ ≤ _; exact Nat.le_of_eq rfl) (hb hby at_138) (fun _ _ => ⟨rfl, eh168, (by decide : 1 + 0 ≤ _), (by decide : 8 + 0 ≤ _)⟩)
    dsimp only [Pt.U, Pt.locs, Pt.cells, Pt.slots] at X171 l171 y171 z171 st171 hQ171
    subst l171 y171 z171
    obtain ⟨rfl, N171q, eh171⟩ := hQ171
    have N171 := Fr.app N168 N171q
    refine Go.by st171 ?_
    show Go _ _ _ _ _ _ _ (T171.setTop (mkF m 141 #[.val (.int a1), .val (.int x1), .val (.int s1), .val (.int (2 : Int32)), .val (.int bb), .val (.int sen), .val (.ref b101), .val (.int (5 : Int32))] [(.int (fHx (bb &&& (15 : Int32)))), (.int (nar .char (own_hx (bb &&& (15 : Int32)))))]))
    have hd172 : (nar .char (own_hx (bb &&& (15 : Int32)))) = (fHx (bb &&& (15 : Int32))) := own_dig _ (own_loB bb)
    refine Go.by (fun _ kont => XS.icmpYes X171.here hx rfl (pc0 := 141) (pc' := 146) rfl (hb hby at_141) rfl (teq hd172).1 (by decide) (by decide) kont) ?_
    show Go _ _ _ _ _ _ _ (T171.setTop (mkF m 146 #[.val (.int a1), .val (.int x1), .val (.int s1), .val (.int (2 : Int32)), .val (.int bb), .val (.int sen), .val (.ref b101), .val (.int (5 : Int32))] []))
    refine Go.by (fun _ kont => XS.aload X171.here hx rfl (hb hby at_146) rfl rfl (XS.iconst X171.here hx rfl (hb hby at_148) (XS.iloadN X171.here hx rfl (hb hby at_149) rfl (XS.iload X171.here hx rfl (hb hby at_150) rfl kont)))) ?_
    show Go _ _ _ _ _ _ _ (T171.setTop (mkF m 152 #[.val (.int a1), .val (.int x1), .val (.int s1), .val (.int (2 : Int32)), .val (.int bb), .val (.int sen), .val (.ref b101), .val (.int (5 : Int32))] [(.int sen), (.int (2 : Int32)), (.int (0 : Int32)), (.ref b101)]))
    obtain ⟨_, _, ⟨T173, L173, k173, n173⟩, -, X173, ⟨Lc173, hQ173, l173, y173, z173⟩, st173⟩ := Jvm.LawKit.callS X171 hx (y := (⟨"com/example/pctenc/pctenc/EscapeWritePinLaw", "kept", "([CIIC)Z"⟩ : MethodName)) hown (mvT hZ (hw _ (List.mem_of_getElem? (i := 12) rfl))) (mvT hZ (hw _ (List.mem_of_getElem? (i := 13) rfl))) (mvT hZ (hw _ (List.mem_of_getElem? (i := 10) rfl))) (mvT hZ (hw _ (List.mem_of_getElem? (i := 14) rfl))) (by decide) (backOf (W := 0) (rmK20 l Z a0 hw [] b101 sen k101 (nar .char sen) (nar .char (37 : Int32)) (nar .char (own_hx ((bb.toUInt32 >>> ((4 : Int32) &&& 31).toUInt32).toInt32))) (nar .char (own_hx (bb &&& (15 : Int32)))) (nar .char sen) (nar .char sen) (nar .char sen) T163.heap n0 Z164 V163z hsen) hZ (hw _ (List.mem_of_getElem? (i := 14) rfl)) (hw _ (List.mem_of_getElem? (i := 10) rfl)) (by decide) (by decide)) (g := (mkF m 152 #[.val (.int a1), .val (.int x1), .val (.int s1), .val (.int (2 : Int32)), .val (.int bb), .val (.int sen), .val (.ref b101), .val (.int (5 : Int32))] [(.int sen), (.int (2 : Int32)), (.int (0 : Int32)), (.ref b101)])) rfl (by rw [hml]; rfl) (argsL := [(.ref b101), (.int (0 : Int32)), (.int (2 : Int32)), (.int sen)]) (rest := []) (lenOf pd0_2 rfl) rfl (by show 2 * 0 + _ ≤ _; exact Nat.le_of_eq rfl) (hb hby at_152) (fun _ _ => ⟨rfl, eh171, (by decide : 1 + 0 ≤ _), (by decide : 8 + 0 ≤ _)⟩)
    dsimp only [Pt.U, Pt.locs, Pt.cells, Pt.slots] at X173 l173 y173 z173 st173 hQ173
    subst l173 y173 z173
    obtain ⟨rfl, N173q, eh173⟩ := hQ173
    have N173 := Fr.app N171 N173q
    refine Go.by st173 ?_
    show Go _ _ _ _ _ _ _ (T173.setTop (mkF m 155 #[.val (.int a1), .val (.int x1), .val (.int s1), .val (.int (2 : Int32)), .val (.int bb), .val (.int sen), .val (.ref b101), .val (.int (5 : Int32))] [(.int (1 : Int32))]))
    refine Go.by (fun _ kont => XS.ifNo X173.here hx rfl (hb hby at_155) rfl (by decide) (XS.aload X173.here hx rfl (hb hby at_158) rfl rfl (XS.iconst X173.here hx rfl (hb hby at_160) (XS.iloadN X173.here hx rfl (hb hby at_161) rfl (XS.iload X173.here hx rfl (hb hby at_162) rfl kont))))) ?_
    show Go _ _ _ _ _ _ _ (T173.setTop (mkF m 164 #[.val (.int a1), .val (.int x1), .val (.int s1), .val (.int (2 : Int32)), .val (.int bb), .val (.int sen), .val (.ref b101), .val (.int (5 : Int32))] [(.int sen), (.int (2 : Int32)), (.int (1 : Int32)), (.ref b101)]))
    obtain ⟨_, _, ⟨T174, L174, k174, n174⟩, -, X174, ⟨Lc174, hQ174, l174, y174, z174⟩, st174⟩ := Jvm.LawKit.callS X173 hx (y := (⟨"com/example/pctenc/pctenc/EscapeWritePinLaw", "kept", "([CIIC)Z"⟩ : MethodName)) hown (mvT hZ (hw _ (List.mem_of_getElem? (i := 12) rfl))) (mvT hZ (hw _ (List.mem_of_getElem? (i := 13) rfl))) (mvT hZ (hw _ (List.mem_of_getElem? (i := 10) rfl))) (mvT hZ (hw _ (List.mem_of_getElem? (i := 14) rfl))) (by decide) (backOf (W := 0) (rmK21 l Z a0 hw [] b101 sen k101 (nar .char sen) (nar .char (37 : Int32)) (nar .char (own_hx ((bb.toUInt32 >>> ((4 : Int32) &&& 31).toUInt32).toInt32))) (nar .char (own_hx (bb &&& (15 : Int32)))) (nar .char sen) (nar .char sen) (nar .char sen) T163.heap n0 Z164 V163z hsen) hZ (hw _ (List.mem_of_getElem? (i := 14) rfl)) (hw _ (List.mem_of_getElem? (i := 10) rfl)) (by decide) (by decide)) (g := (mkF m 164 #[.val (.int a1), .val (.int x1), .val (.int s1), .val (.int (2 : Int32)), .val (.int bb), .val (.int sen), .val (.ref b101), .val (.int (5 : Int32))] [(.int sen), (.int (2 : Int32)), (.int (1 : Int32)), (.ref b101)])) rfl (by rw [hml]; rfl) (argsL := [(.ref b101), (.int (1 : Int32)), (.int (2 : Int32)), (.int sen)]) (rest := []) (lenOf pd0_2 rfl) rfl (by show 2 * 0 + _ ≤ _; exact Nat.le_of_eq rfl) (hb hby at_164) (fun _ _ => ⟨rfl, eh173, (by decide : 1 + 0 ≤ _), (by decide : 8 + 0 ≤ _)⟩)
    dsimp only [Pt.U, Pt.locs, Pt.cells, Pt.slots] at X174 l174 y174 z174 st174 hQ174
    subst l174 y174 z174
    obtain ⟨rfl, N174q, eh174⟩ := hQ174
    have N174 := Fr.app N173 N174q
    refine Go.by st174 ?_
    show Go _ _ _ _ _ _ _ (T174.setTop (mkF m 167 #[.val (.int a1), .val (.int x1), .val (.int s1), .val (.int (2 : Int32)), .val (.int bb), .val (.int sen), .val (.ref b101), .val (.int (5 : Int32))] [(.int (1 : Int32))]))
    refine Go.by (fun _ kont => XS.ifNo X174.here hx rfl (hb hby at_167) rfl (by decide) (XS.aload X174.here hx rfl (hb hby at_170) rfl rfl (XS.iconst X174.here hx rfl (hb hby at_172) (XS.iloadN X174.here hx rfl (hb hby at_173) rfl (XS.iload X174.here hx rfl (hb hby at_174) rfl kont))))) ?_
    show Go _ _ _ _ _ _ _ (T174.setTop (mkF m 176 #[.val (.int a1), .val (.int x1), .val (.int s1), .val (.int (2 : Int32)), .val (.int bb), .val (.int sen), .val (.ref b101), .val (.int (5 : Int32))] [(.int sen), (.int (2 : Int32)), (.int (2 : Int32)), (.ref b101)]))
    obtain ⟨_, _, ⟨T175, L175, k175, n175⟩, -, X175, ⟨Lc175, hQ175, l175, y175, z175⟩, st175⟩ := Jvm.LawKit.callS X174 hx (y := (⟨"com/example/pctenc/pctenc/EscapeWritePinLaw", "kept", "([CIIC)Z"⟩ : MethodName)) hown (mvT hZ (hw _ (List.mem_of_getElem? (i := 12) rfl))) (mvT hZ (hw _ (List.mem_of_getElem? (i := 13) rfl))) (mvT hZ (hw _ (List.mem_of_getElem? (i := 10) rfl))) (mvT hZ (hw _ (List.mem_of_getElem? (i := 14) rfl))) (by decide) (backOf (W := 0) (rmK22 l Z a0 hw [] b101 sen T163.heap n0 Z164 ) hZ (hw _ (List.mem_of_getElem? (i := 14) rfl)) (hw _ (List.mem_of_getElem? (i := 10) rfl)) (by decide) (by decide)) (g := (mkF m 176 #[.val (.int a1), .val (.int x1), .val (.int s1), .val (.int (2 : Int32)), .val (.int bb), .val (.int sen), .val (.ref b101), .val (.int (5 : Int32))] [(.int sen), (.int (2 : Int32)), (.int (2 : Int32)), (.ref b101)])) rfl (by rw [hml]; rfl) (argsL := [(.ref b101), (.int (2 : Int32)), (.int (2 : Int32)), (.int sen)]) (rest := []) (lenOf pd0_2 rfl) rfl (by show 2 * 0 + _ ≤ _; exact Nat.le_of_eq rfl) (hb hby at_176) (fun _ _ => ⟨rfl, eh174, (by decide : 1 + 0 ≤ _), (by decide : 8 + 0 ≤ _)⟩)
    dsimp only [Pt.U, Pt.locs, Pt.cells, Pt.slots] at X175 l175 y175 z175 st175 hQ175
    subst l175 y175 z175
    obtain ⟨rfl, N175q, eh175⟩ := hQ175
    have N175 := Fr.app N174 N175q
    refine Go.by st175 ?_
    show Go _ _ _ _ _ _ _ (T175.setTop (mkF m 179 #[.val (.int a1), .val (.int x1), .val (.int s1), .val (.int (2 : Int32)), .val (.int bb), .val (.int sen), .val (.ref b101), .val (.int (5 : Int32))] [(.int (1 : Int32))]))
    refine Go.by (fun _ kont => XS.ifNo X175.here hx rfl (hb hby at_179) rfl (by decide) (XS.aload X175.here hx rfl (hb hby at_182) rfl rfl (XS.iconst X175.here hx rfl (hb hby at_184) (XS.iloadN X175.here hx rfl (hb hby at_185) rfl (XS.iload X175.here hx rfl (hb hby at_186) rfl kont))))) ?_
    show Go _ _ _ _ _ _ _ (T175.setTop (mkF m 188 #[.val (.int a1), .val (.int x1), .val (.int s1), .val (.int (2 : Int32)), .val (.int bb), .val (.int sen), .val (.ref b101), .val (.int (5 : Int32))] [(.int sen), (.int (2 : Int32)), (.int (3 : Int32)), (.ref b101)]))
    obtain ⟨_, _, ⟨T176, L176, k176, n176⟩, -, X176, ⟨Lc176, hQ176, l176, y176, z176⟩, st176⟩ := Jvm.LawKit.callS X175 hx (y := (⟨"com/example/pctenc/pctenc/EscapeWritePinLaw", "kept", "([CIIC)Z"⟩ : MethodName)) hown (mvT hZ (hw _ (List.mem_of_getElem? (i := 12) rfl))) (mvT hZ (hw _ (List.mem_of_getElem? (i := 13) rfl))) (mvT hZ (hw _ (List.mem_of_getElem? (i := 10) rfl))) (mvT hZ (hw _ (List.mem_of_getElem? (i := 14) rfl))) (by decide) (backOf (W := 0) (rmK23 l Z a0 hw [] b101 sen T163.heap n0 Z164 ) hZ (hw _ (List.mem_of_getElem? (i := 14) rfl)) (hw _ (List.mem_of_getElem? (i := 10) rfl)) (by decide) (by decide)) (g := (mkF m 188 #[.val (.int a1), .val (.int x1), .val (.int s1), .val (.int (2 : Int32)), .val (.int bb), .val (.int sen), .val (.ref b101), .val (.int (5 : Int32))] [(.int sen), (.int (2 : Int32)), (.int (3 : Int32)), (.ref b101)])) rfl (by rw [hml]; rfl) (argsL := [(.ref b101), (.int (3 : Int32)), (.int (2 : Int32)), (.int sen)]) (rest := []) (lenOf pd0_2 rfl) rfl (by show 2 * 0 + _ ≤ _; exact Nat.le_of_eq rfl) (hb hby at_188) (fun _ _ => ⟨rfl, eh175, (by decide : 1 + 0 ≤ _), (by decide : 8 + 0 ≤ _)⟩)
    dsimp only [Pt.U, Pt.locs, Pt.cells, Pt.slots] at X176 l176 y176 z176 st176 hQ176
    subst l176 y176 z176
    obtain ⟨rfl, N176q, eh176⟩ := hQ176
    have N176 := Fr.app N175 N176q
    refine Go.by st176 ?_
    show Go _ _ _ _ _ _ _ (T176.setTop (mkF m 191 #[.val (.int a1), .val (.int x1), .val (.int s1), .val (.int (2 : Int32)), .val (.int bb), .val (.int sen), .val (.ref b101), .val (.int (5 : Int32))] [(.int (1 : Int32))]))
    refine Go.by (fun _ kont => XS.ifNo X176.here hx rfl (hb hby at_191) rfl (by decide) (XS.aload X176.here hx rfl (hb hby at_194) rfl rfl (XS.iconst X176.here hx rfl (hb hby at_196) (XS.iloadN X176.here hx rfl (hb hby at_197) rfl (XS.iload X176.here hx rfl (hb hby at_198) rfl kont))))) ?_
    show Go _ _ _ _ _ _ _ (T176.setTop (mkF m 200 #[.val (.int a1), .val (.int x1), .val (.int s1), .val (.int (2 : Int32)), .val (.int bb), .val (.int sen), .val (.ref b101), .val (.int (5 : Int32))] [(.int sen), (.int (2 : Int32)), (.int (4 : Int32)), (.ref b101)]))
    obtain ⟨_, _, ⟨T177, L177, k177, n177⟩, -, X177, ⟨Lc177, hQ177, l177, y177, z177⟩, st177⟩ := Jvm.LawKit.callS X176 hx (y := (⟨"com/example/pctenc/pctenc/EscapeWritePinLaw", "kept", "([CIIC)Z"⟩ : MethodName)) hown (mvT hZ (hw _ (List.mem_of_getElem? (i := 12) rfl))) (mvT hZ (hw _ (List.mem_of_getElem? (i := 13) rfl))) (mvT hZ (hw _ (List.mem_of_getElem? (i := 10) rfl))) (mvT hZ (hw _ (List.mem_of_getElem? (i := 14) rfl))) (by decide) (backOf (W := 0) (rmK24 l Z a0 hw [] b101 sen T163.heap n0 Z164 ) hZ (hw _ (List.mem_of_getElem? (i := 14) rfl)) (hw _ (List.mem_of_getElem? (i := 10) rfl)) (by decide) (by decide)) (g := (mkF m 200 #[.val (.int a1), .val (.int x1), .val (.int s1), .val (.int (2 : Int32)), .val (.int bb), .val (.int sen), .val (.ref b101), .val (.int (5 : Int32))] [(.int sen), (.int (2 : Int32)), (.int (4 : Int32)), (.ref b101)])) rfl (by rw [hml]; rfl) (argsL := [(.ref b101), (.int (4 : Int32)), (.int (2 : Int32)), (.int sen)]) (rest := []) (lenOf pd0_2 rfl) rfl (by show 2 * 0 + _ ≤ _; exact Nat.le_of_eq rfl) (hb hby at_200) (fun _ _ => ⟨rfl, eh176, (by decide : 1 + 0 ≤ _), (by decide : 8 + 0 ≤ _)⟩)
    dsimp only [Pt.U, Pt.locs, Pt.cells, Pt.slots] at X177 l177 y177 z177 st177 hQ177
    subst l177 y177 z177
    obtain ⟨rfl, N177q, eh177⟩ := hQ177
    have N177 := Fr.app N176 N177q
    refine Go.by st177 ?_
    show Go _ _ _ _ _ _ _ (T177.setTop (mkF m 203 #[.val (.int a1), .val (.int x1), .val (.int s1), .val (.int (2 : Int32)), .val (.int bb), .val (.int sen), .val (.ref b101), .val (.int (5 : Int32))] [(.int (1 : Int32))]))
    refine Go.by (fun _ kont => XS.ifNo X177.here hx rfl (hb hby at_203) rfl (by decide) (XS.aload X177.here hx rfl (hb hby at_206) rfl rfl (XS.iconst X177.here hx rfl (hb hby at_208) (XS.iloadN X177.here hx rfl (hb hby at_209) rfl (XS.iload X177.here hx rfl (hb hby at_210) rfl kont))))) ?_
    show Go _ _ _ _ _ _ _ (T177.setTop (mkF m 212 #[.val (.int a1), .val (.int x1), .val (.int s1), .val (.int (2 : Int32)), .val (.int bb), .val (.int sen), .val (.ref b101), .val (.int (5 : Int32))] [(.int sen), (.int (2 : Int32)), (.int (5 : Int32)), (.ref b101)]))
    obtain ⟨_, _, ⟨T178, L178, k178, n178⟩, -, X178, ⟨Lc178, hQ178, l178, y178, z178⟩, st178⟩ := Jvm.LawKit.callS X177 hx (y := (⟨"com/example/pctenc/pctenc/EscapeWritePinLaw", "kept", "([CIIC)Z"⟩ : MethodName)) hown (mvT hZ (hw _ (List.mem_of_getElem? (i := 12) rfl))) (mvT hZ (hw _ (List.mem_of_getElem? (i := 13) rfl))) (mvT hZ (hw _ (List.mem_of_getElem? (i := 10) rfl))) (mvT hZ (hw _ (List.mem_of_getElem? (i := 14) rfl))) (by decide) (backOf (W := 0) (rmK25 l Z a0 hw [] b101 sen k101 (nar .char sen) (nar .char sen) (nar .char (37 : Int32)) (nar .char (own_hx ((bb.toUInt32 >>> ((4 : Int32) &&& 31).toUInt32).toInt32))) (nar .char (own_hx (bb &&& (15 : Int32)))) (nar .char sen) (nar .char sen) T163.heap n0 Z164 V163z hsen) hZ (hw _ (List.mem_of_getElem? (i := 14) rfl)) (hw _ (List.mem_of_getElem? (i := 10) rfl)) (by decide) (by decide)) (g := (mkF m 212 #[.val (.int a1), .val (.int x1), .val (.int s1), .val (.int (2 : Int32)), .val (.int bb), .val (.int sen), .val (.ref b101), .val (.int (5 : Int32))] [(.int sen), (.int (2 : Int32)), (.int (5 : Int32)), (.ref b101)])) rfl (by rw [hml]; rfl) (argsL := [(.ref b101), (.int (5 : Int32)), (.int (2 : Int32)), (.int sen)]) (rest := []) (lenOf pd0_2 rfl) rfl (by show 2 * 0 + _ ≤ _; exact Nat.le_of_eq rfl) (hb hby at_212) (fun _ _ => ⟨rfl, eh177, (by decide : 1 + 0 ≤ _), (by decide : 8 + 0 ≤ _)⟩)
    dsimp only [Pt.U, Pt.locs, Pt.cells, Pt.slots] at X178 l178 y178 z178 st178 hQ178
    subst l178 y178 z178
    obtain ⟨rfl, N178q, eh178⟩ := hQ178
    have N178 := Fr.app N177 N178q
    refine Go.by st178 ?_
    show Go _ _ _ _ _ _ _ (T178.setTop (mkF m 215 #[.val (.int a1), .val (.int x1), .val (.int s1), .val (.int (2 : Int32)), .val (.int bb), .val (.int sen), .val (.ref b101), .val (.int (5 : Int32))] [(.int (1 : Int32))]))
    refine Go.by (fun _ kont => XS.ifNo X178.here hx rfl (hb hby at_215) rfl (by decide) (XS.aload X178.here hx rfl (hb hby at_218) rfl rfl (XS.bipush X178.here hx rfl (hb hby at_220) (XS.iloadN X178.here hx rfl (hb hby at_222) rfl (XS.iload X178.here hx rfl (hb hby at_223) rfl kont))))) ?_
    show Go _ _ _ _ _ _ _ (T178.setTop (mkF m 225 #[.val (.int a1), .val (.int x1), .val (.int s1), .val (.int (2 : Int32)), .val (.int bb), .val (.int sen), .val (.ref b101), .val (.int (5 : Int32))] [(.int sen), (.int (2 : Int32)), (.int (6 : Int32)), (.ref b101)]))
    obtain ⟨_, _, ⟨T179, L179, k179, n179⟩, -, X179, ⟨Lc179, hQ179, l179, y179, z179⟩, st179⟩ := Jvm.LawKit.callS X178 hx (y := (⟨"com/example/pctenc/pctenc/EscapeWritePinLaw", "kept", "([CIIC)Z"⟩ : MethodName)) hown (mvT hZ (hw _ (List.mem_of_getElem? (i := 12) rfl))) (mvT hZ (hw _ (List.mem_of_getElem? (i := 13) rfl))) (mvT hZ (hw _ (List.mem_of_getElem? (i := 10) rfl))) (mvT hZ (hw _ (List.mem_of_getElem? (i := 14) rfl))) (by decide) (backOf (W := 0) (rmK26 l Z a0 hw [] b101 sen k101 (nar .char sen) (nar .char sen) (nar .char (37 : Int32)) (nar .char (own_hx ((bb.toUInt32 >>> ((4 : Int32) &&& 31).toUInt32).toInt32))) (nar .char (own_hx (bb &&& (15 : Int32)))) (nar .char sen) (nar .char sen) T163.heap n0 Z164 V163z hsen) hZ (hw _ (List.mem_of_getElem? (i := 14) rfl)) (hw _ (List.mem_of_getElem? (i := 10) rfl)) (by decide) (by decide)) (g := (mkF m 225 #[.val (.int a1), .val (.int x1), .val (.int s1), .val (.int (2 : Int32)), .val (.int bb), .val (.int sen), .val (.ref b101), .val (.int (5 : Int32))] [(.int sen), (.int (2 : Int32)), (.int (6 : Int32)), (.ref b101)])) rfl (by rw [hml]; rfl) (argsL := [(.ref b101), (.int (6 : Int32)), (.int (2 : Int32)), (.int sen)]) (rest := []) (lenOf pd0_2 rfl) rfl (by show 2 * 0 + _ ≤ _; exact Nat.le_of_eq rfl) (hb hby at_225) (fun _ _ => ⟨rfl, eh178, (by decide : 1 + 0 ≤ _), (by decide : 8 + 0 ≤ _)⟩)
    dsimp only [Pt.U, Pt.locs, Pt.cells, Pt.slots] at X179 l179 y179 z179 st179 hQ179
    subst l179 y179 z179
    obtain ⟨rfl, N179q, eh179⟩ := hQ179
    have N179 := Fr.app N178 N179q
    refine Go.by st179 ?_
    show Go _ _ _ _ _ _ _ (T179.setTop (mkF m 228 #[.val (.int a1), .val (.int x1), .val (.int s1), .val (.int (2 : Int32)), .val (.int bb), .val (.int sen), .val (.ref b101), .val (.int (5 : Int32))] [(.int (1 : Int32))]))
    refine Go.by (fun _ kont => XS.ifNo X179.here hx rfl (hb hby at_228) rfl (by decide) (XS.aload X179.here hx rfl (hb hby at_231) rfl rfl (XS.bipush X179.here hx rfl (hb hby at_233) (XS.iloadN X179.here hx rfl (hb hby at_235) rfl (XS.iload X179.here hx rfl (hb hby at_236) rfl kont))))) ?_
    show Go _ _ _ _ _ _ _ (T179.setTop (mkF m 238 #[.val (.int a1), .val (.int x1), .val (.int s1), .val (.int (2 : Int32)), .val (.int bb), .val (.int sen), .val (.ref b101), .val (.int (5 : Int32))] [(.int sen), (.int (2 : Int32)), (.int (7 : Int32)), (.ref b101)]))
    obtain ⟨_, _, ⟨T180, L180, k180, n180⟩, -, X180, ⟨Lc180, hQ180, l180, y180, z180⟩, st180⟩ := Jvm.LawKit.callS X179 hx (y := (⟨"com/example/pctenc/pctenc/EscapeWritePinLaw", "kept", "([CIIC)Z"⟩ : MethodName)) hown (mvT hZ (hw _ (List.mem_of_getElem? (i := 12) rfl))) (mvT hZ (hw _ (List.mem_of_getElem? (i := 13) rfl))) (mvT hZ (hw _ (List.mem_of_getElem? (i := 10) rfl))) (mvT hZ (hw _ (List.mem_of_getElem? (i := 14) rfl))) (by decide) (backOf (W := 0) (rmK27 l Z a0 hw [] b101 sen k101 (nar .char sen) (nar .char sen) (nar .char (37 : Int32)) (nar .char (own_hx ((bb.toUInt32 >>> ((4 : Int32) &&& 31).toUInt32).toInt32))) (nar .char (own_hx (bb &&& (15 : Int32)))) (nar .char sen) (nar .char sen) T163.heap n0 Z164 V163z hsen) hZ (hw _ (List.mem_of_getElem? (i := 14) rfl)) (hw _ (List.mem_of_getElem? (i := 10) rfl)) (by decide) (by decide)) (g := (mkF m 238 #[.val (.int a1), .val (.int x1), .val (.int s1), .val (.int (2 : Int32)), .val (.int bb), .val (.int sen), .val (.ref b101), .val (.int (5 : Int32))] [(.int sen), (.int (2 : Int32)), (.int (7 : Int32)), (.ref b101)])) rfl (by rw [hml]; rfl) (argsL := [(.ref b101), (.int (7 : Int32)), (.int (2 : Int32)), (.int sen)]) (rest := []) (lenOf pd0_2 rfl) rfl (by show 2 * 0 + _ ≤ _; exact Nat.le_of_eq rfl) (hb hby at_238) (fun _ _ => ⟨rfl, eh179, (by decide : 1 + 0 ≤ _), (by decide : 8 + 0 ≤ _)⟩)
    dsimp only [Pt.U, Pt.locs, Pt.cells, Pt.slots] at X180 l180 y180 z180 st180 hQ180
    subst l180 y180 z180
    obtain ⟨rfl, N180q, eh180⟩ := hQ180
    have N180 := Fr.app N179 N180q
    refine Go.by st180 ?_
    show Go _ _ _ _ _ _ _ (T180.setTop (mkF m 241 #[.val (.int a1), .val (.int x1), .val (.int s1), .val (.int (2 : Int32)), .val (.int bb), .val (.int sen), .val (.ref b101), .val (.int (5 : Int32))] [(.int (1 : Int32))]))
    refine Go.by (fun _ kont => XS.ifNo X180.here hx rfl (hb hby at_241) rfl (by decide) (XS.iconst X180.here hx rfl (hb hby at_244) (XS.goto X180.here hx rfl (pc0 := 245) (pc' := 249) rfl (hb hby at_245) (by decide) (by decide) kont))) ?_
    show Go _ _ _ _ _ _ _ (T180.setTop (mkF m 249 #[.val (.int a1), .val (.int x1), .val (.int s1), .val (.int (2 : Int32)), .val (.int bb), .val (.int sen), .val (.ref b101), .val (.int (5 : Int32))] [(.int (1 : Int32))]))
    refine Go.retN X180 hx (t := .boolean) hret (by simp) hlk (hb hby at_249) ?_ (by decide) (by decide)
    show Q0 Z h0 n0 (some (.int (1 : Int32))) T180.heap _
    rw [eh180]
    exact ⟨rfl, N180⟩
  · show Go _ _ _ _ _ _ _ (T125.setTop (mkF m 78 #[.val (.int a1), .val (.int x1), .val (.int s1), .val (.int (3 : Int32)), .val (.int bb), .val (.int sen), .val (.ref b101), .unset] []))
    refine Go.by (fun _ kont => XS.aload X125.here hx rfl (hb hby at_78) rfl rfl (XS.iloadN X125.here hx rfl (hb hby at_80) rfl (XS.iload X125.here hx rfl (hb hby at_81) rfl kont))) ?_
    show Go _ _ _ _ _ _ _ (T125.setTop (mkF m 83 #[.val (.int a1), .val (.int x1), .val (.int s1), .val (.int (3 : Int32)), .val (.int bb), .val (.int sen), .val (.ref b101), .unset] [(.int bb), (.int (3 : Int32)), (.ref b101)]))
    obtain ⟨_, _, ⟨T181, L181, k181, n181⟩, -, X181, ⟨Lc181, hQ181, l181, y181, z181⟩, st181⟩ := Jvm.LawKit.callS X125 hx (y := (⟨"com/example/pctenc/pctenc/Escape", "write", "([CII)I"⟩ : MethodName)) hown (mvT hZ (hw _ (List.mem_of_getElem? (i := 2) rfl))) (mvT hZ (hw _ (List.mem_of_getElem? (i := 3) rfl))) (mvT hZ (hw _ (List.mem_of_getElem? (i := 4) rfl))) (mvT hZ (hw _ (List.mem_of_getElem? (i := 5) rfl))) (by decide) (backOf (W := 0) (rmW3 l Z a0 hw [] b101 bb k101 s_UPPER_HEX kcx (nar .char sen) (nar .char sen) (nar .char sen) (nar .char sen) (nar .char sen) (nar .char sen) (nar .char sen) (nar .char sen) h125 n0 Z126 V125 V126_s_UPPER_HEX S126_UPPER_HEX ne_s_UPPER_HEX_b101 ge_b101 Bb) hZ (hw _ (List.mem_of_getElem? (i := 5) rfl)) (hw _ (List.mem_of_getElem? (i := 4) rfl)) (by decide) (by decide)) (g := (mkF m 83 #[.val (.int a1), .val (.int x1), .val (.int s1), .val (.int (3 : Int32)), .val (.int bb), .val (.int sen), .val (.ref b101), .unset] [(.int bb), (.int (3 : Int32)), (.ref b101)])) rfl (by rw [hml]; rfl) (argsL := [(.ref b101), (.int (3 : Int32)), (.int bb)]) (rest := []) (lenOf pd0_0 rfl) rfl (by show 2 * 0 + _ ≤ _; exact Nat.le_of_eq rfl) (hb hby at_83) (fun _ _ => ⟨rfl, e125, (by decide : 1 + 0 ≤ _), (by decide : 8 + 0 ≤ _)⟩)
    dsimp only [Pt.U, Pt.locs, Pt.cells, Pt.slots] at X181 l181 y181 z181 st181 hQ181
    subst l181 y181 z181
    obtain ⟨rfl, N181q, K181, V181z⟩ := hQ181
    have V182_s_UPPER_HEX := V126_s_UPPER_HEX.keep K181 (ninS ne_s_UPPER_HEX_b101 nin0)
    have Z182 := Nat.le_trans Z126 K181.1
    have K182 : Keep h0 T181.heap [] := Keep.trans K126 K181 (allS (Or.inr sz_b101) all0)
    have N181 := Fr.app N125 N181q
    refine Go.by st181 ?_
    show Go _ _ _ _ _ _ _ (T181.setTop (mkF m 86 #[.val (.int a1), .val (.int x1), .val (.int s1), .val (.int (3 : Int32)), .val (.int bb), .val (.int sen), .val (.ref b101), .unset] [(.int (6 : Int32))]))
    refine Go.by (fun _ kont => XS.istore X181.here hx rfl (hb hby at_86) rfl (l' := #[.val (.int a1), .val (.int x1), .val (.int s1), .val (.int (3 : Int32)), .val (.int bb), .val (.int sen), .val (.ref b101), .val (.int (6 : Int32))]) rfl (XS.iload X181.here hx rfl (hb hby at_88) rfl (XS.iloadN X181.here hx rfl (hb hby at_90) rfl (XS.iconst X181.here hx rfl (hb hby at_91) (XS.iadd X181.here hx rfl (hb hby at_92) rfl kont))))) ?_
    show Go _ _ _ _ _ _ _ (T181.setTop (mkF m 93 #[.val (.int a1), .val (.int x1), .val (.int s1), .val (.int (3 : Int32)), .val (.int bb), .val (.int sen), .val (.ref b101), .val (.int (6 : Int32))] [(.int ((3 : Int32) + (3 : Int32))), (.int (6 : Int32))]))
    rw [show ((3 : Int32) + (3 : Int32)) = (6 : Int32) from by decide]
    show Go _ _ _ _ _ _ _ (T181.setTop (mkF m 93 #[.val (.int a1), .val (.int x1), .val (.int s1), .val (.int (3 : Int32)), .val (.int bb), .val (.int sen), .val (.ref b101), .val (.int (6 : Int32))] [(.int (6 : Int32)), (.int (6 : Int32))]))
    refine Go.by (fun _ kont => XS.icmpYes X181.here hx rfl (pc0 := 93) (pc' := 98) rfl (hb hby at_93) rfl (by decide) (by decide) (by decide) (XS.aload X181.here hx rfl (hb hby at_98) rfl rfl (XS.iloadN X181.here hx rfl (hb hby at_100) rfl kont))) ?_
    show Go _ _ _ _ _ _ _ (T181.setTop (mkF m 101 #[.val (.int a1), .val (.int x1), .val (.int s1), .val (.int (3 : Int32)), .val (.int bb), .val (.int sen), .val (.ref b101), .val (.int (6 : Int32))] [(.int (3 : Int32)), (.ref b101)]))
    obtain ⟨cl_q183, Ar_q183, q1_q183, S_q183, N_q183, H_q183, G_q183⟩ := id V181z
    have hin_q183 : ¬ ((3 : Int32) < 0 ∨ cl_q183.slots.size ≤ ((3 : Int32)).toNatClampNeg) := inb_of S_q183 ⟨by decide, by decide⟩
    have hat_q183 : cl_q183.slots[((3 : Int32)).toNatClampNeg]? = some (.int (nar .char (37 : Int32))) := Has.at H_q183 hin_q183 rfl
    refine Go.by (X181.caload hx (j := (3 : Int32)) (v := (.int (nar .char (37 : Int32)))) (by first | exact Ar_q183.1 | (rw [rfl]; exact Ar_q183.1)) (State.isArrayOf_alike hZ.alike Ar_q183.2.1) Ar_q183.2.2 hin_q183 hat_q183 (g := (mkF m 101 #[.val (.int a1), .val (.int x1), .val (.int s1), .val (.int (3 : Int32)), .val (.int bb), .val (.int sen), .val (.ref b101), .val (.int (6 : Int32))] [(.int (3 : Int32)), (.ref b101)])) rfl rfl (hb hby at_101)) ?_
    show Go _ _ _ _ _ _ _ (T181.setTop (mkF m 102 #[.val (.int a1), .val (.int x1), .val (.int s1), .val (.int (3 : Int32)), .val (.int bb), .val (.int sen), .val (.ref b101), .val (.int (6 : Int32))] [(.int (nar .char (37 : Int32)))]))
    refine Go.by (fun _ kont => XS.bipush X181.here hx rfl (hb hby at_102) kont) ?_
    show Go _ _ _ _ _ _ _ (T181.setTop (mkF m 104 #[.val (.int a1), .val (.int x1), .val (.int s1), .val (.int (3 : Int32)), .val (.int bb), .val (.int sen), .val (.ref b101), .val (.int (6 : Int32))] [(.int (37 : Int32)), (.int (nar .char (37 : Int32)))]))
    have hd184 : (nar .char (37 : Int32)) = (37 : Int32) := by decide
    refine Go.by (fun _ kont => XS.icmpYes X181.here hx rfl (pc0 := 104) (pc' := 109) rfl (hb hby at_104) rfl (teq hd184).1 (by decide) (by decide) kont) ?_
    show Go _ _ _ _ _ _ _ (T181.setTop (mkF m 109 #[.val (.int a1), .val (.int x1), .val (.int s1), .val (.int (3 : Int32)), .val (.int bb), .val (.int sen), .val (.ref b101), .val (.int (6 : Int32))] []))
    refine Go.by (fun _ kont => XS.aload X181.here hx rfl (hb hby at_109) rfl rfl (XS.iloadN X181.here hx rfl (hb hby at_111) rfl (XS.iconst X181.here hx rfl (hb hby at_112) (XS.iadd X181.here hx rfl (hb hby at_113) rfl kont)))) ?_
    show Go _ _ _ _ _ _ _ (T181.setTop (mkF m 114 #[.val (.int a1), .val (.int x1), .val (.int s1), .val (.int (3 : Int32)), .val (.int bb), .val (.int sen), .val (.ref b101), .val (.int (6 : Int32))] [(.int ((3 : Int32) + (1 : Int32))), (.ref b101)]))
    rw [show ((3 : Int32) + (1 : Int32)) = (4 : Int32) from by decide]
    show Go _ _ _ _ _ _ _ (T181.setTop (mkF m 114 #[.val (.int a1), .val (.int x1), .val (.int s1), .val (.int (3 : Int32)), .val (.int bb), .val (.int sen), .val (.ref b101), .val (.int (6 : Int32))] [(.int (4 : Int32)), (.ref b101)]))
    obtain ⟨cl_q185, Ar_q185, q1_q185, S_q185, N_q185, H_q185, G_q185⟩ := id V181z
    have hin_q185 : ¬ ((4 : Int32) < 0 ∨ cl_q185.slots.size ≤ ((4 : Int32)).toNatClampNeg) := inb_of S_q185 ⟨by decide, by decide⟩
    have hat_q185 : cl_q185.slots[((4 : Int32)).toNatClampNeg]? = some (.int (nar .char (own_hx ((bb.toUInt32 >>> ((4 : Int32) &&& 31).toUInt32).toInt32)))) := Has.at H_q185 hin_q185 rfl
    refine Go.by (X181.caload hx (j := (4 : Int32)) (v := (.int (nar .char (own_hx ((bb.toUInt32 >>> ((4 : Int32) &&& 31).toUInt32).toInt32))))) (by first | exact Ar_q185.1 | (rw [rfl]; exact Ar_q185.1)) (State.isArrayOf_alike hZ.alike Ar_q185.2.1) Ar_q185.2.2 hin_q185 hat_q185 (g := (mkF m 114 #[.val (.int a1), .val (.int x1), .val (.int s1), .val (.int (3 : Int32)), .val (.int bb), .val (.int sen), .val (.ref b101), .val (.int (6 : Int32))] [(.int (4 : Int32)), (.ref b101)])) rfl rfl (hb hby at_114)) ?_
    show Go _ _ _ _ _ _ _ (T181.setTop (mkF m 115 #[.val (.int a1), .val (.int x1), .val (.int s1), .val (.int (3 : Int32)), .val (.int bb), .val (.int sen), .val (.ref b101), .val (.int (6 : Int32))] [(.int (nar .char (own_hx ((bb.toUInt32 >>> ((4 : Int32) &&& 31).toUInt32).toInt32))))]))
    refine Go.by (fun _ kont => XS.iload X181.here hx rfl (hb hby at_115) rfl (XS.iconst X181.here hx rfl (hb hby at_117) (XS.ishr X181.here hx rfl (hb hby at_118) rfl kont))) ?_
    show Go _ _ _ _ _ _ _ (T181.setTop (mkF m 119 #[.val (.int a1), .val (.int x1), .val (.int s1), .val (.int (3 : Int32)), .val (.int bb), .val (.int sen), .val (.ref b101), .val (.int (6 : Int32))] [(.int (bb >>> ((4 : Int32) &&& 31))), (.int (nar .char (own_hx ((bb.toUInt32 >>> ((4 : Int32) &&& 31).toUInt32).toInt32))))]))
    obtain ⟨_, _, ⟨T186, L186, k186, n186⟩, -, X186, ⟨Lc186, hQ186, l186, y186, z186⟩, st186⟩ := Jvm.LawKit.callS X181 hx (y := (⟨"com/example/pctenc/pctenc/EscapeWritePinLaw", "hex", "(I)C"⟩ : MethodName)) hown (mvT hZ (hw _ (List.mem_of_getElem? (i := 8) rfl))) (mvT hZ (hw _ (List.mem_of_getElem? (i := 9) rfl))) (mvT hZ (hw _ (List.mem_of_getElem? (i := 10) rfl))) (mvT hZ (hw _ (List.mem_of_getElem? (i := 11) rfl))) (by decide) (backOf (W := 1) (rmHx l Z a0 hw [] (bb >>> ((4 : Int32) &&& 31)) T181.heap n0 Z182 ) hZ (hw _ (List.mem_of_getElem? (i := 11) rfl)) (hw _ (List.mem_of_getElem? (i := 10) rfl)) (by decide) (by decide)) (g := (mkF m 119 #[.val (.int a1), .val (.int x1), .val (.int s1), .val (.int (3 : Int32)), .val (.int bb), .val (.int sen), .val (.ref b101), .val (.int (6 : Int32))] [(.int (bb >>> ((4 : Int32) &&& 31))), (.int (nar .char (own_hx ((bb.toUInt32 >>> ((4 : Int32) &&& 31).toUInt32).toInt32))))])) rfl (by rw [hml]; rfl) (argsL := [(.int (bb >>> ((4 : Int32) &&& 31)))]) (rest := [(.int (nar .char (own_hx ((bb.toUInt32 >>> ((4 : Int32) &&& 31).toUInt32).toInt32))))]) (lenOf pd0_1 rfl) rfl (by show 2 * 0 + _ ≤ _; exact Nat.le_of_eq rfl) (hb hby at_119) (fun _ _ => ⟨rfl, rfl, (by decide : 1 + 0 ≤ _), (by decide : 8 + 0 ≤ _)⟩)
    dsimp only [Pt.U, Pt.locs, Pt.cells, Pt.slots] at X186 l186 y186 z186 st186 hQ186
    subst l186 y186 z186
    obtain ⟨rfl, N186q, eh186⟩ := hQ186
    have N186 := Fr.app N181 N186q
    refine Go.by st186 ?_
    show Go _ _ _ _ _ _ _ (T186.setTop (mkF m 122 #[.val (.int a1), .val (.int x1), .val (.int s1), .val (.int (3 : Int32)), .val (.int bb), .val (.int sen), .val (.ref b101), .val (.int (6 : Int32))] [(.int (fHx (bb >>> ((4 : Int32) &&& 31)))), (.int (nar .char (own_hx ((bb.toUInt32 >>> ((4 : Int32) &&& 31).toUInt32).toInt32))))]))
    have hd187 : (nar .char (own_hx ((bb.toUInt32 >>> ((4 : Int32) &&& 31).toUInt32).toInt32))) = (fHx (bb >>> ((4 : Int32) &&& 31))) := own_hi bb Bb
    refine Go.by (fun _ kont => XS.icmpYes X186.here hx rfl (pc0 := 122) (pc' := 127) rfl (hb hby at_122) rfl (teq hd187).1 (by decide) (by decide) kont) ?_
    show Go _ _ _ _ _ _ _ (T186.setTop (mkF m 127 #[.val (.int a1), .val (.int x1), .val (.int s1), .val (.int (3 : Int32)), .val (.int bb), .val (.int sen), .val (.ref b101), .val (.int (6 : Int32))] []))
    refine Go.by (fun _ kont => XS.aload X186.here hx rfl (hb hby at_127) rfl rfl (XS.iloadN X186.here hx rfl (hb hby at_129) rfl (XS.iconst X186.here hx rfl (hb hby at_130) (XS.iadd X186.here hx rfl (hb hby at_131) rfl kont)))) ?_
    show Go _ _ _ _ _ _ _ (T186.setTop (mkF m 132 #[.val (.int a1), .val (.int x1), .val (.int s1), .val (.int (3 : Int32)), .val (.int bb), .val (.int sen), .val (.ref b101), .val (.int (6 : Int32))] [(.int ((3 : Int32) + (2 : Int32))), (.ref b101)]))
    rw [show ((3 : Int32) + (2 : Int32)) = (5 : Int32) from by decide]
    show Go _ _ _ _ _ _ _ (T186.setTop (mkF m 132 #[.val (.int a1), .val (.int x1), .val (.int s1), .val (.int (3 : Int32)), .val (.int bb), .val (.int sen), .val (.ref b101), .val (.int (6 : Int32))] [(.int (5 : Int32)), (.ref b101)]))
    obtain ⟨cl_q188, Ar_q188, q1_q188, S_q188, N_q188, H_q188, G_q188⟩ := id V181z
    have hin_q188 : ¬ ((5 : Int32) < 0 ∨ cl_q188.slots.size ≤ ((5 : Int32)).toNatClampNeg) := inb_of S_q188 ⟨by decide, by decide⟩
    have hat_q188 : cl_q188.slots[((5 : Int32)).toNatClampNeg]? = some (.int (nar .char (own_hx (bb &&& (15 : Int32))))) := Has.at H_q188 hin_q188 rfl
    refine Go.by (X186.caload hx (j := (5 : Int32)) (v := (.int (nar .char (own_hx (bb &&& (15 : Int32)))))) (by first | exact Ar_q188.1 | (rw [eh186]; exact Ar_q188.1)) (State.isArrayOf_alike hZ.alike Ar_q188.2.1) Ar_q188.2.2 hin_q188 hat_q188 (g := (mkF m 132 #[.val (.int a1), .val (.int x1), .val (.int s1), .val (.int (3 : Int32)), .val (.int bb), .val (.int sen), .val (.ref b101), .val (.int (6 : Int32))] [(.int (5 : Int32)), (.ref b101)])) rfl rfl (hb hby at_132)) ?_
    show Go _ _ _ _ _ _ _ (T186.setTop (mkF m 133 #[.val (.int a1), .val (.int x1), .val (.int s1), .val (.int (3 : Int32)), .val (.int bb), .val (.int sen), .val (.ref b101), .val (.int (6 : Int32))] [(.int (nar .char (own_hx (bb &&& (15 : Int32)))))]))
    refine Go.by (fun _ kont => XS.iload X186.here hx rfl (hb hby at_133) rfl (XS.bipush X186.here hx rfl (hb hby at_135) (XS.iand X186.here hx rfl (hb hby at_137) rfl kont))) ?_
    show Go _ _ _ _ _ _ _ (T186.setTop (mkF m 138 #[.val (.int a1), .val (.int x1), .val (.int s1), .val (.int (3 : Int32)), .val (.int bb), .val (.int sen), .val (.ref b101), .val (.int (6 : Int32))] [(.int (bb &&& (15 : Int32))), (.int (nar .char (own_hx (bb &&& (15 : Int32)))))]))
    obtain ⟨_, _, ⟨T189, L189, k189, n189⟩, -, X189, ⟨Lc189, hQ189, l189, y189, z189⟩, st189⟩ := Jvm.LawKit.callS X186 hx (y := (⟨"com/example/pctenc/pctenc/EscapeWritePinLaw", "hex", "(I)C"⟩ : MethodName)) hown (mvT hZ (hw _ (List.mem_of_getElem? (i := 8) rfl))) (mvT hZ (hw _ (List.mem_of_getElem? (i := 9) rfl))) (mvT hZ (hw _ (List.mem_of_getElem? (i := 10) rfl))) (mvT hZ (hw _ (List.mem_of_getElem? (i := 11) rfl))) (by decide) (backOf (W := 1) (rmHx l Z a0 hw [] (bb &&& (15 : Int32)) T181.heap n0 Z182 ) hZ (hw _ (List.mem_of_getElem? (i := 11) rfl)) (hw _ (List.mem_of_getElem? (i := 10) rfl)) (by decide) (by decide)) (g := (mkF m 138 #[.val (.int a1), .val (.int x1), .val (.int s1), .val (.int (3 : Int32)), .val (.int bb), .val (.int sen), .val (.ref b101), .val (.int (6 : Int32))] [(.int (bb &&& (15 : Int32))), (.int (nar .char (own_hx (bb &&& (15 : Int32)))))])) rfl (by rw [hml]; rfl) (argsL := [(.int (bb &&& (15 : Int32)))]) (rest := [(.int (nar .char (own_hx (bb &&& (15 : Int32)))))]) (lenOf pd0_1 rfl) rfl (by show 2 * 0 + _ ≤ _; exact Nat.le_of_eq rfl) (hb hby at_138) (fun _ _ => ⟨rfl, eh186, (by decide : 1 + 0 ≤ _), (by decide : 8 + 0 ≤ _)⟩)
    dsimp only [Pt.U, Pt.locs, Pt.cells, Pt.slots] at X189 l189 y189 z189 st189 hQ189
    subst l189 y189 z189
    obtain ⟨rfl, N189q, eh189⟩ := hQ189
    have N189 := Fr.app N186 N189q
    refine Go.by st189 ?_
    show Go _ _ _ _ _ _ _ (T189.setTop (mkF m 141 #[.val (.int a1), .val (.int x1), .val (.int s1), .val (.int (3 : Int32)), .val (.int bb), .val (.int sen), .val (.ref b101), .val (.int (6 : Int32))] [(.int (fHx (bb &&& (15 : Int32)))), (.int (nar .char (own_hx (bb &&& (15 : Int32)))))]))
    have hd190 : (nar .char (own_hx (bb &&& (15 : Int32)))) = (fHx (bb &&& (15 : Int32))) := own_dig _ (own_loB bb)
    refine Go.by (fun _ kont => XS.icmpYes X189.here hx rfl (pc0 := 141) (pc' := 146) rfl (hb hby at_141) rfl (teq hd190).1 (by decide) (by decide) kont) ?_
    show Go _ _ _ _ _ _ _ (T189.setTop (mkF m 146 #[.val (.int a1), .val (.int x1), .val (.int s1), .val (.int (3 : Int32)), .val (.int bb), .val (.int sen), .val (.ref b101), .val (.int (6 : Int32))] []))
    refine Go.by (fun _ kont => XS.aload X189.here hx rfl (hb hby at_146) rfl rfl (XS.iconst X189.here hx rfl (hb hby at_148) (XS.iloadN X189.here hx rfl (hb hby at_149) rfl (XS.iload X189.here hx rfl (hb hby at_150) rfl kont)))) ?_
    show Go _ _ _ _ _ _ _ (T189.setTop (mkF m 152 #[.val (.int a1), .val (.int x1), .val (.int s1), .val (.int (3 : Int32)), .val (.int bb), .val (.int sen), .val (.ref b101), .val (.int (6 : Int32))] [(.int sen), (.int (3 : Int32)), (.int (0 : Int32)), (.ref b101)]))
    obtain ⟨_, _, ⟨T191, L191, k191, n191⟩, -, X191, ⟨Lc191, hQ191, l191, y191, z191⟩, st191⟩ := Jvm.LawKit.callS X189 hx (y := (⟨"com/example/pctenc/pctenc/EscapeWritePinLaw", "kept", "([CIIC)Z"⟩ : MethodName)) hown (mvT hZ (hw _ (List.mem_of_getElem? (i := 12) rfl))) (mvT hZ (hw _ (List.mem_of_getElem? (i := 13) rfl))) (mvT hZ (hw _ (List.mem_of_getElem? (i := 10) rfl))) (mvT hZ (hw _ (List.mem_of_getElem? (i := 14) rfl))) (by decide) (backOf (W := 0) (rmK30 l Z a0 hw [] b101 sen k101 (nar .char sen) (nar .char sen) (nar .char (37 : Int32)) (nar .char (own_hx ((bb.toUInt32 >>> ((4 : Int32) &&& 31).toUInt32).toInt32))) (nar .char (own_hx (bb &&& (15 : Int32)))) (nar .char sen) (nar .char sen) T181.heap n0 Z182 V181z hsen) hZ (hw _ (List.mem_of_getElem? (i := 14) rfl)) (hw _ (List.mem_of_getElem? (i := 10) rfl)) (by decide) (by decide)) (g := (mkF m 152 #[.val (.int a1), .val (.int x1), .val (.int s1), .val (.int (3 : Int32)), .val (.int bb), .val (.int sen), .val (.ref b101), .val (.int (6 : Int32))] [(.int sen), (.int (3 : Int32)), (.int (0 : Int32)), (.ref b101)])) rfl (by rw [hml]; rfl) (argsL := [(.ref b101), (.int (0 : Int32)), (.int (3 : Int32)), (.int sen)]) (rest := []) (lenOf pd0_2 rfl) rfl (by show 2 * 0 + _ ≤ _; exact Nat.le_of_eq rfl) (hb hby at_152) (fun _ _ => ⟨rfl, eh189, (by decide : 1 + 0 ≤ _), (by decide : 8 + 0 ≤ _)⟩)
    dsimp only [Pt.U, Pt.locs, Pt.cells, Pt.slots] at X191 l191 y191 z191 st191 hQ191
    subst l191 y191 z191
    obtain ⟨rfl, N191q, eh191⟩ := hQ191
    have N191 := Fr.app N189 N191q
    refine Go.by st191 ?_
    show Go _ _ _ _ _ _ _ (T191.setTop (mkF m 155 #[.val (.int a1), .val (.int x1), .val (.int s1), .val (.int (3 : Int32)), .val (.int bb), .val (.int sen), .val (.ref b101), .val (.int (6 : Int32))] [(.int (1 : Int32))]))
    refine Go.by (fun _ kont => XS.ifNo X191.here hx rfl (hb hby at_155) rfl (by decide) (XS.aload X191.here hx rfl (hb hby at_158) rfl rfl (XS.iconst X191.here hx rfl (hb hby at_160) (XS.iloadN X191.here hx rfl (hb hby at_161) rfl (XS.iload X191.here hx rfl (hb hby at_162) rfl kont))))) ?_
    show Go _ _ _ _ _ _ _ (T191.setTop (mkF m 164 #[.val (.int a1), .val (.int x1), .val (.int s1), .val (.int (3 : Int32)), .val (.int bb), .val (.int sen), .val (.ref b101), .val (.int (6 : Int32))] [(.int sen), (.int (3 : Int32)), (.int (1 : Int32)), (.ref b101)]))
    obtain ⟨_, _, ⟨T192, L192, k192, n192⟩, -, X192, ⟨Lc192, hQ192, l192, y192, z192⟩, st192⟩ := Jvm.LawKit.callS X191 hx (y := (⟨"com/example/pctenc/pctenc/EscapeWritePinLaw", "kept", "([CIIC)Z"⟩ : MethodName)) hown (mvT hZ (hw _ (List.mem_of_getElem? (i := 12) rfl))) (mvT hZ (hw _ (List.mem_of_getElem? (i := 13) rfl))) (mvT hZ (hw _ (List.mem_of_getElem? (i := 10) rfl))) (mvT hZ (hw _ (List.mem_of_getElem? (i := 14) rfl))) (by decide) (backOf (W := 0) (rmK31 l Z a0 hw [] b101 sen k101 (nar .char sen) (nar .char sen) (nar .char (37 : Int32)) (nar .char (own_hx ((bb.toUInt32 >>> ((4 : Int32) &&& 31).toUInt32).toInt32))) (nar .char (own_hx (bb &&& (15 : Int32)))) (nar .char sen) (nar .char sen) T181.heap n0 Z182 V181z hsen) hZ (hw _ (List.mem_of_getElem? (i := 14) rfl)) (hw _ (List.mem_of_getElem? (i := 10) rfl)) (by decide) (by decide)) (g := (mkF m 164 #[.val (.int a1), .val (.int x1), .val (.int s1), .val (.int (3 : Int32)), .val (.int bb), .val (.int sen), .val (.ref b101), .val (.int (6 : Int32))] [(.int sen), (.int (3 : Int32)), (.int (1 : Int32)), (.ref b101)])) rfl (by rw [hml]; rfl) (argsL := [(.ref b101), (.int (1 : Int32)), (.int (3 : Int32)), (.int sen)]) (rest := []) (lenOf pd0_2 rfl) rfl (by show 2 * 0 + _ ≤ _; exact Nat.le_of_eq rfl) (hb hby at_164) (fun _ _ => ⟨rfl, eh191, (by decide : 1 + 0 ≤ _), (by decide : 8 + 0 ≤ _)⟩)
    dsimp only [Pt.U, Pt.locs, Pt.cells, Pt.slots] at X192 l192 y192 z192 st192 hQ192
    subst l192 y192 z192
    obtain ⟨rfl, N192q, eh192⟩ := hQ192
    have N192 := Fr.app N191 N192q
    refine Go.by st192 ?_
    show Go _ _ _ _ _ _ _ (T192.setTop (mkF m 167 #[.val (.int a1), .val (.int x1), .val (.int s1), .val (.int (3 : Int32)), .val (.int bb), .val (.int sen), .val (.ref b101), .val (.int (6 : Int32))] [(.int (1 : Int32))]))
    refine Go.by (fun _ kont => XS.ifNo X192.here hx rfl (hb hby at_167) rfl (by decide) (XS.aload X192.here hx rfl (hb hby at_170) rfl rfl (XS.iconst X192.here hx rfl (hb hby at_172) (XS.iloadN X192.here hx rfl (hb hby at_173) rfl (XS.iload X192.here hx rfl (hb hby at_174) rfl kont))))) ?_
    show Go _ _ _ _ _ _ _ (T192.setTop (mkF m 176 #[.val (.int a1), .val (.int x1), .val (.int s1), .val (.int (3 : Int32)), .val (.int bb), .val (.int sen), .val (.ref b101), .val (.int (6 : Int32))] [(.int sen), (.int (3 : Int32)), (.int (2 : Int32)), (.ref b101)]))
    obtain ⟨_, _, ⟨T193, L193, k193, n193⟩, -, X193, ⟨Lc193, hQ193, l193, y193, z193⟩, st193⟩ := Jvm.LawKit.callS X192 hx (y := (⟨"com/example/pctenc/pctenc/EscapeWritePinLaw", "kept", "([CIIC)Z"⟩ : MethodName)) hown (mvT hZ (hw _ (List.mem_of_getElem? (i := 12) rfl))) (mvT hZ (hw _ (List.mem_of_getElem? (i := 13) rfl))) (mvT hZ (hw _ (List.mem_of_getElem? (i := 10) rfl))) (mvT hZ (hw _ (List.mem_of_getElem? (i := 14) rfl))) (by decide) (backOf (W := 0) (rmK32 l Z a0 hw [] b101 sen k101 (nar .char sen) (nar .char sen) (nar .char (37 : Int32)) (nar .char (own_hx ((bb.toUInt32 >>> ((4 : Int32) &&& 31).toUInt32).toInt32))) (nar .char (own_hx (bb &&& (15 : Int32)))) (nar .char sen) (nar .char sen) T181.heap n0 Z182 V181z hsen) hZ (hw _ (List.mem_of_getElem? (i := 14) rfl)) (hw _ (List.mem_of_getElem? (i := 10) rfl)) (by decide) (by decide)) (g := (mkF m 176 #[.val (.int a1), .val (.int x1), .val (.int s1), .val (.int (3 : Int32)), .val (.int bb), .val (.int sen), .val (.ref b101), .val (.int (6 : Int32))] [(.int sen), (.int (3 : Int32)), (.int (2 : Int32)), (.ref b101)])) rfl (by rw [hml]; rfl) (argsL := [(.ref b101), (.int (2 : Int32)), (.int (3 : Int32)), (.int sen)]) (rest := []) (lenOf pd0_2 rfl) rfl (by show 2 * 0 + _ ≤ _; exact Nat.le_of_eq rfl) (hb hby at_176) (fun _ _ => ⟨rfl, eh192, (by decide : 1 + 0 ≤ _), (by decide : 8 + 0 ≤ _)⟩)
    dsimp only [Pt.U, Pt.locs, Pt.cells, Pt.slots] at X193 l193 y193 z193 st193 hQ193
    subst l193 y193 z193
    obtain ⟨rfl, N193q, eh193⟩ := hQ193
    have N193 := Fr.app N192 N193q
    refine Go.by st193 ?_
    show Go _ _ _ _ _ _ _ (T193.setTop (mkF m 179 #[.val (.int a1), .val (.int x1), .val (.int s1), .val (.int (3 : Int32)), .val (.int bb), .val (.int sen), .val (.ref b101), .val (.int (6 : Int32))] [(.int (1 : Int32))]))
    refine Go.by (fun _ kont => XS.ifNo X193.here hx rfl (hb hby at_179) rfl (by decide) (XS.aload X193.here hx rfl (hb hby at_182) rfl rfl (XS.iconst X193.here hx rfl (hb hby at_184) (XS.iloadN X193.here hx rfl (hb hby at_185) rfl (XS.iload X193.here hx rfl (hb hby at_186) rfl kont))))) ?_
    show Go _ _ _ _ _ _ _ (T193.setTop (mkF m 188 #[.val (.int a1), .val (.int x1), .val (.int s1), .val (.int (3 : Int32)), .val (.int bb), .val (.int sen), .val (.ref b101), .val (.int (6 : Int32))] [(.int sen), (.int (3 : Int32)), (.int (3 : Int32)), (.ref b101)]))
    obtain ⟨_, _, ⟨T194, L194, k194, n194⟩, -, X194, ⟨Lc194, hQ194, l194, y194, z194⟩, st194⟩ := Jvm.LawKit.callS X193 hx (y := (⟨"com/example/pctenc/pctenc/EscapeWritePinLaw", "kept", "([CIIC)Z"⟩ : MethodName)) hown (mvT hZ (hw _ (List.mem_of_getElem? (i := 12) rfl))) (mvT hZ (hw _ (List.mem_of_getElem? (i := 13) rfl))) (mvT hZ (hw _ (List.mem_of_getElem? (i := 10) rfl))) (mvT hZ (hw _ (List.mem_of_getElem? (i := 14) rfl))) (by decide) (backOf (W := 0) (rmK33 l Z a0 hw [] b101 sen T181.heap n0 Z182 ) hZ (hw _ (List.mem_of_getElem? (i := 14) rfl)) (hw _ (List.mem_of_getElem? (i := 10) rfl)) (by decide) (by decide)) (g := (mkF m 188 #[.val (.int a1), .val (.int x1), .val (.int s1), .val (.int (3 : Int32)), .val (.int bb), .val (.int sen), .val (.ref b101), .val (.int (6 : Int32))] [(.int sen), (.int (3 : Int32)), (.int (3 : Int32)), (.ref b101)])) rfl (by rw [hml]; rfl) (argsL := [(.ref b101), (.int (3 : Int32)), (.int (3 : Int32)), (.int sen)]) (rest := []) (lenOf pd0_2 rfl) rfl (by show 2 * 0 + _ ≤ _; exact Nat.le_of_eq rfl) (hb hby at_188) (fun _ _ => ⟨rfl, eh193, (by decide : 1 + 0 ≤ _), (by decide : 8 + 0 ≤ _)⟩)
    dsimp only [Pt.U, Pt.locs, Pt.cells, Pt.slots] at X194 l194 y194 z194 st194 hQ194
    subst l194 y194 z194
    obtain ⟨rfl, N194q, eh194⟩ := hQ194
    have N194 := Fr.app N193 N194q
    refine Go.by st194 ?_
    show Go _ _ _ _ _ _ _ (T194.setTop (mkF m 191 #[.val (.int a1), .val (.int x1), .val (.int s1), .val (.int (3 : Int32)), .val (.int bb), .val (.int sen), .val (.ref b101), .val (.int (6 : Int32))] [(.int (1 : Int32))]))
    refine Go.by (fun _ kont => XS.ifNo X194.here hx rfl (hb hby at_191) rfl (by decide) (XS.aload X194.here hx rfl (hb hby at_194) rfl rfl (XS.iconst X194.here hx rfl (hb hby at_196) (XS.iloadN X194.here hx rfl (hb hby at_197) rfl (XS.iload X194.here hx rfl (hb hby at_198) rfl kont))))) ?_
    show Go _ _ _ _ _ _ _ (T194.setTop (mkF m 200 #[.val (.int a1), .val (.int x1), .val (.int s1), .val (.int (3 : Int32)), .val (.int bb), .val (.int sen), .val (.ref b101), .val (.int (6 : Int32))] [(.int sen), (.int (3 : Int32)), (.int (4 : Int32)), (.ref b101)]))
    obtain ⟨_, _, ⟨T195, L195, k195, n195⟩, -, X195, ⟨Lc195, hQ195, l195, y195, z195⟩, st195⟩ := Jvm.LawKit.callS X194 hx (y := (⟨"com/example/pctenc/pctenc/EscapeWritePinLaw", "kept", "([CIIC)Z"⟩ : MethodName)) hown (mvT hZ (hw _ (List.mem_of_getElem? (i := 12) rfl))) (mvT hZ (hw _ (List.mem_of_getElem? (i := 13) rfl))) (mvT hZ (hw _ (List.mem_of_getElem? (i := 10) rfl))) (mvT hZ (hw _ (List.mem_of_getElem? (i := 14) rfl))) (by decide) (backOf (W := 0) (rmK34 l Z a0 hw [] b101 sen T181.heap n0 Z182 ) hZ (hw _ (List.mem_of_getElem? (i := 14) rfl)) (hw _ (List.mem_of_getElem? (i := 10) rfl)) (by decide) (by decide)) (g := (mkF m 200 #[.val (.int a1), .val (.int x1), .val (.int s1), .val (.int (3 : Int32)), .val (.int bb), .val (.int sen), .val (.ref b101), .val (.int (6 : Int32))] [(.int sen), (.int (3 : Int32)), (.int (4 : Int32)), (.ref b101)])) rfl (by rw [hml]; rfl) (argsL := [(.ref b101), (.int (4 : Int32)), (.int (3 : Int32)), (.int sen)]) (rest := []) (lenOf pd0_2 rfl) rfl (by show 2 * 0 + _ ≤ _; exact Nat.le_of_eq rfl) (hb hby at_200) (fun _ _ => ⟨rfl, eh194, (by decide : 1 + 0 ≤ _), (by decide : 8 + 0 ≤ _)⟩)
    dsimp only [Pt.U, Pt.locs, Pt.cells, Pt.slots] at X195 l195 y195 z195 st195 hQ195
    subst l195 y195 z195
    obtain ⟨rfl, N195q, eh195⟩ := hQ195
    have N195 := Fr.app N194 N195q
    refine Go.by st195 ?_
    show Go _ _ _ _ _ _ _ (T195.setTop (mkF m 203 #[.val (.int a1), .val (.int x1), .val (.int s1), .val (.int (3 : Int32)), .val (.int bb), .val (.int sen), .val (.ref b101), .val (.int (6 : Int32))] [(.int (1 : Int32))]))
    refine Go.by (fun _ kont => XS.ifNo X195.here hx rfl (hb hby at_203) rfl (by decide) (XS.aload X195.here hx rfl (hb hby at_206) rfl rfl (XS.iconst X195.here hx rfl (hb hby at_208) (XS.iloadN X195.here hx rfl (hb hby at_209) rfl (XS.iload X195.here hx rfl (hb hby at_210) rfl kont))))) ?_
    show Go _ _ _ _ _ _ _ (T195.setTop (mkF m 212 #[.val (.int a1), .val (.int x1), .val (.int s1), .val (.int (3 : Int32)), .val (.int bb), .val (.int sen), .val (.ref b101), .val (.int (6 : Int32))] [(.int sen), (.int (3 : Int32)), (.int (5 : Int32)), (.ref b101)]))
    obtain ⟨_, _, ⟨T196, L196, k196, n196⟩, -, X196, ⟨Lc196, hQ196, l196, y196, z196⟩, st196⟩ := Jvm.LawKit.callS X195 hx (y := (⟨"com/example/pctenc/pctenc/EscapeWritePinLaw", "kept", "([CIIC)Z"⟩ : MethodName)) hown (mvT hZ (hw _ (List.mem_of_getElem? (i := 12) rfl))) (mvT hZ (hw _ (List.mem_of_getElem? (i := 13) rfl))) (mvT hZ (hw _ (List.mem_of_getElem? (i := 10) rfl))) (mvT hZ (hw _ (List.mem_of_getElem? (i := 14) rfl))) (by decide) (backOf (W := 0) (rmK35 l Z a0 hw [] b101 sen T181.heap n0 Z182 ) hZ (hw _ (List.mem_of_getElem? (i := 14) rfl)) (hw _ (List.mem_of_getElem? (i := 10) rfl)) (by decide) (by decide)) (g := (mkF m 212 #[.val (.int a1), .val (.int x1), .val (.int s1), .val (.int (3 : Int32)), .val (.int bb), .val (.int sen), .val (.ref b101), .val (.int (6 : Int32))] [(.int sen), (.int (3 : Int32)), (.int (5 : Int32)), (.ref b101)])) rfl (by rw [hml]; rfl) (argsL := [(.ref b101), (.int (5 : Int32)), (.int (3 : Int32)), (.int sen)]) (rest := []) (lenOf pd0_2 rfl) rfl (by show 2 * 0 + _ ≤ _; exact Nat.le_of_eq rfl) (hb hby at_212) (fun _ _ => ⟨rfl, eh195, (by decide : 1 + 0 ≤ _), (by decide : 8 + 0 ≤ _)⟩)
    dsimp only [Pt.U, Pt.locs, Pt.cells, Pt.slots] at X196 l196 y196 z196 st196 hQ196
    subst l196 y196 z196
    obtain ⟨rfl, N196q, eh196⟩ := hQ196
    have N196 := Fr.app N195 N196q
    refine Go.by st196 ?_
    show Go _ _ _ _ _ _ _ (T196.setTop (mkF m 215 #[.val (.int a1), .val (.int x1), .val (.int s1), .val (.int (3 : Int32)), .val (.int bb), .val (.int sen), .val (.ref b101), .val (.int (6 : Int32))] [(.int (1 : Int32))]))
    refine Go.by (fun _ kont => XS.ifNo X196.here hx rfl (hb hby at_215) rfl (by decide) (XS.aload X196.here hx rfl (hb hby at_218) rfl rfl (XS.bipush X196.here hx rfl (hb hby at_220) (XS.iloadN X196.here hx rfl (hb hby at_222) rfl (XS.iload X196.here hx rfl (hb hby at_223) rfl kont))))) ?_
    show Go _ _ _ _ _ _ _ (T196.setTop (mkF m 225 #[.val (.int a1), .val (.int x1), .val (.int s1), .val (.int (3 : Int32)), .val (.int bb), .val (.int sen), .val (.ref b101), .val (.int (6 : Int32))] [(.int sen), (.int (3 : Int32)), (.int (6 : Int32)), (.ref b101)]))
    obtain ⟨_, _, ⟨T197, L197, k197, n197⟩, -, X197, ⟨Lc197, hQ197, l197, y197, z197⟩, st197⟩ := Jvm.LawKit.callS X196 hx (y := (⟨"com/example/pctenc/pctenc/EscapeWritePinLaw", "kept", "([CIIC)Z"⟩ : MethodName)) hown (mvT hZ (hw _ (List.mem_of_getElem? (i := 12) rfl))) (mvT hZ (hw _ (List.mem_of_getElem? (i := 13) rfl))) (mvT hZ (hw _ (List.mem_of_getElem? (i := 10) rfl))) (mvT hZ (hw _ (List.mem_of_getElem? (i := 14) rfl))) (by decide) (backOf (W := 0) (rmK36 l Z a0 hw [] b101 sen k101 (nar .char sen) (nar .char sen) (nar .char sen) (nar .char (37 : Int32)) (nar .char (own_hx ((bb.toUInt32 >>> ((4 : Int32) &&& 31).toUInt32).toInt32))) (nar .char (own_hx (bb &&& (15 : Int32)))) (nar .char sen) T181.heap n0 Z182 V181z hsen) hZ (hw _ (List.mem_of_getElem? (i := 14) rfl)) (hw _ (List.mem_of_getElem? (i := 10) rfl)) (by decide) (by decide)) (g := (mkF m 225 #[.val (.int a1), .val (.int x1), .val (.int s1), .val (.int (3 : Int32)), .val (.int bb), .val (.int sen), .val (.ref b101), .val (.int (6 : Int32))] [(.int sen), (.int (3 : Int32)), (.int (6 : Int32)), (.ref b101)])) rfl (by rw [hml]; rfl) (argsL := [(.ref b101), (.int (6 : Int32)), (.int (3 : Int32)), (.int sen)]) (rest := []) (lenOf pd0_2 rfl) rfl (by show 2 * 0 + _ ≤ _; exact Nat.le_of_eq rfl) (hb hby at_225) (fun _ _ => ⟨rfl, eh196, (by decide : 1 + 0 ≤ _), (by decide : 8 + 0 ≤ _)⟩)
    dsimp only [Pt.U, Pt.locs, Pt.cells, Pt.slots] at X197 l197 y197 z197 st197 hQ197
    subst l197 y197 z197
    obtain ⟨rfl, N197q, eh197⟩ := hQ197
    have N197 := Fr.app N196 N197q
    refine Go.by st197 ?_
    show Go _ _ _ _ _ _ _ (T197.setTop (mkF m 228 #[.val (.int a1), .val (.int x1), .val (.int s1), .val (.int (3 : Int32)), .val (.int bb), .val (.int sen), .val (.ref b101), .val (.int (6 : Int32))] [(.int (1 : Int32))]))
    refine Go.by (fun _ kont => XS.ifNo X197.here hx rfl (hb hby at_228) rfl (by decide) (XS.aload X197.here hx rfl (hb hby at_231) rfl rfl (XS.bipush X197.here hx rfl (hb hby at_233) (XS.iloadN X197.here hx rfl (hb hby at_235) rfl (XS.iload X197.here hx rfl (hb hby at_236) rfl kont))))) ?_
    show Go _ _ _ _ _ _ _ (T197.setTop (mkF m 238 #[.val (.int a1), .val (.int x1), .val (.int s1), .val (.int (3 : Int32)), .val (.int bb), .val (.int sen), .val (.ref b101), .val (.int (6 : Int32))] [(.int sen), (.int (3 : Int32)), (.int (7 : Int32)), (.ref b101)]))
    obtain ⟨_, _, ⟨T198, L198, k198, n198⟩, -, X198, ⟨Lc198, hQ198, l198, y198, z198⟩, st198⟩ := Jvm.LawKit.callS X197 hx (y := (⟨"com/example/pctenc/pctenc/EscapeWritePinLaw", "kept", "([CIIC)Z"⟩ : MethodName)) hown (mvT hZ (hw _ (List.mem_of_getElem? (i := 12) rfl))) (mvT hZ (hw _ (List.mem_of_getElem? (i := 13) rfl))) (mvT hZ (hw _ (List.mem_of_getElem? (i := 10) rfl))) (mvT hZ (hw _ (List.mem_of_getElem? (i := 14) rfl))) (by decide) (backOf (W := 0) (rmK37 l Z a0 hw [] b101 sen k101 (nar .char sen) (nar .char sen) (nar .char sen) (nar .char (37 : Int32)) (nar .char (own_hx ((bb.toUInt32 >>> ((4 : Int32) &&& 31).toUInt32).toInt32))) (nar .char (own_hx (bb &&& (15 : Int32)))) (nar .char sen) T181.heap n0 Z182 V181z hsen) hZ (hw _ (List.mem_of_getElem? (i := 14) rfl)) (hw _ (List.mem_of_getElem? (i := 10) rfl)) (by decide) (by decide)) (g := (mkF m 238 #[.val (.int a1), .val (.int x1), .val (.int s1), .val (.int (3 : Int32)), .val (.int bb), .val (.int sen), .val (.ref b101), .val (.int (6 : Int32))] [(.int sen), (.int (3 : Int32)), (.int (7 : Int32)), (.ref b101)])) rfl (by rw [hml]; rfl) (argsL := [(.ref b101), (.int (7 : Int32)), (.int (3 : Int32)), (.int sen)]) (rest := []) (lenOf pd0_2 rfl) rfl (by show 2 * 0 + _ ≤ _; exact Nat.le_of_eq rfl) (hb hby at_238) (fun _ _ => ⟨rfl, eh197, (by decide : 1 + 0 ≤ _), (by decide : 8 + 0 ≤ _)⟩)
    dsimp only [Pt.U, Pt.locs, Pt.cells, Pt.slots] at X198 l198 y198 z198 st198 hQ198
    subst l198 y198 z198
    obtain ⟨rfl, N198q, eh198⟩ := hQ198
    have N198 := Fr.app N197 N198q
    refine Go.by st198 ?_
    show Go _ _ _ _ _ _ _ (T198.setTop (mkF m 241 #[.val (.int a1), .val (.int x1), .val (.int s1), .val (.int (3 : Int32)), .val (.int bb), .val (.int sen), .val (.ref b101), .val (.int (6 : Int32))] [(.int (1 : Int32))]))
    refine Go.by (fun _ kont => XS.ifNo X198.here hx rfl (hb hby at_241) rfl (by decide) (XS.iconst X198.here hx rfl (hb hby at_244) (XS.goto X198.here hx rfl (pc0 := 245) (pc' := 249) rfl (hb hby at_245) (by decide) (by decide) kont))) ?_
    show Go _ _ _ _ _ _ _ (T198.setTop (mkF m 249 #[.val (.int a1), .val (.int x1), .val (.int s1), .val (.int (3 : Int32)), .val (.int bb), .val (.int sen), .val (.ref b101), .val (.int (6 : Int32))] [(.int (1 : Int32))]))
    refine Go.retN X198 hx (t := .boolean) hret (by simp) hlk (hb hby at_249) ?_ (by decide) (by decide)
    show Q0 Z h0 n0 (some (.int (1 : Int32))) T198.heap _
    rw [eh198]
    exact ⟨rfl, N198⟩
  · show Go _ _ _ _ _ _ _ (T125.setTop (mkF m 78 #[.val (.int a1), .val (.int x1), .val (.int s1), .val (.int (4 : Int32)), .val (.int bb), .val (.int sen), .val (.ref b101), .unset] []))
    refine Go.by (fun _ kont => XS.aload X125.here hx rfl (hb hby at_78) rfl rfl (XS.iloadN X125.here hx rfl (hb hby at_80) rfl (XS.iload X125.here hx rfl (hb hby at_81) rfl kont))) ?_
    show Go _ _ _ _ _ _ _ (T125.setTop (mkF m 83 #[.val (.int a1), .val (.int x1), .val (.int s1), .val (.int (4 : Int32)), .val (.int bb), .val (.int sen), .val (.ref b101), .unset] [(.int bb), (.int (4 : Int32)), (.ref b101)]))
    obtain ⟨_, _, ⟨T199, L199, k199, n199⟩, -, X199, ⟨Lc199, hQ199, l199, y199, z199⟩, st199⟩ := Jvm.LawKit.callS X125 hx (y := (⟨"com/example/pctenc/pctenc/Escape", "write", "([CII)I"⟩ : MethodName)) hown (mvT hZ (hw _ (List.mem_of_getElem? (i := 2) rfl))) (mvT hZ (hw _ (List.mem_of_getElem? (i := 3) rfl))) (mvT hZ (hw _ (List.mem_of_getElem? (i := 4) rfl))) (mvT hZ (hw _ (List.mem_of_getElem? (i := 5) rfl))) (by decide) (backOf (W := 0) (rmW4 l Z a0 hw [] b101 bb k101 s_UPPER_HEX kcx (nar .char sen) (nar .char sen) (nar .char sen) (nar .char sen) (nar .char sen) (nar .char sen) (nar .char sen) (nar .char sen) h125 n0 Z126 V125 V126_s_UPPER_HEX S126_UPPER_HEX ne_s_UPPER_HEX_b101 ge_b101 Bb) hZ (hw _ (List.mem_of_getElem? (i := 5) rfl)) (hw _ (List.mem_of_getElem? (i := 4) rfl)) (by decide) (by decide)) (g := (mkF m 83 #[.val (.int a1), .val (.int x1), .val (.int s1), .val (.int (4 : Int32)), .val (.int bb), .val (.int sen), .val (.ref b101), .unset] [(.int bb), (.int (4 : Int32)), (.ref b101)])) rfl (by rw [hml]; rfl) (argsL := [(.ref b101), (.int (4 : Int32)), (.int bb)]) (rest := []) (lenOf pd0_0 rfl) rfl (by show 2 * 0 + _ ≤ _; exact Nat.le_of_eq rfl) (hb hby at_83) (fun _ _ => ⟨rfl, e125, (by decide : 1 + 0 ≤ _), (by decide : 8 + 0 ≤ _)⟩)
    dsimp only [Pt.U, Pt.locs, Pt.cells, Pt.slots] at X199 l199 y199 z199 st199 hQ199
    subst l199 y199 z199
    obtain ⟨rfl, N199q, K199, V199z⟩ := hQ199
    have V200_s_UPPER_HEX := V126_s_UPPER_HEX.keep K199 (ninS ne_s_UPPER_HEX_b101 nin0)
    have Z200 := Nat.le_trans Z126 K199.1
    have K200 : Keep h0 T199.heap [] := Keep.trans K126 K199 (allS (Or.inr sz_b101) all0)
    have N199 := Fr.app N125 N199q
    refine Go.by st199 ?_
    show Go _ _ _ _ _ _ _ (T199.setTop (mkF m 86 #[.val (.int a1), .val (.int x1), .val (.int s1), .val (.int (4 : Int32)), .val (.int bb), .val (.int sen), .val (.ref b101), .unset] [(.int (7 : Int32))]))
    refine Go.by (fun _ kont => XS.istore X199.here hx rfl (hb hby at_86) rfl (l' := #[.val (.int a1), .val (.int x1), .val (.int s1), .val (.int (4 : Int32)), .val (.int bb), .val (.int sen), .val (.ref b101), .val (.int (7 : Int32))]) rfl (XS.iload X199.here hx rfl (hb hby at_88) rfl (XS.iloadN X199.here hx rfl (hb hby at_90) rfl (XS.iconst X199.here hx rfl (hb hby at_91) (XS.iadd X199.here hx rfl (hb hby at_92) rfl kont))))) ?_
    show Go _ _ _ _ _ _ _ (T199.setTop (mkF m 93 #[.val (.int a1), .val (.int x1), .val (.int s1), .val (.int (4 : Int32)), .val (.int bb), .val (.int sen), .val (.ref b101), .val (.int (7 : Int32))] [(.int ((4 : Int32) + (3 : Int32))), (.int (7 : Int32))]))
    rw [show ((4 : Int32) + (3 : Int32)) = (7 : Int32) from by decide]
    show Go _ _ _ _ _ _ _ (T199.setTop (mkF m 93 #[.val (.int a1), .val (.int x1), .val (.int s1), .val (.int (4 : Int32)), .val (.int bb), .val (.int sen), .val (.ref b101), .val (.int (7 : Int32))] [(.int (7 : Int32)), (.int (7 : Int32))]))
    refine Go.by (fun _ kont => XS.icmpYes X199.here hx rfl (pc0 := 93) (pc' := 98) rfl (hb hby at_93) rfl (by decide) (by decide) (by decide) (XS.aload X199.here hx rfl (hb hby at_98) rfl rfl (XS.iloadN X199.here hx rfl (hb hby at_100) rfl kont))) ?_
    show Go _ _ _ _ _ _ _ (T199.setTop (mkF m 101 #[.val (.int a1), .val (.int x1), .val (.int s1), .val (.int (4 : Int32)), .val (.int bb), .val (.int sen), .val (.ref b101), .val (.int (7 : Int32))] [(.int (4 : Int32)), (.ref b101)]))
    obtain ⟨cl_q201, Ar_q201, q1_q201, S_q201, N_q201, H_q201, G_q201⟩ := id V199z
    have hin_q201 : ¬ ((4 : Int32) < 0 ∨ cl_q201.slots.size ≤ ((4 : Int32)).toNatClampNeg) := inb_of S_q201 ⟨by decide, by decide⟩
    have hat_q201 : cl_q201.slots[((4 : Int32)).toNatClampNeg]? = some (.int (nar .char (37 : Int32))) := Has.at H_q201 hin_q201 rfl
    refine Go.by (X199.caload hx (j := (4 : Int32)) (v := (.int (nar .char (37 : Int32)))) (by first | exact Ar_q201.1 | (rw [rfl]; exact Ar_q201.1)) (State.isArrayOf_alike hZ.alike Ar_q201.2.1) Ar_q201.2.2 hin_q201 hat_q201 (g := (mkF m 101 #[.val (.int a1), .val (.int x1), .val (.int s1), .val (.int (4 : Int32)), .val (.int bb), .val (.int sen), .val (.ref b101), .val (.int (7 : Int32))] [(.int (4 : Int32)), (.ref b101)])) rfl rfl (hb hby at_101)) ?_
    show Go _ _ _ _ _ _ _ (T199.setTop (mkF m 102 #[.val (.int a1), .val (.int x1), .val (.int s1), .val (.int (4 : Int32)), .val (.int bb), .val (.int sen), .val (.ref b101), .val (.int (7 : Int32))] [(.int (nar .char (37 : Int32)))]))
    refine Go.by (fun _ kont => XS.bipush X199.here hx rfl (hb hby at_102) kont) ?_
    show Go _ _ _ _ _ _ _ (T199.setTop (mkF m 104 #[.val (.int a1), .val (.int x1), .val (.int s1), .val (.int (4 : Int32)), .val (.int bb), .val (.int sen), .val (.ref b101), .val (.int (7 : Int32))] [(.int (37 : Int32)), (.int (nar .char (37 : Int32)))]))
    have hd202 : (nar .char (37 : Int32)) = (37 : Int32) := by decide
    refine Go.by (fun _ kont => XS.icmpYes X199.here hx rfl (pc0 := 104) (pc' := 109) rfl (hb hby at_104) rfl (teq hd202).1 (by decide) (by decide) kont) ?_
    show Go _ _ _ _ _ _ _ (T199.setTop (mkF m 109 #[.val (.int a1), .val (.int x1), .val (.int s1), .val (.int (4 : Int32)), .val (.int bb), .val (.int sen), .val (.ref b101), .val (.int (7 : Int32))] []))
    refine Go.by (fun _ kont => XS.aload X199.here hx rfl (hb hby at_109) rfl rfl (XS.iloadN X199.here hx rfl (hb hby at_111) rfl (XS.iconst X199.here hx rfl (hb hby at_112) (XS.iadd X199.here hx rfl (hb hby at_113) rfl kont)))) ?_
    show Go _ _ _ _ _ _ _ (T199.setTop (mkF m 114 #[.val (.int a1), .val (.int x1), .val (.int s1), .val (.int (4 : Int32)), .val (.int bb), .val (.int sen), .val (.ref b101), .val (.int (7 : Int32))] [(.int ((4 : Int32) + (1 : Int32))), (.ref b101)]))
    rw [show ((4 : Int32) + (1 : Int32)) = (5 : Int32) from by decide]
    show Go _ _ _ _ _ _ _ (T199.setTop (mkF m 114 #[.val (.int a1), .val (.int x1), .val (.int s1), .val (.int (4 : Int32)), .val (.int bb), .val (.int sen), .val (.ref b101), .val (.int (7 : Int32))] [(.int (5 : Int32)), (.ref b101)]))
    obtain ⟨cl_q203, Ar_q203, q1_q203, S_q203, N_q203, H_q203, G_q203⟩ := id V199z
    have hin_q203 : ¬ ((5 : Int32) < 0 ∨ cl_q203.slots.size ≤ ((5 : Int32)).toNatClampNeg) := inb_of S_q203 ⟨by decide, by decide⟩
    have hat_q203 : cl_q203.slots[((5 : Int32)).toNatClampNeg]? = some (.int (nar .char (own_hx ((bb.toUInt32 >>> ((4 : Int32) &&& 31).toUInt32).toInt32)))) := Has.at H_q203 hin_q203 rfl
    refine Go.by (X199.caload hx (j := (5 : Int32)) (v := (.int (nar .char (own_hx ((bb.toUInt32 >>> ((4 : Int32) &&& 31).toUInt32).toInt32))))) (by first | exact Ar_q203.1 | (rw [rfl]; exact Ar_q203.1)) (State.isArrayOf_alike hZ.alike Ar_q203.2.1) Ar_q203.2.2 hin_q203 hat_q203 (g := (mkF m 114 #[.val (.int a1), .val (.int x1), .val (.int s1), .val (.int (4 : Int32)), .val (.int bb), .val (.int sen), .val (.ref b101), .val (.int (7 : Int32))] [(.int (5 : Int32)), (.ref b101)])) rfl rfl (hb hby at_114)) ?_
    show Go _ _ _ _ _ _ _ (T199.setTop (mkF m 115 #[.val (.int a1), .val (.int x1), .val (.int s1), .val (.int (4 : Int32)), .val (.int bb), .val (.int sen), .val (.ref b101), .val (.int (7 : Int32))] [(.int (nar .char (own_hx ((bb.toUInt32 >>> ((4 : Int32) &&& 31).toUInt32).toInt32))))]))
    refine Go.by (fun _ kont => XS.iload X199.here hx rfl (hb hby at_115) rfl (XS.iconst X199.here hx rfl (hb hby at_117) (XS.ishr X199.here hx rfl (hb hby at_118) rfl kont))) ?_
    show Go _ _ _ _ _ _ _ (T199.setTop (mkF m 119 #[.val (.int a1), .val (.int x1), .val (.int s1), .val (.int (4 : Int32)), .val (.int bb), .val (.int sen), .val (.ref b101), .val (.int (7 : Int32))] [(.int (bb >>> ((4 : Int32) &&& 31))), (.int (nar .char (own_hx ((bb.toUInt32 >>> ((4 : Int32) &&& 31).toUInt32).toInt32))))]))
    obtain ⟨_, _, ⟨T204, L204, k204, n204⟩, -, X204, ⟨Lc204, hQ204, l204, y204, z204⟩, st204⟩ := Jvm.LawKit.callS X199 hx (y := (⟨"com/example/pctenc/pctenc/EscapeWritePinLaw", "hex", "(I)C"⟩ : MethodName)) hown (mvT hZ (hw _ (List.mem_of_getElem? (i := 8) rfl))) (mvT hZ (hw _ (List.mem_of_getElem? (i := 9) rfl))) (mvT hZ (hw _ (List.mem_of_getElem? (i := 10) rfl))) (mvT hZ (hw _ (List.mem_of_getElem? (i := 11) rfl))) (by decide) (backOf (W := 1) (rmHx l Z a0 hw [] (bb >>> ((4 : Int32) &&& 31)) T199.heap n0 Z200 ) hZ (hw _ (List.mem_of_getElem? (i := 11) rfl)) (hw _ (List.mem_of_getElem? (i := 10) rfl)) (by decide) (by decide)) (g := (mkF m 119 #[.val (.int a1), .val (.int x1), .val (.int s1), .val (.int (4 : Int32)), .val (.int bb), .val (.int sen), .val (.ref b101), .val (.int (7 : Int32))] [(.int (bb >>> ((4 : Int32) &&& 31))), (.int (nar .char (own_hx ((bb.toUInt32 >>> ((4 : Int32) &&& 31).toUInt32).toInt32))))])) rfl (by rw [hml]; rfl) (argsL := [(.int (bb >>> ((4 : Int32) &&& 31)))]) (rest := [(.int (nar .char (own_hx ((bb.toUInt32 >>> ((4 : Int32) &&& 31).toUInt32).toInt32))))]) (lenOf pd0_1 rfl) rfl (by show 2 * 0 + _ ≤ _; exact Nat.le_of_eq rfl) (hb hby at_119) (fun _ _ => ⟨rfl, rfl, (by decide : 1 + 0 ≤ _), (by decide : 8 + 0 ≤ _)⟩)
    dsimp only [Pt.U, Pt.locs, Pt.cells, Pt.slots] at X204 l204 y204 z204 st204 hQ204
    subst l204 y204 z204
    obtain ⟨rfl, N204q, eh204⟩ := hQ204
    have N204 := Fr.app N199 N204q
    refine Go.by st204 ?_
    show Go _ _ _ _ _ _ _ (T204.setTop (mkF m 122 #[.val (.int a1), .val (.int x1), .val (.int s1), .val (.int (4 : Int32)), .val (.int bb), .val (.int sen), .val (.ref b101), .val (.int (7 : Int32))] [(.int (fHx (bb >>> ((4 : Int32) &&& 31)))), (.int (nar .char (own_hx ((bb.toUInt32 >>> ((4 : Int32) &&& 31).toUInt32).toInt32))))]))
    have hd205 : (nar .char (own_hx ((bb.toUInt32 >>> ((4 : Int32) &&& 31).toUInt32).toInt32))) = (fHx (bb >>> ((4 : Int32) &&& 31))) := own_hi bb Bb
    refine Go.by (fun _ kont => XS.icmpYes X204.here hx rfl (pc0 := 122) (pc' := 127) rfl (hb hby at_122) rfl (teq hd205).1 (by decide) (by decide) kont) ?_
    show Go _ _ _ _ _ _ _ (T204.setTop (mkF m 127 #[.val (.int a1), .val (.int x1), .val (.int s1), .val (.int (4 : Int32)), .val (.int bb), .val (.int sen), .val (.ref b101), .val (.int (7 : Int32))] []))
    refine Go.by (fun _ kont => XS.aload X204.here hx rfl (hb hby at_127) rfl rfl (XS.iloadN X204.here hx rfl (hb hby at_129) rfl (XS.iconst X204.here hx rfl (hb hby at_130) (XS.iadd X204.here hx rfl (hb hby at_131) rfl kont)))) ?_
    show Go _ _ _ _ _ _ _ (T204.setTop (mkF m 132 #[.val (.int a1), .val (.int x1), .val (.int s1), .val (.int (4 : Int32)), .val (.int bb), .val (.int sen), .val (.ref b101), .val (.int (7 : Int32))] [(.int ((4 : Int32) + (2 : Int32))), (.ref b101)]))
    rw [show ((4 : Int32) + (2 : Int32)) = (6 : Int32) from by decide]
    show Go _ _ _ _ _ _ _ (T204.setTop (mkF m 132 #[.val (.int a1), .val (.int x1), .val (.int s1), .val (.int (4 : Int32)), .val (.int bb), .val (.int sen), .val (.ref b101), .val (.int (7 : Int32))] [(.int (6 : Int32)), (.ref b101)]))
    obtain ⟨cl_q206, Ar_q206, q1_q206, S_q206, N_q206, H_q206, G_q206⟩ := id V199z
    have hin_q206 : ¬ ((6 : Int32) < 0 ∨ cl_q206.slots.size ≤ ((6 : Int32)).toNatClampNeg) := inb_of S_q206 ⟨by decide, by decide⟩
    have hat_q206 : cl_q206.slots[((6 : Int32)).toNatClampNeg]? = some (.int (nar .char (own_hx (bb &&& (15 : Int32))))) := Has.at H_q206 hin_q206 rfl
    refine Go.by (X204.caload hx (j := (6 : Int32)) (v := (.int (nar .char (own_hx (bb &&& (15 : Int32)))))) (by first | exact Ar_q206.1 | (rw [eh204]; exact Ar_q206.1)) (State.isArrayOf_alike hZ.alike Ar_q206.2.1) Ar_q206.2.2 hin_q206 hat_q206 (g := (mkF m 132 #[.val (.int a1), .val (.int x1), .val (.int s1), .val (.int (4 : Int32)), .val (.int bb), .val (.int sen), .val (.ref b101), .val (.int (7 : Int32))] [(.int (6 : Int32)), (.ref b101)])) rfl rfl (hb hby at_132)) ?_
    show Go _ _ _ _ _ _ _ (T204.setTop (mkF m 133 #[.val (.int a1), .val (.int x1), .val (.int s1), .val (.int (4 : Int32)), .val (.int bb), .val (.int sen), .val (.ref b101), .val (.int (7 : Int32))] [(.int (nar .char (own_hx (bb &&& (15 : Int32)))))]))
    refine Go.by (fun _ kont => XS.iload X204.here hx rfl (hb hby at_133) rfl (XS.bipush X204.here hx rfl (hb hby at_135) (XS.iand X204.here hx rfl (hb hby at_137) rfl kont))) ?_
    show Go _ _ _ _ _ _ _ (T204.setTop (mkF m 138 #[.val (.int a1), .val (.int x1), .val (.int s1), .val (.int (4 : Int32)), .val (.int bb), .val (.int sen), .val (.ref b101), .val (.int (7 : Int32))] [(.int (bb &&& (15 : Int32))), (.int (nar .char (own_hx (bb &&& (15 : Int32)))))]))
    obtain ⟨_, _, ⟨T207, L207, k207, n207⟩, -, X207, ⟨Lc207, hQ207, l207, y207, z207⟩, st207⟩ := Jvm.LawKit.callS X204 hx (y := (⟨"com/example/pctenc/pctenc/EscapeWritePinLaw", "hex", "(I)C"⟩ : MethodName)) hown (mvT hZ (hw _ (List.mem_of_getElem? (i := 8) rfl))) (mvT hZ (hw _ (List.mem_of_getElem? (i := 9) rfl))) (mvT hZ (hw _ (List.mem_of_getElem? (i := 10) rfl))) (mvT hZ (hw _ (List.mem_of_getElem? (i := 11) rfl))) (by decide) (backOf (W := 1) (rmHx l Z a0 hw [] (bb &&& (15 : Int32)) T199.heap n0 Z200 ) hZ (hw _ (List.mem_of_getElem? (i := 11) rfl)) (hw _ (List.mem_of_getElem? (i := 10) rfl)) (by decide) (by decide)) (g := (mkF m 138 #[.val (.int a1), .val (.int x1), .val (.int s1), .val (.int (4 : Int32)), .val (.int bb), .val (.int sen), .val (.ref b101), .val (.int (7 : Int32))] [(.int (bb &&& (15 : Int32))), (.int (nar .char (own_hx (bb &&& (15 : Int32)))))])) rfl (by rw [hml]; rfl) (argsL := [(.int (bb &&& (15 : Int32)))]) (rest := [(.int (nar .char (own_hx (bb &&& (15 : Int32)))))]) (lenOf pd0_1 rfl) rfl (by show 2 * 0 + _ ≤ _; exact Nat.le_of_eq rfl) (hb hby at_138) (fun _ _ => ⟨rfl, eh204, (by decide : 1 + 0 ≤ _), (by decide : 8 + 0 ≤ _)⟩)
    dsimp only [Pt.U, Pt.locs, Pt.cells, Pt.slots] at X207 l207 y207 z207 st207 hQ207
    subst l207 y207 z207
    obtain ⟨rfl, N207q, eh207⟩ := hQ207
    have N207 := Fr.app N204 N207q
    refine Go.by st207 ?_
    show Go _ _ _ _ _ _ _ (T207.setTop (mkF m 141 #[.val (.int a1), .val (.int x1), .val (.int s1), .val (.int (4 : Int32)), .val (.int bb), .val (.int sen), .val (.ref b101), .val (.int (7 : Int32))] [(.int (fHx (bb &&& (15 : Int32)))), (.int (nar .char (own_hx (bb &&& (15 : Int32)))))]))
    have hd208 : (nar .char (own_hx (bb &&& (15 : Int32)))) = (fHx (bb &&& (15 : Int32))) := own_dig _ (own_loB bb)
    refine Go.by (fun _ kont => XS.icmpYes X207.here hx rfl (pc0 := 141) (pc' := 146) rfl (hb hby at_141) rfl (teq hd208).1 (by decide) (by decide) kont) ?_
    show Go _ _ _ _ _ _ _ (T207.setTop (mkF m 146 #[.val (.int a1), .val (.int x1), .val (.int s1), .val (.int (4 : Int32)), .val (.int bb), .val (.int sen), .val (.ref b101), .val (.int (7 : Int32))] []))
    refine Go.by (fun _ kont => XS.aload X207.here hx rfl (hb hby at_146) rfl rfl (XS.iconst X207.here hx rfl (hb hby at_148) (XS.iloadN X207.here hx rfl (hb hby at_149) rfl (XS.iload X207.here hx rfl (hb hby at_150) rfl kont)))) ?_
    show Go _ _ _ _ _ _ _ (T207.setTop (mkF m 152 #[.val (.int a1), .val (.int x1), .val (.int s1), .val (.int (4 : Int32)), .val (.int bb), .val (.int sen), .val (.ref b101), .val (.int (7 : Int32))] [(.int sen), (.int (4 : Int32)), (.int (0 : Int32)), (.ref b101)]))
    obtain ⟨_, _, ⟨T209, L209, k209, n209⟩, -, X209, ⟨Lc209, hQ209, l209, y209, z209⟩, st209⟩ := Jvm.LawKit.callS X207 hx (y := (⟨"com/example/pctenc/pctenc/EscapeWritePinLaw", "kept", "([CIIC)Z"⟩ : MethodName)) hown (mvT hZ (hw _ (List.mem_of_getElem? (i := 12) rfl))) (mvT hZ (hw _ (List.mem_of_getElem? (i := 13) rfl))) (mvT hZ (hw _ (List.mem_of_getElem? (i := 10) rfl))) (mvT hZ (hw _ (List.mem_of_getElem? (i := 14) rfl))) (by decide) (backOf (W := 0) (rmK40 l Z a0 hw [] b101 sen k101 (nar .char sen) (nar .char sen) (nar .char sen) (nar .char (37 : Int32)) (nar .char (own_hx ((bb.toUInt32 >>> ((4 : Int32) &&& 31).toUInt32).toInt32))) (nar .char (own_hx (bb &&& (15 : Int32)))) (nar .char sen) T199.heap n0 Z200 V199z hsen) hZ (hw _ (List.mem_of_getElem? (i := 14) rfl)) (hw _ (List.mem_of_getElem? (i := 10) rfl)) (by decide) (by decide)) (g := (mkF m 152 #[.val (.int a1), .val (.int x1), .val (.int s1), .val (.int (4 : Int32)), .val (.int bb), .val (.int sen), .val (.ref b101), .val (.int (7 : Int32))] [(.int sen), (.int (4 : Int32)), (.int (0 : Int32)), (.ref b101)])) rfl (by rw [hml]; rfl) (argsL := [(.ref b101), (.int (0 : Int32)), (.int (4 : Int32)), (.int sen)]) (rest := []) (lenOf pd0_2 rfl) rfl (by show 2 * 0 + _ ≤ _; exact Nat.le_of_eq rfl) (hb hby at_152) (fun _ _ => ⟨rfl, eh207, (by decide : 1 + 0 ≤ _), (by decide : 8 + 0 ≤ _)⟩)
    dsimp only [Pt.U, Pt.locs, Pt.cells, Pt.slots] at X209 l209 y209 z209 st209 hQ209
    subst l209 y209 z209
    obtain ⟨rfl, N209q, eh209⟩ := hQ209
    have N209 := Fr.app N207 N209q
    refine Go.by st209 ?_
    show Go _ _ _ _ _ _ _ (T209.setTop (mkF m 155 #[.val (.int a1), .val (.int x1), .val (.int s1), .val (.int (4 : Int32)), .val (.int bb), .val (.int sen), .val (.ref b101), .val (.int (7 : Int32))] [(.int (1 : Int32))]))
    refine Go.by (fun _ kont => XS.ifNo X209.here hx rfl (hb hby at_155) rfl (by decide) (XS.aload X209.here hx rfl (hb hby at_158) rfl rfl (XS.iconst X209.here hx rfl (hb hby at_160) (XS.iloadN X209.here hx rfl (hb hby at_161) rfl (XS.iload X209.here hx rfl (hb hby at_162) rfl kont))))) ?_
    show Go _ _ _ _ _ _ _ (T209.setTop (mkF m 164 #[.val (.int a1), .val (.int x1), .val (.int s1), .val (.int (4 : Int32)), .val (.int bb), .val (.int sen), .val (.ref b101), .val (.int (7 : Int32))] [(.int sen), (.int (4 : Int32)), (.int (1 : Int32)), (.ref b101)]))
    obtain ⟨_, _, ⟨T210, L210, k210, n210⟩, -, X210, ⟨Lc210, hQ210, l210, y210, z210⟩, st210⟩ := Jvm.LawKit.callS X209 hx (y := (⟨"com/example/pctenc/pctenc/EscapeWritePinLaw", "kept", "([CIIC)Z"⟩ : MethodName)) hown (mvT hZ (hw _ (List.mem_of_getElem? (i := 12) rfl))) (mvT hZ (hw _ (List.mem_of_getElem? (i := 13) rfl))) (mvT hZ (hw _ (List.mem_of_getElem? (i := 10) rfl))) (mvT hZ (hw _ (List.mem_of_getElem? (i := 14) rfl))) (by decide) (backOf (W := 0) (rmK41 l Z a0 hw [] b101 sen k101 (nar .char sen) (nar .char sen) (nar .char sen) (nar .char (37 : Int32)) (nar .char (own_hx ((bb.toUInt32 >>> ((4 : Int32) &&& 31).toUInt32).toInt32))) (nar .char (own_hx (bb &&& (15 : Int32)))) (nar .char sen) T199.heap n0 Z200 V199z hsen) hZ (hw _ (List.mem_of_getElem? (i := 14) rfl)) (hw _ (List.mem_of_getElem? (i := 10) rfl)) (by decide) (by decide)) (g := (mkF m 164 #[.val (.int a1), .val (.int x1), .val (.int s1), .val (.int (4 : Int32)), .val (.int bb), .val (.int sen), .val (.ref b101), .val (.int (7 : Int32))] [(.int sen), (.int (4 : Int32)), (.int (1 : Int32)), (.ref b101)])) rfl (by rw [hml]; rfl) (argsL := [(.ref b101), (.int (1 : Int32)), (.int (4 : Int32)), (.int sen)]) (rest := []) (lenOf pd0_2 rfl) rfl (by show 2 * 0 + _ ≤ _; exact Nat.le_of_eq rfl) (hb hby at_164) (fun _ _ => ⟨rfl, eh209, (by decide : 1 + 0 ≤ _), (by decide : 8 + 0 ≤ _)⟩)
    dsimp only [Pt.U, Pt.locs, Pt.cells, Pt.slots] at X210 l210 y210 z210 st210 hQ210
    subst l210 y210 z210
    obtain ⟨rfl, N210q, eh210⟩ := hQ210
    have N210 := Fr.app N209 N210q
    refine Go.by st210 ?_
    show Go _ _ _ _ _ _ _ (T210.setTop (mkF m 167 #[.val (.int a1), .val (.int x1), .val (.int s1), .val (.int (4 : Int32)), .val (.int bb), .val (.int sen), .val (.ref b101), .val (.int (7 : Int32))] [(.int (1 : Int32))]))
    refine Go.by (fun _ kont => XS.ifNo X210.here hx rfl (hb hby at_167) rfl (by decide) (XS.aload X210.here hx rfl (hb hby at_170) rfl rfl (XS.iconst X210.here hx rfl (hb hby at_172) (XS.iloadN X210.here hx rfl (hb hby at_173) rfl (XS.iload X210.here hx rfl (hb hby at_174) rfl kont))))) ?_
    show Go _ _ _ _ _ _ _ (T210.setTop (mkF m 176 #[.val (.int a1), .val (.int x1), .val (.int s1), .val (.int (4 : Int32)), .val (.int bb), .val (.int sen), .val (.ref b101), .val (.int (7 : Int32))] [(.int sen), (.int (4 : Int32)), (.int (2 : Int32)), (.ref b101)]))
    obtain ⟨_, _, ⟨T211, L211, k211, n211⟩, -, X211, ⟨Lc211, hQ211, l211, y211, z211⟩, st211⟩ := Jvm.LawKit.callS X210 hx (y := (⟨"com/example/pctenc/pctenc/EscapeWritePinLaw", "kept", "([CIIC)Z"⟩ : MethodName)) hown (mvT hZ (hw _ (List.mem_of_getElem? (i := 12) rfl))) (mvT hZ (hw _ (List.mem_of_getElem? (i := 13) rfl))) (mvT hZ (hw _ (List.mem_of_getElem? (i := 10) rfl))) (mvT hZ (hw _ (List.mem_of_getElem? (i := 14) rfl))) (by decide) (backOf (W := 0) (rmK42 l Z a0 hw [] b101 sen k101 (nar .char sen) (nar .char sen) (nar .char sen) (nar .char (37 : Int32)) (nar .char (own_hx ((bb.toUInt32 >>> ((4 : Int32) &&& 31).toUInt32).toInt32))) (nar .char (own_hx (bb &&& (15 : Int32)))) (nar .char sen) T199.heap n0 Z200 V199z hsen) hZ (hw _ (List.mem_of_getElem? (i := 14) rfl)) (hw _ (List.mem_of_getElem? (i := 10) rfl)) (by decide) (by decide)) (g := (mkF m 176 #[.val (.int a1), .val (.int x1), .val (.int s1), .val (.int (4 : Int32)), .val (.int bb), .val (.int sen), .val (.ref b101), .val (.int (7 : Int32))] [(.int sen), (.int (4 : Int32)), (.int (2 : Int32)), (.ref b101)])) rfl (by rw [hml]; rfl) (argsL := [(.ref b101), (.int (2 : Int32)), (.int (4 : Int32)), (.int sen)]) (rest := []) (lenOf pd0_2 rfl) rfl (by show 2 * 0 + _ ≤ _; exact Nat.le_of_eq rfl) (hb hby at_176) (fun _ _ => ⟨rfl, eh210, (by decide : 1 + 0 ≤ _), (by decide : 8 + 0 ≤ _)⟩)
    dsimp only [Pt.U, Pt.locs, Pt.cells, Pt.slots] at X211 l211 y211 z211 st211 hQ211
    subst l211 y211 z211
    obtain ⟨rfl, N211q, eh211⟩ := hQ211
    have N211 := Fr.app N210 N211q
    refine Go.by st211 ?_
    show Go _ _ _ _ _ _ _ (T211.setTop (mkF m 179 #[.val (.int a1), .val (.int x1), .val (.int s1), .val (.int (4 : Int32)), .val (.int bb), .val (.int sen), .val (.ref b101), .val (.int (7 : Int32))] [(.int (1 : Int32))]))
    refine Go.by (fun _ kont => XS.ifNo X211.here hx rfl (hb hby at_179) rfl (by decide) (XS.aload X211.here hx rfl (hb hby at_182) rfl rfl (XS.iconst X211.here hx rfl (hb hby at_184) (XS.iloadN X211.here hx rfl (hb hby at_185) rfl (XS.iload X211.here hx rfl (hb hby at_186) rfl kont))))) ?_
    show Go _ _ _ _ _ _ _ (T211.setTop (mkF m 188 #[.val (.int a1), .val (.int x1), .val (.int s1), .val (.int (4 : Int32)), .val (.int bb), .val (.int sen), .val (.ref b101), .val (.int (7 : Int32))] [(.int sen), (.int (4 : Int32)), (.int (3 : Int32)), (.ref b101)]))
    obtain ⟨_, _, ⟨T212, L212, k212, n212⟩, -, X212, ⟨Lc212, hQ212, l212, y212, z212⟩, st212⟩ := Jvm.LawKit.callS X211 hx (y := (⟨"com/example/pctenc/pctenc/EscapeWritePinLaw", "kept", "([CIIC)Z"⟩ : MethodName)) hown (mvT hZ (hw _ (List.mem_of_getElem? (i := 12) rfl))) (mvT hZ (hw _ (List.mem_of_getElem? (i := 13) rfl))) (mvT hZ (hw _ (List.mem_of_getElem? (i := 10) rfl))) (mvT hZ (hw _ (List.mem_of_getElem? (i := 14) rfl))) (by decide) (backOf (W := 0) (rmK43 l Z a0 hw [] b101 sen k101 (nar .char sen) (nar .char sen) (nar .char sen) (nar .char (37 : Int32)) (nar .char (own_hx ((bb.toUInt32 >>> ((4 : Int32) &&& 31).toUInt32).toInt32))) (nar .char (own_hx (bb &&& (15 : Int32)))) (nar .char sen) T199.heap n0 Z200 V199z hsen) hZ (hw _ (List.mem_of_getElem? (i := 14) rfl)) (hw _ (List.mem_of_getElem? (i := 10) rfl)) (by decide) (by decide)) (g := (mkF m 188 #[.val (.int a1), .val (.int x1), .val (.int s1), .val (.int (4 : Int32)), .val (.int bb), .val (.int sen), .val (.ref b101), .val (.int (7 : Int32))] [(.int sen), (.int (4 : Int32)), (.int (3 : Int32)), (.ref b101)])) rfl (by rw [hml]; rfl) (argsL := [(.ref b101), (.int (3 : Int32)), (.int (4 : Int32)), (.int sen)]) (rest := []) (lenOf pd0_2 rfl) rfl (by show 2 * 0 + _ ≤ _; exact Nat.le_of_eq rfl) (hb hby at_188) (fun _ _ => ⟨rfl, eh211, (by decide : 1 + 0 ≤ _), (by decide : 8 + 0 ≤ _)⟩)
    dsimp only [Pt.U, Pt.locs, Pt.cells, Pt.slots] at X212 l212 y212 z212 st212 hQ212
    subst l212 y212 z212
    obtain ⟨rfl, N212q, eh212⟩ := hQ212
    have N212 := Fr.app N211 N212q
    refine Go.by st212 ?_
    show Go _ _ _ _ _ _ _ (T212.setTop (mkF m 191 #[.val (.int a1), .val (.int x1), .val (.int s1), .val (.int (4 : Int32)), .val (.int bb), .val (.int sen), .val (.ref b101), .val (.int (7 : Int32))] [(.int (1 : Int32))]))
    refine Go.by (fun _ kont => XS.ifNo X212.here hx rfl (hb hby at_191) rfl (by decide) (XS.aload X212.here hx rfl (hb hby at_194) rfl rfl (XS.iconst X212.here hx rfl (hb hby at_196) (XS.iloadN X212.here hx rfl (hb hby at_197) rfl (XS.iload X212.here hx rfl (hb hby at_198) rfl kont))))) ?_
    show Go _ _ _ _ _ _ _ (T212.setTop (mkF m 200 #[.val (.int a1), .val (.int x1), .val (.int s1), .val (.int (4 : Int32)), .val (.int bb), .val (.int sen), .val (.ref b101), .val (.int (7 : Int32))] [(.int sen), (.int (4 : Int32)), (.int (4 : Int32)), (.ref b101)]))
    obtain ⟨_, _, ⟨T213, L213, k213, n213⟩, -, X213, ⟨Lc213, hQ213, l213, y213, z213⟩, st213⟩ := Jvm.LawKit.callS X212 hx (y := (⟨"com/example/pctenc/pctenc/EscapeWritePinLaw", "kept", "([CIIC)Z"⟩ : MethodName)) hown (mvT hZ (hw _ (List.mem_of_getElem? (i := 12) rfl))) (mvT hZ (hw _ (List.mem_of_getElem? (i := 13) rfl))) (mvT hZ (hw _ (List.mem_of_getElem? (i := 10) rfl))) (mvT hZ (hw _ (List.mem_of_getElem? (i := 14) rfl))) (by decide) (backOf (W := 0) (rmK44 l Z a0 hw [] b101 sen T199.heap n0 Z200 ) hZ (hw _ (List.mem_of_getElem? (i := 14) rfl)) (hw _ (List.mem_of_getElem? (i := 10) rfl)) (by decide) (by decide)) (g := (mkF m 200 #[.val (.int a1), .val (.int x1), .val (.int s1), .val (.int (4 : Int32)), .val (.int bb), .val (.int sen), .val (.ref b101), .val (.int (7 : Int32))] [(.int sen), (.int (4 : Int32)), (.int (4 : Int32)), (.ref b101)])) rfl (by rw [hml]; rfl) (argsL := [(.ref b101), (.int (4 : Int32)), (.int (4 : Int32)), (.int sen)]) (rest := []) (lenOf pd0_2 rfl) rfl (by show 2 * 0 + _ ≤ _; exact Nat.le_of_eq rfl) (hb hby at_200) (fun _ _ => ⟨rfl, eh212, (by decide : 1 + 0 ≤ _), (by decide : 8 + 0 ≤ _)⟩)
    dsimp only [Pt.U, Pt.locs, Pt.cells, Pt.slots] at X213 l213 y213 z213 st213 hQ213
    subst l213 y213 z213
    obtain ⟨rfl, N213q, eh213⟩ := hQ213
    have N213 := Fr.app N212 N213q
    refine Go.by st213 ?_
    show Go _ _ _ _ _ _ _ (T213.setTop (mkF m 203 #[.val (.int a1), .val (.int x1), .val (.int s1), .val (.int (4 : Int32)), .val (.int bb), .val (.int sen), .val (.ref b101), .val (.int (7 : Int32))] [(.int (1 : Int32))]))
    refine Go.by (fun _ kont => XS.ifNo X213.here hx rfl (hb hby at_203) rfl (by decide) (XS.aload X213.here hx rfl (hb hby at_206) rfl rfl (XS.iconst X213.here hx rfl (hb hby at_208) (XS.iloadN X213.here hx rfl (hb hby at_209) rfl (XS.iload X213.here hx rfl (hb hby at_210) rfl kont))))) ?_
    show Go _ _ _ _ _ _ _ (T213.setTop (mkF m 212 #[.val (.int a1), .val (.int x1), .val (.int s1), .val (.int (4 : Int32)), .val (.int bb), .val (.int sen), .val (.ref b101), .val (.int (7 : Int32))] [(.int sen), (.int (4 : Int32)), (.int (5 : Int32)), (.ref b101)]))
    obtain ⟨_, _, ⟨T214, L214, k214, n214⟩, -, X214, ⟨Lc214, hQ214, l214, y214, z214⟩, st214⟩ := Jvm.LawKit.callS X213 hx (y := (⟨"com/example/pctenc/pctenc/EscapeWritePinLaw", "kept", "([CIIC)Z"⟩ : MethodName)) hown (mvT hZ (hw _ (List.mem_of_getElem? (i := 12) rfl))) (mvT hZ (hw _ (List.mem_of_getElem? (i := 13) rfl))) (mvT hZ (hw _ (List.mem_of_getElem? (i := 10) rfl))) (mvT hZ (hw _ (List.mem_of_getElem? (i := 14) rfl))) (by decide) (backOf (W := 0) (rmK45 l Z a0 hw [] b101 sen T199.heap n0 Z200 ) hZ (hw _ (List.mem_of_getElem? (i := 14) rfl)) (hw _ (List.mem_of_getElem? (i := 10) rfl)) (by decide) (by decide)) (g := (mkF m 212 #[.val (.int a1), .val (.int x1), .val (.int s1), .val (.int (4 : Int32)), .val (.int bb), .val (.int sen), .val (.ref b101), .val (.int (7 : Int32))] [(.int sen), (.int (4 : Int32)), (.int (5 : Int32)), (.ref b101)])) rfl (by rw [hml]; rfl) (argsL := [(.ref b101), (.int (5 : Int32)), (.int (4 : Int32)), (.int sen)]) (rest := []) (lenOf pd0_2 rfl) rfl (by show 2 * 0 + _ ≤ _; exact Nat.le_of_eq rfl) (hb hby at_212) (fun _ _ => ⟨rfl, eh213, (by decide : 1 + 0 ≤ _), (by decide : 8 + 0 ≤ _)⟩)
    dsimp only [Pt.U, Pt.locs, Pt.cells, Pt.slots] at X214 l214 y214 z214 st214 hQ214
    subst l214 y214 z214
    obtain ⟨rfl, N214q, eh214⟩ := hQ214
    have N214 := Fr.app N213 N214q
    refine Go.by st214 ?_
    show Go _ _ _ _ _ _ _ (T214.setTop (mkF m 215 #[.val (.int a1), .val (.int x1), .val (.int s1), .val (.int (4 : Int32)), .val (.int bb), .val (.int sen), .val (.ref b101), .val (.int (7 : Int32))] [(.int (1 : Int32))]))
    refine Go.by (fun _ kont => XS.ifNo X214.here hx rfl (hb hby at_215) rfl (by decide) (XS.aload X214.here hx rfl (hb hby at_218) rfl rfl (XS.bipush X214.here hx rfl (hb hby at_220) (XS.iloadN X214.here hx rfl (hb hby at_222) rfl (XS.iload X214.here hx rfl (hb hby at_223) rfl kont))))) ?_
    show Go _ _ _ _ _ _ _ (T214.setTop (mkF m 225 #[.val (.int a1), .val (.int x1), .val (.int s1), .val (.int (4 : Int32)), .val (.int bb), .val (.int sen), .val (.ref b101), .val (.int (7 : Int32))] [(.int sen), (.int (4 : Int32)), (.int (6 : Int32)), (.ref b101)]))
    obtain ⟨_, _, ⟨T215, L215, k215, n215⟩, -, X215, ⟨Lc215, hQ215, l215, y215, z215⟩, st215⟩ := Jvm.LawKit.callS X214 hx (y := (⟨"com/example/pctenc/pctenc/EscapeWritePinLaw", "kept", "([CIIC)Z"⟩ : MethodName)) hown (mvT hZ (hw _ (List.mem_of_getElem? (i := 12) rfl))) (mvT hZ (hw _ (List.mem_of_getElem? (i := 13) rfl))) (mvT hZ (hw _ (List.mem_of_getElem? (i := 10) rfl))) (mvT hZ (hw _ (List.mem_of_getElem? (i := 14) rfl))) (by decide) (backOf (W := 0) (rmK46 l Z a0 hw [] b101 sen T199.heap n0 Z200 ) hZ (hw _ (List.mem_of_getElem? (i := 14) rfl)) (hw _ (List.mem_of_getElem? (i := 10) rfl)) (by decide) (by decide)) (g := (mkF m 225 #[.val (.int a1), .val (.int x1), .val (.int s1), .val (.int (4 : Int32)), .val (.int bb), .val (.int sen), .val (.ref b101), .val (.int (7 : Int32))] [(.int sen), (.int (4 : Int32)), (.int (6 : Int32)), (.ref b101)])) rfl (by rw [hml]; rfl) (argsL := [(.ref b101), (.int (6 : Int32)), (.int (4 : Int32)), (.int sen)]) (rest := []) (lenOf pd0_2 rfl) rfl (by show 2 * 0 + _ ≤ _; exact Nat.le_of_eq rfl) (hb hby at_225) (fun _ _ => ⟨rfl, eh214, (by decide : 1 + 0 ≤ _), (by decide : 8 + 0 ≤ _)⟩)
    dsimp only [Pt.U, Pt.locs, Pt.cells, Pt.slots] at X215 l215 y215 z215 st215 hQ215
    subst l215 y215 z215
    obtain ⟨rfl, N215q, eh215⟩ := hQ215
    have N215 := Fr.app N214 N215q
    refine Go.by st215 ?_
    show Go _ _ _ _ _ _ _ (T215.setTop (mkF m 228 #[.val (.int a1), .val (.int x1), .val (.int s1), .val (.int (4 : Int32)), .val (.int bb), .val (.int sen), .val (.ref b101), .val (.int (7 : Int32))] [(.int (1 : Int32))]))
    refine Go.by (fun _ kont => XS.ifNo X215.here hx rfl (hb hby at_228) rfl (by decide) (XS.aload X215.here hx rfl (hb hby at_231) rfl rfl (XS.bipush X215.here hx rfl (hb hby at_233) (XS.iloadN X215.here hx rfl (hb hby at_235) rfl (XS.iload X215.here hx rfl (hb hby at_236) rfl kont))))) ?_
    show Go _ _ _ _ _ _ _ (T215.setTop (mkF m 238 #[.val (.int a1), .val (.int x1), .val (.int s1), .val (.int (4 : Int32)), .val (.int bb), .val (.int sen), .val (.ref b101), .val (.int (7 : Int32))] [(.int sen), (.int (4 : Int32)), (.int (7 : Int32)), (.ref b101)]))
    obtain ⟨_, _, ⟨T216, L216, k216, n216⟩, -, X216, ⟨Lc216, hQ216, l216, y216, z216⟩, st216⟩ := Jvm.LawKit.callS X215 hx (y := (⟨"com/example/pctenc/pctenc/EscapeWritePinLaw", "kept", "([CIIC)Z"⟩ : MethodName)) hown (mvT hZ (hw _ (List.mem_of_getElem? (i := 12) rfl))) (mvT hZ (hw _ (List.mem_of_getElem? (i := 13) rfl))) (mvT hZ (hw _ (List.mem_of_getElem? (i := 10) rfl))) (mvT hZ (hw _ (List.mem_of_getElem? (i := 14) rfl))) (by decide) (backOf (W := 0) (rmK47 l Z a0 hw [] b101 sen k101 (nar .char sen) (nar .char sen) (nar .char sen) (nar .char sen) (nar .char (37 : Int32)) (nar .char (own_hx ((bb.toUInt32 >>> ((4 : Int32) &&& 31).toUInt32).toInt32))) (nar .char (own_hx (bb &&& (15 : Int32)))) T199.heap n0 Z200 V199z hsen) hZ (hw _ (List.mem_of_getElem? (i := 14) rfl)) (hw _ (List.mem_of_getElem? (i := 10) rfl)) (by decide) (by decide)) (g := (mkF m 238 #[.val (.int a1), .val (.int x1), .val (.int s1), .val (.int (4 : Int32)), .val (.int bb), .val (.int sen), .val (.ref b101), .val (.int (7 : Int32))] [(.int sen), (.int (4 : Int32)), (.int (7 : Int32)), (.ref b101)])) rfl (by rw [hml]; rfl) (argsL := [(.ref b101), (.int (7 : Int32)), (.int (4 : Int32)), (.int sen)]) (rest := []) (lenOf pd0_2 rfl) rfl (by show 2 * 0 + _ ≤ _; exact Nat.le_of_eq rfl) (hb hby at_238) (fun _ _ => ⟨rfl, eh215, (by decide : 1 + 0 ≤ _), (by decide : 8 + 0 ≤ _)⟩)
    dsimp only [Pt.U, Pt.locs, Pt.cells, Pt.slots] at X216 l216 y216 z216 st216 hQ216
    subst l216 y216 z216
    obtain ⟨rfl, N216q, eh216⟩ := hQ216
    have N216 := Fr.app N215 N216q
    refine Go.by st216 ?_
    show Go _ _ _ _ _ _ _ (T216.setTop (mkF m 241 #[.val (.int a1), .val (.int x1), .val (.int s1), .val (.int (4 : Int32)), .val (.int bb), .val (.int sen), .val (.ref b101), .val (.int (7 : Int32))] [(.int (1 : Int32))]))
    refine Go.by (fun _ kont => XS.ifNo X216.here hx rfl (hb hby at_241) rfl (by decide) (XS.iconst X216.here hx rfl (hb hby at_244) (XS.goto X216.here hx rfl (pc0 := 245) (pc' := 249) rfl (hb hby at_245) (by decide) (by decide) kont))) ?_
    show Go _ _ _ _ _ _ _ (T216.setTop (mkF m 249 #[.val (.int a1), .val (.int x1), .val (.int s1), .val (.int (4 : Int32)), .val (.int bb), .val (.int sen), .val (.ref b101), .val (.int (7 : Int32))] [(.int (1 : Int32))]))
    refine Go.retN X216 hx (t := .boolean) hret (by simp) hlk (hb hby at_249) ?_ (by decide) (by decide)
    show Q0 Z h0 n0 (some (.int (1 : Int32))) T216.heap _
    rw [eh216]
    exact ⟨rfl, N216⟩
  · show Go _ _ _ _ _ _ _ (T125.setTop (mkF m 78 #[.val (.int a1), .val (.int x1), .val (.int s1), .val (.int (5 : Int32)), .val (.int bb), .val (.int sen), .val (.ref b101), .unset] []))
    refine Go.by (fun _ kont => XS.aload X125.here hx rfl (hb hby at_78) rfl rfl (XS.iloadN X125.here hx rfl (hb hby at_80) rfl (XS.iload X125.here hx rfl (hb hby at_81) rfl kont))) ?_
    show Go _ _ _ _ _ _ _ (T125.setTop (mkF m 83 #[.val (.int a1), .val (.int x1), .val (.int s1), .val (.int (5 : Int32)), .val (.int bb), .val (.int sen), .val (.ref b101), .unset] [(.int bb), (.int (5 : Int32)), (.ref b101)]))
    obtain ⟨_, _, ⟨T217, L217, k217, n217⟩, -, X217, ⟨Lc217, hQ217, l217, y217, z217⟩, st217⟩ := Jvm.LawKit.callS X125 hx (y := (⟨"com/example/pctenc/pctenc/Escape", "write", "([CII)I"⟩ : MethodName)) hown (mvT hZ (hw _ (List.mem_of_getElem? (i := 2) rfl))) (mvT hZ (hw _ (List.mem_of_getElem? (i := 3) rfl))) (mvT hZ (hw _ (List.mem_of_getElem? (i := 4) rfl))) (mvT hZ (hw _ (List.mem_of_getElem? (i := 5) rfl))) (by decide) (backOf (W := 0) (rmW5 l Z a0 hw [] b101 bb k101 s_UPPER_HEX kcx (nar .char sen) (nar .char sen) (nar .char sen) (nar .char sen) (nar .char sen) (nar .char sen) (nar .char sen) (nar .char sen) h125 n0 Z126 V125 V126_s_UPPER_HEX S126_UPPER_HEX ne_s_UPPER_HEX_b101 ge_b101 Bb) hZ (hw _ (List.mem_of_getElem? (i := 5) rfl)) (hw _ (List.mem_of_getElem? (i := 4) rfl)) (by decide) (by decide)) (g := (mkF m 83 #[.val (.int a1), .val (.int x1), .val (.int s1), .val (.int (5 : Int32)), .val (.int bb), .val (.int sen), .val (.ref b101), .unset] [(.int bb), (.int (5 : Int32)), (.ref b101)])) rfl (by rw [hml]; rfl) (argsL := [(.ref b101), (.int (5 : Int32)), (.int bb)]) (rest := []) (lenOf pd0_0 rfl) rfl (by show 2 * 0 + _ ≤ _; exact Nat.le_of_eq rfl) (hb hby at_83) (fun _ _ => ⟨rfl, e125, (by decide : 1 + 0 ≤ _), (by decide : 8 + 0 ≤ _)⟩)
    dsimp only [Pt.U, Pt.locs, Pt.cells, Pt.slots] at X217 l217 y217 z217 st217 hQ217
    subst l217 y217 z217
    obtain ⟨rfl, N217q, K217, V217z⟩ := hQ217
    have V218_s_UPPER_HEX := V126_s_UPPER_HEX.keep K217 (ninS ne_s_UPPER_HEX_b101 nin0)
    have Z218 := Nat.le_trans Z126 K217.1
    have K218 : Keep h0 T217.heap [] := Keep.trans K126 K217 (allS (Or.inr sz_b101) all0)
    have N217 := Fr.app N125 N217q
    refine Go.by st217 ?_
    show Go _ _ _ _ _ _ _ (T217.setTop (mkF m 86 #[.val (.int a1), .val (.int x1), .val (.int s1), .val (.int (5 : Int32)), .val (.int bb), .val (.int sen), .val (.ref b101), .unset] [(.int (8 : Int32))]))
    refine Go.by (fun _ kont => XS.istore X217.here hx rfl (hb hby at_86) rfl (l' := #[.val (.int a1), .val (.int x1), .val (.int s1), .val (.int (5 : Int32)), .val (.int bb), .val (.int sen), .val (.ref b101), .val (.int (8 : Int32))]) rfl (XS.iload X217.here hx rfl (hb hby at_88) rfl (XS.iloadN X217.here hx rfl (hb hby at_90) rfl (XS.iconst X217.here hx rfl (hb hby at_91) (XS.iadd X217.here hx rfl (hb hby at_92) rfl kont))))) ?_
    show Go _ _ _ _ _ _ _ (T217.setTop (mkF m 93 #[.val (.int a1), .val (.int x1), .val (.int s1), .val (.int (5 : Int32)), .val (.int bb), .val (.int sen), .val (.ref b101), .val (.int (8 : Int32))] [(.int ((5 : Int32) + (3 : Int32))), (.int (8 : Int32))]))
    rw [show ((5 : Int32) + (3 : Int32)) = (8 : Int32) from by decide]
    show Go _ _ _ _ _ _ _ (T217.setTop (mkF m 93 #[.val (.int a1), .val (.int x1), .val (.int s1), .val (.int (5 : Int32)), .val (.int bb), .val (.int sen), .val (.ref b101), .val (.int (8 : Int32))] [(.int (8 : Int32)), (.int (8 : Int32))]))
    refine Go.by (fun _ kont => XS.icmpYes X217.here hx rfl (pc0 := 93) (pc' := 98) rfl (hb hby at_93) rfl (by decide) (by decide) (by decide) (XS.aload X217.here hx rfl (hb hby at_98) rfl rfl (XS.iloadN X217.here hx rfl (hb hby at_100) rfl kont))) ?_
    show Go _ _ _ _ _ _ _ (T217.setTop (mkF m 101 #[.val (.int a1), .val (.int x1), .val (.int s1), .val (.int (5 : Int32)), .val (.int bb), .val (.int sen), .val (.ref b101), .val (.int (8 : Int32))] [(.int (5 : Int32)), (.ref b101)]))
    obtain ⟨cl_q219, Ar_q219, q1_q219, S_q219, N_q219, H_q219, G_q219⟩ := id V217z
    have hin_q219 : ¬ ((5 : Int32) < 0 ∨ cl_q219.slots.size ≤ ((5 : Int32)).toNatClampNeg) := inb_of S_q219 ⟨by decide, by decide⟩
    have hat_q219 : cl_q219.slots[((5 : Int32)).toNatClampNeg]? = some (.int (nar .char (37 : Int32))) := Has.at H_q219 hin_q219 rfl
    refine Go.by (X217.caload hx (j := (5 : Int32)) (v := (.int (nar .char (37 : Int32)))) (by first | exact Ar_q219.1 | (rw [rfl]; exact Ar_q219.1)) (State.isArrayOf_alike hZ.alike Ar_q219.2.1) Ar_q219.2.2 hin_q219 hat_q219 (g := (mkF m 101 #[.val (.int a1), .val (.int x1), .val (.int s1), .val (.int (5 : Int32)), .val (.int bb), .val (.int sen), .val (.ref b101), .val (.int (8 : Int32))] [(.int (5 : Int32)), (.ref b101)])) rfl rfl (hb hby at_101)) ?_
    show Go _ _ _ _ _ _ _ (T217.setTop (mkF m 102 #[.val (.int a1), .val (.int x1), .val (.int s1), .val (.int (5 : Int32)), .val (.int bb), .val (.int sen), .val (.ref b101), .val (.int (8 : Int32))] [(.int (nar .char (37 : Int32)))]))
    refine Go.by (fun _ kont => XS.bipush X217.here hx rfl (hb hby at_102) kont) ?_
    show Go _ _ _ _ _ _ _ (T217.setTop (mkF m 104 #[.val (.int a1), .val (.int x1), .val (.int s1), .val (.int (5 : Int32)), .val (.int bb), .val (.int sen), .val (.ref b101), .val (.int (8 : Int32))] [(.int (37 : Int32)), (.int (nar .char (37 : Int32)))]))
    have hd220 : (nar .char (37 : Int32)) = (37 : Int32) := by decide
    refine Go.by (fun _ kont => XS.icmpYes X217.here hx rfl (pc0 := 104) (pc' := 109) rfl (hb hby at_104) rfl (teq hd220).1 (by decide) (by decide) kont) ?_
    show Go _ _ _ _ _ _ _ (T217.setTop (mkF m 109 #[.val (.int a1), .val (.int x1), .val (.int s1), .val (.int (5 : Int32)), .val (.int bb), .val (.int sen), .val (.ref b101), .val (.int (8 : Int32))] []))
    refine Go.by (fun _ kont => XS.aload X217.here hx rfl (hb hby at_109) rfl rfl (XS.iloadN X217.here hx rfl (hb hby at_111) rfl (XS.iconst X217.here hx rfl (hb hby at_112) (XS.iadd X217.here hx rfl (hb hby at_113) rfl kont)))) ?_
    show Go _ _ _ _ _ _ _ (T217.setTop (mkF m 114 #[.val (.int a1), .val (.int x1), .val (.int s1), .val (.int (5 : Int32)), .val (.int bb), .val (.int sen), .val (.ref b101), .val (.int (8 : Int32))] [(.int ((5 : Int32) + (1 : Int32))), (.ref b101)]))
    rw [show ((5 : Int32) + (1 : Int32)) = (6 : Int32) from by decide]
    show Go _ _ _ _ _ _ _ (T217.setTop (mkF m 114 #[.val (.int a1), .val (.int x1), .val (.int s1), .val (.int (5 : Int32)), .val (.int bb), .val (.int sen), .val (.ref b101), .val (.int (8 : Int32))] [(.int (6 : Int32)), (.ref b101)]))
    obtain ⟨cl_q221, Ar_q221, q1_q221, S_q221, N_q221, H_q221, G_q221⟩ := id V217z
    have hin_q221 : ¬ ((6 : Int32) < 0 ∨ cl_q221.slots.size ≤ ((6 : Int32)).toNatClampNeg) := inb_of S_q221 ⟨by decide, by decide⟩
    have hat_q221 : cl_q221.slots[((6 : Int32)).toNatClampNeg]? = some (.int (nar .char (own_hx ((bb.toUInt32 >>> ((4 : Int32) &&& 31).toUInt32).toInt32)))) := Has.at H_q221 hin_q221 rfl
    refine Go.by (X217.caload hx (j := (6 : Int32)) (v := (.int (nar .char (own_hx ((bb.toUInt32 >>> ((4 : Int32) &&& 31).toUInt32).toInt32))))) (by first | exact Ar_q221.1 | (rw [rfl]; exact Ar_q221.1)) (State.isArrayOf_alike hZ.alike Ar_q221.2.1) Ar_q221.2.2 hin_q221 hat_q221 (g := (mkF m 114 #[.val (.int a1), .val (.int x1), .val (.int s1), .val (.int (5 : Int32)), .val (.int bb), .val (.int sen), .val (.ref b101), .val (.int (8 : Int32))] [(.int (6 : Int32)), (.ref b101)])) rfl rfl (hb hby at_114)) ?_
    show Go _ _ _ _ _ _ _ (T217.setTop (mkF m 115 #[.val (.int a1), .val (.int x1), .val (.int s1), .val (.int (5 : Int32)), .val (.int bb), .val (.int sen), .val (.ref b101), .val (.int (8 : Int32))] [(.int (nar .char (own_hx ((bb.toUInt32 >>> ((4 : Int32) &&& 31).toUInt32).toInt32))))]))
    refine Go.by (fun _ kont => XS.iload X217.here hx rfl (hb hby at_115) rfl (XS.iconst X217.here hx rfl (hb hby at_117) (XS.ishr X217.here hx rfl (hb hby at_118) rfl kont))) ?_
    show Go _ _ _ _ _ _ _ (T217.setTop (mkF m 119 #[.val (.int a1), .val (.int x1), .val (.int s1), .val (.int (5 : Int32)), .val (.int bb), .val (.int sen), .val (.ref b101), .val (.int (8 : Int32))] [(.int (bb >>> ((4 : Int32) &&& 31))), (.int (nar .char (own_hx ((bb.toUInt32 >>> ((4 : Int32) &&& 31).toUInt32).toInt32))))]))
    obtain ⟨_, _, ⟨T222, L222, k222, n222⟩, -, X222, ⟨Lc222, hQ222, l222, y222, z222⟩, st222⟩ := Jvm.LawKit.callS X217 hx (y := (⟨"com/example/pctenc/pctenc/EscapeWritePinLaw", "hex", "(I)C"⟩ : MethodName)) hown (mvT hZ (hw _ (List.mem_of_getElem? (i := 8) rfl))) (mvT hZ (hw _ (List.mem_of_getElem? (i := 9) rfl))) (mvT hZ (hw _ (List.mem_of_getElem? (i := 10) rfl))) (mvT hZ (hw _ (List.mem_of_getElem? (i := 11) rfl))) (by decide) (backOf (W := 1) (rmHx l Z a0 hw [] (bb >>> ((4 : Int32) &&& 31)) T217.heap n0 Z218 ) hZ (hw _ (List.mem_of_getElem? (i := 11) rfl)) (hw _ (List.mem_of_getElem? (i := 10) rfl)) (by decide) (by decide)) (g := (mkF m 119 #[.val (.int a1), .val (.int x1), .val (.int s1), .val (.int (5 : Int32)), .val (.int bb), .val (.int sen), .val (.ref b101), .val (.int (8 : Int32))] [(.int (bb >>> ((4 : Int32) &&& 31))), (.int (nar .char (own_hx ((bb.toUInt32 >>> ((4 : Int32) &&& 31).toUInt32).toInt32))))])) rfl (by rw [hml]; rfl) (argsL := [(.int (bb >>> ((4 : Int32) &&& 31)))]) (rest := [(.int (nar .char (own_hx ((bb.toUInt32 >>> ((4 : Int32) &&& 31).toUInt32).toInt32))))]) (lenOf pd0_1 rfl) rfl (by show 2 * 0 + _ ≤ _; exact Nat.le_of_eq rfl) (hb hby at_119) (fun _ _ => ⟨rfl, rfl, (by decide : 1 + 0 ≤ _), (by decide : 8 + 0 ≤ _)⟩)
    dsimp only [Pt.U, Pt.locs, Pt.cells, Pt.slots] at X222 l222 y222 z222 st222 hQ222
    subst l222 y222 z222
    obtain ⟨rfl, N222q, eh222⟩ := hQ222
    have N222 := Fr.app N217 N222q
    refine Go.by st222 ?_
    show Go _ _ _ _ _ _ _ (T222.setTop (mkF m 122 #[.val (.int a1), .val (.int x1), .val (.int s1), .val (.int (5 : Int32)), .val (.int bb), .val (.int sen), .val (.ref b101), .val (.int (8 : Int32))] [(.int (fHx (bb >>> ((4 : Int32) &&& 31)))), (.int (nar .char (own_hx ((bb.toUInt32 >>> ((4 : Int32) &&& 31).toUInt32).toInt32))))]))
    have hd223 : (nar .char (own_hx ((bb.toUInt32 >>> ((4 : Int32) &&& 31).toUInt32).toInt32))) = (fHx (bb >>> ((4 : Int32) &&& 31))) := own_hi bb Bb
    refine Go.by (fun _ kont => XS.icmpYes X222.here hx rfl (pc0 := 122) (pc' := 127) rfl (hb hby at_122) rfl (teq hd223).1 (by decide) (by decide) kont) ?_
    show Go _ _ _ _ _ _ _ (T222.setTop (mkF m 127 #[.val (.int a1), .val (.int x1), .val (.int s1), .val (.int (5 : Int32)), .val (.int bb), .val (.int sen), .val (.ref b101), .val (.int (8 : Int32))] []))
    refine Go.by (fun _ kont => XS.aload X222.here hx rfl (hb hby at_127) rfl rfl (XS.iloadN X222.here hx rfl (hb hby at_129) rfl (XS.iconst X222.here hx rfl (hb hby at_130) (XS.iadd X222.here hx rfl (hb hby at_131) rfl kont)))) ?_
    show Go _ _ _ _ _ _ _ (T222.setTop (mkF m 132 #[.val (.int a1), .val (.int x1), .val (.int s1), .val (.int (5 : Int32)), .val (.int bb), .val (.int sen), .val (.ref b101), .val (.int (8 : Int32))] [(.int ((5 : Int32) + (2 : Int32))), (.ref b101)]))
    rw [show ((5 : Int32) + (2 : Int32)) = (7 : Int32) from by decide]
    show Go _ _ _ _ _ _ _ (T222.setTop (mkF m 132 #[.val (.int a1), .val (.int x1), .val (.int s1), .val (.int (5 : Int32)), .val (.int bb), .val (.int sen), .val (.ref b101), .val (.int (8 : Int32))] [(.int (7 : Int32)), (.ref b101)]))
    obtain ⟨cl_q224, Ar_q224, q1_q224, S_q224, N_q224, H_q224, G_q224⟩ := id V217z
    have hin_q224 : ¬ ((7 : Int32) < 0 ∨ cl_q224.slots.size ≤ ((7 : Int32)).toNatClampNeg) := inb_of S_q224 ⟨by decide, by decide⟩
    have hat_q224 : cl_q224.slots[((7 : Int32)).toNatClampNeg]? = some (.int (nar .char (own_hx (bb &&& (15 : Int32))))) := Has.at H_q224 hin_q224 rfl
    refine Go.by (X222.caload hx (j := (7 : Int32)) (v := (.int (nar .char (own_hx (bb &&& (15 : Int32)))))) (by first | exact Ar_q224.1 | (rw [eh222]; exact Ar_q224.1)) (State.isArrayOf_alike hZ.alike Ar_q224.2.1) Ar_q224.2.2 hin_q224 hat_q224 (g := (mkF m 132 #[.val (.int a1), .val (.int x1), .val (.int s1), .val (.int (5 : Int32)), .val (.int bb), .val (.int sen), .val (.ref b101), .val (.int (8 : Int32))] [(.int (7 : Int32)), (.ref b101)])) rfl rfl (hb hby at_132)) ?_
    show Go _ _ _ _ _ _ _ (T222.setTop (mkF m 133 #[.val (.int a1), .val (.int x1), .val (.int s1), .val (.int (5 : Int32)), .val (.int bb), .val (.int sen), .val (.ref b101), .val (.int (8 : Int32))] [(.int (nar .char (own_hx (bb &&& (15 : Int32)))))]))
    refine Go.by (fun _ kont => XS.iload X222.here hx rfl (hb hby at_133) rfl (XS.bipush X222.here hx rfl (hb hby at_135) (XS.iand X222.here hx rfl (hb hby at_137) rfl kont))) ?_
    show Go _ _ _ _ _ _ _ (T222.setTop (mkF m 138 #[.val (.int a1), .val (.int x1), .val (.int s1), .val (.int (5 : Int32)), .val (.int bb), .val (.int sen), .val (.ref b101), .val (.int (8 : Int32))] [(.int (bb &&& (15 : Int32))), (.int (nar .char (own_hx (bb &&& (15 : Int32)))))]))
    obtain ⟨_, _, ⟨T225, L225, k225, n225⟩, -, X225, ⟨Lc225, hQ225, l225, y225, z225⟩, st225⟩ := Jvm.LawKit.callS X222 hx (y := (⟨"com/example/pctenc/pctenc/EscapeWritePinLaw", "hex", "(I)C"⟩ : MethodName)) hown (mvT hZ (hw _ (List.mem_of_getElem? (i := 8) rfl))) (mvT hZ (hw _ (List.mem_of_getElem? (i := 9) rfl))) (mvT hZ (hw _ (List.mem_of_getElem? (i := 10) rfl))) (mvT hZ (hw _ (List.mem_of_getElem? (i := 11) rfl))) (by decide) (backOf (W := 1) (rmHx l Z a0 hw [] (bb &&& (15 : Int32)) T217.heap n0 Z218 ) hZ (hw _ (List.mem_of_getElem? (i := 11) rfl)) (hw _ (List.mem_of_getElem? (i := 10) rfl)) (by decide) (by decide)) (g := (mkF m 138 #[.val (.int a1), .val (.int x1), .val (.int s1), .val (.int (5 : Int32)), .val (.int bb), .val (.int sen), .val (.ref b101), .val (.int (8 : Int32))] [(.int (bb &&& (15 : Int32))), (.int (nar .char (own_hx (bb &&& (15 : Int32)))))])) rfl (by rw [hml]; rfl) (argsL := [(.int (bb &&& (15 : Int32)))]) (rest := [(.int (nar .char (own_hx (bb &&& (15 : Int32)))))]) (lenOf pd0_1 rfl) rfl (by show 2 * 0 + _ ≤ _; exact Nat.le_of_eq rfl) (hb hby at_138) (fun _ _ => ⟨rfl, eh222, (by decide : 1 + 0 ≤ _), (by decide : 8 + 0 ≤ _)⟩)
    dsimp only [Pt.U, Pt.locs, Pt.cells, Pt.slots] at X225 l225 y225 z225 st225 hQ225
    subst l225 y225 z225
    obtain ⟨rfl, N225q, eh225⟩ := hQ225
    have N225 := Fr.app N222 N225q
    refine Go.by st225 ?_
    show Go _ _ _ _ _ _ _ (T225.setTop (mkF m 141 #[.val (.int a1), .val (.int x1), .val (.int s1), .val (.int (5 : Int32)), .val (.int bb), .val (.int sen), .val (.ref b101), .val (.int (8 : Int32))] [(.int (fHx (bb &&& (15 : Int32)))), (.int (nar .char (own_hx (bb &&& (15 : Int32)))))]))
    have hd226 : (nar .char (own_hx (bb &&& (15 : Int32)))) = (fHx (bb &&& (15 : Int32))) := own_dig _ (own_loB bb)
    refine Go.by (fun _ kont => XS.icmpYes X225.here hx rfl (pc0 := 141) (pc' := 146) rfl (hb hby at_141) rfl (teq hd226).1 (by decide) (by decide) kont) ?_
    show Go _ _ _ _ _ _ _ (T225.setTop (mkF m 146 #[.val (.int a1), .val (.int x1), .val (.int s1), .val (.int (5 : Int32)), .val (.int bb), .val (.int sen), .val (.ref b101), .val (.int (8 : Int32))] []))
    refine Go.by (fun _ kont => XS.aload X225.here hx rfl (hb hby at_146) rfl rfl (XS.iconst X225.here hx rfl (hb hby at_148) (XS.iloadN X225.here hx rfl (hb hby at_149) rfl (XS.iload X225.here hx rfl (hb hby at_150) rfl kont)))) ?_
    show Go _ _ _ _ _ _ _ (T225.setTop (mkF m 152 #[.val (.int a1), .val (.int x1), .val (.int s1), .val (.int (5 : Int32)), .val (.int bb), .val (.int sen), .val (.ref b101), .val (.int (8 : Int32))] [(.int sen), (.int (5 : Int32)), (.int (0 : Int32)), (.ref b101)]))
    obtain ⟨_, _, ⟨T227, L227, k227, n227⟩, -, X227, ⟨Lc227, hQ227, l227, y227, z227⟩, st227⟩ := Jvm.LawKit.callS X225 hx (y := (⟨"com/example/pctenc/pctenc/EscapeWritePinLaw", "kept", "([CIIC)Z"⟩ : MethodName)) hown (mvT hZ (hw _ (List.mem_of_getElem? (i := 12) rfl))) (mvT hZ (hw _ (List.mem_of_getElem? (i := 13) rfl))) (mvT hZ (hw _ (List.mem_of_getElem? (i := 10) rfl))) (mvT hZ (hw _ (List.mem_of_getElem? (i := 14) rfl))) (by decide) (backOf (W := 0) (rmK50 l Z a0 hw [] b101 sen k101 (nar .char sen) (nar .char sen) (nar .char sen) (nar .char sen) (nar .char (37 : Int32)) (nar .char (own_hx ((bb.toUInt32 >>> ((4 : Int32) &&& 31).toUInt32).toInt32))) (nar .char (own_hx (bb &&& (15 : Int32)))) T217.heap n0 Z218 V217z hsen) hZ (hw _ (List.mem_of_getElem? (i := 14) rfl)) (hw _ (List.mem_of_getElem? (i := 10) rfl)) (by decide) (by decide)) (g := (mkF m 152 #[.val (.int a1), .val (.int x1), .val (.int s1), .val (.int (5 : Int32)), .val (.int bb), .val (.int sen), .val (.ref b101), .val (.int (8 : Int32))] [(.int sen), (.int (5 : Int32)), (.int (0 : Int32)), (.ref b101)])) rfl (by rw [hml]; rfl) (argsL := [(.ref b101), (.int (0 : Int32)), (.int (5 : Int32)), (.int sen)]) (rest := []) (lenOf pd0_2 rfl) rfl (by show 2 * 0 + _ ≤ _; exact Nat.le_of_eq rfl) (hb hby at_152) (fun _ _ => ⟨rfl, eh225, (by decide : 1 + 0 ≤ _), (by decide : 8 + 0 ≤ _)⟩)
    dsimp only [Pt.U, Pt.locs, Pt.cells, Pt.slots] at X227 l227 y227 z227 st227 hQ227
    subst l227 y227 z227
    obtain ⟨rfl, N227q, eh227⟩ := hQ227
    have N227 := Fr.app N225 N227q
    refine Go.by st227 ?_
    show Go _ _ _ _ _ _ _ (T227.setTop (mkF m 155 #[.val (.int a1), .val (.int x1), .val (.int s1), .val (.int (5 : Int32)), .val (.int bb), .val (.int sen), .val (.ref b101), .val (.int (8 : Int32))] [(.int (1 : Int32))]))
    refine Go.by (fun _ kont => XS.ifNo X227.here hx rfl (hb hby at_155) rfl (by decide) (XS.aload X227.here hx rfl (hb hby at_158) rfl rfl (XS.iconst X227.here hx rfl (hb hby at_160) (XS.iloadN X227.here hx rfl (hb hby at_161) rfl (XS.iload X227.here hx rfl (hb hby at_162) rfl kont))))) ?_
    show Go _ _ _ _ _ _ _ (T227.setTop (mkF m 164 #[.val (.int a1), .val (.int x1), .val (.int s1), .val (.int (5 : Int32)), .val (.int bb), .val (.int sen), .val (.ref b101), .val (.int (8 : Int32))] [(.int sen), (.int (5 : Int32)), (.int (1 : Int32)), (.ref b101)]))
    obtain ⟨_, _, ⟨T228, L228, k228, n228⟩, -, X228, ⟨Lc228, hQ228, l228, y228, z228⟩, st228⟩ := Jvm.LawKit.callS X227 hx (y := (⟨"com/example/pctenc/pctenc/EscapeWritePinLaw", "kept", "([CIIC)Z"⟩ : MethodName)) hown (mvT hZ (hw _ (List.mem_of_getElem? (i := 12) rfl))) (mvT hZ (hw _ (List.mem_of_getElem? (i := 13) rfl))) (mvT hZ (hw _ (List.mem_of_getElem? (i := 10) rfl))) (mvT hZ (hw _ (List.mem_of_getElem? (i := 14) rfl))) (by decide) (backOf (W := 0) (rmK51 l Z a0 hw [] b101 sen k101 (nar .char sen) (nar .char sen) (nar .char sen) (nar .char sen) (nar .char (37 : Int32)) (nar .char (own_hx ((bb.toUInt32 >>> ((4 : Int32) &&& 31).toUInt32).toInt32))) (nar .char (own_hx (bb &&& (15 : Int32)))) T217.heap n0 Z218 V217z hsen) hZ (hw _ (List.mem_of_getElem? (i := 14) rfl)) (hw _ (List.mem_of_getElem? (i := 10) rfl)) (by decide) (by decide)) (g := (mkF m 164 #[.val (.int a1), .val (.int x1), .val (.int s1), .val (.int (5 : Int32)), .val (.int bb), .val (.int sen), .val (.ref b101), .val (.int (8 : Int32))] [(.int sen), (.int (5 : Int32)), (.int (1 : Int32)), (.ref b101)])) rfl (by rw [hml]; rfl) (argsL := [(.ref b101), (.int (1 : Int32)), (.int (5 : Int32)), (.int sen)]) (rest := []) (lenOf pd0_2 rfl) rfl (by show 2 * 0 + _ ≤ _; exact Nat.le_of_eq rfl) (hb hby at_164) (fun _ _ => ⟨rfl, eh227, (by decide : 1 + 0 ≤ _), (by decide : 8 + 0 ≤ _)⟩)
    dsimp only [Pt.U, Pt.locs, Pt.cells, Pt.slots] at X228 l228 y228 z228 st228 hQ228
    subst l228 y228 z228
    obtain ⟨rfl, N228q, eh228⟩ := hQ228
    have N228 := Fr.app N227 N228q
    refine Go.by st228 ?_
    show Go _ _ _ _ _ _ _ (T228.setTop (mkF m 167 #[.val (.int a1), .val (.int x1), .val (.int s1), .val (.int (5 : Int32)), .val (.int bb), .val (.int sen), .val (.ref b101), .val (.int (8 : Int32))] [(.int (1 : Int32))]))
    refine Go.by (fun _ kont => XS.ifNo X228.here hx rfl (hb hby at_167) rfl (by decide) (XS.aload X228.here hx rfl (hb hby at_170) rfl rfl (XS.iconst X228.here hx rfl (hb hby at_172) (XS.iloadN X228.here hx rfl (hb hby at_173) rfl (XS.iload X228.here hx rfl (hb hby at_174) rfl kont))))) ?_
    show Go _ _ _ _ _ _ _ (T228.setTop (mkF m 176 #[.val (.int a1), .val (.int x1), .val (.int s1), .val (.int (5 : Int32)), .val (.int bb), .val (.int sen), .val (.ref b101), .val (.int (8 : Int32))] [(.int sen), (.int (5 : Int32)), (.int (2 : Int32)), (.ref b101)]))
    obtain ⟨_, _, ⟨T229, L229, k229, n229⟩, -, X229, ⟨Lc229, hQ229, l229, y229, z229⟩, st229⟩ := Jvm.LawKit.callS X228 hx (y := (⟨"com/example/pctenc/pctenc/EscapeWritePinLaw", "kept", "([CIIC)Z"⟩ : MethodName)) hown (mvT hZ (hw _ (List.mem_of_getElem? (i := 12) rfl))) (mvT hZ (hw _ (List.mem_of_getElem? (i := 13) rfl))) (mvT hZ (hw _ (List.mem_of_getElem? (i := 10) rfl))) (mvT hZ (hw _ (List.mem_of_getElem? (i := 14) rfl))) (by decide) (backOf (W := 0) (rmK52 l Z a0 hw [] b101 sen k101 (nar .char sen) (nar .char sen) (nar .char sen) (nar .char sen) (nar .char (37 : Int32)) (nar .char (own_hx ((bb.toUInt32 >>> ((4 : Int32) &&& 31).toUInt32).toInt32))) (nar .char (own_hx (bb &&& (15 : Int32)))) T217.heap n0 Z218 V217z hsen) hZ (hw _ (List.mem_of_getElem? (i := 14) rfl)) (hw _ (List.mem_of_getElem? (i := 10) rfl)) (by decide) (by decide)) (g := (mkF m 176 #[.val (.int a1), .val (.int x1), .val (.int s1), .val (.int (5 : Int32)), .val (.int bb), .val (.int sen), .val (.ref b101), .val (.int (8 : Int32))] [(.int sen), (.int (5 : Int32)), (.int (2 : Int32)), (.ref b101)])) rfl (by rw [hml]; rfl) (argsL := [(.ref b101), (.int (2 : Int32)), (.int (5 : Int32)), (.int sen)]) (rest := []) (lenOf pd0_2 rfl) rfl (by show 2 * 0 + _ ≤ _; exact Nat.le_of_eq rfl) (hb hby at_176) (fun _ _ => ⟨rfl, eh228, (by decide : 1 + 0 ≤ _), (by decide : 8 + 0 ≤ _)⟩)
    dsimp only [Pt.U, Pt.locs, Pt.cells, Pt.slots] at X229 l229 y229 z229 st229 hQ229
    subst l229 y229 z229
    obtain ⟨rfl, N229q, eh229⟩ := hQ229
    have N229 := Fr.app N228 N229q
    refine Go.by st229 ?_
    show Go _ _ _ _ _ _ _ (T229.setTop (mkF m 179 #[.val (.int a1), .val (.int x1), .val (.int s1), .val (.int (5 : Int32)), .val (.int bb), .val (.int sen), .val (.ref b101), .val (.int (8 : Int32))] [(.int (1 : Int32))]))
    refine Go.by (fun _ kont => XS.ifNo X229.here hx rfl (hb hby at_179) rfl (by decide) (XS.aload X229.here hx rfl (hb hby at_182) rfl rfl (XS.iconst X229.here hx rfl (hb hby at_184) (XS.iloadN X229.here hx rfl (hb hby at_185) rfl (XS.iload X229.here hx rfl (hb hby at_186) rfl kont))))) ?_
    show Go _ _ _ _ _ _ _ (T229.setTop (mkF m 188 #[.val (.int a1), .val (.int x1), .val (.int s1), .val (.int (5 : Int32)), .val (.int bb), .val (.int sen), .val (.ref b101), .val (.int (8 : Int32))] [(.int sen), (.int (5 : Int32)), (.int (3 : Int32)), (.ref b101)]))
    obtain ⟨_, _, ⟨T230, L230, k230, n230⟩, -, X230, ⟨Lc230, hQ230, l230, y230, z230⟩, st230⟩ := Jvm.LawKit.callS X229 hx (y := (⟨"com/example/pctenc/pctenc/EscapeWritePinLaw", "kept", "([CIIC)Z"⟩ : MethodName)) hown (mvT hZ (hw _ (List.mem_of_getElem? (i := 12) rfl))) (mvT hZ (hw _ (List.mem_of_getElem? (i := 13) rfl))) (mvT hZ (hw _ (List.mem_of_getElem? (i := 10) rfl))) (mvT hZ (hw _ (List.mem_of_getElem? (i := 14) rfl))) (by decide) (backOf (W := 0) (rmK53 l Z a0 hw [] b101 sen k101 (nar .char sen) (nar .char sen) (nar .char sen) (nar .char sen) (nar .char (37 : Int32)) (nar .char (own_hx ((bb.toUInt32 >>> ((4 : Int32) &&& 31).toUInt32).toInt32))) (nar .char (own_hx (bb &&& (15 : Int32)))) T217.heap n0 Z218 V217z hsen) hZ (hw _ (List.mem_of_getElem? (i := 14) rfl)) (hw _ (List.mem_of_getElem? (i := 10) rfl)) (by decide) (by decide)) (g := (mkF m 188 #[.val (.int a1), .val (.int x1), .val (.int s1), .val (.int (5 : Int32)), .val (.int bb), .val (.int sen), .val (.ref b101), .val (.int (8 : Int32))] [(.int sen), (.int (5 : Int32)), (.int (3 : Int32)), (.ref b101)])) rfl (by rw [hml]; rfl) (argsL := [(.ref b101), (.int (3 : Int32)), (.int (5 : Int32)), (.int sen)]) (rest := []) (lenOf pd0_2 rfl) rfl (by show 2 * 0 + _ ≤ _; exact Nat.le_of_eq rfl) (hb hby at_188) (fun _ _ => ⟨rfl, eh229, (by decide : 1 + 0 ≤ _), (by decide : 8 + 0 ≤ _)⟩)
    dsimp only [Pt.U, Pt.locs, Pt.cells, Pt.slots] at X230 l230 y230 z230 st230 hQ230
    subst l230 y230 z230
    obtain ⟨rfl, N230q, eh230⟩ := hQ230
    have N230 := Fr.app N229 N230q
    refine Go.by st230 ?_
    show Go _ _ _ _ _ _ _ (T230.setTop (mkF m 191 #[.val (.int a1), .val (.int x1), .val (.int s1), .val (.int (5 : Int32)), .val (.int bb), .val (.int sen), .val (.ref b101), .val (.int (8 : Int32))] [(.int (1 : Int32))]))
    refine Go.by (fun _ kont => XS.ifNo X230.here hx rfl (hb hby at_191) rfl (by decide) (XS.aload X230.here hx rfl (hb hby at_194) rfl rfl (XS.iconst X230.here hx rfl (hb hby at_196) (XS.iloadN X230.here hx rfl (hb hby at_197) rfl (XS.iload X230.here hx rfl (hb hby at_198) rfl kont))))) ?_
    show Go _ _ _ _ _ _ _ (T230.setTop (mkF m 200 #[.val (.int a1), .val (.int x1), .val (.int s1), .val (.int (5 : Int32)), .val (.int bb), .val (.int sen), .val (.ref b101), .val (.int (8 : Int32))] [(.int sen), (.int (5 : Int32)), (.int (4 : Int32)), (.ref b101)]))
    obtain ⟨_, _, ⟨T231, L231, k231, n231⟩, -, X231, ⟨Lc231, hQ231, l231, y231, z231⟩, st231⟩ := Jvm.LawKit.callS X230 hx (y := (⟨"com/example/pctenc/pctenc/EscapeWritePinLaw", "kept", "([CIIC)Z"⟩ : MethodName)) hown (mvT hZ (hw _ (List.mem_of_getElem? (i := 12) rfl))) (mvT hZ (hw _ (List.mem_of_getElem? (i := 13) rfl))) (mvT hZ (hw _ (List.mem_of_getElem? (i := 10) rfl))) (mvT hZ (hw _ (List.mem_of_getElem? (i := 14) rfl))) (by decide) (backOf (W := 0) (rmK54 l Z a0 hw [] b101 sen k101 (nar .char sen) (nar .char sen) (nar .char sen) (nar .char sen) (nar .char (37 : Int32)) (nar .char (own_hx ((bb.toUInt32 >>> ((4 : Int32) &&& 31).toUInt32).toInt32))) (nar .char (own_hx (bb &&& (15 : Int32)))) T217.heap n0 Z218 V217z hsen) hZ (hw _ (List.mem_of_getElem? (i := 14) rfl)) (hw _ (List.mem_of_getElem? (i := 10) rfl)) (by decide) (by decide)) (g := (mkF m 200 #[.val (.int a1), .val (.int x1), .val (.int s1), .val (.int (5 : Int32)), .val (.int bb), .val (.int sen), .val (.ref b101), .val (.int (8 : Int32))] [(.int sen), (.int (5 : Int32)), (.int (4 : Int32)), (.ref b101)])) rfl (by rw [hml]; rfl) (argsL := [(.ref b101), (.int (4 : Int32)), (.int (5 : Int32)), (.int sen)]) (rest := []) (lenOf pd0_2 rfl) rfl (by show 2 * 0 + _ ≤ _; exact Nat.le_of_eq rfl) (hb hby at_200) (fun _ _ => ⟨rfl, eh230, (by decide : 1 + 0 ≤ _), (by decide : 8 + 0 ≤ _)⟩)
    dsimp only [Pt.U, Pt.locs, Pt.cells, Pt.slots] at X231 l231 y231 z231 st231 hQ231
    subst l231 y231 z231
    obtain ⟨rfl, N231q, eh231⟩ := hQ231
    have N231 := Fr.app N230 N231q
    refine Go.by st231 ?_
    show Go _ _ _ _ _ _ _ (T231.setTop (mkF m 203 #[.val (.int a1), .val (.int x1), .val (.int s1), .val (.int (5 : Int32)), .val (.int bb), .val (.int sen), .val (.ref b101), .val (.int (8 : Int32))] [(.int (1 : Int32))]))
    refine Go.by (fun _ kont => XS.ifNo X231.here hx rfl (hb hby at_203) rfl (by decide) (XS.aload X231.here hx rfl (hb hby at_206) rfl rfl (XS.iconst X231.here hx rfl (hb hby at_208) (XS.iloadN X231.here hx rfl (hb hby at_209) rfl (XS.iload X231.here hx rfl (hb hby at_210) rfl kont))))) ?_
    show Go _ _ _ _ _ _ _ (T231.setTop (mkF m 212 #[.val (.int a1), .val (.int x1), .val (.int s1), .val (.int (5 : Int32)), .val (.int bb), .val (.int sen), .val (.ref b101), .val (.int (8 : Int32))] [(.int sen), (.int (5 : Int32)), (.int (5 : Int32)), (.ref b101)]))
    obtain ⟨_, _, ⟨T232, L232, k232, n232⟩, -, X232, ⟨Lc232, hQ232, l232, y232, z232⟩, st232⟩ := Jvm.LawKit.callS X231 hx (y := (⟨"com/example/pctenc/pctenc/EscapeWritePinLaw", "kept", "([CIIC)Z"⟩ : MethodName)) hown (mvT hZ (hw _ (List.mem_of_getElem? (i := 12) rfl))) (mvT hZ (hw _ (List.mem_of_getElem? (i := 13) rfl))) (mvT hZ (hw _ (List.mem_of_getElem? (i := 10) rfl))) (mvT hZ (hw _ (List.mem_of_getElem? (i := 14) rfl))) (by decide) (backOf (W := 0) (rmK55 l Z a0 hw [] b101 sen T217.heap n0 Z218 ) hZ (hw _ (List.mem_of_getElem? (i := 14) rfl)) (hw _ (List.mem_of_getElem? (i := 10) rfl)) (by decide) (by decide)) (g := (mkF m 212 #[.val (.int a1), .val (.int x1), .val (.int s1), .val (.int (5 : Int32)), .val (.int bb), .val (.int sen), .val (.ref b101), .val (.int (8 : Int32))] [(.int sen), (.int (5 : Int32)), (.int (5 : Int32)), (.ref b101)])) rfl (by rw [hml]; rfl) (argsL := [(.ref b101), (.int (5 : Int32)), (.int (5 : Int32)), (.int sen)]) (rest := []) (lenOf pd0_2 rfl) rfl (by show 2 * 0 + _ ≤ _; exact Nat.le_of_eq rfl) (hb hby at_212) (fun _ _ => ⟨rfl, eh231, (by decide : 1 + 0 ≤ _), (by decide : 8 + 0 ≤ _)⟩)
    dsimp only [Pt.U, Pt.locs, Pt.cells, Pt.slots] at X232 l232 y232 z232 st232 hQ232
    subst l232 y232 z232
    obtain ⟨rfl, N232q, eh232⟩ := hQ232
    have N232 := Fr.app N231 N232q
    refine Go.by st232 ?_
    show Go _ _ _ _ _ _ _ (T232.setTop (mkF m 215 #[.val (.int a1), .val (.int x1), .val (.int s1), .val (.int (5 : Int32)), .val (.int bb), .val (.int sen), .val (.ref b101), .val (.int (8 : Int32))] [(.int (1 : Int32))]))
    refine Go.by (fun _ kont => XS.ifNo X232.here hx rfl (hb hby at_215) rfl (by decide) (XS.aload X232.here hx rfl (hb hby at_218) rfl rfl (XS.bipush X232.here hx rfl (hb hby at_220) (XS.iloadN X232.here hx rfl (hb hby at_222) rfl (XS.iload X232.here hx rfl (hb hby at_223) rfl kont))))) ?_
    show Go _ _ _ _ _ _ _ (T232.setTop (mkF m 225 #[.val (.int a1), .val (.int x1), .val (.int s1), .val (.int (5 : Int32)), .val (.int bb), .val (.int sen), .val (.ref b101), .val (.int (8 : Int32))] [(.int sen), (.int (5 : Int32)), (.int (6 : Int32)), (.ref b101)]))
    obtain ⟨_, _, ⟨T233, L233, k233, n233⟩, -, X233, ⟨Lc233, hQ233, l233, y233, z233⟩, st233⟩ := Jvm.LawKit.callS X232 hx (y := (⟨"com/example/pctenc/pctenc/EscapeWritePinLaw", "kept", "([CIIC)Z"⟩ : MethodName)) hown (mvT hZ (hw _ (List.mem_of_getElem? (i := 12) rfl))) (mvT hZ (hw _ (List.mem_of_getElem? (i := 13) rfl))) (mvT hZ (hw _ (List.mem_of_getElem? (i := 10) rfl))) (mvT hZ (hw _ (List.mem_of_getElem? (i := 14) rfl))) (by decide) (backOf (W := 0) (rmK56 l Z a0 hw [] b101 sen T217.heap n0 Z218 ) hZ (hw _ (List.mem_of_getElem? (i := 14) rfl)) (hw _ (List.mem_of_getElem? (i := 10) rfl)) (by decide) (by decide)) (g := (mkF m 225 #[.val (.int a1), .val (.int x1), .val (.int s1), .val (.int (5 : Int32)), .val (.int bb), .val (.int sen), .val (.ref b101), .val (.int (8 : Int32))] [(.int sen), (.int (5 : Int32)), (.int (6 : Int32)), (.ref b101)])) rfl (by rw [hml]; rfl) (argsL := [(.ref b101), (.int (6 : Int32)), (.int (5 : Int32)), (.int sen)]) (rest := []) (lenOf pd0_2 rfl) rfl (by show 2 * 0 + _ ≤ _; exact Nat.le_of_eq rfl) (hb hby at_225) (fun _ _ => ⟨rfl, eh232, (by decide : 1 + 0 ≤ _), (by decide : 8 + 0 ≤ _)⟩)
    dsimp only [Pt.U, Pt.locs, Pt.cells, Pt.slots] at X233 l233 y233 z233 st233 hQ233
    subst l233 y233 z233
    obtain ⟨rfl, N233q, eh233⟩ := hQ233
    have N233 := Fr.app N232 N233q
    refine Go.by st233 ?_
    show Go _ _ _ _ _ _ _ (T233.setTop (mkF m 228 #[.val (.int a1), .val (.int x1), .val (.int s1), .val (.int (5 : Int32)), .val (.int bb), .val (.int sen), .val (.ref b101), .val (.int (8 : Int32))] [(.int (1 : Int32))]))
    refine Go.by (fun _ kont => XS.ifNo X233.here hx rfl (hb hby at_228) rfl (by decide) (XS.aload X233.here hx rfl (hb hby at_231) rfl rfl (XS.bipush X233.here hx rfl (hb hby at_233) (XS.iloadN X233.here hx rfl (hb hby at_235) rfl (XS.iload X233.here hx rfl (hb hby at_236) rfl kont))))) ?_
    show Go _ _ _ _ _ _ _ (T233.setTop (mkF m 238 #[.val (.int a1), .val (.int x1), .val (.int s1), .val (.int (5 : Int32)), .val (.int bb), .val (.int sen), .val (.ref b101), .val (.int (8 : Int32))] [(.int sen), (.int (5 : Int32)), (.int (7 : Int32)), (.ref b101)]))
    obtain ⟨_, _, ⟨T234, L234, k234, n234⟩, -, X234, ⟨Lc234, hQ234, l234, y234, z234⟩, st234⟩ := Jvm.LawKit.callS X233 hx (y := (⟨"com/example/pctenc/pctenc/EscapeWritePinLaw", "kept", "([CIIC)Z"⟩ : MethodName)) hown (mvT hZ (hw _ (List.mem_of_getElem? (i := 12) rfl))) (mvT hZ (hw _ (List.mem_of_getElem? (i := 13) rfl))) (mvT hZ (hw _ (List.mem_of_getElem? (i := 10) rfl))) (mvT hZ (hw _ (List.mem_of_getElem? (i := 14) rfl))) (by decide) (backOf (W := 0) (rmK57 l Z a0 hw [] b101 sen T217.heap n0 Z218 ) hZ (hw _ (List.mem_of_getElem? (i := 14) rfl)) (hw _ (List.mem_of_getElem? (i := 10) rfl)) (by decide) (by decide)) (g := (mkF m 238 #[.val (.int a1), .val (.int x1), .val (.int s1), .val (.int (5 : Int32)), .val (.int bb), .val (.int sen), .val (.ref b101), .val (.int (8 : Int32))] [(.int sen), (.int (5 : Int32)), (.int (7 : Int32)), (.ref b101)])) rfl (by rw [hml]; rfl) (argsL := [(.ref b101), (.int (7 : Int32)), (.int (5 : Int32)), (.int sen)]) (rest := []) (lenOf pd0_2 rfl) rfl (by show 2 * 0 + _ ≤ _; exact Nat.le_of_eq rfl) (hb hby at_238) (fun _ _ => ⟨rfl, eh233, (by decide : 1 + 0 ≤ _), (by decide : 8 + 0 ≤ _)⟩)
    dsimp only [Pt.U, Pt.locs, Pt.cells, Pt.slots] at X234 l234 y234 z234 st234 hQ234
    subst l234 y234 z234
    obtain ⟨rfl, N234q, eh234⟩ := hQ234
    have N234 := Fr.app N233 N234q
    refine Go.by st234 ?_
    show Go _ _ _ _ _ _ _ (T234.setTop (mkF m 241 #[.val (.int a1), .val (.int x1), .val (.int s1), .val (.int (5 : Int32)), .val (.int bb), .val (.int sen), .val (.ref b101), .val (.int (8 : Int32))] [(.int (1 : Int32))]))
    refine Go.by (fun _ kont => XS.ifNo X234.here hx rfl (hb hby at_241) rfl (by decide) (XS.iconst X234.here hx rfl (hb hby at_244) (XS.goto X234.here hx rfl (pc0 := 245) (pc' := 249) rfl (hb hby at_245) (by decide) (by decide) kont))) ?_
    show Go _ _ _ _ _ _ _ (T234.setTop (mkF m 249 #[.val (.int a1), .val (.int x1), .val (.int s1), .val (.int (5 : Int32)), .val (.int bb), .val (.int sen), .val (.ref b101), .val (.int (8 : Int32))] [(.int (1 : Int32))]))
    refine Go.retN X234 hx (t := .boolean) hret (by simp) hlk (hb hby at_249) ?_ (by decide) (by decide)
    show Q0 Z h0 n0 (some (.int (1 : Int32))) T234.heap _
    rw [eh234]
    exact ⟨rfl, N234⟩

set_option maxRecDepth 65536 in
set_option maxHeartbeats 40000000 in
theorem comes_1 {Post : Tables → Env → Array Value → State → Outcome → State → Prop} (hpost : ∀ tb e args s v u, (limb_1_1.after args s (.returned v) u = true ∧ limb_1_2.after args s (.returned v) u = true ∧ True) → FrameEnd s (.returned v) u (Jvm.fieldLocs frame_1_writes args s ++ Jvm.arrayLocs frame_1_arrays args s ++ Jvm.staticLocs frame_1_statics s) 16 128 → Post tb e args s (.returned v) u) :
    ArmFor flags0 classFile x code maxLocals ret World_1 tables_1 room_1 Calls_1 rest_1 Pre_1 Post := by
  intro l hfl _ _ p e ha hc hk s m args below hf hA hF happ hP
  obtain ⟨hcalls, hrest, hpre⟩ := hP
  obtain ⟨-, -, -, hnamed, -, -, -, hat⟩ := (Spec.applies_iff hf).mp happ
  obtain ⟨hg, hn⟩ := and_e (Cond.before_iff.mp (show (Jvm.Cond.and given_1 narrow_1).before args s = true from hpre))
  obtain ⟨hh1, hh2⟩ := and_e hg
  obtain ⟨hh3, hh4⟩ := and_e hh2
  obtain ⟨hh5, hh6⟩ := and_e hh4
  obtain ⟨w0, w1, w2, rfl⟩ : ∃ w0 w1 w2 : Value, args = #[w0, w1, w2] := by
    have hs : args.size = 3 := by simpa [Cond.value, given_1] using hh1
    obtain ⟨L⟩ := args
    match L, hs with
    | [w0, w1, w2], _ => exact ⟨w0, w1, w2, rfl⟩
  have hw := fun d (hd : d ∈ tables_1) => atoms_spec (ws := Jvm.Cond.code x code maxLocals ret :: tables_1) hat d (List.mem_cons_of_mem _ hd)
  obtain ⟨i0, ei0⟩ := is_v hh3
  obtain rfl : w0 = (.int i0) := Option.some.inj ei0
  obtain ⟨i1, ei1⟩ := is_v hh5
  obtain rfl : w1 = (.int i1) := Option.some.inj ei1
  obtain ⟨i2, ei2⟩ := is_v hh6
  obtain rfl : w2 = (.int i2) := Option.some.inj ei2
  have hfit : Fit s := fun {y c} hc i hi => by
    obtain ⟨ha, rfl⟩ := Array.getElem?_eq_some_iff.mp hc
    have q := List.all_eq_true.mp ((Array.all_eq_true_iff_forall_mem.mp hF) _ (Array.getElem_mem ha)) i (List.mem_range.mpr hi)
    simpa [Array.getElem?_eq_getElem hi] using q
  obtain ⟨hm1, hm2⟩ := and_e hn
  obtain ⟨hm3, hm4⟩ := and_e hm2
  obtain ⟨hm5, hm6⟩ := and_e hm4
  obtain ⟨s_UPPER_HEX, ev7⟩ := arr_v hm1
  have S_UPPER_HEX : Sta s s.heap "com/example/pctenc/pctenc/Escape" "UPPER_HEX" "[C" (.ref s_UPPER_HEX) := Sta.start ev7 (Or.inr ⟨(hw _ (List.mem_of_getElem? (i := 4) rfl)), (hw _ (List.mem_of_getElem? (i := 7) rfl))⟩)
  obtain ⟨cl_s_UPPER_HEX, Ar_s_UPPER_HEX⟩ := Arr.start ev7 hm1
  have L_s_UPPER_HEX := own_lenv (own_eqI hm3) ev7 Ar_s_UPPER_HEX.1
  have VH : HX s s.heap s_UPPER_HEX cl_s_UPPER_HEX.cls := by
    refine ⟨cl_s_UPPER_HEX, Ar_s_UPPER_HEX, rfl, ?_, fun j hj => ?_⟩
    · have e := congrArg Int32.toInt L_s_UPPER_HEX.2
      rw [len_toInt L_s_UPPER_HEX.1] at e
      have e16 : (16 : Int32).toInt = 16 := by decide
      have e17 : (16 : Int32).toNatClampNeg = 16 := by decide
      omega
    · have hlt : j.toNatClampNeg < cl_s_UPPER_HEX.slots.size := Nat.lt_of_not_le fun y => hj (Or.inr y)
      have hj0 : ¬ j < 0 := fun y => hj (Or.inl y)
      obtain ⟨v, hv, hfv⟩ := elem_fit hfit Ar_s_UPPER_HEX hj
      obtain ⟨z, rfl⟩ := fit_I hfv (by simp)
      have q1 := Cond.all_elim (show (Term.static "com/example/pctenc/pctenc/Escape" "UPPER_HEX" "[C").eval _ _ _ _ _ = _ from ev7) (Ar_s_UPPER_HEX.fin (Vm.Alike.refl _)) hm5 j.toNatClampNeg hlt
      have q2 := Cond.all_elim (show (Term.static "com/example/pctenc/pctenc/Escape" "UPPER_HEX" "[C").eval _ _ _ _ _ = _ from ev7) (Ar_s_UPPER_HEX.fin (Vm.Alike.refl _)) hm6 j.toNatClampNeg hlt
      have ei : (Term.index 0).eval #[.int i0, .int i1, .int i2] s none [j.toNatClampNeg] s = some (.int j) := idx_at hj0
      have ee : (Term.elem (.static "com/example/pctenc/pctenc/Escape" "UPPER_HEX" "[C") (.index 0)).eval #[.int i0, .int i1, .int i2] s none [j.toNatClampNeg] s = some (.int z) := by rw [elem_f (show (Term.static "com/example/pctenc/pctenc/Escape" "UPPER_HEX" "[C").eval #[.int i0, .int i1, .int i2] s none [j.toNatClampNeg] s = some (.ref s_UPPER_HEX) from ev7) ei (Ar_s_UPPER_HEX.fin (Vm.Alike.refl _)) hj0]; exact hv
      have hlen := len_toInt L_s_UPPER_HEX.1
      rw [L_s_UPPER_HEX.2, show (16 : Int32).toInt = 16 from by decide] at hlen
      have hjn := nat_of hj0
      have e1 : (Term.op1 Jvm.Unary.i2l (Term.elem (.static "com/example/pctenc/pctenc/Escape" "UPPER_HEX" "[C") (.index 0))).eval #[.int i0, .int i1, .int i2] s none [j.toNatClampNeg] s = some (.long z.toInt64) := by rw [Term.eval, ee]; rfl
      have e2 : (Term.op1 Jvm.Unary.i2l (Term.index 0)).eval #[.int i0, .int i1, .int i2] s none [j.toNatClampNeg] s = some (.long j.toInt64) := by rw [Term.eval, ei]; rfl
      have e3 : ∀ n : Int64, (Term.op2 Jvm.Binary.ladd (Term.op1 Jvm.Unary.i2l (Term.index 0)) (Term.long n)).eval #[.int i0, .int i1, .int i2] s none [j.toNatClampNeg] s = some (.long (j.toInt64 + n)) := fun n => by rw [Term.eval, e2]; rfl
      have e4 : (Term.int 10).eval #[.int i0, .int i1, .int i2] s none [j.toNatClampNeg] s = some (.int 10) := rfl
      rw [hv]
      simp only [Cond.value, ei, e1, e3, e4] at q1 q2
      have a10 : (10 : Int32).toInt = 10 := by decide
      unfold own_hx
      by_cases c : j < 10
      · rw [decide_eq_false (fun y => by rw [Int32.le_iff_toInt_le] at y; rw [Int32.lt_iff_toInt_lt] at c; omega)] at q1
        rw [if_pos c]
        have r := own_h64 z j 48 48 (by decide) (by decide) ⟨by omega, by omega⟩ (of_decide_eq_true (Option.some.inj q1))
        rw [r]
      · rw [decide_eq_false c] at q2
        rw [if_neg c]
        have r := own_h64 z j 55 55 (by decide) (by decide) ⟨by omega, by omega⟩ (of_decide_eq_true (Option.some.inj q2))
        rw [r]
  obtain ⟨n, o, h1, h2, h3, _, L, rfl, ⟨rfl, N⟩, hq⟩ := rm0 l s _ hw tables_1 i0 i1 i2 s_UPPER_HEX cl_s_UPPER_HEX.cls s.heap s.heap.size (Nat.le_refl _) VH S_UPPER_HEX p e ha hc hk s m _ below hf ((Spec.applies_iff_loose hf).mp happ).1 ⟨rfl, State.Warmed39.refl s, rfl⟩ trivial
  refine ⟨n, _, h1, h2, h3, hpost _ _ _ _ _ _ ⟨Cond.after_iff.mpr rfl, Cond.after_iff.mpr (eq_i res_at (Term.int_eval (1)) rfl), trivial⟩ ⟨hq.1, hq.2.1, (hq.2.2.sift fun y hy => Or.inr (N y hy)).mono (by decide) (by decide)⟩⟩
theorem main_1_1 : Claimed_1_1 := comes_1 fun _ _ _ _ _ _ h hF => ⟨h.1, hF⟩
theorem main_1_2 : Claimed_1_2 := comes_1 fun _ _ _ _ _ _ h hF => ⟨h.2.1, hF⟩

end Jvm.Pilot.@@N@@
namespace Jvm.Pilot.@@N@@
open Jvm Jvm.ClassFile Sem Op Lib Jvm.Free Jvm.Stand Jvm.Pilot.@@N@@.Jvm.D
/-! MADE BY PROGRAM (witnessworld.py) out of the Statement's table words and the real class files: 11 classes; the members and pool entries that the words name. The judged class is class 1, her method 3. -/
namespace start1
open Jvm.ClassFile
def u (s : String) : CpInfo := .utf8 (stringToUtf16 s)
/-- a pool by its gaps: so many unusable entries, then the entry; so many at the end -/
def gap : Nat → List CpInfo → List CpInfo
  | 0, r => r
  | n + 1, r => .unusable :: gap n r
def poolList (es : List (Nat × CpInfo)) (last : Nat) : List CpInfo := es.foldr (fun e r => gap e.1 (e.2 :: r)) (gap last [])
def pool (es : List (Nat × CpInfo)) (last : Nat) : Array CpInfo := ⟨poolList es last⟩
def fileOf (pool : Array CpInfo) (this : Nat) (attrs : Array Attribute := #[]) (ms : Array MethodInfo := #[]) (fl : Nat := 33) (sup : Nat := 0) (ifs : Array Nat := #[]) (fds : Array FieldInfo := #[]) : ClassFile where
  minorVersion := 0
  majorVersion := 65
  constantPool := pool
  accessFlags := fl
  thisClass := this
  superClass := sup
  interfaces := ifs
  fields := fds
  methods := ms
  attributes := attrs
def plain (name : String) (sup : Option ClassId) : Class where
  name := name
  kind := .ordinary
  loader := none
  accessFlags := 33
  super := sup
  interfaces := #[]
  cf := none
  fields := #[]
  methods := #[]
  instanceTypes := #[]
  staticTypes := #[]
  resolved := #[]
  callSites := []
  init := .initialized
  statics := none
  mirror := none

def pool0 : Array CpInfo := pool [(5, u "<init>"), (0, u "()V"), (1, .class_ 10), (1, u "java/lang/Object")] 113

def k0m0 : Method := { name := "<init>", desc := "()V", sig := { parameters := [], returnType := none }, accessFlags := 1, code := none }
/-- java/lang/Object -/
def k0 : Class := { plain "java/lang/Object" none with
  accessFlags := 33
  interfaces := #[]
  cf := some (fileOf pool0 8 #[] #[{ accessFlags := 1, nameIndex := 5, descriptorIndex := 6, attributes := #[] }] 33 0 #[] #[])
  fields := #[]
  methods := #[k0m0]
  instanceTypes := #[]
  staticTypes := #[]
  resolved := Array.replicate 124 none
  statics := none }

def pool1 : Array CpInfo := pool [(2, .class_ 4), (1, u "java/lang/Object"), (0, u "<init>"), (0, u "()V"), (0, .integer 65535), (0, .methodref 9 10), (0, .class_ 11), (0, .nameAndType 12 13), (0, u "com/example/pctenc/pctenc/Escape"), (0, u "write"), (0, u "([CII)I"), (0, .methodref 15 16), (0, .class_ 17), (0, .nameAndType 18 19), (0, u "com/example/pctenc/pctenc/EscapeWritePinLaw"), (0, u "hex"), (0, u "(I)C"), (0, .methodref 15 21), (0, .nameAndType 22 23), (0, u "kept"), (0, u "([CIIC)Z"), (3, u "law"), (0, u "(III)Z")] 4

def k1m0 : Method := { name := "<init>", desc := "()V", sig := { parameters := [], returnType := none }, accessFlags := 2, code := none }
def k1c1 : Code := { maxStack := 3, maxLocals := 1, code := method_2_code, exceptionTable := #[], attributes := #[] }
def k1m1 : Method := { name := "hex", desc := "(I)C", sig := { parameters := [.int], returnType := some .char }, accessFlags := 10, code := some k1c1 }
def k1c2 : Code := { maxStack := 3, maxLocals := 4, code := method_3_code, exceptionTable := #[], attributes := #[] }
def k1m2 : Method := { name := "kept", desc := "([CIIC)Z", sig := { parameters := [(.array .char), .int, .int, .char], returnType := some .boolean }, accessFlags := 10, code := some k1c2 }
def k1c3 : Code := { maxStack := 4, maxLocals := 8, code := code, exceptionTable := #[], attributes := #[] }
def k1m3 : Method := { name := "law", desc := "(III)Z", sig := { parameters := [.int, .int, .int], returnType := some .boolean }, accessFlags := 9, code := some k1c3 }
/-- com/example/pctenc/pctenc/EscapeWritePinLaw -/
def k1 : Class := { plain "com/example/pctenc/pctenc/EscapeWritePinLaw" (some 0) with
  accessFlags := 49
  interfaces := #[]
  cf := some (fileOf pool1 15 #[] #[{ accessFlags := 2, nameIndex := 5, descriptorIndex := 6, attributes := #[] }, { accessFlags := 10, nameIndex := 18, descriptorIndex := 19, attributes := #[] }, { accessFlags := 10, nameIndex := 22, descriptorIndex := 23, attributes := #[] }, { accessFlags := 9, nameIndex := 27, descriptorIndex := 28, attributes := #[] }] 49 2 #[] #[])
  fields := #[]
  methods := #[k1m0, k1m1, k1m2, k1m3]
  instanceTypes := #[]
  staticTypes := #[]
  resolved := Array.replicate 33 none
  statics := none }

def pool2 : Array CpInfo := pool [(2, .class_ 4), (1, u "java/lang/Object"), (0, u "<init>"), (0, u "()V"), (6, .fieldref 14 15), (0, .class_ 16), (0, .nameAndType 17 18), (0, u "com/example/pctenc/pctenc/Escape"), (0, u "UPPER_HEX"), (0, u "[C"), (11, u "write"), (0, u "([CII)I")] 3

def k2m0 : Method := { name := "<init>", desc := "()V", sig := { parameters := [], returnType := none }, accessFlags := 2, code := none }
def k2c1 : Code := { maxStack := 5, maxLocals := 3, code := prog_4_method_3_code, exceptionTable := #[], attributes := #[] }
def k2m1 : Method := { name := "write", desc := "([CII)I", sig := { parameters := [(.array .char), .int, .int], returnType := some .int }, accessFlags := 8, code := some k2c1 }
/-- com/example/pctenc/pctenc/Escape -/
def k2 : Class := { plain "com/example/pctenc/pctenc/Escape" (some 0) with
  accessFlags := 48
  interfaces := #[]
  cf := some (fileOf pool2 14 #[] #[{ accessFlags := 2, nameIndex := 5, descriptorIndex := 6, attributes := #[] }, { accessFlags := 8, nameIndex := 30, descriptorIndex := 31, attributes := #[] }] 48 2 #[] #[{ accessFlags := 26, nameIndex := 17, descriptorIndex := 18, attributes := #[] }])
  fields := #[{ name := "UPPER_HEX", type := (.array .char), accessFlags := 26, slot := 0, constantValue := 0 }]
  methods := #[k2m0, k2m1]
  instanceTypes := #[]
  staticTypes := #[(.array .char)]
  resolved := Array.replicate 35 none
  statics := some 0 }

def pool3 : Array CpInfo := pool [(1, u "java/lang/Cloneable"), (0, .class_ 1), (0, u "java/lang/Object"), (0, .class_ 3)] 3

/-- java/lang/Cloneable -/
def k3 : Class := { plain "java/lang/Cloneable" (some 0) with
  accessFlags := 1537
  interfaces := #[]
  cf := some (fileOf pool3 2 #[] #[] 1537 4 #[] #[])
  fields := #[]
  methods := #[]
  instanceTypes := #[]
  staticTypes := #[]
  resolved := Array.replicate 8 none
  statics := none }

def pool4 : Array CpInfo := pool [(1, u "java/io/Serializable"), (0, .class_ 1), (0, u "java/lang/Object"), (0, .class_ 3)] 3

/-- java/io/Serializable -/
def k4 : Class := { plain "java/io/Serializable" (some 0) with
  accessFlags := 1537
  interfaces := #[]
  cf := some (fileOf pool4 2 #[] #[] 1537 4 #[] #[])
  fields := #[]
  methods := #[]
  instanceTypes := #[]
  staticTypes := #[]
  resolved := Array.replicate 8 none
  statics := none }

/-- the primitive byte -/
def k5 : Class := { plain "byte" none with kind := .primitive 'B', accessFlags := 0x411 }
/-- [B -/
def k6 : Class := { plain "[B" (some 0) with kind := .array 5 .byte, interfaces := #[3, 4], accessFlags := 1041 }

/-- the primitive char -/
def k7 : Class := { plain "char" none with kind := .primitive 'C', accessFlags := 0x411 }
/-- [C -/
def k8 : Class := { plain "[C" (some 0) with kind := .array 7 .char, interfaces := #[3, 4], accessFlags := 1041 }

/-- the primitive int -/
def k9 : Class := { plain "int" none with kind := .primitive 'I', accessFlags := 0x411 }
/-- [I -/
def k10 : Class := { plain "[I" (some 0) with kind := .array 9 .int, interfaces := #[3, 4], accessFlags := 1041 }

def heap : Heap := #[{ cls := 2, slots := #[.ref 1], vm := .statics 2 },
  { cls := 8, slots := #[.int 48, .int 49, .int 50, .int 51, .int 52, .int 53, .int 54, .int 55, .int 56, .int 57, .int 65, .int 66, .int 67, .int 68, .int 69, .int 70], vm := .none }]
def classes : Array Class := #[k0, k1, k2, k3, k4, k5, k6, k7, k8, k9, k10]
def interned : List (Array UInt16 × Addr) := []
def slotsUsed : Nat := 17
def theMethod : MethodId := ⟨1, 3⟩
def args0 : Array Value := #[.int 5, .int 171, .int 42]
def aboutOver (below : List Frame) : State where
  vm := { classes := classes, interned := interned.toArray }
  heap := heap
  slotsUsed := slotsUsed
  threads := #[{ frames := .invoking theMethod args0 :: below }]
def below0 : List Frame := [.native { method := ⟨0, 0⟩, args := #[] }]
def about1 : State := aboutOver below0
def p0 : Program := .bare "" "" ""
def e0 : Env := launch0.env 0 0 0
theorem w_frames : about1.frames = Frame.invoking theMethod args0 :: below0 := rfl
set_option maxRecDepth 65536 in
theorem w_args : argsFit about1.vm theMethod args0 = true := by decide +kernel
set_option maxRecDepth 65536 in
theorem w_heap : heapFits about1 = true := by decide +kernel
set_option maxRecDepth 65536 in
theorem w_runnable : about1.curStatus? = some .runnable := by decide +kernel
set_option maxRecDepth 65536 in
theorem w_alone : about1.alone = true := by decide +kernel
set_option maxRecDepth 65536 in
theorem w_named : about1.methodNamed? x = some theMethod := by decide +kernel
set_option maxRecDepth 65536 in
theorem w_hears : about1.hears theMethod below0 = true := by decide +kernel
set_option maxRecDepth 65536 in
theorem w_ripe : about1.ripe theMethod args0 below0 = true := by decide +kernel
theorem w_running : about1.status = .running := rfl
set_option maxRecDepth 65536 in
theorem w_room : about1.hasRoom e0.platform room_1 = true :=
  launch0.hasRoom_least _ room_1 (by decide +kernel) (by decide +kernel) (by decide +kernel) (by decide +kernel) (by decide +kernel) (by decide +kernel)
theorem allAtoms_all (ts : List Jvm.Cond) (a : Array Jvm.Value) (st : Jvm.State) : (allAtoms ts).before a st = ts.all (fun c => c.before a st) := by
  induction ts with
  | nil => rfl
  | cons c t ih =>
    show (Jvm.Cond.and c (allAtoms t)).before a st = _
    rw [Jvm.Cond.before_and, ih, List.all_cons]
def words1 : List Jvm.Cond := Jvm.Cond.code x code maxLocals ret :: tables_1
/-- a 'code' word, met by the world's own term for the bytes: nothing is compared byte by byte -/
theorem code_word {y : MethodName} {bytes : ByteArray} {mx : Nat} {rt : Option FieldType} {a : Array Value} {s : State} {m : MethodId} {meth : Method} {c : Code} (h1 : s.methodNamed? y = some m) (h2 : s.vm.method? m = some meth) (h3 : meth.code = some c) (h4 : c.code = bytes)
    (h5 : (c.maxLocals == mx && c.exceptionTable.isEmpty && decide (c.maxStack ≤ mostOperands) && decide (meth.sig.returnType = rt) && !meth.locks && decide (parseMethodDescriptor y.desc = some meth.sig)) = true) : (Jvm.Cond.code y bytes mx rt).before a s = true := by
  simp only [Bool.and_eq_true, beq_iff_eq, Bool.not_eq_true', decide_eq_true_eq] at h5
  obtain ⟨⟨⟨⟨⟨g1, g2⟩, g3⟩, g4⟩, g5⟩, g6⟩ := h5
  simp [Cond.before, Cond.holds, Cond.value, h1, h2, h3, h4, g1, g2, g3, g4, g5, g6]
def isCode : Jvm.Cond → Bool
  | .code _ _ _ _ => true
  | _ => false
theorem all_split {L : List Jvm.Cond} {P : Jvm.Cond → Bool} (h1 : L.all (fun c => isCode c || P c) = true) (h2 : ∀ c ∈ L.filter isCode, P c = true) : L.all P = true := by
  refine List.all_eq_true.mpr fun c hc => ?_
  have h := List.all_eq_true.mp h1 c hc
  rcases Bool.eq_false_or_eq_true (isCode c) with hi | hi
  · exact h2 c (List.mem_filter.mpr ⟨hc, hi⟩)
  · simpa [hi] using h
set_option maxRecDepth 65536 in
theorem w_c0 : (Jvm.Cond.code x code maxLocals ret).before args0 about1 = true := code_word (m := ⟨1, 3⟩) (meth := k1m3) (c := k1c3) (by decide +kernel) rfl rfl rfl (by decide +kernel)
set_option maxRecDepth 65536 in
theorem w_c1 : (Jvm.Cond.code ({ cls := "com/example/pctenc/pctenc/Escape", name := "write", desc := "([CII)I" } : Jvm.MethodName) prog_4_method_3_code (3 : Nat) (Option.some Jvm.ClassFile.FieldType.int)).before args0 about1 = true := code_word (m := ⟨2, 1⟩) (meth := k2m1) (c := k2c1) (by decide +kernel) rfl rfl rfl (by decide +kernel)
set_option maxRecDepth 65536 in
theorem w_c2 : (Jvm.Cond.code ({ cls := "com/example/pctenc/pctenc/EscapeWritePinLaw", name := "hex", desc := "(I)C" } : Jvm.MethodName) method_2_code (1 : Nat) (Option.some Jvm.ClassFile.FieldType.char)).before args0 about1 = true := code_word (m := ⟨1, 1⟩) (meth := k1m1) (c := k1c1) (by decide +kernel) rfl rfl rfl (by decide +kernel)
set_option maxRecDepth 65536 in
theorem w_c3 : (Jvm.Cond.code ({ cls := "com/example/pctenc/pctenc/EscapeWritePinLaw", name := "kept", desc := "([CIIC)Z" } : Jvm.MethodName) method_3_code (4 : Nat) (Option.some Jvm.ClassFile.FieldType.boolean)).before args0 about1 = true := code_word (m := ⟨1, 2⟩) (meth := k1m2) (c := k1c2) (by decide +kernel) rfl rfl rfl (by decide +kernel)
def codes1 : List Jvm.Cond := [Jvm.Cond.code x code maxLocals ret, Jvm.Cond.code ({ cls := "com/example/pctenc/pctenc/Escape", name := "write", desc := "([CII)I" } : Jvm.MethodName) prog_4_method_3_code (3 : Nat) (Option.some Jvm.ClassFile.FieldType.int), Jvm.Cond.code ({ cls := "com/example/pctenc/pctenc/EscapeWritePinLaw", name := "hex", desc := "(I)C" } : Jvm.MethodName) method_2_code (1 : Nat) (Option.some Jvm.ClassFile.FieldType.char), Jvm.Cond.code ({ cls := "com/example/pctenc/pctenc/EscapeWritePinLaw", name := "kept", desc := "([CIIC)Z" } : Jvm.MethodName) method_3_code (4 : Nat) (Option.some Jvm.ClassFile.FieldType.boolean)]
set_option maxRecDepth 65536 in
theorem codes_eq : words1.filter isCode = codes1 := rfl
theorem w_codes : ∀ c ∈ words1.filter isCode, c.before args0 about1 = true := by
  rw [codes_eq]
  intro c hc
  simp only [codes1, List.mem_cons, List.not_mem_nil, or_false] at hc
  rcases hc with rfl | rfl | rfl | rfl
  · exact w_c0
  · exact w_c1
  · exact w_c2
  · exact w_c3
set_option maxRecDepth 65536 in
theorem w_t1 : words1.all (fun c => isCode c || c.before args0 about1) = true := by decide +kernel
theorem w_tables : (allAtoms (Jvm.Cond.code x code maxLocals ret :: tables_1)).before args0 about1 = true := by
  rw [allAtoms_all]
  show words1.all (fun c => c.before args0 about1) = true
  refine all_split ?_ w_codes
  rw [w_t1]
set_option maxRecDepth 65536 in
theorem w_case : (Jvm.Cond.and given_1 narrow_1).before args0 about1 = true := by decide +kernel
theorem w_applies : (headSpec (Jvm.Cond.code x code maxLocals ret :: tables_1) room_1).applies x e0.platform about1 = true :=
  (Spec.applies_iff w_frames).mpr ⟨w_running, w_runnable, w_alone, w_named, w_hears, w_ripe, w_room, w_tables⟩
theorem atStart : AtStart classFile x code maxLocals ret World_1 tables_1 room_1 Calls_1 rest_1 Pre_1 launch0 p0 e0 about1 theMethod args0 below0 :=
  ⟨lists_1, trivial, launch0.admits_env _ _ _, launch0.least_env, fairChoices_fair.cas, fairChoices_fair.clock, w_frames, w_args, w_heap, w_applies, trivial, trivial, w_case⟩
end start1
theorem witness_1 : WitnessClaimed_1 := ⟨start1.p0, start1.e0, start1.about1, start1.theMethod, start1.args0, start1.below0, start1.atStart⟩
end Jvm.Pilot.@@N@@
