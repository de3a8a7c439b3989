import JvmDerived
import JvmDerived.Pilot.@@N@@Statement
import JvmDerived.Pilot.@@N@@Code
set_option linter.unusedVariables false
set_option linter.unusedSimpArgs false
namespace Jvm.RoadKit
open Sem ClassFile Op Lib Jvm.Stand Jvm.Free Jvm.LawKit
section OwnGo
variable {p : Program} {l : Launch} {e : Env} {R : Room} {s : State} {m : MethodId} {args : Array Value} {below : List Frame} {meth : Method} {c : Code} {T T' : State} {locs : List Loc} {cells slots ck sk : Nat} {Q : Option Value → Heap → List Loc → Prop}
/-- from the state T the body comes to its end, with Q -/
def Go (p : Program) (e : Env) (below : List Frame) (s : State) (ck sk : Nat) (Q : Option Value → Heap → List Loc → Prop) (T : State) : Prop :=
  ∃ s₂ o, Steps p.tables e below T s₂ ∧ s₂.status = .running ∧ Ended s₂ below o ∧ ∃ v L, o = .returned v ∧ Q v s₂.heap L ∧ FrameEnd s o s₂ L ck sk
theorem Go.by (h : ∀ t, Steps p.tables e below T' t → Steps p.tables e below T t) (g : Go p e below s ck sk Q T') : Go p e below s ck sk Q T := by
  obtain ⟨s₂, o, h1, r⟩ := g
  exact ⟨s₂, o, h _ h1, r⟩
theorem Go.tr (h : Steps p.tables e below T T') (g : Go p e below s ck sk Q T') : Go p e below s ck sk Q T := by
  obtain ⟨s₂, o, h1, r⟩ := g
  exact ⟨s₂, o, h.trans h1, r⟩
theorem Go.fin (X : Stand p l e R s m args below meth c T locs cells slots) {v : Option Value} (hv : meth.sig.returnType = none → v = none) (hlk : meth.locks = false)
    (st : ∀ fs : List Frame, (∀ (f : JFrame) (acts : List Action), f.method = m → f.locked = none → f.entered = [] → (doReturn e (T.setTop f) acts v).1 = T.setFrames fs) → Steps p.tables e below T' (T.setFrames fs))
    (hq : Q v T.heap locs) (hc : cells ≤ ck) (hs : slots ≤ sk) : Go p e below s ck sk Q T' := by
  obtain ⟨fs, hr, hrun, hended, hW, hsame⟩ := X.leave hv hlk
  exact ⟨_, _, st fs hr, hrun, hended, _, _, rfl, hq, ⟨_, rfl⟩, hW, hsame.mono hc hs⟩
theorem Go.retV (X : Stand p l e R s m args below meth c T locs cells slots) (hx : p.tables.exec = Jvm.exec) {pc : Nat} {Ls : Array Slot} (hret : meth.sig.returnType = none) (hlk : meth.locks = false) (hd : decode c.code pc = .ok (.return_, 1))
    (hq : Q none T.heap locs) (hc : cells ≤ ck) (hs : slots ≤ sk) : Go p e below s ck sk Q (T.setTop (mkF m pc Ls [])) :=
  Go.fin X (fun _ => rfl) hlk (fun fs hr => X.returnOut hx hret hd hr) hq hc hs
theorem Go.retN (X : Stand p l e R s m args below meth c T locs cells slots) (hx : p.tables.exec = Jvm.exec) {pc : Nat} {Ls : Array Slot} {z : Int32} {t : FieldType} {rest : List Value} (hret : meth.sig.returnType = some t) (ht : t = .boolean ∨ t = .byte ∨ t = .char ∨ t = .short) (hlk : meth.locks = false) (hd : decode c.code pc = .ok (.ireturn, 1))
    (hq : Q (some (.int (nar t z))) T.heap locs) (hc : cells ≤ ck) (hs : slots ≤ sk) : Go p e below s ck sk Q (T.setTop (mkF m pc Ls (.int z :: rest))) :=
  Go.fin X (fun h => by rw [hret] at h; cases h) hlk (fun fs hr => Jvm.RoadKit.retN X hx hret ht hd hr) hq hc hs
theorem Go.retI (X : Stand p l e R s m args below meth c T locs cells slots) (hx : p.tables.exec = Jvm.exec) {pc : Nat} {Ls : Array Slot} {z : Int32} {rest : List Value} (hret : meth.sig.returnType = some .int) (hlk : meth.locks = false) (hd : decode c.code pc = .ok (.ireturn, 1))
    (hq : Q (some (.int z)) T.heap locs) (hc : cells ≤ ck) (hs : slots ≤ sk) : Go p e below s ck sk Q (T.setTop (mkF m pc Ls (.int z :: rest))) :=
  Go.fin X (fun h => by rw [hret] at h; cases h) hlk (fun fs hr => retOut X hx hret rfl (Or.inl ⟨rfl, Or.inl rfl, z, rfl⟩) hd hr) hq hc hs
theorem Go.retJ (X : Stand p l e R s m args below meth c T locs cells slots) (hx : p.tables.exec = Jvm.exec) {pc : Nat} {Ls : Array Slot} {z : Int64} {rest : List Value} (hret : meth.sig.returnType = some .long) (hlk : meth.locks = false) (hd : decode c.code pc = .ok (.lreturn, 1))
    (hq : Q (some (.long z)) T.heap locs) (hc : cells ≤ ck) (hs : slots ≤ sk) : Go p e below s ck sk Q (T.setTop (mkF m pc Ls (.long z :: rest))) :=
  Go.fin X (fun h => by rw [hret] at h; cases h) hlk (fun fs hr => retOut X hx hret rfl (Or.inr (Or.inl ⟨rfl, rfl, z, rfl⟩)) hd hr) hq hc hs
theorem Go.retR (X : Stand p l e R s m args below meth c T locs cells slots) (hx : p.tables.exec = Jvm.exec) {pc : Nat} {Ls : Array Slot} {w : Value} {t : FieldType} {rest : List Value} (hret : meth.sig.returnType = some t) (ht : t.isReference = true) (hw : w.isRef = true) (hlk : meth.locks = false) (hd : decode c.code pc = .ok (.areturn, 1))
    (hq : Q (some w) T.heap locs) (hc : cells ≤ ck) (hs : slots ≤ sk) : Go p e below s ck sk Q (T.setTop (mkF m pc Ls (w :: rest))) := by
  refine Go.fin X (fun h => by rw [hret] at h; cases h) hlk (fun fs hr => retOut X hx hret ?_ (Or.inr (Or.inr (Or.inr (Or.inr ⟨rfl, ht, hw⟩)))) hd hr) hq hc hs
  rcases ref_cases hw with rfl | ⟨a, rfl⟩ <;> cases t <;> first | rfl | cases ht
/-- the same where Strings may be interned on the way -/
def GoW (p : Program) (e : Env) (below : List Frame) (s : State) (ck sk : Nat) (Q : Option Value → Heap → List Loc → Prop) (T : State) : Prop :=
  ∃ s₂ o, Steps p.tables e below T s₂ ∧ s₂.status = .running ∧ Ended s₂ below o ∧ ∃ v L, o = .returned v ∧ Q v s₂.heap L ∧ ReturnedEndW s o s₂ L ck sk
theorem GoW.by (h : ∀ t, Steps p.tables e below T' t → Steps p.tables e below T t) (g : GoW p e below s ck sk Q T') : GoW p e below s ck sk Q T := by
  obtain ⟨s₂, o, h1, r⟩ := g
  exact ⟨s₂, o, h _ h1, r⟩
theorem GoW.tr (h : Steps p.tables e below T T') (g : GoW p e below s ck sk Q T') : GoW p e below s ck sk Q T := by
  obtain ⟨s₂, o, h1, r⟩ := g
  exact ⟨s₂, o, h.trans h1, r⟩
theorem GoW.fin {vm1 : Vm} {k1 : Nat} (X : Stand p l e R (s.setVm vm1) m args below meth c T locs cells slots) (hS : s.Since vm1 k1) (hk : k1 ≤ T.heap.size) {v : Option Value} (hv : meth.sig.returnType = none → v = none) (hlk : meth.locks = false)
    (st : ∀ fs : List Frame, (∀ (f : JFrame) (acts : List Action), f.method = m → f.locked = none → f.entered = [] → (doReturn e (T.setTop f) acts v).1 = T.setFrames fs) → Steps p.tables e below T' (T.setFrames fs))
    (hq : Q v T.heap locs) (hc : cells ≤ ck) (hs : slots ≤ sk) : GoW p e below s ck sk Q T' := by
  obtain ⟨fs, hr, hrun, hended, hW, hsame⟩ := X.leave hv hlk
  obtain ⟨q1, q2, q3⟩ := hS.ended (U := T.setFrames fs) hW hk hsame
  exact ⟨_, _, st fs hr, hrun, hended, _, _, rfl, hq, ⟨_, rfl⟩, q1, q2, q3.mono hc hs⟩
theorem GoW.retV {vm1 : Vm} {k1 : Nat} (X : Stand p l e R (s.setVm vm1) m args below meth c T locs cells slots) (hS : s.Since vm1 k1) (hk : k1 ≤ T.heap.size) (hx : p.tables.exec = Jvm.exec) {pc : Nat} {Ls : Array Slot} (hret : meth.sig.returnType = none) (hlk : meth.locks = false) (hd : decode c.code pc = .ok (.return_, 1))
    (hq : Q none T.heap locs) (hc : cells ≤ ck) (hs : slots ≤ sk) : GoW p e below s ck sk Q (T.setTop (mkF m pc Ls [])) :=
  GoW.fin X hS hk (fun _ => rfl) hlk (fun fs hr => X.returnOut hx hret hd hr) hq hc hs
theorem GoW.retN {vm1 : Vm} {k1 : Nat} (X : Stand p l e R (s.setVm vm1) m args below meth c T locs cells slots) (hS : s.Since vm1 k1) (hk : k1 ≤ T.heap.size) (hx : p.tables.exec = Jvm.exec) {pc : Nat} {Ls : Array Slot} {z : Int32} {t : FieldType} {rest : List Value} (hret : meth.sig.returnType = some t) (ht : t = .boolean ∨ t = .byte ∨ t = .char ∨ t = .short) (hlk : meth.locks = false) (hd : decode c.code pc = .ok (.ireturn, 1))
    (hq : Q (some (.int (nar t z))) T.heap locs) (hc : cells ≤ ck) (hs : slots ≤ sk) : GoW p e below s ck sk Q (T.setTop (mkF m pc Ls (.int z :: rest))) :=
  GoW.fin X hS hk (fun h => by rw [hret] at h; cases h) hlk (fun fs hr => Jvm.RoadKit.retN X hx hret ht hd hr) hq hc hs
theorem GoW.retR {vm1 : Vm} {k1 : Nat} (X : Stand p l e R (s.setVm vm1) m args below meth c T locs cells slots) (hS : s.Since vm1 k1) (hk : k1 ≤ T.heap.size) (hx : p.tables.exec = Jvm.exec) {pc : Nat} {Ls : Array Slot} {w : Value} {t : FieldType} {rest : List Value} (hret : meth.sig.returnType = some t) (ht : t.isReference = true) (hw : w.isRef = true) (hlk : meth.locks = false) (hd : decode c.code pc = .ok (.areturn, 1))
    (hq : Q (some w) T.heap locs) (hc : cells ≤ ck) (hs : slots ≤ sk) : GoW p e below s ck sk Q (T.setTop (mkF m pc Ls (w :: rest))) := by
  refine GoW.fin X hS hk (fun h => by rw [hret] at h; cases h) hlk (fun fs hr => retOut X hx hret ?_ (Or.inr (Or.inr (Or.inr (Or.inr ⟨rfl, ht, hw⟩)))) hd hr) hq hc hs
  rcases ref_cases hw with rfl | ⟨a, rfl⟩ <;> cases t <;> first | rfl | cases ht
end OwnGo
theorem own_selp {Z s : State} {a0 args : Array Value} {y : MethodName} {n : Nat} (hZ : Z.Warmed39 s.vm) (wi : (Cond.instantiable y.cls n).before a0 Z = true) (wp : (Cond.privateMethod y).before a0 Z = true) (wm : (Cond.instanceMethod y).before a0 Z = true) (hy : y.cls ≠ "java/lang/invoke/MethodHandle" ∧ y.cls ≠ "java/lang/invoke/VarHandle") : (Cond.selects y.cls y y).before args s = true := by
  obtain ⟨c, k, h1, h2, -, h4, -⟩ := Cond.instantiable_spec (mv (args := args) hZ wi)
  exact selects_self_of_private h1 h2 (by simpa using (Bool.or_eq_false_iff.mp h4).1) (Cond.privateMethod_at (mvP (args := args) hZ wp)) (mv hZ wm) hy
theorem own_zn {z : Int32} (h : z = (0 : Int32) ∨ z = (1 : Int32)) : narrow .boolean (.int z) = .int z := by rcases h with rfl | rfl <;> rfl
theorem own_zf {z : Int32} (h : z = (0 : Int32) ∨ z = (1 : Int32)) : fits .boolean (.int z) = true := by rcases h with rfl | rfl <;> rfl
theorem own_ns {Z : State} {h : Heap} {b : Addr} {C : String} (E : Exa Z h b C) : ∀ cell : Cell, h[b]? = some cell → cell.vm.isStatics = false := fun cell hc => by
  obtain ⟨c, _, h1, -, -, h4, -⟩ := E
  cases h1.symm.trans hc
  exact h4
theorem own_stakeep {Z : State} {h h' : Heap} {C n d : String} {v : Value} {ws : List Addr} (F : Sta Z h C n d v) (K : Keep h h' ws) (q : ∀ x ∈ ws, ∀ cell : Cell, h[x]? = some cell → cell.vm.isStatics = false) : Sta Z h' C n d v := by
  obtain ⟨cf, i, k, f, st, cell, h1, h2, h3, h4, h5, h6, h7⟩ := F
  refine ⟨cf, i, k, f, st, cell, h1, h2, h3, h4, K.2.1 st cell h5 fun z => ?_, h6, h7⟩
  rw [q st z cell h5] at h6
  cases h6
section OwnLong
variable {Z : State} {h h' : Heap} {a b : Addr} {k : ClassId} {n j : Int32} {x : Int64} {ws : List Addr} {sl : Nat} {v : Value}
/-- a long[] of the length n, whatever it holds -/
def LA (Z : State) (h : Heap) (a : Addr) (k : ClassId) (n : Int32) : Prop := ∃ c : Cell, Arr Z h a c .long ∧ c.cls = k ∧ c.slots.size = n.toNatClampNeg ∧ ¬ n < 0 ∧ ∀ i, i < c.slots.size → ∃ x : Int64, c.slots[i]? = some (.long x)
theorem LA.lt (F : LA Z h a k n) : a < h.size := by obtain ⟨c, A, -⟩ := F; exact A.lt
theorem LA.ext (F : LA Z h a k n) (E : Ext h h') : LA Z h' a k n := by obtain ⟨c, A, r⟩ := F; exact ⟨c, A.ext E, r⟩
theorem LA.other (F : LA Z h b k n) (W : Wr h h' a sl v) (q : b ≠ a) : LA Z h' b k n := by obtain ⟨c, A, r⟩ := F; exact ⟨c, A.other W q, r⟩
theorem LA.keep (F : LA Z h a k n) (K : Keep h h' ws) (q : a ∉ ws) : LA Z h' a k n := by obtain ⟨c, A, r⟩ := F; exact ⟨c, ⟨K.2.1 a c A.1 q, A.2⟩, r⟩
theorem LA.new (A : Arr Z h a (newA k .long n) .long) (q : ¬ n < 0) : LA Z h a k n := ⟨_, A, rfl, sz_new _ _ _, q, fun i hi => ⟨0, by
  have hi' : i < n.toNatClampNeg := by rw [sz_new] at hi; exact hi
  show (Array.replicate n.toNatClampNeg (defaultValue .long))[i]? = _
  simp [hi', defaultValue]⟩⟩
theorem LA.set {c : Cell} (A : Arr Z h a c .long) (q1 : c.cls = k) (S : c.slots.size = n.toNatClampNeg) (q3 : ¬ n < 0) (G : ∀ i, i < c.slots.size → ∃ x : Int64, c.slots[i]? = some (.long x)) (W : Wr h h' a sl (.long x)) : LA Z h' a k n := by
  refine ⟨_, A.same W, q1, by rw [sz_set]; exact S, q3, fun i hi => ?_⟩
  rw [sz_set] at hi
  by_cases e : sl = i
  · subst e; exact ⟨x, by simp [Cell.setSlot, hi]⟩
  · obtain ⟨y, hy⟩ := G i hi
    exact ⟨y, by rw [← hy]; exact Array.getElem?_setIfInBounds_ne e⟩
end OwnLong
section OwnStart
variable {args : Array Value} {s : State} {a b t : Term}
theorem own_eqI {n : Int32} (h : (Cond.eq a (.int n)).value args s none s [] = some true) : a.eval args s none [] s = some (.int n) := by
  cases ha : a.eval args s none [] s with
  | none => simp [Cond.value, ha] at h
  | some x => cases x <;> simp [Cond.value, ha, Term.eval] at h ⊢ <;> exact h
theorem own_eqL {n : Int64} (h : (Cond.eq a (.long n)).value args s none s [] = some true) : a.eval args s none [] s = some (.long n) := by
  cases ha : a.eval args s none [] s with
  | none => simp [Cond.value, ha] at h
  | some x => cases x <;> simp [Cond.value, ha, Term.eval] at h ⊢ <;> exact h
theorem own_eqR {x : Addr} (h : (Cond.eq a b).value args s none s [] = some true) (hb : b.eval args s none [] s = some (.ref x)) : a.eval args s none [] s = some (.ref x) := by
  cases ha : a.eval args s none [] s with
  | none => simp [Cond.value, ha] at h
  | some y => cases y <;> simp [Cond.value, ha, hb] at h ⊢ <;> exact h
theorem own_neR {x y : Addr} (h : (Cond.not (Cond.eq a b)).value args s none s [] = some true) (ha : a.eval args s none [] s = some (.ref x)) (hb : b.eval args s none [] s = some (.ref y)) : x ≠ y := by
  intro e
  subst e
  simp [Cond.value, ha, hb] at h
theorem own_lenv {n : Int32} {x : Addr} {cl : Cell} (h : (Term.length t).eval args s none [] s = some (.int n)) (ht : t.eval args s none [] s = some (.ref x)) (hc : s.heap[x]? = some cl) : cl.slots.size < 2 ^ 31 ∧ cl.slots.size.toInt32 = n := by
  obtain ⟨a', cell, e1, e2, e3⟩ := Term.length_spec h
  cases ht.symm.trans e1
  have hcl : cell = cl := by
    simp only [State.arrayAt?, hc, Option.bind_eq_bind, Option.bind_some] at e2
    cases hk : s.vm.classes[cl.cls]? with
    | none => simp [hk] at e2
    | some k =>
      simp only [hk, Option.bind_some] at e2
      split at e2
      · cases e2
      · split at e2
        · exact (Option.some.inj e2).symm
        · cases e2
  subst hcl
  refine ⟨?_, (Value.int.inj e3).symm⟩
  simp only [Term.eval, ht, e2, Option.bind_eq_bind, Option.bind_some] at h
  split at h
  · assumption
  · cases h
end OwnStart
end Jvm.RoadKit
namespace Jvm.Pilot.@@N@@
open Jvm Jvm.ClassFile Sem Op Lib Jvm.Free Jvm.Stand Jvm.LawKit Jvm.RoadKit Bundle Jvm.Pilot.@@N@@.Jvm.D
theorem dR_0 : decode jdk_30_method_1_code 0 = .ok (.aload_n 0, 1) := by decide +kernel
theorem dR_1 : decode jdk_30_method_1_code 1 = .ok (.invokespecial 1, 3) := by decide +kernel
theorem dR_4 : decode jdk_30_method_1_code 4 = .ok (.return_, 1) := by decide +kernel
theorem pnR : plainName "java/lang/Record" = true := by first | (simp [plainName, overriddenIn]; done) | decide +kernel
theorem efR (m : MethodId) (a : Addr) : entryFrame m #[(.ref a)] 1 = mkF m 0 #[.val (.ref a)] [] := by first | (simp [entryFrame, mkF, argsToLocals, Value.category]; done) | rfl
def QR (Z : State) (a : Addr) (h0 : Heap) (n0 : Nat) (v : Option Value) (h : Heap) (L : List Loc) : Prop := v = none ∧ Fr n0 L ∧ h = h0
set_option maxRecDepth 65536 in
set_option maxHeartbeats 40000000 in
theorem rmR (l : Launch) (Z : State) (a0 : Array Value) (hw : ∀ d ∈ tables_1, d.before a0 Z = true) (ws : List Jvm.Cond) (a : Addr) (h0 : Heap) (n0 : Nat) (Z0 : n0 ≤ h0.size) :
    MetFree l (⟨"java/lang/Record", "<init>", "()V"⟩ : MethodName) (head1 (Jvm.Cond.code (⟨"java/lang/Record", "<init>", "()V"⟩ : MethodName) jdk_30_method_1_code 1 none :: ws) ({ frames := 1, cells := 0, slots := 0, locals := 12 } : Room)) (fun aa_ U_ => aa_ = #[(.ref a)] ∧ Z.Warmed39 U_.vm ∧ U_.heap = h0) (fun _ _ _ _ _ => True) (fun _ U_ o_ V_ => ∃ v_ L_, o_ = .returned v_ ∧ QR Z a h0 n0 v_ V_.heap L_ ∧ FrameEnd U_ o_ V_ L_ ({ frames := 1, cells := 0, slots := 0, locals := 12 } : Room).cells ({ frames := 1, cells := 0, slots := 0, locals := 12 } : Room).slots) := by
  refine MetFree.of_bodySF (plainFor_of_name pnR) hisR ?_
  intro p e s m args below meth c s₁ Bd hml0 hP hK
  obtain ⟨rfl, hZ, hh⟩ := hP
  have hx := Bd.exec
  have hby := Bd.bytes
  have hml : c.maxLocals = 1 := hml0
  have hown : s.vm.findClass "java/lang/Record" = some m.cls := findClass_of_methodNamed Bd.named
  have hnm := (name_of_methodNamed Bd.named Bd.method).1
  have hlk : meth.locks = false := BodyLoose.notSynchronized Bd
  have hret : meth.sig.returnType = none := Bd.returns
  have X0 : Stand p l e ({ frames := 1, cells := 0, slots := 0, locals := 12 } : Room) s m #[(.ref a)] below meth c s₁ [] 0 0 := Stand.of_body Bd
  have e0 : s₁.heap = h0 := by rw [← hh, Bd.state]; rfl
  have N0 := Fr.nil n0
  show Go p e below s ({ frames := 1, cells := 0, slots := 0, locals := 12 } : Room).cells ({ frames := 1, cells := 0, slots := 0, locals := 12 } : Room).slots (QR Z a h0 n0) (s₁.setTop (entryFrame m #[(.ref a)] 1))
  rw [efR]
  refine Go.by (fun _ kont => XS.aloadN X0.here hx rfl (hb hby dR_0) rfl rfl kont) ?_
  show Go _ _ _ _ _ _ _ (s₁.setTop (mkF m 1 #[.val (.ref a)] [(.ref a)]))
  obtain ⟨T101, X101, e101, st101⟩ := initO X0 hx hZ hown (hw _ (List.mem_of_getElem? (i := 17) rfl)) (hw _ (List.mem_of_getElem? (i := 18) rfl)) (hw _ (List.mem_of_getElem? (i := 19) rfl)) e0 (g := (mkF m 1 #[.val (.ref a)] [(.ref a)])) rfl (by rw [hml]; rfl) rfl (hb hby dR_1) (by decide) (W := 0) (by show 2 * 0 + _ ≤ _; exact Nat.le_of_eq rfl) (by decide)
  refine Go.by st101 ?_
  show Go _ _ _ _ _ _ _ (T101.setTop (mkF m 4 #[.val (.ref a)] []))
  refine Go.retV X101 hx hret hlk (hb hby dR_4) ?_ (by decide) (by decide)
  show QR Z a h0 n0 none T101.heap _
  rw [e101]
  exact ⟨rfl, N0, rfl⟩

theorem dN_0 : decode jdk_18_method_1_code 0 = .ok (.aload_n 0, 1) := by decide +kernel
theorem dN_1 : decode jdk_18_method_1_code 1 = .ok (.invokespecial 1, 3) := by decide +kernel
theorem dN_4 : decode jdk_18_method_1_code 4 = .ok (.return_, 1) := by decide +kernel
theorem pnN : plainName "java/lang/Number" = true := by first | (simp [plainName, overriddenIn]; done) | decide +kernel
theorem efN (m : MethodId) (a : Addr) : entryFrame m #[(.ref a)] 1 = mkF m 0 #[.val (.ref a)] [] := by first | (simp [entryFrame, mkF, argsToLocals, Value.category]; done) | rfl
def QN (Z : State) (a : Addr) (h0 : Heap) (n0 : Nat) (v : Option Value) (h : Heap) (L : List Loc) : Prop := v = none ∧ Fr n0 L ∧ h = h0
set_option maxRecDepth 65536 in
set_option maxHeartbeats 40000000 in
theorem rmN (l : Launch) (Z : State) (a0 : Array Value) (hw : ∀ d ∈ tables_1, d.before a0 Z = true) (ws : List Jvm.Cond) (a : Addr) (h0 : Heap) (n0 : Nat) (Z0 : n0 ≤ h0.size) :
    MetFree l (⟨"java/lang/Number", "<init>", "()V"⟩ : MethodName) (head1 (Jvm.Cond.code (⟨"java/lang/Number", "<init>", "()V"⟩ : MethodName) jdk_18_method_1_code 1 none :: ws) ({ frames := 1, cells := 0, slots := 0, locals := 12 } : Room)) (fun aa_ U_ => aa_ = #[(.ref a)] ∧ Z.Warmed39 U_.vm ∧ U_.heap = h0) (fun _ _ _ _ _ => True) (fun _ U_ o_ V_ => ∃ v_ L_, o_ = .returned v_ ∧ QN Z a h0 n0 v_ V_.heap L_ ∧ FrameEnd U_ o_ V_ L_ ({ frames := 1, cells := 0, slots := 0, locals := 12 } : Room).cells ({ frames := 1, cells := 0, slots := 0, locals := 12 } : Room).slots) := by
  refine MetFree.of_bodySF (plainFor_of_name pnN) hisR ?_
  intro p e s m args below meth c s₁ Bd hml0 hP hK
  obtain ⟨rfl, hZ, hh⟩ := hP
  have hx := Bd.exec
  have hby := Bd.bytes
  have hml : c.maxLocals = 1 := hml0
  have hown : s.vm.findClass "java/lang/Number" = some m.cls := findClass_of_methodNamed Bd.named
  have hnm := (name_of_methodNamed Bd.named Bd.method).1
  have hlk : meth.locks = false := BodyLoose.notSynchronized Bd
  have hret : meth.sig.returnType = none := Bd.returns
  have X0 : Stand p l e ({ frames := 1, cells := 0, slots := 0, locals := 12 } : Room) s m #[(.ref a)] below meth c s₁ [] 0 0 := Stand.of_body Bd
  have e0 : s₁.heap = h0 := by rw [← hh, Bd.state]; rfl
  have N0 := Fr.nil n0
  show Go p e below s ({ frames := 1, cells := 0, slots := 0, locals := 12 } : Room).cells ({ frames := 1, cells := 0, slots := 0, locals := 12 } : Room).slots (QN Z a h0 n0) (s₁.setTop (entryFrame m #[(.ref a)] 1))
  rw [efN]
  refine Go.by (fun _ kont => XS.aloadN X0.here hx rfl (hb hby dN_0) rfl rfl kont) ?_
  show Go _ _ _ _ _ _ _ (s₁.setTop (mkF m 1 #[.val (.ref a)] [(.ref a)]))
  obtain ⟨T101, X101, e101, st101⟩ := initO X0 hx hZ hown (hw _ (List.mem_of_getElem? (i := 88) rfl)) (hw _ (List.mem_of_getElem? (i := 18) rfl)) (hw _ (List.mem_of_getElem? (i := 19) rfl)) e0 (g := (mkF m 1 #[.val (.ref a)] [(.ref a)])) rfl (by rw [hml]; rfl) rfl (hb hby dN_1) (by decide) (W := 0) (by show 2 * 0 + _ ≤ _; exact Nat.le_of_eq rfl) (by decide)
  refine Go.by st101 ?_
  show Go _ _ _ _ _ _ _ (T101.setTop (mkF m 4 #[.val (.ref a)] []))
  refine Go.retV X101 hx hret hlk (hb hby dN_4) ?_ (by decide) (by decide)
  show QN Z a h0 n0 none T101.heap _
  rw [e101]
  exact ⟨rfl, N0, rfl⟩

theorem dRn_0 : decode jdk_31_method_11_code 0 = .ok (.aload_n 0, 1) := by decide +kernel
theorem dRn_1 : decode jdk_31_method_11_code 1 = .ok (.ifnonnull 12, 3) := by decide +kernel
theorem dRn_13 : decode jdk_31_method_11_code 13 = .ok (.aload_n 0, 1) := by decide +kernel
theorem dRn_14 : decode jdk_31_method_11_code 14 = .ok (.areturn, 1) := by decide +kernel
theorem pnRn : plainName "java/util/Objects" = true := by first | (simp [plainName, overriddenIn]; done) | decide +kernel
theorem efRn (m : MethodId) (oo : Addr) (tt : Addr) : entryFrame m #[(.ref oo), (.ref tt)] 2 = mkF m 0 #[.val (.ref oo), .val (.ref tt)] [] := by first | (simp [entryFrame, mkF, argsToLocals, Value.category]; done) | rfl
def QRn (Z : State) (oo : Addr) (tt : Addr) (h0 : Heap) (n0 : Nat) (v : Option Value) (h : Heap) (L : List Loc) : Prop := (v = some (.ref oo) ∧ Fr n0 L ∧ h = h0)
set_option maxRecDepth 65536 in
set_option maxHeartbeats 40000000 in
theorem rmRn (l : Launch) (Z : State) (a0 : Array Value) (hw : ∀ d ∈ tables_1, d.before a0 Z = true) (ws : List Jvm.Cond) (oo : Addr) (tt : Addr) (h0 : Heap) (n0 : Nat) (Z0 : n0 ≤ h0.size) :
    MetFree l (⟨"java/util/Objects", "requireNonNull", "(Ljava/lang/Object;Ljava/lang/String;)Ljava/lang/Object;"⟩ : MethodName) (head1 (Jvm.Cond.code (⟨"java/util/Objects", "requireNonNull", "(Ljava/lang/Object;Ljava/lang/String;)Ljava/lang/Object;"⟩ : MethodName) jdk_31_method_11_code 2 (some (.object "java/lang/Object")) :: ws) ({ frames := 0, cells := 0, slots := 0, locals := 0 } : Room)) (fun aa_ U_ => aa_ = #[(.ref oo), (.ref tt)] ∧ Z.Warmed39 U_.vm ∧ U_.heap = h0) (fun _ _ _ _ _ => True) (fun _ U_ o_ V_ => ∃ v_ L_, o_ = .returned v_ ∧ QRn Z oo tt h0 n0 v_ V_.heap L_ ∧ FrameEnd U_ o_ V_ L_ ({ frames := 0, cells := 0, slots := 0, locals := 0 } : Room).cells ({ frames := 0, cells := 0, slots := 0, locals := 0 } : Room).slots) := by
  refine MetFree.of_bodySF (plainFor_of_name pnRn) hisR ?_
  intro p e s m args below meth c s₁ Bd hml0 hP hK
  obtain ⟨rfl, hZ, hh⟩ := hP
  have hx := Bd.exec
  have hby := Bd.bytes
  have hml : c.maxLocals = 2 := hml0
  have hown : s.vm.findClass "java/util/Objects" = some m.cls := findClass_of_methodNamed Bd.named
  have hnm := (name_of_methodNamed Bd.named Bd.method).1
  have hlk : meth.locks = false := BodyLoose.notSynchronized Bd
  have hret : meth.sig.returnType = (some (.object "java/lang/Object")) := Bd.returns
  have X0 : Stand p l e ({ frames := 0, cells := 0, slots := 0, locals := 0 } : Room) s m #[(.ref oo), (.ref tt)] below meth c s₁ [] 0 0 := Stand.of_body Bd
  have e0 : s₁.heap = h0 := by rw [← hh, Bd.state]; rfl
  have N0 := Fr.nil n0
  show Go p e below s ({ frames := 0, cells := 0, slots := 0, locals := 0 } : Room).cells ({ frames := 0, cells := 0, slots := 0, locals := 0 } : Room).slots (QRn Z oo tt h0 n0) (s₁.setTop (entryFrame m #[(.ref oo), (.ref tt)] 2))
  rw [efRn]
  refine Go.by (fun _ kont => XS.aloadN X0.here hx rfl (hb hby dRn_0) rfl rfl (XS.ifnonnullYes X0.here hx rfl (pc0 := 1) (pc' := 13) rfl (hb hby dRn_1) rfl (by decide) (by decide) (XS.aloadN X0.here hx rfl (hb hby dRn_13) rfl rfl kont))) ?_
  show Go _ _ _ _ _ _ _ (s₁.setTop (mkF m 14 #[.val (.ref oo), .val (.ref tt)] [(.ref oo)]))
  refine Go.retR X0 hx hret rfl rfl hlk (hb hby dRn_14) ?_ (by decide) (by decide)
  show QRn Z oo tt h0 n0 (some (.ref oo)) s₁.heap _
  rw [e0]
  exact ⟨rfl, N0, rfl⟩

theorem dE_0 : decode prog_37_method_1_code 0 = .ok (.aload_n 0, 1) := by decide +kernel
theorem dE_1 : decode prog_37_method_1_code 1 = .ok (.invokespecial 1, 3) := by decide +kernel
theorem dE_4 : decode prog_37_method_1_code 4 = .ok (.aload_n 1, 1) := by decide +kernel
theorem dE_5 : decode prog_37_method_1_code 5 = .ok (.ldc 7, 2) := by decide +kernel
theorem dE_7 : decode prog_37_method_1_code 7 = .ok (.invokestatic 9, 3) := by decide +kernel
theorem dE_10 : decode prog_37_method_1_code 10 = .ok (.pop, 1) := by decide +kernel
theorem dE_11 : decode prog_37_method_1_code 11 = .ok (.aload 4, 2) := by decide +kernel
theorem dE_13 : decode prog_37_method_1_code 13 = .ok (.ldc 15, 2) := by decide +kernel
theorem dE_15 : decode prog_37_method_1_code 15 = .ok (.invokestatic 9, 3) := by decide +kernel
theorem dE_18 : decode prog_37_method_1_code 18 = .ok (.pop, 1) := by decide +kernel
theorem dE_19 : decode prog_37_method_1_code 19 = .ok (.aload_n 0, 1) := by decide +kernel
theorem dE_20 : decode prog_37_method_1_code 20 = .ok (.aload_n 1, 1) := by decide +kernel
theorem dE_21 : decode prog_37_method_1_code 21 = .ok (.putfield 17, 3) := by decide +kernel
theorem dE_24 : decode prog_37_method_1_code 24 = .ok (.aload_n 0, 1) := by decide +kernel
theorem dE_25 : decode prog_37_method_1_code 25 = .ok (.lload_n 2, 1) := by decide +kernel
theorem dE_26 : decode prog_37_method_1_code 26 = .ok (.putfield 22, 3) := by decide +kernel
theorem dE_29 : decode prog_37_method_1_code 29 = .ok (.aload_n 0, 1) := by decide +kernel
theorem dE_30 : decode prog_37_method_1_code 30 = .ok (.aload 4, 2) := by decide +kernel
theorem dE_32 : decode prog_37_method_1_code 32 = .ok (.putfield 26, 3) := by decide +kernel
theorem dE_35 : decode prog_37_method_1_code 35 = .ok (.return_, 1) := by decide +kernel
theorem pdE_0 : parseMethodDescriptor "()V" = some ⟨[], none⟩ := by decide +kernel
theorem pdE_1 : parseMethodDescriptor "(Ljava/lang/Object;Ljava/lang/String;)Ljava/lang/Object;" = some ⟨[(.object "java/lang/Object"), (.object "java/lang/String")], some (.object "java/lang/Object")⟩ := by decide +kernel
theorem pnE : plainName "com/example/runpulse/runpulse/RunState$Event" = true := by first | (simp [plainName, overriddenIn]; done) | decide +kernel
theorem efE (m : MethodId) (a : Addr) (kd : Addr) (tm : Int64) (de : Addr) : entryFrame m #[(.ref a), (.ref kd), (.long tm), (.ref de)] 5 = mkF m 0 #[.val (.ref a), .val (.ref kd), .val (.long tm), .second, .val (.ref de)] [] := by first | (simp [entryFrame, mkF, argsToLocals, Value.category]; done) | rfl
def QE (Z : State) (a : Addr) (tm : Int64) (h0 : Heap) (n0 : Nat) (v : Option Value) (h : Heap) (L : List Loc) : Prop := v = none ∧ Fr n0 L ∧ Keep h0 h [a] ∧ Exa Z h a "com/example/runpulse/runpulse/RunState$Event" ∧ Fld Z h a "com/example/runpulse/runpulse/RunState$Event" "time" "J" (.long tm)
set_option maxRecDepth 65536 in
set_option maxHeartbeats 40000000 in
theorem rmE (l : Launch) (Z : State) (a0 : Array Value) (hw : ∀ d ∈ tables_1, d.before a0 Z = true) (ws : List Jvm.Cond) (a : Addr) (kd : Addr) (tm : Int64) (de : Addr) (h0 : Heap) (n0 : Nat) (Z0 : n0 ≤ h0.size) (E0a : Exa Z h0 a "com/example/runpulse/runpulse/RunState$Event") (Fk : Fld Z h0 a "com/example/runpulse/runpulse/RunState$Event" "kind" "Lcom/example/runpulse/runpulse/LifecycleEvent$Kind;" .null) (Ft : Fld Z h0 a "com/example/runpulse/runpulse/RunState$Event" "time" "J" (.long 0)) (Fd : Fld Z h0 a "com/example/runpulse/runpulse/RunState$Event" "details" "Lcom/example/runpulse/runpulse/EventDetails;" .null) (ga : n0 ≤ a) :
    MetFree l (⟨"com/example/runpulse/runpulse/RunState$Event", "<init>", "(Lcom/example/runpulse/runpulse/LifecycleEvent$Kind;JLcom/example/runpulse/runpulse/EventDetails;)V"⟩ : MethodName) (head1 (Jvm.Cond.code (⟨"com/example/runpulse/runpulse/RunState$Event", "<init>", "(Lcom/example/runpulse/runpulse/LifecycleEvent$Kind;JLcom/example/runpulse/runpulse/EventDetails;)V"⟩ : MethodName) prog_37_method_1_code 5 none :: ws) ({ frames := 2, cells := 4, slots := 52, locals := 24 } : Room)) (fun aa_ U_ => aa_ = #[(.ref a), (.ref kd), (.long tm), (.ref de)] ∧ Z.Warmed39 U_.vm ∧ U_.heap = h0) (fun _ _ _ _ _ => True) (fun _ U_ o_ V_ => ∃ v_ L_, o_ = .returned v_ ∧ QE Z a tm h0 n0 v_ V_.heap L_ ∧ ReturnedEndW U_ o_ V_ L_ ({ frames := 2, cells := 4, slots := 52, locals := 24 } : Room).cells ({ frames := 2, cells := 4, slots := 52, locals := 24 } : Room).slots) := by
  refine MetFree.of_bodySF (plainFor_of_name pnE) hisR ?_
  intro p e s m args below meth c s₁ Bd hml0 hP hK
  obtain ⟨rfl, hZ, hh⟩ := hP
  have hx := Bd.exec
  have hby := Bd.bytes
  have hml : c.maxLocals = 5 := hml0
  have hown : s.vm.findClass "com/example/runpulse/runpulse/RunState$Event" = some m.cls := findClass_of_methodNamed Bd.named
  have hnm := (name_of_methodNamed Bd.named Bd.method).1
  have hlk : meth.locks = false := BodyLoose.notSynchronized Bd
  have hret : meth.sig.returnType = none := Bd.returns
  have X0 : Stand p l e ({ frames := 2, cells := 4, slots := 52, locals := 24 } : Room) (s.setVm s.vm) m #[(.ref a), (.ref kd), (.long tm), (.ref de)] below meth c s₁ [] 0 0 := Stand.of_body Bd
  have e0 : s₁.heap = h0 := by rw [← hh, Bd.state]; rfl
  have N0 := Fr.nil n0
  have hS : s.Since s.vm 0 := (State.WarmedH.refl s).since 0
  have hk0 : 0 ≤ h0.size := Nat.zero_le _
  show GoW p e below s ({ frames := 2, cells := 4, slots := 52, locals := 24 } : Room).cells ({ frames := 2, cells := 4, slots := 52, locals := 24 } : Room).slots (QE Z a tm h0 n0) (s₁.setTop (entryFrame m #[(.ref a), (.ref kd), (.long tm), (.ref de)] 5))
  rw [efE]
  have hstr : ∀ a ∈ Bundle.stringAtoms, a.before a0 Z = true := by
    intro d hd
    simp only [Bundle.stringAtoms, Bundle.sN, List.mem_cons, List.not_mem_nil, or_false] at hd
    rcases hd with rfl | rfl | rfl | rfl | rfl | rfl | rfl
    · exact (hw _ (List.mem_of_getElem? (i := 21) rfl))
    · exact (hw _ (List.mem_of_getElem? (i := 22) rfl))
    · exact (hw _ (List.mem_of_getElem? (i := 23) rfl))
    · exact (hw _ (List.mem_of_getElem? (i := 24) rfl))
    · exact (hw _ (List.mem_of_getElem? (i := 25) rfl))
    · exact (hw _ (List.mem_of_getElem? (i := 26) rfl))
    · exact (hw _ (List.mem_of_getElem? (i := 27) rfl))
  refine GoW.by (fun _ kont => XS.aloadN X0.here hx rfl (hb hby dE_0) rfl rfl kont) ?_
  show GoW _ _ _ _ _ _ _ (s₁.setTop (mkF m 1 #[.val (.ref a), .val (.ref kd), .val (.long tm), .second, .val (.ref de)] [(.ref a)]))
  obtain ⟨_, _, ⟨T101, L101, k101, n101⟩, -, X101, ⟨Lc101, hQ101, l101, y101, z101⟩, st101⟩ := X0.specialBack hx (y := (⟨"java/lang/Record", "<init>", "()V"⟩ : MethodName)) rfl hown (mvT hZ (hw _ (List.mem_of_getElem? (i := 12) rfl))) (mvT hZ (hw _ (List.mem_of_getElem? (i := 13) rfl))) (mvT hZ (hw _ (List.mem_of_getElem? (i := 16) rfl))) (by decide) (backOf (W := 0) (rmR l Z a0 hw [] a h0 n0 Z0 ) hZ (hw _ (List.mem_of_getElem? (i := 16) rfl)) (hw _ (List.mem_of_getElem? (i := 15) rfl)) (by decide) (by decide)) (g := (mkF m 1 #[.val (.ref a), .val (.ref kd), .val (.long tm), .second, .val (.ref de)] [(.ref a)])) rfl (by rw [hml]; rfl) (Steps.refl _) (a := a) (argsL := []) (rest := []) (lenOf pdE_0 rfl) rfl (by show 2 * 0 + _ ≤ _; exact Nat.le_of_eq rfl) (hb hby dE_1) (fun _ _ => ⟨rfl, e0, (by decide : 0 + 0 ≤ _), (by decide : 0 + 0 ≤ _)⟩)
  dsimp only [Pt.U, Pt.locs, Pt.cells, Pt.slots] at X101 l101 y101 z101 st101 hQ101
  subst l101 y101 z101
  obtain ⟨rfl, N101q, eh101⟩ := hQ101
  have N101 := Fr.app N0 N101q
  refine GoW.tr st101 ?_
  show GoW _ _ _ _ _ _ _ (T101.setTop (mkF m 4 #[.val (.ref a), .val (.ref kd), .val (.long tm), .second, .val (.ref de)] []))
  refine GoW.by (fun _ kont => XS.aloadN X101.here hx rfl (hb hby dE_4) rfl rfl kont) ?_
  show GoW _ _ _ _ _ _ _ (T101.setTop (mkF m 5 #[.val (.ref a), .val (.ref kd), .val (.long tm), .second, .val (.ref de)] [(.ref kd)]))
  obtain ⟨s102, T102, h102, k102, X102, e102, X_102, hS, hk102, hZ, hown, st102⟩ := ldcS X101 hx hZ hown (hw _ (List.mem_of_getElem? (i := 20) rfl)) hstr eh101 hS hk0 (g := (mkF m 5 #[.val (.ref a), .val (.ref kd), .val (.long tm), .second, .val (.ref de)] [(.ref kd)])) rfl (hb hby dE_5) (n := 16) (by decide) (by decide) (by decide) (by decide)
  have F103_kind_a := Fk.ext X_102
  have F103_time_a := Ft.ext X_102
  have F103_details_a := Fd.ext X_102
  have E103_a := E0a.ext X_102
  have Z103 := Nat.le_trans Z0 X_102.1
  have hk103 := Nat.le_trans hk0 X_102.1
  have K103 : Keep h0 h102 [a] := (Keep.refl h0 [a]).ext X_102
  refine GoW.by st102 ?_
  show GoW _ _ _ _ _ _ _ (T102.setTop (mkF m 7 #[.val (.ref a), .val (.ref kd), .val (.long tm), .second, .val (.ref de)] [(.ref s102), (.ref kd)]))
  obtain ⟨_, _, ⟨T104, L104, k104, n104⟩, -, X104, ⟨Lc104, hQ104, l104, y104, z104⟩, st104⟩ := Jvm.LawKit.callS X102 hx (y := (⟨"java/util/Objects", "requireNonNull", "(Ljava/lang/Object;Ljava/lang/String;)Ljava/lang/Object;"⟩ : MethodName)) hown (mvT hZ (hw _ (List.mem_of_getElem? (i := 28) rfl))) (mvT hZ (hw _ (List.mem_of_getElem? (i := 29) rfl))) (mvT hZ (hw _ (List.mem_of_getElem? (i := 30) rfl))) (mvT hZ (hw _ (List.mem_of_getElem? (i := 31) rfl))) (by decide) (backOf (W := 0) (rmRn l Z a0 hw [] kd s102 h102 n0 Z103 ) hZ (hw _ (List.mem_of_getElem? (i := 31) rfl)) (hw _ (List.mem_of_getElem? (i := 30) rfl)) (by decide) (by decide)) (g := (mkF m 7 #[.val (.ref a), .val (.ref kd), .val (.long tm), .second, .val (.ref de)] [(.ref s102), (.ref kd)])) rfl (by rw [hml]; rfl) (argsL := [(.ref kd), (.ref s102)]) (rest := []) (lenOf pdE_1 rfl) rfl (by show 2 * 0 + _ ≤ _; exact Nat.le_of_eq rfl) (hb hby dE_7) (fun _ _ => ⟨rfl, e102, (by decide : 2 + 0 ≤ _), (by decide : 20 + 0 ≤ _)⟩)
  dsimp only [Pt.U, Pt.locs, Pt.cells, Pt.slots] at X104 l104 y104 z104 st104 hQ104
  subst l104 y104 z104
  obtain ⟨rfl, N104q, eh104⟩ := hQ104
  have N104 := Fr.app N101 N104q
  refine GoW.by st104 ?_
  show GoW _ _ _ _ _ _ _ (T104.setTop (mkF m 10 #[.val (.ref a), .val (.ref kd), .val (.long tm), .second, .val (.ref de)] [(.ref kd)]))
  refine GoW.by (fun _ kont => XS.pop X104.here hx rfl (hb hby dE_10) rfl rfl (XS.aload X104.here hx rfl (hb hby dE_11) rfl rfl kont)) ?_
  show GoW _ _ _ _ _ _ _ (T104.setTop (mkF m 13 #[.val (.ref a), .val (.ref kd), .val (.long tm), .second, .val (.ref de)] [(.ref de)]))
  obtain ⟨s105, T105, h105, k105, X105, e105, X_105, hS, hk105, hZ, hown, st105⟩ := ldcS X104 hx hZ hown (hw _ (List.mem_of_getElem? (i := 32) rfl)) hstr eh104 hS hk102 (g := (mkF m 13 #[.val (.ref a), .val (.ref kd), .val (.long tm), .second, .val (.ref de)] [(.ref de)])) rfl (hb hby dE_13) (n := 28) (by decide) (by decide) (by decide) (by decide)
  have F106_kind_a := F103_kind_a.ext X_105
  have F106_time_a := F103_time_a.ext X_105
  have F106_details_a := F103_details_a.ext X_105
  have E106_a := E103_a.ext X_105
  have Z106 := Nat.le_trans Z103 X_105.1
  have hk106 := Nat.le_trans hk102 X_105.1
  have K106 : Keep h0 h105 [a] := K103.ext X_105
  refine GoW.by st105 ?_
  show GoW _ _ _ _ _ _ _ (T105.setTop (mkF m 15 #[.val (.ref a), .val (.ref kd), .val (.long tm), .second, .val (.ref de)] [(.ref s105), (.ref de)]))
  obtain ⟨_, _, ⟨T107, L107, k107, n107⟩, -, X107, ⟨Lc107, hQ107, l107, y107, z107⟩, st107⟩ := Jvm.LawKit.callS X105 hx (y := (⟨"java/util/Objects", "requireNonNull", "(Ljava/lang/Object;Ljava/lang/String;)Ljava/lang/Object;"⟩ : MethodName)) hown (mvT hZ (hw _ (List.mem_of_getElem? (i := 28) rfl))) (mvT hZ (hw _ (List.mem_of_getElem? (i := 29) rfl))) (mvT hZ (hw _ (List.mem_of_getElem? (i := 30) rfl))) (mvT hZ (hw _ (List.mem_of_getElem? (i := 31) rfl))) (by decide) (backOf (W := 0) (rmRn l Z a0 hw [] de s105 h105 n0 Z106 ) hZ (hw _ (List.mem_of_getElem? (i := 31) rfl)) (hw _ (List.mem_of_getElem? (i := 30) rfl)) (by decide) (by decide)) (g := (mkF m 15 #[.val (.ref a), .val (.ref kd), .val (.long tm), .second, .val (.ref de)] [(.ref s105), (.ref de)])) rfl (by rw [hml]; rfl) (argsL := [(.ref de), (.ref s105)]) (rest := []) (lenOf pdE_1 rfl) rfl (by show 2 * 0 + _ ≤ _; exact Nat.le_of_eq rfl) (hb hby dE_15) (fun _ _ => ⟨rfl, e105, (by decide : 4 + 0 ≤ _), (by decide : 52 + 0 ≤ _)⟩)
  dsimp only [Pt.U, Pt.locs, Pt.cells, Pt.slots] at X107 l107 y107 z107 st107 hQ107
  subst l107 y107 z107
  obtain ⟨rfl, N107q, eh107⟩ := hQ107
  have N107 := Fr.app N104 N107q
  refine GoW.by st107 ?_
  show GoW _ _ _ _ _ _ _ (T107.setTop (mkF m 18 #[.val (.ref a), .val (.ref kd), .val (.long tm), .second, .val (.ref de)] [(.ref de)]))
  refine GoW.by (fun _ kont => XS.pop X107.here hx rfl (hb hby dE_18) rfl rfl (XS.aloadN X107.here hx rfl (hb hby dE_19) rfl rfl (XS.aloadN X107.here hx rfl (hb hby dE_20) rfl rfl kont))) ?_
  show GoW _ _ _ _ _ _ _ (T107.setTop (mkF m 21 #[.val (.ref a), .val (.ref kd), .val (.long tm), .second, .val (.ref de)] [(.ref kd), (.ref a)]))
  obtain ⟨T108, h108, X108, e108, W108, st108⟩ := putF X107 hx hZ hown (host := "") (Or.inl (hw _ (List.mem_of_getElem? (i := 33) rfl))) Via.refl eh107 F106_kind_a E106_a (Or.inr ⟨(hw _ (List.mem_of_getElem? (i := 34) rfl)), rfl, hnm⟩) (hw _ (List.mem_of_getElem? (i := 1) rfl)) (ty := (.object "com/example/runpulse/runpulse/LifecycleEvent$Kind")) (by decide) rfl rfl (g := (mkF m 21 #[.val (.ref a), .val (.ref kd), .val (.long tm), .second, .val (.ref de)] [(.ref kd), (.ref a)])) rfl rfl (hb hby dE_21)
  have Fw108 := F106_kind_a.same W108
  have F109_time_a := F106_time_a.other W108 (Or.inr (slot_ne (Or.inr (hw _ (List.mem_of_getElem? (i := 36) rfl))) (Or.inr (hw _ (List.mem_of_getElem? (i := 34) rfl))) (by decide) (t := .long) (t' := (.object "com/example/runpulse/runpulse/LifecycleEvent$Kind")) (by decide) (by decide)))
  have F109_details_a := F106_details_a.other W108 (Or.inr (slot_ne (Or.inr (hw _ (List.mem_of_getElem? (i := 38) rfl))) (Or.inr (hw _ (List.mem_of_getElem? (i := 34) rfl))) (by decide) (t := (.object "com/example/runpulse/runpulse/EventDetails")) (t' := (.object "com/example/runpulse/runpulse/LifecycleEvent$Kind")) (by decide) (by decide)))
  have E109_a := E106_a.wr W108
  have Z109 := Nat.le_trans Z106 (Keep.of_wr W108).1
  have hk109 := Nat.le_trans hk105 (Keep.of_wr W108).1
  have K109 : Keep h0 h108 [a] := K106.wr W108 (Or.inl (by simp))
  have N108 := Fr.snoc X108 N107 ga
  refine GoW.by st108 ?_
  show GoW _ _ _ _ _ _ _ (T108.setTop (mkF m 24 #[.val (.ref a), .val (.ref kd), .val (.long tm), .second, .val (.ref de)] []))
  refine GoW.by (fun _ kont => XS.aloadN X108.here hx rfl (hb hby dE_24) rfl rfl (XS.lloadN X108.here hx rfl (hb hby dE_25) rfl kont)) ?_
  show GoW _ _ _ _ _ _ _ (T108.setTop (mkF m 26 #[.val (.ref a), .val (.ref kd), .val (.long tm), .second, .val (.ref de)] [(.long tm), (.ref a)]))
  obtain ⟨T110, h110, X110, e110, W110, st110⟩ := putF X108 hx hZ hown (host := "") (Or.inl (hw _ (List.mem_of_getElem? (i := 35) rfl))) Via.refl e108 F109_time_a E109_a (Or.inr ⟨(hw _ (List.mem_of_getElem? (i := 36) rfl)), rfl, hnm⟩) (hw _ (List.mem_of_getElem? (i := 1) rfl)) (ty := .long) (by decide) rfl rfl (g := (mkF m 26 #[.val (.ref a), .val (.ref kd), .val (.long tm), .second, .val (.ref de)] [(.long tm), (.ref a)])) rfl rfl (hb hby dE_26)
  have Fw110 := F109_time_a.same W110
  have F111_kind_a := Fw108.other W110 (Or.inr (slot_ne (Or.inr (hw _ (List.mem_of_getElem? (i := 34) rfl))) (Or.inr (hw _ (List.mem_of_getElem? (i := 36) rfl))) (by decide) (t := (.object "com/example/runpulse/runpulse/LifecycleEvent$Kind")) (t' := .long) (by decide) (by decide)))
  have F111_details_a := F109_details_a.other W110 (Or.inr (slot_ne (Or.inr (hw _ (List.mem_of_getElem? (i := 38) rfl))) (Or.inr (hw _ (List.mem_of_getElem? (i := 36) rfl))) (by decide) (t := (.object "com/example/runpulse/runpulse/EventDetails")) (t' := .long) (by decide) (by decide)))
  have E111_a := E109_a.wr W110
  have Z111 := Nat.le_trans Z109 (Keep.of_wr W110).1
  have hk111 := Nat.le_trans hk109 (Keep.of_wr W110).1
  have K111 : Keep h0 h110 [a] := K109.wr W110 (Or.inl (by simp))
  have N110 := Fr.snoc X110 N108 ga
  refine GoW.by st110 ?_
  show GoW _ _ _ _ _ _ _ (T110.setTop (mkF m 29 #[.val (.ref a), .val (.ref kd), .val (.long tm), .second, .val (.ref de)] []))
  refine GoW.by (fun _ kont => XS.aloadN X110.here hx rfl (hb hby dE_29) rfl rfl (XS.aload X110.here hx rfl (hb hby dE_30) rfl rfl kont)) ?_
  show GoW _ _ _ _ _ _ _ (T110.setTop (mkF m 32 #[.val (.ref a), .val (.ref kd), .val (.long tm), .second, .val (.ref de)] [(.ref de), (.ref a)]))
  obtain ⟨T112, h112, X112, e112, W112, st112⟩ := putF X110 hx hZ hown (host := "") (Or.inl (hw _ (List.mem_of_getElem? (i := 37) rfl))) Via.refl e110 F111_details_a E111_a (Or.inr ⟨(hw _ (List.mem_of_getElem? (i := 38) rfl)), rfl, hnm⟩) (hw _ (List.mem_of_getElem? (i := 1) rfl)) (ty := (.object "com/example/runpulse/runpulse/EventDetails")) (by decide) rfl rfl (g := (mkF m 32 #[.val (.ref a), .val (.ref kd), .val (.long tm), .second, .val (.ref de)] [(.ref de), (.ref a)])) rfl rfl (hb hby dE_32)
  have Fw112 := F111_details_a.same W112
  have F113_kind_a := F111_kind_a.other W112 (Or.inr (slot_ne (Or.inr (hw _ (List.mem_of_getElem? (i := 34) rfl))) (Or.inr (hw _ (List.mem_of_getElem? (i := 38) rfl))) (by decide) (t := (.object "com/example/runpulse/runpulse/LifecycleEvent$Kind")) (t' := (.object "com/example/runpulse/runpulse/EventDetails")) (by decide) (by decide)))
  have F113_time_a := Fw110.other W112 (Or.inr (slot_ne (Or.inr (hw _ (List.mem_of_getElem? (i := 36) rfl))) (Or.inr (hw _ (List.mem_of_getElem? (i := 38) rfl))) (by decide) (t := .long) (t' := (.object "com/example/runpulse/runpulse/EventDetails")) (by decide) (by decide)))
  have E113_a := E111_a.wr W112
  have Z113 := Nat.le_trans Z111 (Keep.of_wr W112).1
  have hk113 := Nat.le_trans hk111 (Keep.of_wr W112).1
  have K113 : Keep h0 h112 [a] := K111.wr W112 (Or.inl (by simp))
  have N112 := Fr.snoc X112 N110 ga
  refine GoW.by st112 ?_
  show GoW _ _ _ _ _ _ _ (T112.setTop (mkF m 35 #[.val (.ref a), .val (.ref kd), .val (.long tm), .second, .val (.ref de)] []))
  refine GoW.retV X112 hS (by rw [e112]; exact hk113) hx hret hlk (hb hby dE_35) ?_ (by decide) (by decide)
  show QE Z a tm h0 n0 none T112.heap _
  rw [e112]
  exact ⟨rfl, N112, K113, E113_a, F113_time_a⟩

theorem dLi_0 : decode jdk_35_method_26_code 0 = .ok (.aload_n 0, 1) := by decide +kernel
theorem dLi_1 : decode jdk_35_method_26_code 1 = .ok (.invokespecial 270, 3) := by decide +kernel
theorem dLi_4 : decode jdk_35_method_26_code 4 = .ok (.aload_n 0, 1) := by decide +kernel
theorem dLi_5 : decode jdk_35_method_26_code 5 = .ok (.lload_n 1, 1) := by decide +kernel
theorem dLi_6 : decode jdk_35_method_26_code 6 = .ok (.putfield 273, 3) := by decide +kernel
theorem dLi_9 : decode jdk_35_method_26_code 9 = .ok (.return_, 1) := by decide +kernel
theorem pdLi_0 : parseMethodDescriptor "()V" = some ⟨[], none⟩ := by decide +kernel
theorem pnLi : plainName "java/lang/Long" = true := by first | (simp [plainName, overriddenIn]; done) | decide +kernel
theorem efLi (m : MethodId) (a : Addr) (vv : Int64) : entryFrame m #[(.ref a), (.long vv)] 3 = mkF m 0 #[.val (.ref a), .val (.long vv), .second] [] := by first | (simp [entryFrame, mkF, argsToLocals, Value.category]; done) | rfl
def QLi (Z : State) (a : Addr) (vv : Int64) (h0 : Heap) (n0 : Nat) (v : Option Value) (h : Heap) (L : List Loc) : Prop := (v = none ∧ Fr n0 L ∧ Keep h0 h [a] ∧ Exa Z h a "java/lang/Long" ∧ Fld Z h a "java/lang/Long" "value" "J" (.long vv))
set_option maxRecDepth 65536 in
set_option maxHeartbeats 40000000 in
theorem rmLi (l : Launch) (Z : State) (a0 : Array Value) (hw : ∀ d ∈ tables_1, d.before a0 Z = true) (ws : List Jvm.Cond) (a : Addr) (vv : Int64) (h0 : Heap) (n0 : Nat) (Z0 : n0 ≤ h0.size) (E0_a : Exa Z h0 a "java/lang/Long") (F0_a_value : Fld Z h0 a "java/lang/Long" "value" "J" (.long (0 : Int64))) (ge0_a : n0 ≤ a) :
    MetFree l (⟨"java/lang/Long", "<init>", "(J)V"⟩ : MethodName) (head1 (Jvm.Cond.code (⟨"java/lang/Long", "<init>", "(J)V"⟩ : MethodName) jdk_35_method_26_code 3 none :: ws) ({ frames := 2, cells := 0, slots := 0, locals := 24 } : Room)) (fun aa_ U_ => aa_ = #[(.ref a), (.long vv)] ∧ Z.Warmed39 U_.vm ∧ U_.heap = h0) (fun _ _ _ _ _ => True) (fun _ U_ o_ V_ => ∃ v_ L_, o_ = .returned v_ ∧ QLi Z a vv h0 n0 v_ V_.heap L_ ∧ FrameEnd U_ o_ V_ L_ ({ frames := 2, cells := 0, slots := 0, locals := 24 } : Room).cells ({ frames := 2, cells := 0, slots := 0, locals := 24 } : Room).slots) := by
  refine MetFree.of_bodySF (plainFor_of_name pnLi) hisR ?_
  intro p e s m args below meth c s₁ Bd hml0 hP hK
  obtain ⟨rfl, hZ, hh⟩ := hP
  have hx := Bd.exec
  have hby := Bd.bytes
  have hml : c.maxLocals = 3 := hml0
  have hown : s.vm.findClass "java/lang/Long" = some m.cls := findClass_of_methodNamed Bd.named
  have hnm := (name_of_methodNamed Bd.named Bd.method).1
  have hlk : meth.locks = false := BodyLoose.notSynchronized Bd
  have hret : meth.sig.returnType = none := Bd.returns
  have X0 : Stand p l e ({ frames := 2, cells := 0, slots := 0, locals := 24 } : Room) s m #[(.ref a), (.long vv)] below meth c s₁ [] 0 0 := Stand.of_body Bd
  have e0 : s₁.heap = h0 := by rw [← hh, Bd.state]; rfl
  have N0 := Fr.nil n0
  show Go p e below s ({ frames := 2, cells := 0, slots := 0, locals := 24 } : Room).cells ({ frames := 2, cells := 0, slots := 0, locals := 24 } : Room).slots (QLi Z a vv h0 n0) (s₁.setTop (entryFrame m #[(.ref a), (.long vv)] 3))
  rw [efLi]
  refine Go.by (fun _ kont => XS.aloadN X0.here hx rfl (hb hby dLi_0) rfl rfl kont) ?_
  show Go _ _ _ _ _ _ _ (s₁.setTop (mkF m 1 #[.val (.ref a), .val (.long vv), .second] [(.ref a)]))
  obtain ⟨_, _, ⟨T101, L101, k101, n101⟩, -, X101, ⟨Lc101, hQ101, l101, y101, z101⟩, st101⟩ := X0.specialBack hx (y := (⟨"java/lang/Number", "<init>", "()V"⟩ : MethodName)) rfl hown (mvT hZ (hw _ (List.mem_of_getElem? (i := 82) rfl))) (mvT hZ (hw _ (List.mem_of_getElem? (i := 83) rfl))) (mvT hZ (hw _ (List.mem_of_getElem? (i := 87) rfl))) (by decide) (backOf (W := 0) (rmN l Z a0 hw [] a h0 n0 Z0 ) hZ (hw _ (List.mem_of_getElem? (i := 87) rfl)) (hw _ (List.mem_of_getElem? (i := 86) rfl)) (by decide) (by decide)) (g := (mkF m 1 #[.val (.ref a), .val (.long vv), .second] [(.ref a)])) rfl (by rw [hml]; rfl) (Steps.refl _) (a := a) (argsL := []) (rest := []) (lenOf pdLi_0 rfl) rfl (by show 2 * 0 + _ ≤ _; exact Nat.le_of_eq rfl) (hb hby dLi_1) (fun _ _ => ⟨rfl, e0, (by decide : 0 + 0 ≤ _), (by decide : 0 + 0 ≤ _)⟩)
  dsimp only [Pt.U, Pt.locs, Pt.cells, Pt.slots] at X101 l101 y101 z101 st101 hQ101
  subst l101 y101 z101
  obtain ⟨rfl, N101q, eh101⟩ := hQ101
  have N101 := Fr.app N0 N101q
  refine Go.tr st101 ?_
  show Go _ _ _ _ _ _ _ (T101.setTop (mkF m 4 #[.val (.ref a), .val (.long vv), .second] []))
  refine Go.by (fun _ kont => XS.aloadN X101.here hx rfl (hb hby dLi_4) rfl rfl (XS.lloadN X101.here hx rfl (hb hby dLi_5) rfl kont)) ?_
  show Go _ _ _ _ _ _ _ (T101.setTop (mkF m 6 #[.val (.ref a), .val (.long vv), .second] [(.long vv), (.ref a)]))
  obtain ⟨T102, h102, X102, e102, W102, st102⟩ := putF X101 hx hZ hown (host := "") (Or.inl (hw _ (List.mem_of_getElem? (i := 89) rfl))) Via.refl eh101 F0_a_value E0_a (Or.inr ⟨(hw _ (List.mem_of_getElem? (i := 90) rfl)), rfl, hnm⟩) (hw _ (List.mem_of_getElem? (i := 77) rfl)) (ty := .long) (by decide) rfl rfl (g := (mkF m 6 #[.val (.ref a), .val (.long vv), .second] [(.long vv), (.ref a)])) rfl rfl (hb hby dLi_6)
  have Fw102 := F0_a_value.same W102
  have E103_a := E0_a.wr W102
  have Z103 := Nat.le_trans Z0 (Keep.of_wr W102).1
  have K103 : Keep h0 h102 [a] := (Keep.refl h0 [a]).wr W102 (Or.inl (by simp))
  have N102 := Fr.snoc X102 N101 ge0_a
  refine Go.by st102 ?_
  show Go _ _ _ _ _ _ _ (T102.setTop (mkF m 9 #[.val (.ref a), .val (.long vv), .second] []))
  refine Go.retV X102 hx hret hlk (hb hby dLi_9) ?_ (by decide) (by decide)
  show QLi Z a vv h0 n0 none T102.heap _
  rw [e102]
  exact ⟨rfl, N102, K103, E103_a, Fw102⟩

/-- the cache of the Longs -128 to 127: an object at every place -/
def LC (Z : State) (h : Heap) (a : Addr) (k : ClassId) : Prop := ∃ c : Cell, Arr Z h a c (.object "java/lang/Long") ∧ c.cls = k ∧ c.slots.size = (256 : Int32).toNatClampNeg ∧ ∀ j : Int32, ¬ (j < 0 ∨ c.slots.size ≤ j.toNatClampNeg) → ∃ y : Addr, c.slots[j.toNatClampNeg]? = some (.ref y)
theorem LC.lt {Z : State} {h : Heap} {a : Addr} {k : ClassId} (F : LC Z h a k) : a < h.size := by obtain ⟨c, A, -⟩ := F; exact A.lt
theorem LC.ext {Z : State} {h h' : Heap} {a : Addr} {k : ClassId} (F : LC Z h a k) (E : Ext h h') : LC Z h' a k := by obtain ⟨c, A, r⟩ := F; exact ⟨c, A.ext E, r⟩
theorem LC.other {Z : State} {h h' : Heap} {a b : Addr} {k : ClassId} {sl : Nat} {v : Value} (F : LC Z h b k) (W : Wr h h' a sl v) (q : b ≠ a) : LC Z h' b k := by obtain ⟨c, A, r⟩ := F; exact ⟨c, A.other W q, r⟩
theorem LC.keep {Z : State} {h h' : Heap} {a : Addr} {k : ClassId} {ws : List Addr} (F : LC Z h a k) (K : Keep h h' ws) (q : a ∉ ws) : LC Z h' a k := by obtain ⟨c, A, r⟩ := F; exact ⟨c, ⟨K.2.1 a c A.1 q, A.2⟩, r⟩
theorem own_ci (vv : Int64) (h1 : ¬ vv < (-128 : Int64)) (h2 : ¬ (127 : Int64) < vv) : ¬ ((vv.toInt32) + (128 : Int32)) < 0 ∧ ((vv.toInt32) + (128 : Int32)) < 256 := by
  rw [Int64.lt_iff_toInt_lt] at h1 h2
  have e1 : (-128 : Int64).toInt = -128 := by decide
  have e2 : (127 : Int64).toInt = 127 := by decide
  have e3 : (128 : Int32).toInt = 128 := by decide
  have e4 : (0 : Int32).toInt = 0 := by decide
  have e5 : (256 : Int32).toInt = 256 := by decide
  have c1 := c_l2i vv
  have r1 := rng32 vv.toInt32
  have c2 := c_iadd vv.toInt32 128
  have r2 := rng32 (vv.toInt32 + 128)
  rw [Int32.lt_iff_toInt_lt, Int32.lt_iff_toInt_lt]
  omega

theorem dV_0 : decode jdk_35_method_24_code 0 = .ok (.sipush 128, 3) := by decide +kernel
theorem dV_3 : decode jdk_35_method_24_code 3 = .ok (.istore_n 2, 1) := by decide +kernel
theorem dV_4 : decode jdk_35_method_24_code 4 = .ok (.lload_n 0, 1) := by decide +kernel
theorem dV_5 : decode jdk_35_method_24_code 5 = .ok (.ldc2_w 230, 3) := by decide +kernel
theorem dV_8 : decode jdk_35_method_24_code 8 = .ok (.lcmp, 1) := by decide +kernel
theorem dV_9 : decode jdk_35_method_24_code 9 = .ok (.ifCond .lt 22, 3) := by decide +kernel
theorem dV_12 : decode jdk_35_method_24_code 12 = .ok (.lload_n 0, 1) := by decide +kernel
theorem dV_13 : decode jdk_35_method_24_code 13 = .ok (.ldc2_w 232, 3) := by decide +kernel
theorem dV_16 : decode jdk_35_method_24_code 16 = .ok (.lcmp, 1) := by decide +kernel
theorem dV_17 : decode jdk_35_method_24_code 17 = .ok (.ifCond .gt 14, 3) := by decide +kernel
theorem dV_20 : decode jdk_35_method_24_code 20 = .ok (.getstatic 234, 3) := by decide +kernel
theorem dV_23 : decode jdk_35_method_24_code 23 = .ok (.lload_n 0, 1) := by decide +kernel
theorem dV_24 : decode jdk_35_method_24_code 24 = .ok (.l2i, 1) := by decide +kernel
theorem dV_25 : decode jdk_35_method_24_code 25 = .ok (.sipush 128, 3) := by decide +kernel
theorem dV_28 : decode jdk_35_method_24_code 28 = .ok (.iadd, 1) := by decide +kernel
theorem dV_29 : decode jdk_35_method_24_code 29 = .ok (.aaload, 1) := by decide +kernel
theorem dV_30 : decode jdk_35_method_24_code 30 = .ok (.areturn, 1) := by decide +kernel
theorem dV_31 : decode jdk_35_method_24_code 31 = .ok (.new 1, 3) := by decide +kernel
theorem dV_34 : decode jdk_35_method_24_code 34 = .ok (.dup, 1) := by decide +kernel
theorem dV_35 : decode jdk_35_method_24_code 35 = .ok (.lload_n 0, 1) := by decide +kernel
theorem dV_36 : decode jdk_35_method_24_code 36 = .ok (.invokespecial 240, 3) := by decide +kernel
theorem dV_39 : decode jdk_35_method_24_code 39 = .ok (.areturn, 1) := by decide +kernel
theorem pdV_0 : parseMethodDescriptor "(J)V" = some ⟨[.long], none⟩ := by decide +kernel
theorem pnV : plainName "java/lang/Long" = true := by first | (simp [plainName, overriddenIn]; done) | decide +kernel
theorem efV (m : MethodId) (vv : Int64) : entryFrame m #[(.long vv)] 3 = mkF m 0 #[.val (.long vv), .second, .unset] [] := by first | (simp [entryFrame, mkF, argsToLocals, Value.category]; done) | rfl
def QV (Z : State) (h0 : Heap) (n0 : Nat) (v : Option Value) (h : Heap) (L : List Loc) : Prop := ∃ y : Addr, (v = some (.ref y) ∧ Fr n0 L ∧ Keep h0 h [])
set_option maxRecDepth 65536 in
set_option maxHeartbeats 40000000 in
theorem rmV (l : Launch) (Z : State) (a0 : Array Value) (hw : ∀ d ∈ tables_1, d.before a0 Z = true) (ws : List Jvm.Cond) (vv : Int64) (lca : Addr) (kl : ClassId) (h0 : Heap) (n0 : Nat) (Z0 : n0 ≤ h0.size) (Vl : LC Z h0 lca kl) (Sl : Sta Z h0 "java/lang/Long$LongCache" "cache" "[Ljava/lang/Long;" (.ref lca)) :
    MetFree l (⟨"java/lang/Long", "valueOf", "(J)Ljava/lang/Long;"⟩ : MethodName) (head1 (Jvm.Cond.code (⟨"java/lang/Long", "valueOf", "(J)Ljava/lang/Long;"⟩ : MethodName) jdk_35_method_24_code 3 (some (.object "java/lang/Long")) :: ws) ({ frames := 3, cells := 1, slots := 1, locals := 100 } : Room)) (fun aa_ U_ => aa_ = #[(.long vv)] ∧ Z.Warmed39 U_.vm ∧ U_.heap = h0) (fun _ _ _ _ _ => True) (fun _ U_ o_ V_ => ∃ v_ L_, o_ = .returned v_ ∧ QV Z h0 n0 v_ V_.heap L_ ∧ FrameEnd U_ o_ V_ L_ ({ frames := 3, cells := 1, slots := 1, locals := 100 } : Room).cells ({ frames := 3, cells := 1, slots := 1, locals := 100 } : Room).slots) := by
  refine MetFree.of_bodySF (plainFor_of_name pnV) hisR ?_
  intro p e s m args below meth c s₁ Bd hml0 hP hK
  obtain ⟨rfl, hZ, hh⟩ := hP
  have hx := Bd.exec
  have hby := Bd.bytes
  have hml : c.maxLocals = 3 := hml0
  have hown : s.vm.findClass "java/lang/Long" = some m.cls := findClass_of_methodNamed Bd.named
  have hnm := (name_of_methodNamed Bd.named Bd.method).1
  have hlk : meth.locks = false := BodyLoose.notSynchronized Bd
  have hret : meth.sig.returnType = (some (.object "java/lang/Long")) := Bd.returns
  have X0 : Stand p l e ({ frames := 3, cells := 1, slots := 1, locals := 100 } : Room) s m #[(.long vv)] below meth c s₁ [] 0 0 := Stand.of_body Bd
  have e0 : s₁.heap = h0 := by rw [← hh, Bd.state]; rfl
  have N0 := Fr.nil n0
  show Go p e below s ({ frames := 3, cells := 1, slots := 1, locals := 100 } : Room).cells ({ frames := 3, cells := 1, slots := 1, locals := 100 } : Room).slots (QV Z h0 n0) (s₁.setTop (entryFrame m #[(.long vv)] 3))
  rw [efV]
  refine Go.by (fun _ kont => XS.sipush X0.here hx rfl (hb hby dV_0) (XS.istoreN X0.here hx rfl (hb hby dV_3) rfl (l' := #[.val (.long vv), .second, .val (.int (128 : Int32))]) rfl (XS.lloadN X0.here hx rfl (hb hby dV_4) rfl (X0.ldc2Long hx hown (mvT hZ (hw _ (List.mem_of_getElem? (i := 43) rfl))) (g := (mkF m 5 #[.val (.long vv), .second, .val (.int (128 : Int32))] [(.long vv)])) rfl (hb hby dV_5) _ (XS.lcmp X0.here hx rfl (hb hby dV_8) rfl kont))))) ?_
  show Go _ _ _ _ _ _ _ (s₁.setTop (mkF m 9 #[.val (.long vv), .second, .val (.int (128 : Int32))] [(.int (lcmpW vv (-128 : Int64)))]))
  by_cases hc101 : vv < (-128 : Int64)
  · refine Go.by (fun _ kont => XS.ifYes X0.here hx rfl (pc0 := 9) (pc' := 31) rfl (hb hby dV_9) rfl ((if0 _ _).trans (tlt ((lw_lt _ _).mpr hc101)).1) (by decide) (by decide) kont) ?_
    show Go _ _ _ _ _ _ _ (s₁.setTop (mkF m 31 #[.val (.long vv), .second, .val (.int (128 : Int32))] []))
    obtain ⟨T102, h102, X102, e102, X_102, A102, D102, -, st102⟩ := newO X0 hx hZ hown (hw _ (List.mem_of_getElem? (i := 76) rfl)) (hw _ (List.mem_of_getElem? (i := 77) rfl)) (hw _ (List.mem_of_getElem? (i := 41) rfl)) e0 (g := (mkF m 31 #[.val (.long vv), .second, .val (.int (128 : Int32))] [])) rfl (hb hby dV_31) (by decide) (by decide)
    obtain ⟨b102, g102⟩ : ∃ z, z = h0.size := ⟨_, rfl⟩
    rw [← g102] at A102 D102 st102
    have ne_lca_b102 : lca ≠ b102 := Nat.ne_of_lt (Nat.lt_of_lt_of_le Vl.lt (Nat.le_of_eq g102.symm))
    have ge_b102 : n0 ≤ b102 := Nat.le_trans Z0 (Nat.le_of_eq g102.symm)
    have sz_b102 : h0.size ≤ b102 := Nat.le_trans (Keep.refl h0 []).1 (Nat.le_of_eq g102.symm)
    have V103_lca := Vl.ext X_102
    have S103_cache := Sl.ext X_102
    have Z103 := Nat.le_trans Z0 X_102.1
    have K103 : Keep h0 h102 [] := (Keep.refl h0 []).ext X_102
    have F102_value : Fld Z h102 b102 "java/lang/Long" "value" "J" (.long (0 : Int64)) := D102 (Or.inr (hw _ (List.mem_of_getElem? (i := 90) rfl))) (ty := .long) (by decide)
    refine Go.by st102 ?_
    show Go _ _ _ _ _ _ _ (T102.setTop (mkF m 34 #[.val (.long vv), .second, .val (.int (128 : Int32))] [(.ref b102)]))
    refine Go.by (fun _ kont => XS.dup X102.here hx rfl (hb hby dV_34) rfl rfl (XS.lloadN X102.here hx rfl (hb hby dV_35) rfl kont)) ?_
    show Go _ _ _ _ _ _ _ (T102.setTop (mkF m 36 #[.val (.long vv), .second, .val (.int (128 : Int32))] [(.long vv), (.ref b102), (.ref b102)]))
    obtain ⟨_, _, ⟨T104, L104, k104, n104⟩, -, X104, ⟨Lc104, hQ104, l104, y104, z104⟩, st104⟩ := X102.specialBack hx (y := (⟨"java/lang/Long", "<init>", "(J)V"⟩ : MethodName)) rfl hown (mvT hZ (hw _ (List.mem_of_getElem? (i := 78) rfl))) (mvT hZ (hw _ (List.mem_of_getElem? (i := 79) rfl))) (mvT hZ (hw _ (List.mem_of_getElem? (i := 81) rfl))) (by decide) (backOf (W := 1) (rmLi l Z a0 hw [] b102 vv h102 n0 Z103 A102 F102_value ge_b102) hZ (hw _ (List.mem_of_getElem? (i := 81) rfl)) (hw _ (List.mem_of_getElem? (i := 41) rfl)) (by decide) (by decide)) (g := (mkF m 36 #[.val (.long vv), .second, .val (.int (128 : Int32))] [(.long vv), (.ref b102), (.ref b102)])) rfl (by rw [hml]; rfl) (Steps.refl _) (a := b102) (argsL := [(.long vv)]) (rest := [(.ref b102)]) (lenOf pdV_0 rfl) rfl (by show 2 * 0 + _ ≤ _; exact Nat.le_of_eq rfl) (hb hby dV_36) (fun _ _ => ⟨rfl, e102, (by decide : 1 + 0 ≤ _), (by decide : 1 + 0 ≤ _)⟩)
    dsimp only [Pt.U, Pt.locs, Pt.cells, Pt.slots] at X104 l104 y104 z104 st104 hQ104
    subst l104 y104 z104
    obtain ⟨rfl, N104q, K104, g104_0, g104_1⟩ := hQ104
    have S105_cache := own_stakeep S103_cache K104 (allS (own_ns A102) all0)
    have E105_b102 := A102.keep K104
    have V105_lca := V103_lca.keep K104 (ninS ne_lca_b102 nin0)
    have Z105 := Nat.le_trans Z103 K104.1
    have K105 : Keep h0 T104.heap [] := Keep.trans K103 K104 (allS (Or.inr sz_b102) all0)
    have N104 := Fr.app N0 N104q
    refine Go.tr st104 ?_
    show Go _ _ _ _ _ _ _ (T104.setTop (mkF m 39 #[.val (.long vv), .second, .val (.int (128 : Int32))] [(.ref b102)]))
    refine Go.retR X104 hx hret rfl rfl hlk (hb hby dV_39) ?_ (by decide) (by decide)
    show QV Z h0 n0 (some (.ref b102)) T104.heap _
    exact ⟨b102, rfl, N104, K105⟩
  · refine Go.by (fun _ kont => XS.ifNo X0.here hx rfl (hb hby dV_9) rfl ((if0 _ _).trans (flt (fun z => hc101 ((lw_lt _ _).mp z))).1) kont) ?_
    show Go _ _ _ _ _ _ _ (s₁.setTop (mkF m 12 #[.val (.long vv), .second, .val (.int (128 : Int32))] []))
    refine Go.by (fun _ kont => XS.lloadN X0.here hx rfl (hb hby dV_12) rfl (X0.ldc2Long hx hown (mvT hZ (hw _ (List.mem_of_getElem? (i := 44) rfl))) (g := (mkF m 13 #[.val (.long vv), .second, .val (.int (128 : Int32))] [(.long vv)])) rfl (hb hby dV_13) _ (XS.lcmp X0.here hx rfl (hb hby dV_16) rfl kont))) ?_
    show Go _ _ _ _ _ _ _ (s₁.setTop (mkF m 17 #[.val (.long vv), .second, .val (.int (128 : Int32))] [(.int (lcmpW vv (127 : Int64)))]))
    by_cases hc106 : (127 : Int64) < vv
    · refine Go.by (fun _ kont => XS.ifYes X0.here hx rfl (pc0 := 17) (pc' := 31) rfl (hb hby dV_17) rfl ((if0 _ _).trans (tlt ((lw_gt _ _).mpr hc106)).2.2.1) (by decide) (by decide) kont) ?_
      show Go _ _ _ _ _ _ _ (s₁.setTop (mkF m 31 #[.val (.long vv), .second, .val (.int (128 : Int32))] []))
      obtain ⟨T107, h107, X107, e107, X_107, A107, D107, -, st107⟩ := newO X0 hx hZ hown (hw _ (List.mem_of_getElem? (i := 76) rfl)) (hw _ (List.mem_of_getElem? (i := 77) rfl)) (hw _ (List.mem_of_getElem? (i := 41) rfl)) e0 (g := (mkF m 31 #[.val (.long vv), .second, .val (.int (128 : Int32))] [])) rfl (hb hby dV_31) (by decide) (by decide)
      obtain ⟨b107, g107⟩ : ∃ z, z = h0.size := ⟨_, rfl⟩
      rw [← g107] at A107 D107 st107
      have ne_lca_b107 : lca ≠ b107 := Nat.ne_of_lt (Nat.lt_of_lt_of_le Vl.lt (Nat.le_of_eq g107.symm))
      have ge_b107 : n0 ≤ b107 := Nat.le_trans Z0 (Nat.le_of_eq g107.symm)
      have sz_b107 : h0.size ≤ b107 := Nat.le_trans (Keep.refl h0 []).1 (Nat.le_of_eq g107.symm)
      have V108_lca := Vl.ext X_107
      have S108_cache := Sl.ext X_107
      have Z108 := Nat.le_trans Z0 X_107.1
      have K108 : Keep h0 h107 [] := (Keep.refl h0 []).ext X_107
      have F107_value : Fld Z h107 b107 "java/lang/Long" "value" "J" (.long (0 : Int64)) := D107 (Or.inr (hw _ (List.mem_of_getElem? (i := 90) rfl))) (ty := .long) (by decide)
      refine Go.by st107 ?_
      show Go _ _ _ _ _ _ _ (T107.setTop (mkF m 34 #[.val (.long vv), .second, .val (.int (128 : Int32))] [(.ref b107)]))
      refine Go.by (fun _ kont => XS.dup X107.here hx rfl (hb hby dV_34) rfl rfl (XS.lloadN X107.here hx rfl (hb hby dV_35) rfl kont)) ?_
      show Go _ _ _ _ _ _ _ (T107.setTop (mkF m 36 #[.val (.long vv), .second, .val (.int (128 : Int32))] [(.long vv), (.ref b107), (.ref b107)]))
      obtain ⟨_, _, ⟨T109, L109, k109, n109⟩, -, X109, ⟨Lc109, hQ109, l109, y109, z109⟩, st109⟩ := X107.specialBack hx (y := (⟨"java/lang/Long", "<init>", "(J)V"⟩ : MethodName)) rfl hown (mvT hZ (hw _ (List.mem_of_getElem? (i := 78) rfl))) (mvT hZ (hw _ (List.mem_of_getElem? (i := 79) rfl))) (mvT hZ (hw _ (List.mem_of_getElem? (i := 81) rfl))) (by decide) (backOf (W := 1) (rmLi l Z a0 hw [] b107 vv h107 n0 Z108 A107 F107_value ge_b107) hZ (hw _ (List.mem_of_getElem? (i := 81) rfl)) (hw _ (List.mem_of_getElem? (i := 41) rfl)) (by decide) (by decide)) (g := (mkF m 36 #[.val (.long vv), .second, .val (.int (128 : Int32))] [(.long vv), (.ref b107), (.ref b107)])) rfl (by rw [hml]; rfl) (Steps.refl _) (a := b107) (argsL := [(.long vv)]) (rest := [(.ref b107)]) (lenOf pdV_0 rfl) rfl (by show 2 * 0 + _ ≤ _; exact Nat.le_of_eq rfl) (hb hby dV_36) (fun _ _ => ⟨rfl, e107, (by decide : 1 + 0 ≤ _), (by decide : 1 + 0 ≤ _)⟩)
      dsimp only [Pt.U, Pt.locs, Pt.cells, Pt.slots] at X109 l109 y109 z109 st109 hQ109
      subst l109 y109 z109
      obtain ⟨rfl, N109q, K109, g109_0, g109_1⟩ := hQ109
      have S110_cache := own_stakeep S108_cache K109 (allS (own_ns A107) all0)
      have E110_b107 := A107.keep K109
      have V110_lca := V108_lca.keep K109 (ninS ne_lca_b107 nin0)
      have Z110 := Nat.le_trans Z108 K109.1
      have K110 : Keep h0 T109.heap [] := Keep.trans K108 K109 (allS (Or.inr sz_b107) all0)
      have N109 := Fr.app N0 N109q
      refine Go.tr st109 ?_
      show Go _ _ _ _ _ _ _ (T109.setTop (mkF m 39 #[.val (.long vv), .second, .val (.int (128 : Int32))] [(.ref b107)]))
      refine Go.retR X109 hx hret rfl rfl hlk (hb hby dV_39) ?_ (by decide) (by decide)
      show QV Z h0 n0 (some (.ref b107)) T109.heap _
      exact ⟨b107, rfl, N109, K110⟩
    · refine Go.by (fun _ kont => XS.ifNo X0.here hx rfl (hb hby dV_17) rfl ((if0 _ _).trans (flt (fun z => hc106 ((lw_gt _ _).mp z))).2.2.1) kont) ?_
      show Go _ _ _ _ _ _ _ (s₁.setTop (mkF m 20 #[.val (.long vv), .second, .val (.int (128 : Int32))] []))
      obtain ⟨T111, X111, e111, st111⟩ := getS2 X0 hx hZ hown (host := "") (Or.inl (hw _ (List.mem_of_getElem? (i := 45) rfl))) Via.refl e0 Sl (g := (mkF m 20 #[.val (.long vv), .second, .val (.int (128 : Int32))] [])) rfl (hb hby dV_20)
      refine Go.by st111 ?_
      show Go _ _ _ _ _ _ _ (T111.setTop (mkF m 23 #[.val (.long vv), .second, .val (.int (128 : Int32))] [(.ref lca)]))
      refine Go.by (fun _ kont => XS.lloadN X111.here hx rfl (hb hby dV_23) rfl (XS.l2i X111.here hx rfl (hb hby dV_24) rfl (XS.sipush X111.here hx rfl (hb hby dV_25) (XS.iadd X111.here hx rfl (hb hby dV_28) rfl kont)))) ?_
      show Go _ _ _ _ _ _ _ (T111.setTop (mkF m 29 #[.val (.long vv), .second, .val (.int (128 : Int32))] [(.int ((vv.toInt32) + (128 : Int32))), (.ref lca)]))
      obtain ⟨clq, Arq, q1q, Sq, Gq⟩ := Vl
      have hinq : ¬ (((vv.toInt32) + (128 : Int32)) < 0 ∨ clq.slots.size ≤ (((vv.toInt32) + (128 : Int32))).toNatClampNeg) := inb_of Sq (own_ci vv hc101 hc106)
      obtain ⟨yq, hatq⟩ := Gq ((vv.toInt32) + (128 : Int32)) hinq
      refine Go.by (X111.aaload hx (j := ((vv.toInt32) + (128 : Int32))) (v := (.ref yq)) (by rw [e111]; exact Arq.1) (State.isArrayOf_alike hZ.alike Arq.2.1) rfl Arq.2.2 hinq hatq (g := (mkF m 29 #[.val (.long vv), .second, .val (.int (128 : Int32))] [(.int ((vv.toInt32) + (128 : Int32))), (.ref lca)])) rfl rfl (hb hby dV_29)) ?_
      show Go _ _ _ _ _ _ _ (T111.setTop (mkF m 30 #[.val (.long vv), .second, .val (.int (128 : Int32))] [(.ref yq)]))
      refine Go.retR X111 hx hret rfl rfl hlk (hb hby dV_30) ?_ (by decide) (by decide)
      show QV Z h0 n0 (some (.ref yq)) T111.heap _
      rw [e111]
      exact ⟨yq, rfl, N0, (Keep.refl h0 [])⟩

theorem dT_0 : decode method_2_code 0 = .ok (.iload_n 0, 1) := by decide +kernel
theorem dT_1 : decode method_2_code 1 = .ok (.iconst 4, 1) := by decide +kernel
theorem dT_2 : decode method_2_code 2 = .ok (.iushr, 1) := by decide +kernel
theorem dT_3 : decode method_2_code 3 = .ok (.ldc 7, 2) := by decide +kernel
theorem dT_5 : decode method_2_code 5 = .ok (.iand, 1) := by decide +kernel
theorem dT_6 : decode method_2_code 6 = .ok (.iconst 3, 1) := by decide +kernel
theorem dT_7 : decode method_2_code 7 = .ok (.irem, 1) := by decide +kernel
theorem dT_8 : decode method_2_code 8 = .ok (.istore_n 1, 1) := by decide +kernel
theorem dT_9 : decode method_2_code 9 = .ok (.iload_n 1, 1) := by decide +kernel
theorem dT_10 : decode method_2_code 10 = .ok (.ifCond .ne 7, 3) := by decide +kernel
theorem dT_13 : decode method_2_code 13 = .ok (.getstatic 8, 3) := by decide +kernel
theorem dT_16 : decode method_2_code 16 = .ok (.areturn, 1) := by decide +kernel
theorem dT_17 : decode method_2_code 17 = .ok (.iload_n 1, 1) := by decide +kernel
theorem dT_18 : decode method_2_code 18 = .ok (.iconst 1, 1) := by decide +kernel
theorem dT_19 : decode method_2_code 19 = .ok (.if_icmp .ne 7, 3) := by decide +kernel
theorem dT_22 : decode method_2_code 22 = .ok (.getstatic 14, 3) := by decide +kernel
theorem dT_25 : decode method_2_code 25 = .ok (.areturn, 1) := by decide +kernel
theorem dT_26 : decode method_2_code 26 = .ok (.getstatic 17, 3) := by decide +kernel
theorem dT_29 : decode method_2_code 29 = .ok (.areturn, 1) := by decide +kernel
theorem pnT : plainName "com/example/runpulse/runpulse/RunStateStartPinLaw" = true := by first | (simp [plainName, overriddenIn]; done) | decide +kernel
theorem efT (m : MethodId) (fl : Int32) : entryFrame m #[(.int fl)] 2 = mkF m 0 #[.val (.int fl), .unset] [] := by first | (simp [entryFrame, mkF, argsToLocals, Value.category]; done) | rfl
def QT (Z : State) (h0 : Heap) (n0 : Nat) (v : Option Value) (h : Heap) (L : List Loc) : Prop := ∃ y : Addr, (v = some (.ref y) ∧ Fr n0 L ∧ h = h0)
set_option maxRecDepth 65536 in
set_option maxHeartbeats 40000000 in
theorem rmT (l : Launch) (Z : State) (a0 : Array Value) (hw : ∀ d ∈ tables_1, d.before a0 Z = true) (ws : List Jvm.Cond) (fl : Int32) (kc : Addr) (kf : Addr) (kk : Addr) (h0 : Heap) (n0 : Nat) (Z0 : n0 ≤ h0.size) (Sc : Sta Z h0 "com/example/runpulse/runpulse/LifecycleEvent$Kind" "COMPLETED" "Lcom/example/runpulse/runpulse/LifecycleEvent$Kind;" (.ref kc)) (Sf : Sta Z h0 "com/example/runpulse/runpulse/LifecycleEvent$Kind" "FAILED" "Lcom/example/runpulse/runpulse/LifecycleEvent$Kind;" (.ref kf)) (Sk : Sta Z h0 "com/example/runpulse/runpulse/LifecycleEvent$Kind" "KILLED" "Lcom/example/runpulse/runpulse/LifecycleEvent$Kind;" (.ref kk)) :
    MetFree l (⟨"com/example/runpulse/runpulse/RunStateStartPinLaw", "terminalKind", "(I)Lcom/example/runpulse/runpulse/LifecycleEvent$Kind;"⟩ : MethodName) (head1 (Jvm.Cond.code (⟨"com/example/runpulse/runpulse/RunStateStartPinLaw", "terminalKind", "(I)Lcom/example/runpulse/runpulse/LifecycleEvent$Kind;"⟩ : MethodName) method_2_code 2 (some (.object "com/example/runpulse/runpulse/LifecycleEvent$Kind")) :: ws) ({ frames := 0, cells := 0, slots := 0, locals := 0 } : Room)) (fun aa_ U_ => aa_ = #[(.int fl)] ∧ Z.Warmed39 U_.vm ∧ U_.heap = h0) (fun _ _ _ _ _ => True) (fun _ U_ o_ V_ => ∃ v_ L_, o_ = .returned v_ ∧ QT Z h0 n0 v_ V_.heap L_ ∧ FrameEnd U_ o_ V_ L_ ({ frames := 0, cells := 0, slots := 0, locals := 0 } : Room).cells ({ frames := 0, cells := 0, slots := 0, locals := 0 } : Room).slots) := by
  refine MetFree.of_bodySF (plainFor_of_name pnT) hisR ?_
  intro p e s m args below meth c s₁ Bd hml0 hP hK
  obtain ⟨rfl, hZ, hh⟩ := hP
  have hx := Bd.exec
  have hby := Bd.bytes
  have hml : c.maxLocals = 2 := hml0
  have hown : s.vm.findClass "com/example/runpulse/runpulse/RunStateStartPinLaw" = some m.cls := findClass_of_methodNamed Bd.named
  have hnm := (name_of_methodNamed Bd.named Bd.method).1
  have hlk : meth.locks = false := BodyLoose.notSynchronized Bd
  have hret : meth.sig.returnType = (some (.object "com/example/runpulse/runpulse/LifecycleEvent$Kind")) := Bd.returns
  have X0 : Stand p l e ({ frames := 0, cells := 0, slots := 0, locals := 0 } : Room) s m #[(.int fl)] below meth c s₁ [] 0 0 := Stand.of_body Bd
  have e0 : s₁.heap = h0 := by rw [← hh, Bd.state]; rfl
  have N0 := Fr.nil n0
  show Go p e below s ({ frames := 0, cells := 0, slots := 0, locals := 0 } : Room).cells ({ frames := 0, cells := 0, slots := 0, locals := 0 } : Room).slots (QT Z h0 n0) (s₁.setTop (entryFrame m #[(.int fl)] 2))
  rw [efT]
  refine Go.by (fun _ kont => XS.iloadN X0.here hx rfl (hb hby dT_0) rfl (XS.iconst X0.here hx rfl (hb hby dT_1) (XS.iushr X0.here hx rfl (hb hby dT_2) rfl (X0.ldcInt hx hown (mvT hZ (hw _ (List.mem_of_getElem? (i := 95) rfl))) (g := (mkF m 3 #[.val (.int fl), .unset] [(.int ((fl.toUInt32 >>> ((4 : Int32) &&& 31).toUInt32).toInt32))])) rfl (hb hby dT_3) _ (XS.iand X0.here hx rfl (hb hby dT_5) rfl (XS.iconst X0.here hx rfl (hb hby dT_6) kont)))))) ?_
  show Go _ _ _ _ _ _ _ (s₁.setTop (mkF m 7 #[.val (.int fl), .unset] [(.int (3 : Int32)), (.int (((fl.toUInt32 >>> ((4 : Int32) &&& 31).toUInt32).toInt32) &&& (2147483647 : Int32)))]))
  refine Go.by (fun _ kont => iremM X0 hx rfl (hb hby dT_7) rfl (by decide) (XS.istoreN X0.here hx rfl (hb hby dT_8) rfl (l' := #[.val (.int fl), .val (.int ((((fl.toUInt32 >>> ((4 : Int32) &&& 31).toUInt32).toInt32) &&& (2147483647 : Int32)) % (3 : Int32)))]) rfl (XS.iloadN X0.here hx rfl (hb hby dT_9) rfl kont))) ?_
  show Go _ _ _ _ _ _ _ (s₁.setTop (mkF m 10 #[.val (.int fl), .val (.int ((((fl.toUInt32 >>> ((4 : Int32) &&& 31).toUInt32).toInt32) &&& (2147483647 : Int32)) % (3 : Int32)))] [(.int ((((fl.toUInt32 >>> ((4 : Int32) &&& 31).toUInt32).toInt32) &&& (2147483647 : Int32)) % (3 : Int32)))]))
  by_cases hc101 : ((((fl.toUInt32 >>> ((4 : Int32) &&& 31).toUInt32).toInt32) &&& (2147483647 : Int32)) % (3 : Int32)) = (0 : Int32)
  · refine Go.by (fun _ kont => XS.ifNo X0.here hx rfl (hb hby dT_10) rfl ((if0 _ _).trans (teq hc101).2) kont) ?_
    show Go _ _ _ _ _ _ _ (s₁.setTop (mkF m 13 #[.val (.int fl), .val (.int ((((fl.toUInt32 >>> ((4 : Int32) &&& 31).toUInt32).toInt32) &&& (2147483647 : Int32)) % (3 : Int32)))] []))
    obtain ⟨T102, X102, e102, st102⟩ := getS2 X0 hx hZ hown (host := "") (Or.inl (hw _ (List.mem_of_getElem? (i := 96) rfl))) Via.refl e0 Sc (g := (mkF m 13 #[.val (.int fl), .val (.int ((((fl.toUInt32 >>> ((4 : Int32) &&& 31).toUInt32).toInt32) &&& (2147483647 : Int32)) % (3 : Int32)))] [])) rfl (hb hby dT_13)
    refine Go.by st102 ?_
    show Go _ _ _ _ _ _ _ (T102.setTop (mkF m 16 #[.val (.int fl), .val (.int ((((fl.toUInt32 >>> ((4 : Int32) &&& 31).toUInt32).toInt32) &&& (2147483647 : Int32)) % (3 : Int32)))] [(.ref kc)]))
    refine Go.retR X102 hx hret rfl rfl hlk (hb hby dT_16) ?_ (by decide) (by decide)
    show QT Z h0 n0 (some (.ref kc)) T102.heap _
    rw [e102]
    exact ⟨kc, rfl, N0, rfl⟩
  · refine Go.by (fun _ kont => XS.ifYes X0.here hx rfl (pc0 := 10) (pc' := 17) rfl (hb hby dT_10) rfl ((if0 _ _).trans (feq hc101).2) (by decide) (by decide) kont) ?_
    show Go _ _ _ _ _ _ _ (s₁.setTop (mkF m 17 #[.val (.int fl), .val (.int ((((fl.toUInt32 >>> ((4 : Int32) &&& 31).toUInt32).toInt32) &&& (2147483647 : Int32)) % (3 : Int32)))] []))
    refine Go.by (fun _ kont => XS.iloadN X0.here hx rfl (hb hby dT_17) rfl (XS.iconst X0.here hx rfl (hb hby dT_18) kont)) ?_
    show Go _ _ _ _ _ _ _ (s₁.setTop (mkF m 19 #[.val (.int fl), .val (.int ((((fl.toUInt32 >>> ((4 : Int32) &&& 31).toUInt32).toInt32) &&& (2147483647 : Int32)) % (3 : Int32)))] [(.int (1 : Int32)), (.int ((((fl.toUInt32 >>> ((4 : Int32) &&& 31).toUInt32).toInt32) &&& (2147483647 : Int32)) % (3 : Int32)))]))
    by_cases hc103 : ((((fl.toUInt32 >>> ((4 : Int32) &&& 31).toUInt32).toInt32) &&& (2147483647 : Int32)) % (3 : Int32)) = (1 : Int32)
    · refine Go.by (fun _ kont => XS.icmpNo X0.here hx rfl (hb hby dT_19) rfl (teq hc103).2 kont) ?_
      show Go _ _ _ _ _ _ _ (s₁.setTop (mkF m 22 #[.val (.int fl), .val (.int ((((fl.toUInt32 >>> ((4 : Int32) &&& 31).toUInt32).toInt32) &&& (2147483647 : Int32)) % (3 : Int32)))] []))
      obtain ⟨T104, X104, e104, st104⟩ := getS2 X0 hx hZ hown (host := "") (Or.inl (hw _ (List.mem_of_getElem? (i := 98) rfl))) Via.refl e0 Sf (g := (mkF m 22 #[.val (.int fl), .val (.int ((((fl.toUInt32 >>> ((4 : Int32) &&& 31).toUInt32).toInt32) &&& (2147483647 : Int32)) % (3 : Int32)))] [])) rfl (hb hby dT_22)
      refine Go.by st104 ?_
      show Go _ _ _ _ _ _ _ (T104.setTop (mkF m 25 #[.val (.int fl), .val (.int ((((fl.toUInt32 >>> ((4 : Int32) &&& 31).toUInt32).toInt32) &&& (2147483647 : Int32)) % (3 : Int32)))] [(.ref kf)]))
      refine Go.retR X104 hx hret rfl rfl hlk (hb hby dT_25) ?_ (by decide) (by decide)
      show QT Z h0 n0 (some (.ref kf)) T104.heap _
      rw [e104]
      exact ⟨kf, rfl, N0, rfl⟩
    · refine Go.by (fun _ kont => XS.icmpYes X0.here hx rfl (pc0 := 19) (pc' := 26) rfl (hb hby dT_19) rfl (feq hc103).2 (by decide) (by decide) kont) ?_
      show Go _ _ _ _ _ _ _ (s₁.setTop (mkF m 26 #[.val (.int fl), .val (.int ((((fl.toUInt32 >>> ((4 : Int32) &&& 31).toUInt32).toInt32) &&& (2147483647 : Int32)) % (3 : Int32)))] []))
      obtain ⟨T105, X105, e105, st105⟩ := getS2 X0 hx hZ hown (host := "") (Or.inl (hw _ (List.mem_of_getElem? (i := 100) rfl))) Via.refl e0 Sk (g := (mkF m 26 #[.val (.int fl), .val (.int ((((fl.toUInt32 >>> ((4 : Int32) &&& 31).toUInt32).toInt32) &&& (2147483647 : Int32)) % (3 : Int32)))] [])) rfl (hb hby dT_26)
      refine Go.by st105 ?_
      show Go _ _ _ _ _ _ _ (T105.setTop (mkF m 29 #[.val (.int fl), .val (.int ((((fl.toUInt32 >>> ((4 : Int32) &&& 31).toUInt32).toInt32) &&& (2147483647 : Int32)) % (3 : Int32)))] [(.ref kk)]))
      refine Go.retR X105 hx hret rfl rfl hlk (hb hby dT_29) ?_ (by decide) (by decide)
      show QT Z h0 n0 (some (.ref kk)) T105.heap _
      rw [e105]
      exact ⟨kk, rfl, N0, rfl⟩

theorem dS0_0 : decode prog_35_method_1_code 0 = .ok (.aload_n 0, 1) := by decide +kernel
theorem dS0_1 : decode prog_35_method_1_code 1 = .ok (.invokespecial 1, 3) := by decide +kernel
theorem dS0_4 : decode prog_35_method_1_code 4 = .ok (.aload_n 0, 1) := by decide +kernel
theorem dS0_5 : decode prog_35_method_1_code 5 = .ok (.lload_n 1, 1) := by decide +kernel
theorem dS0_6 : decode prog_35_method_1_code 6 = .ok (.putfield 7, 3) := by decide +kernel
theorem dS0_9 : decode prog_35_method_1_code 9 = .ok (.aload_n 0, 1) := by decide +kernel
theorem dS0_10 : decode prog_35_method_1_code 10 = .ok (.lload_n 3, 1) := by decide +kernel
theorem dS0_11 : decode prog_35_method_1_code 11 = .ok (.putfield 13, 3) := by decide +kernel
theorem dS0_14 : decode prog_35_method_1_code 14 = .ok (.aload_n 0, 1) := by decide +kernel
theorem dS0_15 : decode prog_35_method_1_code 15 = .ok (.aload 5, 2) := by decide +kernel
theorem dS0_17 : decode prog_35_method_1_code 17 = .ok (.putfield 16, 3) := by decide +kernel
theorem dS0_20 : decode prog_35_method_1_code 20 = .ok (.aload_n 0, 1) := by decide +kernel
theorem dS0_21 : decode prog_35_method_1_code 21 = .ok (.aload 6, 2) := by decide +kernel
theorem dS0_23 : decode prog_35_method_1_code 23 = .ok (.putfield 20, 3) := by decide +kernel
theorem dS0_26 : decode prog_35_method_1_code 26 = .ok (.aload_n 0, 1) := by decide +kernel
theorem dS0_27 : decode prog_35_method_1_code 27 = .ok (.iload 7, 2) := by decide +kernel
theorem dS0_29 : decode prog_35_method_1_code 29 = .ok (.putfield 24, 3) := by decide +kernel
theorem dS0_32 : decode prog_35_method_1_code 32 = .ok (.aload_n 0, 1) := by decide +kernel
theorem dS0_33 : decode prog_35_method_1_code 33 = .ok (.aload 8, 2) := by decide +kernel
theorem dS0_35 : decode prog_35_method_1_code 35 = .ok (.putfield 28, 3) := by decide +kernel
theorem dS0_38 : decode prog_35_method_1_code 38 = .ok (.return_, 1) := by decide +kernel
theorem pdS0_0 : parseMethodDescriptor "()V" = some ⟨[], none⟩ := by decide +kernel
theorem pnS0 : plainName "com/example/runpulse/runpulse/RunState" = true := by first | (simp [plainName, overriddenIn]; done) | decide +kernel
theorem efS0 (m : MethodId) (a : Addr) (ea : Int64) (la : Int64) (al : Int32) : entryFrame m #[(.ref a), (.long ea), (.long la), .null, .null, (.int al), .null] 9 = mkF m 0 #[.val (.ref a), .val (.long ea), .second, .val (.long la), .second, .val .null, .val .null, .val (.int al), .val .null] [] := by first | (simp [entryFrame, mkF, argsToLocals, Value.category]; done) | rfl
def QS0 (Z : State) (a : Addr) (ea : Int64) (la : Int64) (al : Int32) (h0 : Heap) (n0 : Nat) (v : Option Value) (h : Heap) (L : List Loc) : Prop := (v = none ∧ Fr n0 L ∧ Keep h0 h [a] ∧ Exa Z h a "com/example/runpulse/runpulse/RunState" ∧ Fld Z h a "com/example/runpulse/runpulse/RunState" "earliest" "J" (.long ea) ∧ Fld Z h a "com/example/runpulse/runpulse/RunState" "latest" "J" (.long la) ∧ Fld Z h a "com/example/runpulse/runpulse/RunState" "starting" "Lcom/example/runpulse/runpulse/RunState$Event;" .null ∧ Fld Z h a "com/example/runpulse/runpulse/RunState" "running" "Ljava/lang/Long;" .null ∧ Fld Z h a "com/example/runpulse/runpulse/RunState" "alive" "Z" (.int al) ∧ Fld Z h a "com/example/runpulse/runpulse/RunState" "terminal" "Lcom/example/runpulse/runpulse/RunState$Event;" .null)
set_option maxRecDepth 65536 in
set_option maxHeartbeats 40000000 in
theorem rmS0 (l : Launch) (Z : State) (a0 : Array Value) (hw : ∀ d ∈ tables_1, d.before a0 Z = true) (ws : List Jvm.Cond) (a : Addr) (ea : Int64) (la : Int64) (al : Int32) (h0 : Heap) (n0 : Nat) (Z0 : n0 ≤ h0.size) (E0_a : Exa Z h0 a "com/example/runpulse/runpulse/RunState") (F0_a_earliest : Fld Z h0 a "com/example/runpulse/runpulse/RunState" "earliest" "J" (.long (0 : Int64))) (F0_a_latest : Fld Z h0 a "com/example/runpulse/runpulse/RunState" "latest" "J" (.long (0 : Int64))) (F0_a_starting : Fld Z h0 a "com/example/runpulse/runpulse/RunState" "starting" "Lcom/example/runpulse/runpulse/RunState$Event;" .null) (F0_a_running : Fld Z h0 a "com/example/runpulse/runpulse/RunState" "running" "Ljava/lang/Long;" .null) (F0_a_alive : Fld Z h0 a "com/example/runpulse/runpulse/RunState" "alive" "Z" (.int (0 : Int32))) (F0_a_terminal : Fld Z h0 a "com/example/runpulse/runpulse/RunState" "terminal" "Lcom/example/runpulse/runpulse/RunState$Event;" .null) (ge0_a : n0 ≤ a) (hal : al = (0 : Int32) ∨ al = (1 : Int32)) :
    MetFree l (⟨"com/example/runpulse/runpulse/RunState", "<init>", "(JJLcom/example/runpulse/runpulse/RunState$Event;Ljava/lang/Long;ZLcom/example/runpulse/runpulse/RunState$Event;)V"⟩ : MethodName) (head1 (Jvm.Cond.code (⟨"com/example/runpulse/runpulse/RunState", "<init>", "(JJLcom/example/runpulse/runpulse/RunState$Event;Ljava/lang/Long;ZLcom/example/runpulse/runpulse/RunState$Event;)V"⟩ : MethodName) prog_35_method_1_code 9 none :: ws) ({ frames := 2, cells := 0, slots := 0, locals := 24 } : Room)) (fun aa_ U_ => aa_ = #[(.ref a), (.long ea), (.long la), .null, .null, (.int al), .null] ∧ Z.Warmed39 U_.vm ∧ U_.heap = h0) (fun _ _ _ _ _ => True) (fun _ U_ o_ V_ => ∃ v_ L_, o_ = .returned v_ ∧ QS0 Z a ea la al h0 n0 v_ V_.heap L_ ∧ FrameEnd U_ o_ V_ L_ ({ frames := 2, cells := 0, slots := 0, locals := 24 } : Room).cells ({ frames := 2, cells := 0, slots := 0, locals := 24 } : Room).slots) := by
  refine MetFree.of_bodySF (plainFor_of_name pnS0) hisR ?_
  intro p e s m args below meth c s₁ Bd hml0 hP hK
  obtain ⟨rfl, hZ, hh⟩ := hP
  have hx := Bd.exec
  have hby := Bd.bytes
  have hml : c.maxLocals = 9 := hml0
  have hown : s.vm.findClass "com/example/runpulse/runpulse/RunState" = some m.cls := findClass_of_methodNamed Bd.named
  have hnm := (name_of_methodNamed Bd.named Bd.method).1
  have hlk : meth.locks = false := BodyLoose.notSynchronized Bd
  have hret : meth.sig.returnType = none := Bd.returns
  have X0 : Stand p l e ({ frames := 2, cells := 0, slots := 0, locals := 24 } : Room) s m #[(.ref a), (.long ea), (.long la), .null, .null, (.int al), .null] below meth c s₁ [] 0 0 := Stand.of_body Bd
  have e0 : s₁.heap = h0 := by rw [← hh, Bd.state]; rfl
  have N0 := Fr.nil n0
  show Go p e below s ({ frames := 2, cells := 0, slots := 0, locals := 24 } : Room).cells ({ frames := 2, cells := 0, slots := 0, locals := 24 } : Room).slots (QS0 Z a ea la al h0 n0) (s₁.setTop (entryFrame m #[(.ref a), (.long ea), (.long la), .null, .null, (.int al), .null] 9))
  rw [efS0]
  refine Go.by (fun _ kont => XS.aloadN X0.here hx rfl (hb hby dS0_0) rfl rfl kont) ?_
  show Go _ _ _ _ _ _ _ (s₁.setTop (mkF m 1 #[.val (.ref a), .val (.long ea), .second, .val (.long la), .second, .val .null, .val .null, .val (.int al), .val .null] [(.ref a)]))
  obtain ⟨_, _, ⟨T101, L101, k101, n101⟩, -, X101, ⟨Lc101, hQ101, l101, y101, z101⟩, st101⟩ := X0.specialBack hx (y := (⟨"java/lang/Record", "<init>", "()V"⟩ : MethodName)) rfl hown (mvT hZ (hw _ (List.mem_of_getElem? (i := 53) rfl))) (mvT hZ (hw _ (List.mem_of_getElem? (i := 13) rfl))) (mvT hZ (hw _ (List.mem_of_getElem? (i := 16) rfl))) (by decide) (backOf (W := 0) (rmR l Z a0 hw [] a h0 n0 Z0 ) hZ (hw _ (List.mem_of_getElem? (i := 16) rfl)) (hw _ (List.mem_of_getElem? (i := 15) rfl)) (by decide) (by decide)) (g := (mkF m 1 #[.val (.ref a), .val (.long ea), .second, .val (.long la), .second, .val .null, .val .null, .val (.int al), .val .null] [(.ref a)])) rfl (by rw [hml]; rfl) (Steps.refl _) (a := a) (argsL := []) (rest := []) (lenOf pdS0_0 rfl) rfl (by show 2 * 0 + _ ≤ _; exact Nat.le_of_eq rfl) (hb hby dS0_1) (fun _ _ => ⟨rfl, e0, (by decide : 0 + 0 ≤ _), (by decide : 0 + 0 ≤ _)⟩)
  dsimp only [Pt.U, Pt.locs, Pt.cells, Pt.slots] at X101 l101 y101 z101 st101 hQ101
  subst l101 y101 z101
  obtain ⟨rfl, N101q, eh101⟩ := hQ101
  have N101 := Fr.app N0 N101q
  refine Go.tr st101 ?_
  show Go _ _ _ _ _ _ _ (T101.setTop (mkF m 4 #[.val (.ref a), .val (.long ea), .second, .val (.long la), .second, .val .null, .val .null, .val (.int al), .val .null] []))
  refine Go.by (fun _ kont => XS.aloadN X101.here hx rfl (hb hby dS0_4) rfl rfl (XS.lloadN X101.here hx rfl (hb hby dS0_5) rfl kont)) ?_
  show Go _ _ _ _ _ _ _ (T101.setTop (mkF m 6 #[.val (.ref a), .val (.long ea), .second, .val (.long la), .second, .val .null, .val .null, .val (.int al), .val .null] [(.long ea), (.ref a)]))
  obtain ⟨T102, h102, X102, e102, W102, st102⟩ := putF X101 hx hZ hown (host := "") (Or.inl (hw _ (List.mem_of_getElem? (i := 54) rfl))) Via.refl eh101 F0_a_earliest E0_a (Or.inr ⟨(hw _ (List.mem_of_getElem? (i := 55) rfl)), rfl, hnm⟩) (hw _ (List.mem_of_getElem? (i := 48) rfl)) (ty := .long) (by decide) rfl rfl (g := (mkF m 6 #[.val (.ref a), .val (.long ea), .second, .val (.long la), .second, .val .null, .val .null, .val (.int al), .val .null] [(.long ea), (.ref a)])) rfl rfl (hb hby dS0_6)
  have Fw102 := F0_a_earliest.same W102
  have F103_latest_a := F0_a_latest.other W102 (Or.inr (slot_ne (Or.inr (hw _ (List.mem_of_getElem? (i := 57) rfl))) (Or.inr (hw _ (List.mem_of_getElem? (i := 55) rfl))) (by decide) (t := .long) (t' := .long) (by decide) (by decide)))
  have F103_starting_a := F0_a_starting.other W102 (Or.inr (slot_ne (Or.inr (hw _ (List.mem_of_getElem? (i := 59) rfl))) (Or.inr (hw _ (List.mem_of_getElem? (i := 55) rfl))) (by decide) (t := (.object "com/example/runpulse/runpulse/RunState$Event")) (t' := .long) (by decide) (by decide)))
  have F103_running_a := F0_a_running.other W102 (Or.inr (slot_ne (Or.inr (hw _ (List.mem_of_getElem? (i := 61) rfl))) (Or.inr (hw _ (List.mem_of_getElem? (i := 55) rfl))) (by decide) (t := (.object "java/lang/Long")) (t' := .long) (by decide) (by decide)))
  have F103_alive_a := F0_a_alive.other W102 (Or.inr (slot_ne (Or.inr (hw _ (List.mem_of_getElem? (i := 63) rfl))) (Or.inr (hw _ (List.mem_of_getElem? (i := 55) rfl))) (by decide) (t := .boolean) (t' := .long) (by decide) (by decide)))
  have F103_terminal_a := F0_a_terminal.other W102 (Or.inr (slot_ne (Or.inr (hw _ (List.mem_of_getElem? (i := 65) rfl))) (Or.inr (hw _ (List.mem_of_getElem? (i := 55) rfl))) (by decide) (t := (.object "com/example/runpulse/runpulse/RunState$Event")) (t' := .long) (by decide) (by decide)))
  have E103_a := E0_a.wr W102
  have Z103 := Nat.le_trans Z0 (Keep.of_wr W102).1
  have K103 : Keep h0 h102 [a] := (Keep.refl h0 [a]).wr W102 (Or.inl (by simp))
  have N102 := Fr.snoc X102 N101 ge0_a
  refine Go.by st102 ?_
  show Go _ _ _ _ _ _ _ (T102.setTop (mkF m 9 #[.val (.ref a), .val (.long ea), .second, .val (.long la), .second, .val .null, .val .null, .val (.int al), .val .null] []))
  refine Go.by (fun _ kont => XS.aloadN X102.here hx rfl (hb hby dS0_9) rfl rfl (XS.lloadN X102.here hx rfl (hb hby dS0_10) rfl kont)) ?_
  show Go _ _ _ _ _ _ _ (T102.setTop (mkF m 11 #[.val (.ref a), .val (.long ea), .second, .val (.long la), .second, .val .null, .val .null, .val (.int al), .val .null] [(.long la), (.ref a)]))
  obtain ⟨T104, h104, X104, e104, W104, st104⟩ := putF X102 hx hZ hown (host := "") (Or.inl (hw _ (List.mem_of_getElem? (i := 56) rfl))) Via.refl e102 F103_latest_a E103_a (Or.inr ⟨(hw _ (List.mem_of_getElem? (i := 57) rfl)), rfl, hnm⟩) (hw _ (List.mem_of_getElem? (i := 48) rfl)) (ty := .long) (by decide) rfl rfl (g := (mkF m 11 #[.val (.ref a), .val (.long ea), .second, .val (.long la), .second, .val .null, .val .null, .val (.int al), .val .null] [(.long la), (.ref a)])) rfl rfl (hb hby dS0_11)
  have Fw104 := F103_latest_a.same W104
  have F105_earliest_a := Fw102.other W104 (Or.inr (slot_ne (Or.inr (hw _ (List.mem_of_getElem? (i := 55) rfl))) (Or.inr (hw _ (List.mem_of_getElem? (i := 57) rfl))) (by decide) (t := .long) (t' := .long) (by decide) (by decide)))
  have F105_starting_a := F103_starting_a.other W104 (Or.inr (slot_ne (Or.inr (hw _ (List.mem_of_getElem? (i := 59) rfl))) (Or.inr (hw _ (List.mem_of_getElem? (i := 57) rfl))) (by decide) (t := (.object "com/example/runpulse/runpulse/RunState$Event")) (t' := .long) (by decide) (by decide)))
  have F105_running_a := F103_running_a.other W104 (Or.inr (slot_ne (Or.inr (hw _ (List.mem_of_getElem? (i := 61) rfl))) (Or.inr (hw _ (List.mem_of_getElem? (i := 57) rfl))) (by decide) (t := (.object "java/lang/Long")) (t' := .long) (by decide) (by decide)))
  have F105_alive_a := F103_alive_a.other W104 (Or.inr (slot_ne (Or.inr (hw _ (List.mem_of_getElem? (i := 63) rfl))) (Or.inr (hw _ (List.mem_of_getElem? (i := 57) rfl))) (by decide) (t := .boolean) (t' := .long) (by decide) (by decide)))
  have F105_terminal_a := F103_terminal_a.other W104 (Or.inr (slot_ne (Or.inr (hw _ (List.mem_of_getElem? (i := 65) rfl))) (Or.inr (hw _ (List.mem_of_getElem? (i := 57) rfl))) (by decide) (t := (.object "com/example/runpulse/runpulse/RunState$Event")) (t' := .long) (by decide) (by decide)))
  have E105_a := E103_a.wr W104
  have Z105 := Nat.le_trans Z103 (Keep.of_wr W104).1
  have K105 : Keep h0 h104 [a] := K103.wr W104 (Or.inl (by simp))
  have N104 := Fr.snoc X104 N102 ge0_a
  refine Go.by st104 ?_
  show Go _ _ _ _ _ _ _ (T104.setTop (mkF m 14 #[.val (.ref a), .val (.long ea), .second, .val (.long la), .second, .val .null, .val .null, .val (.int al), .val .null] []))
  refine Go.by (fun _ kont => XS.aloadN X104.here hx rfl (hb hby dS0_14) rfl rfl (XS.aload X104.here hx rfl (hb hby dS0_15) rfl rfl kont)) ?_
  show Go _ _ _ _ _ _ _ (T104.setTop (mkF m 17 #[.val (.ref a), .val (.long ea), .second, .val (.long la), .second, .val .null, .val .null, .val (.int al), .val .null] [.null, (.ref a)]))
  obtain ⟨T106, h106, X106, e106, W106, st106⟩ := putF X104 hx hZ hown (host := "") (Or.inl (hw _ (List.mem_of_getElem? (i := 58) rfl))) Via.refl e104 F105_starting_a E105_a (Or.inr ⟨(hw _ (List.mem_of_getElem? (i := 59) rfl)), rfl, hnm⟩) (hw _ (List.mem_of_getElem? (i := 48) rfl)) (ty := (.object "com/example/runpulse/runpulse/RunState$Event")) (by decide) rfl rfl (g := (mkF m 17 #[.val (.ref a), .val (.long ea), .second, .val (.long la), .second, .val .null, .val .null, .val (.int al), .val .null] [.null, (.ref a)])) rfl rfl (hb hby dS0_17)
  have Fw106 := F105_starting_a.same W106
  have F107_earliest_a := F105_earliest_a.other W106 (Or.inr (slot_ne (Or.inr (hw _ (List.mem_of_getElem? (i := 55) rfl))) (Or.inr (hw _ (List.mem_of_getElem? (i := 59) rfl))) (by decide) (t := .long) (t' := (.object "com/example/runpulse/runpulse/RunState$Event")) (by decide) (by decide)))
  have F107_latest_a := Fw104.other W106 (Or.inr (slot_ne (Or.inr (hw _ (List.mem_of_getElem? (i := 57) rfl))) (Or.inr (hw _ (List.mem_of_getElem? (i := 59) rfl))) (by decide) (t := .long) (t' := (.object "com/example/runpulse/runpulse/RunState$Event")) (by decide) (by decide)))
  have F107_running_a := F105_running_a.other W106 (Or.inr (slot_ne (Or.inr (hw _ (List.mem_of_getElem? (i := 61) rfl))) (Or.inr (hw _ (List.mem_of_getElem? (i := 59) rfl))) (by decide) (t := (.object "java/lang/Long")) (t' := (.object "com/example/runpulse/runpulse/RunState$Event")) (by decide) (by decide)))
  have F107_alive_a := F105_alive_a.other W106 (Or.inr (slot_ne (Or.inr (hw _ (List.mem_of_getElem? (i := 63) rfl))) (Or.inr (hw _ (List.mem_of_getElem? (i := 59) rfl))) (by decide) (t := .boolean) (t' := (.object "com/example/runpulse/runpulse/RunState$Event")) (by decide) (by decide)))
  have F107_terminal_a := F105_terminal_a.other W106 (Or.inr (slot_ne (Or.inr (hw _ (List.mem_of_getElem? (i := 65) rfl))) (Or.inr (hw _ (List.mem_of_getElem? (i := 59) rfl))) (by decide) (t := (.object "com/example/runpulse/runpulse/RunState$Event")) (t' := (.object "com/example/runpulse/runpulse/RunState$Event")) (by decide) (by decide)))
  have E107_a := E105_a.wr W106
  have Z107 := Nat.le_trans Z105 (Keep.of_wr W106).1
  have K107 : Keep h0 h106 [a] := K105.wr W106 (Or.inl (by simp))
  have N106 := Fr.snoc X106 N104 ge0_a
  refine Go.by st106 ?_
  show Go _ _ _ _ _ _ _ (T106.setTop (mkF m 20 #[.val (.ref a), .val (.long ea), .second, .val (.long la), .second, .val .null, .val .null, .val (.int al), .val .null] []))
  refine Go.by (fun _ kont => XS.aloadN X106.here hx rfl (hb hby dS0_20) rfl rfl (XS.aload X106.here hx rfl (hb hby dS0_21) rfl rfl kont)) ?_
  show Go _ _ _ _ _ _ _ (T106.setTop (mkF m 23 #[.val (.ref a), .val (.long ea), .second, .val (.long la), .second, .val .null, .val .null, .val (.int al), .val .null] [.null, (.ref a)]))
  obtain ⟨T108, h108, X108, e108, W108, st108⟩ := putF X106 hx hZ hown (host := "") (Or.inl (hw _ (List.mem_of_getElem? (i := 60) rfl))) Via.refl e106 F107_running_a E107_a (Or.inr ⟨(hw _ (List.mem_of_getElem? (i := 61) rfl)), rfl, hnm⟩) (hw _ (List.mem_of_getElem? (i := 48) rfl)) (ty := (.object "java/lang/Long")) (by decide) rfl rfl (g := (mkF m 23 #[.val (.ref a), .val (.long ea), .second, .val (.long la), .second, .val .null, .val .null, .val (.int al), .val .null] [.null, (.ref a)])) rfl rfl (hb hby dS0_23)
  have Fw108 := F107_running_a.same W108
  have F109_earliest_a := F107_earliest_a.other W108 (Or.inr (slot_ne (Or.inr (hw _ (List.mem_of_getElem? (i := 55) rfl))) (Or.inr (hw _ (List.mem_of_getElem? (i := 61) rfl))) (by decide) (t := .long) (t' := (.object "java/lang/Long")) (by decide) (by decide)))
  have F109_latest_a := F107_latest_a.other W108 (Or.inr (slot_ne (Or.inr (hw _ (List.mem_of_getElem? (i := 57) rfl))) (Or.inr (hw _ (List.mem_of_getElem? (i := 61) rfl))) (by decide) (t := .long) (t' := (.object "java/lang/Long")) (by decide) (by decide)))
  have F109_starting_a := Fw106.other W108 (Or.inr (slot_ne (Or.inr (hw _ (List.mem_of_getElem? (i := 59) rfl))) (Or.inr (hw _ (List.mem_of_getElem? (i := 61) rfl))) (by decide) (t := (.object "com/example/runpulse/runpulse/RunState$Event")) (t' := (.object "java/lang/Long")) (by decide) (by decide)))
  have F109_alive_a := F107_alive_a.other W108 (Or.inr (slot_ne (Or.inr (hw _ (List.mem_of_getElem? (i := 63) rfl))) (Or.inr (hw _ (List.mem_of_getElem? (i := 61) rfl))) (by decide) (t := .boolean) (t' := (.object "java/lang/Long")) (by decide) (by decide)))
  have F109_terminal_a := F107_terminal_a.other W108 (Or.inr (slot_ne (Or.inr (hw _ (List.mem_of_getElem? (i := 65) rfl))) (Or.inr (hw _ (List.mem_of_getElem? (i := 61) rfl))) (by decide) (t := (.object "com/example/runpulse/runpulse/RunState$Event")) (t' := (.object "java/lang/Long")) (by decide) (by decide)))
  have E109_a := E107_a.wr W108
  have Z109 := Nat.le_trans Z107 (Keep.of_wr W108).1
  have K109 : Keep h0 h108 [a] := K107.wr W108 (Or.inl (by simp))
  have N108 := Fr.snoc X108 N106 ge0_a
  refine Go.by st108 ?_
  show Go _ _ _ _ _ _ _ (T108.setTop (mkF m 26 #[.val (.ref a), .val (.long ea), .second, .val (.long la), .second, .val .null, .val .null, .val (.int al), .val .null] []))
  refine Go.by (fun _ kont => XS.aloadN X108.here hx rfl (hb hby dS0_26) rfl rfl (XS.iload X108.here hx rfl (hb hby dS0_27) rfl kont)) ?_
  show Go _ _ _ _ _ _ _ (T108.setTop (mkF m 29 #[.val (.ref a), .val (.long ea), .second, .val (.long la), .second, .val .null, .val .null, .val (.int al), .val .null] [(.int al), (.ref a)]))
  obtain ⟨T110, h110, X110, e110, W110, st110⟩ := putF X108 hx hZ hown (host := "") (Or.inl (hw _ (List.mem_of_getElem? (i := 62) rfl))) Via.refl e108 F109_alive_a E109_a (Or.inr ⟨(hw _ (List.mem_of_getElem? (i := 63) rfl)), rfl, hnm⟩) (hw _ (List.mem_of_getElem? (i := 48) rfl)) (ty := .boolean) (by decide) (own_zn hal) (own_zf hal) (g := (mkF m 29 #[.val (.ref a), .val (.long ea), .second, .val (.long la), .second, .val .null, .val .null, .val (.int al), .val .null] [(.int al), (.ref a)])) rfl rfl (hb hby dS0_29)
  have Fw110 := F109_alive_a.same W110
  have F111_earliest_a := F109_earliest_a.other W110 (Or.inr (slot_ne (Or.inr (hw _ (List.mem_of_getElem? (i := 55) rfl))) (Or.inr (hw _ (List.mem_of_getElem? (i := 63) rfl))) (by decide) (t := .long) (t' := .boolean) (by decide) (by decide)))
  have F111_latest_a := F109_latest_a.other W110 (Or.inr (slot_ne (Or.inr (hw _ (List.mem_of_getElem? (i := 57) rfl))) (Or.inr (hw _ (List.mem_of_getElem? (i := 63) rfl))) (by decide) (t := .long) (t' := .boolean) (by decide) (by decide)))
  have F111_starting_a := F109_starting_a.other W110 (Or.inr (slot_ne (Or.inr (hw _ (List.mem_of_getElem? (i := 59) rfl))) (Or.inr (hw _ (List.mem_of_getElem? (i := 63) rfl))) (by decide) (t := (.object "com/example/runpulse/runpulse/RunState$Event")) (t' := .boolean) (by decide) (by decide)))
  have F111_running_a := Fw108.other W110 (Or.inr (slot_ne (Or.inr (hw _ (List.mem_of_getElem? (i := 61) rfl))) (Or.inr (hw _ (List.mem_of_getElem? (i := 63) rfl))) (by decide) (t := (.object "java/lang/Long")) (t' := .boolean) (by decide) (by decide)))
  have F111_terminal_a := F109_terminal_a.other W110 (Or.inr (slot_ne (Or.inr (hw _ (List.mem_of_getElem? (i := 65) rfl))) (Or.inr (hw _ (List.mem_of_getElem? (i := 63) rfl))) (by decide) (t := (.object "com/example/runpulse/runpulse/RunState$Event")) (t' := .boolean) (by decide) (by decide)))
  have E111_a := E109_a.wr W110
  have Z111 := Nat.le_trans Z109 (Keep.of_wr W110).1
  have K111 : Keep h0 h110 [a] := K109.wr W110 (Or.inl (by simp))
  have N110 := Fr.snoc X110 N108 ge0_a
  refine Go.by st110 ?_
  show Go _ _ _ _ _ _ _ (T110.setTop (mkF m 32 #[.val (.ref a), .val (.long ea), .second, .val (.long la), .second, .val .null, .val .null, .val (.int al), .val .null] []))
  refine Go.by (fun _ kont => XS.aloadN X110.here hx rfl (hb hby dS0_32) rfl rfl (XS.aload X110.here hx rfl (hb hby dS0_33) rfl rfl kont)) ?_
  show Go _ _ _ _ _ _ _ (T110.setTop (mkF m 35 #[.val (.ref a), .val (.long ea), .second, .val (.long la), .second, .val .null, .val .null, .val (.int al), .val .null] [.null, (.ref a)]))
  obtain ⟨T112, h112, X112, e112, W112, st112⟩ := putF X110 hx hZ hown (host := "") (Or.inl (hw _ (List.mem_of_getElem? (i := 64) rfl))) Via.refl e110 F111_terminal_a E111_a (Or.inr ⟨(hw _ (List.mem_of_getElem? (i := 65) rfl)), rfl, hnm⟩) (hw _ (List.mem_of_getElem? (i := 48) rfl)) (ty := (.object "com/example/runpulse/runpulse/RunState$Event")) (by decide) rfl rfl (g := (mkF m 35 #[.val (.ref a), .val (.long ea), .second, .val (.long la), .second, .val .null, .val .null, .val (.int al), .val .null] [.null, (.ref a)])) rfl rfl (hb hby dS0_35)
  have Fw112 := F111_terminal_a.same W112
  have F113_earliest_a := F111_earliest_a.other W112 (Or.inr (slot_ne (Or.inr (hw _ (List.mem_of_getElem? (i := 55) rfl))) (Or.inr (hw _ (List.mem_of_getElem? (i := 65) rfl))) (by decide) (t := .long) (t' := (.object "com/example/runpulse/runpulse/RunState$Event")) (by decide) (by decide)))
  have F113_latest_a := F111_latest_a.other W112 (Or.inr (slot_ne (Or.inr (hw _ (List.mem_of_getElem? (i := 57) rfl))) (Or.inr (hw _ (List.mem_of_getElem? (i := 65) rfl))) (by decide) (t := .long) (t' := (.object "com/example/runpulse/runpulse/RunState$Event")) (by decide) (by decide)))
  have F113_starting_a := F111_starting_a.other W112 (Or.inr (slot_ne (Or.inr (hw _ (List.mem_of_getElem? (i := 59) rfl))) (Or.inr (hw _ (List.mem_of_getElem? (i := 65) rfl))) (by decide) (t := (.object "com/example/runpulse/runpulse/RunState$Event")) (t' := (.object "com/example/runpulse/runpulse/RunState$Event")) (by decide) (by decide)))
  have F113_running_a := F111_running_a.other W112 (Or.inr (slot_ne (Or.inr (hw _ (List.mem_of_getElem? (i := 61) rfl))) (Or.inr (hw _ (List.mem_of_getElem? (i := 65) rfl))) (by decide) (t := (.object "java/lang/Long")) (t' := (.object "com/example/runpulse/runpulse/RunState$Event")) (by decide) (by decide)))
  have F113_alive_a := Fw110.other W112 (Or.inr (slot_ne (Or.inr (hw _ (List.mem_of_getElem? (i := 63) rfl))) (Or.inr (hw _ (List.mem_of_getElem? (i := 65) rfl))) (by decide) (t := .boolean) (t' := (.object "com/example/runpulse/runpulse/RunState$Event")) (by decide) (by decide)))
  have E113_a := E111_a.wr W112
  have Z113 := Nat.le_trans Z111 (Keep.of_wr W112).1
  have K113 : Keep h0 h112 [a] := K111.wr W112 (Or.inl (by simp))
  have N112 := Fr.snoc X112 N110 ge0_a
  refine Go.by st112 ?_
  show Go _ _ _ _ _ _ _ (T112.setTop (mkF m 38 #[.val (.ref a), .val (.long ea), .second, .val (.long la), .second, .val .null, .val .null, .val (.int al), .val .null] []))
  refine Go.retV X112 hx hret hlk (hb hby dS0_38) ?_ (by decide) (by decide)
  show QS0 Z a ea la al h0 n0 none T112.heap _
  rw [e112]
  exact ⟨rfl, N112, K113, E113_a, F113_earliest_a, F113_latest_a, F113_starting_a, F113_running_a, F113_alive_a, Fw112⟩

theorem dS1_0 : decode prog_35_method_1_code 0 = .ok (.aload_n 0, 1) := by decide +kernel
theorem dS1_1 : decode prog_35_method_1_code 1 = .ok (.invokespecial 1, 3) := by decide +kernel
theorem dS1_4 : decode prog_35_method_1_code 4 = .ok (.aload_n 0, 1) := by decide +kernel
theorem dS1_5 : decode prog_35_method_1_code 5 = .ok (.lload_n 1, 1) := by decide +kernel
theorem dS1_6 : decode prog_35_method_1_code 6 = .ok (.putfield 7, 3) := by decide +kernel
theorem dS1_9 : decode prog_35_method_1_code 9 = .ok (.aload_n 0, 1) := by decide +kernel
theorem dS1_10 : decode prog_35_method_1_code 10 = .ok (.lload_n 3, 1) := by decide +kernel
theorem dS1_11 : decode prog_35_method_1_code 11 = .ok (.putfield 13, 3) := by decide +kernel
theorem dS1_14 : decode prog_35_method_1_code 14 = .ok (.aload_n 0, 1) := by decide +kernel
theorem dS1_15 : decode prog_35_method_1_code 15 = .ok (.aload 5, 2) := by decide +kernel
theorem dS1_17 : decode prog_35_method_1_code 17 = .ok (.putfield 16, 3) := by decide +kernel
theorem dS1_20 : decode prog_35_method_1_code 20 = .ok (.aload_n 0, 1) := by decide +kernel
theorem dS1_21 : decode prog_35_method_1_code 21 = .ok (.aload 6, 2) := by decide +kernel
theorem dS1_23 : decode prog_35_method_1_code 23 = .ok (.putfield 20, 3) := by decide +kernel
theorem dS1_26 : decode prog_35_method_1_code 26 = .ok (.aload_n 0, 1) := by decide +kernel
theorem dS1_27 : decode prog_35_method_1_code 27 = .ok (.iload 7, 2) := by decide +kernel
theorem dS1_29 : decode prog_35_method_1_code 29 = .ok (.putfield 24, 3) := by decide +kernel
theorem dS1_32 : decode prog_35_method_1_code 32 = .ok (.aload_n 0, 1) := by decide +kernel
theorem dS1_33 : decode prog_35_method_1_code 33 = .ok (.aload 8, 2) := by decide +kernel
theorem dS1_35 : decode prog_35_method_1_code 35 = .ok (.putfield 28, 3) := by decide +kernel
theorem dS1_38 : decode prog_35_method_1_code 38 = .ok (.return_, 1) := by decide +kernel
theorem pdS1_0 : parseMethodDescriptor "()V" = some ⟨[], none⟩ := by decide +kernel
theorem pnS1 : plainName "com/example/runpulse/runpulse/RunState" = true := by first | (simp [plainName, overriddenIn]; done) | decide +kernel
theorem efS1 (m : MethodId) (a : Addr) (ea : Int64) (la : Int64) (st1 : Addr) (al : Int32) : entryFrame m #[(.ref a), (.long ea), (.long la), (.ref st1), .null, (.int al), .null] 9 = mkF m 0 #[.val (.ref a), .val (.long ea), .second, .val (.long la), .second, .val (.ref st1), .val .null, .val (.int al), .val .null] [] := by first | (simp [entryFrame, mkF, argsToLocals, Value.category]; done) | rfl
def QS1 (Z : State) (a : Addr) (ea : Int64) (la : Int64) (st1 : Addr) (al : Int32) (h0 : Heap) (n0 : Nat) (v : Option Value) (h : Heap) (L : List Loc) : Prop := (v = none ∧ Fr n0 L ∧ Keep h0 h [a] ∧ Exa Z h a "com/example/runpulse/runpulse/RunState" ∧ Fld Z h a "com/example/runpulse/runpulse/RunState" "earliest" "J" (.long ea) ∧ Fld Z h a "com/example/runpulse/runpulse/RunState" "latest" "J" (.long la) ∧ Fld Z h a "com/example/runpulse/runpulse/RunState" "starting" "Lcom/example/runpulse/runpulse/RunState$Event;" (.ref st1) ∧ Fld Z h a "com/example/runpulse/runpulse/RunState" "running" "Ljava/lang/Long;" .null ∧ Fld Z h a "com/example/runpulse/runpulse/RunState" "alive" "Z" (.int al) ∧ Fld Z h a "com/example/runpulse/runpulse/RunState" "terminal" "Lcom/example/runpulse/runpulse/RunState$Event;" .null)
set_option maxRecDepth 65536 in
set_option maxHeartbeats 40000000 in
theorem rmS1 (l : Launch) (Z : State) (a0 : Array Value) (hw : ∀ d ∈ tables_1, d.before a0 Z = true) (ws : List Jvm.Cond) (a : Addr) (ea : Int64) (la : Int64) (st1 : Addr) (al : Int32) (h0 : Heap) (n0 : Nat) (Z0 : n0 ≤ h0.size) (E0_a : Exa Z h0 a "com/example/runpulse/runpulse/RunState") (F0_a_earliest : Fld Z h0 a "com/example/runpulse/runpulse/RunState" "earliest" "J" (.long (0 : Int64))) (F0_a_latest : Fld Z h0 a "com/example/runpulse/runpulse/RunState" "latest" "J" (.long (0 : Int64))) (F0_a_starting : Fld Z h0 a "com/example/runpulse/runpulse/RunState" "starting" "Lcom/example/runpulse/runpulse/RunState$Event;" .null) (F0_a_running : Fld Z h0 a "com/example/runpulse/runpulse/RunState" "running" "Ljava/lang/Long;" .null) (F0_a_alive : Fld Z h0 a "com/example/runpulse/runpulse/RunState" "alive" "Z" (.int (0 : Int32))) (F0_a_terminal : Fld Z h0 a "com/example/runpulse/runpulse/RunState" "terminal" "Lcom/example/runpulse/runpulse/RunState$Event;" .null) (ge0_a : n0 ≤ a) (hal : al = (0 : Int32) ∨ al = (1 : Int32)) :
    MetFree l (⟨"com/example/runpulse/runpulse/RunState", "<init>", "(JJLcom/example/runpulse/runpulse/RunState$Event;Ljava/lang/Long;ZLcom/example/runpulse/runpulse/RunState$Event;)V"⟩ : MethodName) (head1 (Jvm.Cond.code (⟨"com/example/runpulse/runpulse/RunState", "<init>", "(JJLcom/example/runpulse/runpulse/RunState$Event;Ljava/lang/Long;ZLcom/example/runpulse/runpulse/RunState$Event;)V"⟩ : MethodName) prog_35_method_1_code 9 none :: ws) ({ frames := 2, cells := 0, slots := 0, locals := 24 } : Room)) (fun aa_ U_ => aa_ = #[(.ref a), (.long ea), (.long la), (.ref st1), .null, (.int al), .null] ∧ Z.Warmed39 U_.vm ∧ U_.heap = h0) (fun _ _ _ _ _ => True) (fun _ U_ o_ V_ => ∃ v_ L_, o_ = .returned v_ ∧ QS1 Z a ea la st1 al h0 n0 v_ V_.heap L_ ∧ FrameEnd U_ o_ V_ L_ ({ frames := 2, cells := 0, slots := 0, locals := 24 } : Room).cells ({ frames := 2, cells := 0, slots := 0, locals := 24 } : Room).slots) := by
  refine MetFree.of_bodySF (plainFor_of_name pnS1) hisR ?_
  intro p e s m args below meth c s₁ Bd hml0 hP hK
  obtain ⟨rfl, hZ, hh⟩ := hP
  have hx := Bd.exec
  have hby := Bd.bytes
  have hml : c.maxLocals = 9 := hml0
  have hown : s.vm.findClass "com/example/runpulse/runpulse/RunState" = some m.cls := findClass_of_methodNamed Bd.named
  have hnm := (name_of_methodNamed Bd.named Bd.method).1
  have hlk : meth.locks = false := BodyLoose.notSynchronized Bd
  have hret : meth.sig.returnType = none := Bd.returns
  have X0 : Stand p l e ({ frames := 2, cells := 0, slots := 0, locals := 24 } : Room) s m #[(.ref a), (.long ea), (.long la), (.ref st1), .null, (.int al), .null] below meth c s₁ [] 0 0 := Stand.of_body Bd
  have e0 : s₁.heap = h0 := by rw [← hh, Bd.state]; rfl
  have N0 := Fr.nil n0
  show Go p e below s ({ frames := 2, cells := 0, slots := 0, locals := 24 } : Room).cells ({ frames := 2, cells := 0, slots := 0, locals := 24 } : Room).slots (QS1 Z a ea la st1 al h0 n0) (s₁.setTop (entryFrame m #[(.ref a), (.long ea), (.long la), (.ref st1), .null, (.int al), .null] 9))
  rw [efS1]
  refine Go.by (fun _ kont => XS.aloadN X0.here hx rfl (hb hby dS1_0) rfl rfl kont) ?_
  show Go _ _ _ _ _ _ _ (s₁.setTop (mkF m 1 #[.val (.ref a), .val (.long ea), .second, .val (.long la), .second, .val (.ref st1), .val .null, .val (.int al), .val .null] [(.ref a)]))
  obtain ⟨_, _, ⟨T101, L101, k101, n101⟩, -, X101, ⟨Lc101, hQ101, l101, y101, z101⟩, st101⟩ := X0.specialBack hx (y := (⟨"java/lang/Record", "<init>", "()V"⟩ : MethodName)) rfl hown (mvT hZ (hw _ (List.mem_of_getElem? (i := 53) rfl))) (mvT hZ (hw _ (List.mem_of_getElem? (i := 13) rfl))) (mvT hZ (hw _ (List.mem_of_getElem? (i := 16) rfl))) (by decide) (backOf (W := 0) (rmR l Z a0 hw [] a h0 n0 Z0 ) hZ (hw _ (List.mem_of_getElem? (i := 16) rfl)) (hw _ (List.mem_of_getElem? (i := 15) rfl)) (by decide) (by decide)) (g := (mkF m 1 #[.val (.ref a), .val (.long ea), .second, .val (.long la), .second, .val (.ref st1), .val .null, .val (.int al), .val .null] [(.ref a)])) rfl (by rw [hml]; rfl) (Steps.refl _) (a := a) (argsL := []) (rest := []) (lenOf pdS1_0 rfl) rfl (by show 2 * 0 + _ ≤ _; exact Nat.le_of_eq rfl) (hb hby dS1_1) (fun _ _ => ⟨rfl, e0, (by decide : 0 + 0 ≤ _), (by decide : 0 + 0 ≤ _)⟩)
  dsimp only [Pt.U, Pt.locs, Pt.cells, Pt.slots] at X101 l101 y101 z101 st101 hQ101
  subst l101 y101 z101
  obtain ⟨rfl, N101q, eh101⟩ := hQ101
  have N101 := Fr.app N0 N101q
  refine Go.tr st101 ?_
  show Go _ _ _ _ _ _ _ (T101.setTop (mkF m 4 #[.val (.ref a), .val (.long ea), .second, .val (.long la), .second, .val (.ref st1), .val .null, .val (.int al), .val .null] []))
  refine Go.by (fun _ kont => XS.aloadN X101.here hx rfl (hb hby dS1_4) rfl rfl (XS.lloadN X101.here hx rfl (hb hby dS1_5) rfl kont)) ?_
  show Go _ _ _ _ _ _ _ (T101.setTop (mkF m 6 #[.val (.ref a), .val (.long ea), .second, .val (.long la), .second, .val (.ref st1), .val .null, .val (.int al), .val .null] [(.long ea), (.ref a)]))
  obtain ⟨T102, h102, X102, e102, W102, st102⟩ := putF X101 hx hZ hown (host := "") (Or.inl (hw _ (List.mem_of_getElem? (i := 54) rfl))) Via.refl eh101 F0_a_earliest E0_a (Or.inr ⟨(hw _ (List.mem_of_getElem? (i := 55) rfl)), rfl, hnm⟩) (hw _ (List.mem_of_getElem? (i := 48) rfl)) (ty := .long) (by decide) rfl rfl (g := (mkF m 6 #[.val (.ref a), .val (.long ea), .second, .val (.long la), .second, .val (.ref st1), .val .null, .val (.int al), .val .null] [(.long ea), (.ref a)])) rfl rfl (hb hby dS1_6)
  have Fw102 := F0_a_earliest.same W102
  have F103_latest_a := F0_a_latest.other W102 (Or.inr (slot_ne (Or.inr (hw _ (List.mem_of_getElem? (i := 57) rfl))) (Or.inr (hw _ (List.mem_of_getElem? (i := 55) rfl))) (by decide) (t := .long) (t' := .long) (by decide) (by decide)))
  have F103_starting_a := F0_a_starting.other W102 (Or.inr (slot_ne (Or.inr (hw _ (List.mem_of_getElem? (i := 59) rfl))) (Or.inr (hw _ (List.mem_of_getElem? (i := 55) rfl))) (by decide) (t := (.object "com/example/runpulse/runpulse/RunState$Event")) (t' := .long) (by decide) (by decide)))
  have F103_running_a := F0_a_running.other W102 (Or.inr (slot_ne (Or.inr (hw _ (List.mem_of_getElem? (i := 61) rfl))) (Or.inr (hw _ (List.mem_of_getElem? (i := 55) rfl))) (by decide) (t := (.object "java/lang/Long")) (t' := .long) (by decide) (by decide)))
  have F103_alive_a := F0_a_alive.other W102 (Or.inr (slot_ne (Or.inr (hw _ (List.mem_of_getElem? (i := 63) rfl))) (Or.inr (hw _ (List.mem_of_getElem? (i := 55) rfl))) (by decide) (t := .boolean) (t' := .long) (by decide) (by decide)))
  have F103_terminal_a := F0_a_terminal.other W102 (Or.inr (slot_ne (Or.inr (hw _ (List.mem_of_getElem? (i := 65) rfl))) (Or.inr (hw _ (List.mem_of_getElem? (i := 55) rfl))) (by decide) (t := (.object "com/example/runpulse/runpulse/RunState$Event")) (t' := .long) (by decide) (by decide)))
  have E103_a := E0_a.wr W102
  have Z103 := Nat.le_trans Z0 (Keep.of_wr W102).1
  have K103 : Keep h0 h102 [a] := (Keep.refl h0 [a]).wr W102 (Or.inl (by simp))
  have N102 := Fr.snoc X102 N101 ge0_a
  refine Go.by st102 ?_
  show Go _ _ _ _ _ _ _ (T102.setTop (mkF m 9 #[.val (.ref a), .val (.long ea), .second, .val (.long la), .second, .val (.ref st1), .val .null, .val (.int al), .val .null] []))
  refine Go.by (fun _ kont => XS.aloadN X102.here hx rfl (hb hby dS1_9) rfl rfl (XS.lloadN X102.here hx rfl (hb hby dS1_10) rfl kont)) ?_
  show Go _ _ _ _ _ _ _ (T102.setTop (mkF m 11 #[.val (.ref a), .val (.long ea), .second, .val (.long la), .second, .val (.ref st1), .val .null, .val (.int al), .val .null] [(.long la), (.ref a)]))
  obtain ⟨T104, h104, X104, e104, W104, st104⟩ := putF X102 hx hZ hown (host := "") (Or.inl (hw _ (List.mem_of_getElem? (i := 56) rfl))) Via.refl e102 F103_latest_a E103_a (Or.inr ⟨(hw _ (List.mem_of_getElem? (i := 57) rfl)), rfl, hnm⟩) (hw _ (List.mem_of_getElem? (i := 48) rfl)) (ty := .long) (by decide) rfl rfl (g := (mkF m 11 #[.val (.ref a), .val (.long ea), .second, .val (.long la), .second, .val (.ref st1), .val .null, .val (.int al), .val .null] [(.long la), (.ref a)])) rfl rfl (hb hby dS1_11)
  have Fw104 := F103_latest_a.same W104
  have F105_earliest_a := Fw102.other W104 (Or.inr (slot_ne (Or.inr (hw _ (List.mem_of_getElem? (i := 55) rfl))) (Or.inr (hw _ (List.mem_of_getElem? (i := 57) rfl))) (by decide) (t := .long) (t' := .long) (by decide) (by decide)))
  have F105_starting_a := F103_starting_a.other W104 (Or.inr (slot_ne (Or.inr (hw _ (List.mem_of_getElem? (i := 59) rfl))) (Or.inr (hw _ (List.mem_of_getElem? (i := 57) rfl))) (by decide) (t := (.object "com/example/runpulse/runpulse/RunState$Event")) (t' := .long) (by decide) (by decide)))
  have F105_running_a := F103_running_a.other W104 (Or.inr (slot_ne (Or.inr (hw _ (List.mem_of_getElem? (i := 61) rfl))) (Or.inr (hw _ (List.mem_of_getElem? (i := 57) rfl))) (by decide) (t := (.object "java/lang/Long")) (t' := .long) (by decide) (by decide)))
  have F105_alive_a := F103_alive_a.other W104 (Or.inr (slot_ne (Or.inr (hw _ (List.mem_of_getElem? (i := 63) rfl))) (Or.inr (hw _ (List.mem_of_getElem? (i := 57) rfl))) (by decide) (t := .boolean) (t' := .long) (by decide) (by decide)))
  have F105_terminal_a := F103_terminal_a.other W104 (Or.inr (slot_ne (Or.inr (hw _ (List.mem_of_getElem? (i := 65) rfl))) (Or.inr (hw _ (List.mem_of_getElem? (i := 57) rfl))) (by decide) (t := (.object "com/example/runpulse/runpulse/RunState$Event")) (t' := .long) (by decide) (by decide)))
  have E105_a := E103_a.wr W104
  have Z105 := Nat.le_trans Z103 (Keep.of_wr W104).1
  have K105 : Keep h0 h104 [a] := K103.wr W104 (Or.inl (by simp))
  have N104 := Fr.snoc X104 N102 ge0_a
  refine Go.by st104 ?_
  show Go _ _ _ _ _ _ _ (T104.setTop (mkF m 14 #[.val (.ref a), .val (.long ea), .second, .val (.long la), .second, .val (.ref st1), .val .null, .val (.int al), .val .null] []))
  refine Go.by (fun _ kont => XS.aloadN X104.here hx rfl (hb hby dS1_14) rfl rfl (XS.aload X104.here hx rfl (hb hby dS1_15) rfl rfl kont)) ?_
  show Go _ _ _ _ _ _ _ (T104.setTop (mkF m 17 #[.val (.ref a), .val (.long ea), .second, .val (.long la), .second, .val (.ref st1), .val .null, .val (.int al), .val .null] [(.ref st1), (.ref a)]))
  obtain ⟨T106, h106, X106, e106, W106, st106⟩ := putF X104 hx hZ hown (host := "") (Or.inl (hw _ (List.mem_of_getElem? (i := 58) rfl))) Via.refl e104 F105_starting_a E105_a (Or.inr ⟨(hw _ (List.mem_of_getElem? (i := 59) rfl)), rfl, hnm⟩) (hw _ (List.mem_of_getElem? (i := 48) rfl)) (ty := (.object "com/example/runpulse/runpulse/RunState$Event")) (by decide) rfl rfl (g := (mkF m 17 #[.val (.ref a), .val (.long ea), .second, .val (.long la), .second, .val (.ref st1), .val .null, .val (.int al), .val .null] [(.ref st1), (.ref a)])) rfl rfl (hb hby dS1_17)
  have Fw106 := F105_starting_a.same W106
  have F107_earliest_a := F105_earliest_a.other W106 (Or.inr (slot_ne (Or.inr (hw _ (List.mem_of_getElem? (i := 55) rfl))) (Or.inr (hw _ (List.mem_of_getElem? (i := 59) rfl))) (by decide) (t := .long) (t' := (.object "com/example/runpulse/runpulse/RunState$Event")) (by decide) (by decide)))
  have F107_latest_a := Fw104.other W106 (Or.inr (slot_ne (Or.inr (hw _ (List.mem_of_getElem? (i := 57) rfl))) (Or.inr (hw _ (List.mem_of_getElem? (i := 59) rfl))) (by decide) (t := .long) (t' := (.object "com/example/runpulse/runpulse/RunState$Event")) (by decide) (by decide)))
  have F107_running_a := F105_running_a.other W106 (Or.inr (slot_ne (Or.inr (hw _ (List.mem_of_getElem? (i := 61) rfl))) (Or.inr (hw _ (List.mem_of_getElem? (i := 59) rfl))) (by decide) (t := (.object "java/lang/Long")) (t' := (.object "com/example/runpulse/runpulse/RunState$Event")) (by decide) (by decide)))
  have F107_alive_a := F105_alive_a.other W106 (Or.inr (slot_ne (Or.inr (hw _ (List.mem_of_getElem? (i := 63) rfl))) (Or.inr (hw _ (List.mem_of_getElem? (i := 59) rfl))) (by decide) (t := .boolean) (t' := (.object "com/example/runpulse/runpulse/RunState$Event")) (by decide) (by decide)))
  have F107_terminal_a := F105_terminal_a.other W106 (Or.inr (slot_ne (Or.inr (hw _ (List.mem_of_getElem? (i := 65) rfl))) (Or.inr (hw _ (List.mem_of_getElem? (i := 59) rfl))) (by decide) (t := (.object "com/example/runpulse/runpulse/RunState$Event")) (t' := (.object "com/example/runpulse/runpulse/RunState$Event")) (by decide) (by decide)))
  have E107_a := E105_a.wr W106
  have Z107 := Nat.le_trans Z105 (Keep.of_wr W106).1
  have K107 : Keep h0 h106 [a] := K105.wr W106 (Or.inl (by simp))
  have N106 := Fr.snoc X106 N104 ge0_a
  refine Go.by st106 ?_
  show Go _ _ _ _ _ _ _ (T106.setTop (mkF m 20 #[.val (.ref a), .val (.long ea), .second, .val (.long la), .second, .val (.ref st1), .val .null, .val (.int al), .val .null] []))
  refine Go.by (fun _ kont => XS.aloadN X106.here hx rfl (hb hby dS1_20) rfl rfl (XS.aload X106.here hx rfl (hb hby dS1_21) rfl rfl kont)) ?_
  show Go _ _ _ _ _ _ _ (T106.setTop (mkF m 23 #[.val (.ref a), .val (.long ea), .second, .val (.long la), .second, .val (.ref st1), .val .null, .val (.int al), .val .null] [.null, (.ref a)]))
  obtain ⟨T108, h108, X108, e108, W108, st108⟩ := putF X106 hx hZ hown (host := "") (Or.inl (hw _ (List.mem_of_getElem? (i := 60) rfl))) Via.refl e106 F107_running_a E107_a (Or.inr ⟨(hw _ (List.mem_of_getElem? (i := 61) rfl)), rfl, hnm⟩) (hw _ (List.mem_of_getElem? (i := 48) rfl)) (ty := (.object "java/lang/Long")) (by decide) rfl rfl (g := (mkF m 23 #[.val (.ref a), .val (.long ea), .second, .val (.long la), .second, .val (.ref st1), .val .null, .val (.int al), .val .null] [.null, (.ref a)])) rfl rfl (hb hby dS1_23)
  have Fw108 := F107_running_a.same W108
  have F109_earliest_a := F107_earliest_a.other W108 (Or.inr (slot_ne (Or.inr (hw _ (List.mem_of_getElem? (i := 55) rfl))) (Or.inr (hw _ (List.mem_of_getElem? (i := 61) rfl))) (by decide) (t := .long) (t' := (.object "java/lang/Long")) (by decide) (by decide)))
  have F109_latest_a := F107_latest_a.other W108 (Or.inr (slot_ne (Or.inr (hw _ (List.mem_of_getElem? (i := 57) rfl))) (Or.inr (hw _ (List.mem_of_getElem? (i := 61) rfl))) (by decide) (t := .long) (t' := (.object "java/lang/Long")) (by decide) (by decide)))
  have F109_starting_a := Fw106.other W108 (Or.inr (slot_ne (Or.inr (hw _ (List.mem_of_getElem? (i := 59) rfl))) (Or.inr (hw _ (List.mem_of_getElem? (i := 61) rfl))) (by decide) (t := (.object "com/example/runpulse/runpulse/RunState$Event")) (t' := (.object "java/lang/Long")) (by decide) (by decide)))
  have F109_alive_a := F107_alive_a.other W108 (Or.inr (slot_ne (Or.inr (hw _ (List.mem_of_getElem? (i := 63) rfl))) (Or.inr (hw _ (List.mem_of_getElem? (i := 61) rfl))) (by decide) (t := .boolean) (t' := (.object "java/lang/Long")) (by decide) (by decide)))
  have F109_terminal_a := F107_terminal_a.other W108 (Or.inr (slot_ne (Or.inr (hw _ (List.mem_of_getElem? (i := 65) rfl))) (Or.inr (hw _ (List.mem_of_getElem? (i := 61) rfl))) (by decide) (t := (.object "com/example/runpulse/runpulse/RunState$Event")) (t' := (.object "java/lang/Long")) (by decide) (by decide)))
  have E109_a := E107_a.wr W108
  have Z109 := Nat.le_trans Z107 (Keep.of_wr W108).1
  have K109 : Keep h0 h108 [a] := K107.wr W108 (Or.inl (by simp))
  have N108 := Fr.snoc X108 N106 ge0_a
  refine Go.by st108 ?_
  show Go _ _ _ _ _ _ _ (T108.setTop (mkF m 26 #[.val (.ref a), .val (.long ea), .second, .val (.long la), .second, .val (.ref st1), .val .null, .val (.int al), .val .null] []))
  refine Go.by (fun _ kont => XS.aloadN X108.here hx rfl (hb hby dS1_26) rfl rfl (XS.iload X108.here hx rfl (hb hby dS1_27) rfl kont)) ?_
  show Go _ _ _ _ _ _ _ (T108.setTop (mkF m 29 #[.val (.ref a), .val (.long ea), .second, .val (.long la), .second, .val (.ref st1), .val .null, .val (.int al), .val .null] [(.int al), (.ref a)]))
  obtain ⟨T110, h110, X110, e110, W110, st110⟩ := putF X108 hx hZ hown (host := "") (Or.inl (hw _ (List.mem_of_getElem? (i := 62) rfl))) Via.refl e108 F109_alive_a E109_a (Or.inr ⟨(hw _ (List.mem_of_getElem? (i := 63) rfl)), rfl, hnm⟩) (hw _ (List.mem_of_getElem? (i := 48) rfl)) (ty := .boolean) (by decide) (own_zn hal) (own_zf hal) (g := (mkF m 29 #[.val (.ref a), .val (.long ea), .second, .val (.long la), .second, .val (.ref st1), .val .null, .val (.int al), .val .null] [(.int al), (.ref a)])) rfl rfl (hb hby dS1_29)
  have Fw110 := F109_alive_a.same W110
  have F111_earliest_a := F109_earliest_a.other W110 (Or.inr (slot_ne (Or.inr (hw _ (List.mem_of_getElem? (i := 55) rfl))) (Or.inr (hw _ (List.mem_of_getElem? (i := 63) rfl))) (by decide) (t := .long) (t' := .boolean) (by decide) (by decide)))
  have F111_latest_a := F109_latest_a.other W110 (Or.inr (slot_ne (Or.inr (hw _ (List.mem_of_getElem? (i := 57) rfl))) (Or.inr (hw _ (List.mem_of_getElem? (i := 63) rfl))) (by decide) (t := .long) (t' := .boolean) (by decide) (by decide)))
  have F111_starting_a := F109_starting_a.other W110 (Or.inr (slot_ne (Or.inr (hw _ (List.mem_of_getElem? (i := 59) rfl))) (Or.inr (hw _ (List.mem_of_getElem? (i := 63) rfl))) (by decide) (t := (.object "com/example/runpulse/runpulse/RunState$Event")) (t' := .boolean) (by decide) (by decide)))
  have F111_running_a := Fw108.other W110 (Or.inr (slot_ne (Or.inr (hw _ (List.mem_of_getElem? (i := 61) rfl))) (Or.inr (hw _ (List.mem_of_getElem? (i := 63) rfl))) (by decide) (t := (.object "java/lang/Long")) (t' := .boolean) (by decide) (by decide)))
  have F111_terminal_a := F109_terminal_a.other W110 (Or.inr (slot_ne (Or.inr (hw _ (List.mem_of_getElem? (i := 65) rfl))) (Or.inr (hw _ (List.mem_of_getElem? (i := 63) rfl))) (by decide) (t := (.object "com/example/runpulse/runpulse/RunState$Event")) (t' := .boolean) (by decide) (by decide)))
  have E111_a := E109_a.wr W110
  have Z111 := Nat.le_trans Z109 (Keep.of_wr W110).1
  have K111 : Keep h0 h110 [a] := K109.wr W110 (Or.inl (by simp))
  have N110 := Fr.snoc X110 N108 ge0_a
  refine Go.by st110 ?_
  show Go _ _ _ _ _ _ _ (T110.setTop (mkF m 32 #[.val (.ref a), .val (.long ea), .second, .val (.long la), .second, .val (.ref st1), .val .null, .val (.int al), .val .null] []))
  refine Go.by (fun _ kont => XS.aloadN X110.here hx rfl (hb hby dS1_32) rfl rfl (XS.aload X110.here hx rfl (hb hby dS1_33) rfl rfl kont)) ?_
  show Go _ _ _ _ _ _ _ (T110.setTop (mkF m 35 #[.val (.ref a), .val (.long ea), .second, .val (.long la), .second, .val (.ref st1), .val .null, .val (.int al), .val .null] [.null, (.ref a)]))
  obtain ⟨T112, h112, X112, e112, W112, st112⟩ := putF X110 hx hZ hown (host := "") (Or.inl (hw _ (List.mem_of_getElem? (i := 64) rfl))) Via.refl e110 F111_terminal_a E111_a (Or.inr ⟨(hw _ (List.mem_of_getElem? (i := 65) rfl)), rfl, hnm⟩) (hw _ (List.mem_of_getElem? (i := 48) rfl)) (ty := (.object "com/example/runpulse/runpulse/RunState$Event")) (by decide) rfl rfl (g := (mkF m 35 #[.val (.ref a), .val (.long ea), .second, .val (.long la), .second, .val (.ref st1), .val .null, .val (.int al), .val .null] [.null, (.ref a)])) rfl rfl (hb hby dS1_35)
  have Fw112 := F111_terminal_a.same W112
  have F113_earliest_a := F111_earliest_a.other W112 (Or.inr (slot_ne (Or.inr (hw _ (List.mem_of_getElem? (i := 55) rfl))) (Or.inr (hw _ (List.mem_of_getElem? (i := 65) rfl))) (by decide) (t := .long) (t' := (.object "com/example/runpulse/runpulse/RunState$Event")) (by decide) (by decide)))
  have F113_latest_a := F111_latest_a.other W112 (Or.inr (slot_ne (Or.inr (hw _ (List.mem_of_getElem? (i := 57) rfl))) (Or.inr (hw _ (List.mem_of_getElem? (i := 65) rfl))) (by decide) (t := .long) (t' := (.object "com/example/runpulse/runpulse/RunState$Event")) (by decide) (by decide)))
  have F113_starting_a := F111_starting_a.other W112 (Or.inr (slot_ne (Or.inr (hw _ (List.mem_of_getElem? (i := 59) rfl))) (Or.inr (hw _ (List.mem_of_getElem? (i := 65) rfl))) (by decide) (t := (.object "com/example/runpulse/runpulse/RunState$Event")) (t' := (.object "com/example/runpulse/runpulse/RunState$Event")) (by decide) (by decide)))
  have F113_running_a := F111_running_a.other W112 (Or.inr (slot_ne (Or.inr (hw _ (List.mem_of_getElem? (i := 61) rfl))) (Or.inr (hw _ (List.mem_of_getElem? (i := 65) rfl))) (by decide) (t := (.object "java/lang/Long")) (t' := (.object "com/example/runpulse/runpulse/RunState$Event")) (by decide) (by decide)))
  have F113_alive_a := Fw110.other W112 (Or.inr (slot_ne (Or.inr (hw _ (List.mem_of_getElem? (i := 63) rfl))) (Or.inr (hw _ (List.mem_of_getElem? (i := 65) rfl))) (by decide) (t := .boolean) (t' := (.object "com/example/runpulse/runpulse/RunState$Event")) (by decide) (by decide)))
  have E113_a := E111_a.wr W112
  have Z113 := Nat.le_trans Z111 (Keep.of_wr W112).1
  have K113 : Keep h0 h112 [a] := K111.wr W112 (Or.inl (by simp))
  have N112 := Fr.snoc X112 N110 ge0_a
  refine Go.by st112 ?_
  show Go _ _ _ _ _ _ _ (T112.setTop (mkF m 38 #[.val (.ref a), .val (.long ea), .second, .val (.long la), .second, .val (.ref st1), .val .null, .val (.int al), .val .null] []))
  refine Go.retV X112 hx hret hlk (hb hby dS1_38) ?_ (by decide) (by decide)
  show QS1 Z a ea la st1 al h0 n0 none T112.heap _
  rw [e112]
  exact ⟨rfl, N112, K113, E113_a, F113_earliest_a, F113_latest_a, F113_starting_a, F113_running_a, F113_alive_a, Fw112⟩

theorem dS2_0 : decode prog_35_method_1_code 0 = .ok (.aload_n 0, 1) := by decide +kernel
theorem dS2_1 : decode prog_35_method_1_code 1 = .ok (.invokespecial 1, 3) := by decide +kernel
theorem dS2_4 : decode prog_35_method_1_code 4 = .ok (.aload_n 0, 1) := by decide +kernel
theorem dS2_5 : decode prog_35_method_1_code 5 = .ok (.lload_n 1, 1) := by decide +kernel
theorem dS2_6 : decode prog_35_method_1_code 6 = .ok (.putfield 7, 3) := by decide +kernel
theorem dS2_9 : decode prog_35_method_1_code 9 = .ok (.aload_n 0, 1) := by decide +kernel
theorem dS2_10 : decode prog_35_method_1_code 10 = .ok (.lload_n 3, 1) := by decide +kernel
theorem dS2_11 : decode prog_35_method_1_code 11 = .ok (.putfield 13, 3) := by decide +kernel
theorem dS2_14 : decode prog_35_method_1_code 14 = .ok (.aload_n 0, 1) := by decide +kernel
theorem dS2_15 : decode prog_35_method_1_code 15 = .ok (.aload 5, 2) := by decide +kernel
theorem dS2_17 : decode prog_35_method_1_code 17 = .ok (.putfield 16, 3) := by decide +kernel
theorem dS2_20 : decode prog_35_method_1_code 20 = .ok (.aload_n 0, 1) := by decide +kernel
theorem dS2_21 : decode prog_35_method_1_code 21 = .ok (.aload 6, 2) := by decide +kernel
theorem dS2_23 : decode prog_35_method_1_code 23 = .ok (.putfield 20, 3) := by decide +kernel
theorem dS2_26 : decode prog_35_method_1_code 26 = .ok (.aload_n 0, 1) := by decide +kernel
theorem dS2_27 : decode prog_35_method_1_code 27 = .ok (.iload 7, 2) := by decide +kernel
theorem dS2_29 : decode prog_35_method_1_code 29 = .ok (.putfield 24, 3) := by decide +kernel
theorem dS2_32 : decode prog_35_method_1_code 32 = .ok (.aload_n 0, 1) := by decide +kernel
theorem dS2_33 : decode prog_35_method_1_code 33 = .ok (.aload 8, 2) := by decide +kernel
theorem dS2_35 : decode prog_35_method_1_code 35 = .ok (.putfield 28, 3) := by decide +kernel
theorem dS2_38 : decode prog_35_method_1_code 38 = .ok (.return_, 1) := by decide +kernel
theorem pdS2_0 : parseMethodDescriptor "()V" = some ⟨[], none⟩ := by decide +kernel
theorem pnS2 : plainName "com/example/runpulse/runpulse/RunState" = true := by first | (simp [plainName, overriddenIn]; done) | decide +kernel
theorem efS2 (m : MethodId) (a : Addr) (ea : Int64) (la : Int64) (rn1 : Addr) (al : Int32) : entryFrame m #[(.ref a), (.long ea), (.long la), .null, (.ref rn1), (.int al), .null] 9 = mkF m 0 #[.val (.ref a), .val (.long ea), .second, .val (.long la), .second, .val .null, .val (.ref rn1), .val (.int al), .val .null] [] := by first | (simp [entryFrame, mkF, argsToLocals, Value.category]; done) | rfl
def QS2 (Z : State) (a : Addr) (ea : Int64) (la : Int64) (rn1 : Addr) (al : Int32) (h0 : Heap) (n0 : Nat) (v : Option Value) (h : Heap) (L : List Loc) : Prop := (v = none ∧ Fr n0 L ∧ Keep h0 h [a] ∧ Exa Z h a "com/example/runpulse/runpulse/RunState" ∧ Fld Z h a "com/example/runpulse/runpulse/RunState" "earliest" "J" (.long ea) ∧ Fld Z h a "com/example/runpulse/runpulse/RunState" "latest" "J" (.long la) ∧ Fld Z h a "com/example/runpulse/runpulse/RunState" "starting" "Lcom/example/runpulse/runpulse/RunState$Event;" .null ∧ Fld Z h a "com/example/runpulse/runpulse/RunState" "running" "Ljava/lang/Long;" (.ref rn1) ∧ Fld Z h a "com/example/runpulse/runpulse/RunState" "alive" "Z" (.int al) ∧ Fld Z h a "com/example/runpulse/runpulse/RunState" "terminal" "Lcom/example/runpulse/runpulse/RunState$Event;" .null)
set_option maxRecDepth 65536 in
set_option maxHeartbeats 40000000 in
theorem rmS2 (l : Launch) (Z : State) (a0 : Array Value) (hw : ∀ d ∈ tables_1, d.before a0 Z = true) (ws : List Jvm.Cond) (a : Addr) (ea : Int64) (la : Int64) (rn1 : Addr) (al : Int32) (h0 : Heap) (n0 : Nat) (Z0 : n0 ≤ h0.size) (E0_a : Exa Z h0 a "com/example/runpulse/runpulse/RunState") (F0_a_earliest : Fld Z h0 a "com/example/runpulse/runpulse/RunState" "earliest" "J" (.long (0 : Int64))) (F0_a_latest : Fld Z h0 a "com/example/runpulse/runpulse/RunState" "latest" "J" (.long (0 : Int64))) (F0_a_starting : Fld Z h0 a "com/example/runpulse/runpulse/RunState" "starting" "Lcom/example/runpulse/runpulse/RunState$Event;" .null) (F0_a_running : Fld Z h0 a "com/example/runpulse/runpulse/RunState" "running" "Ljava/lang/Long;" .null) (F0_a_alive : Fld Z h0 a "com/example/runpulse/runpulse/RunState" "alive" "Z" (.int (0 : Int32))) (F0_a_terminal : Fld Z h0 a "com/example/runpulse/runpulse/RunState" "terminal" "Lcom/example/runpulse/runpulse/RunState$Event;" .null) (ge0_a : n0 ≤ a) (hal : al = (0 : Int32) ∨ al = (1 : Int32)) :
    MetFree l (⟨"com/example/runpulse/runpulse/RunState", "<init>", "(JJLcom/example/runpulse/runpulse/RunState$Event;Ljava/lang/Long;ZLcom/example/runpulse/runpulse/RunState$Event;)V"⟩ : MethodName) (head1 (Jvm.Cond.code (⟨"com/example/runpulse/runpulse/RunState", "<init>", "(JJLcom/example/runpulse/runpulse/RunState$Event;Ljava/lang/Long;ZLcom/example/runpulse/runpulse/RunState$Event;)V"⟩ : MethodName) prog_35_method_1_code 9 none :: ws) ({ frames := 2, cells := 0, slots := 0, locals := 24 } : Room)) (fun aa_ U_ => aa_ = #[(.ref a), (.long ea), (.long la), .null, (.ref rn1), (.int al), .null] ∧ Z.Warmed39 U_.vm ∧ U_.heap = h0) (fun _ _ _ _ _ => True) (fun _ U_ o_ V_ => ∃ v_ L_, o_ = .returned v_ ∧ QS2 Z a ea la rn1 al h0 n0 v_ V_.heap L_ ∧ FrameEnd U_ o_ V_ L_ ({ frames := 2, cells := 0, slots := 0, locals := 24 } : Room).cells ({ frames := 2, cells := 0, slots := 0, locals := 24 } : Room).slots) := by
  refine MetFree.of_bodySF (plainFor_of_name pnS2) hisR ?_
  intro p e s m args below meth c s₁ Bd hml0 hP hK
  obtain ⟨rfl, hZ, hh⟩ := hP
  have hx := Bd.exec
  have hby := Bd.bytes
  have hml : c.maxLocals = 9 := hml0
  have hown : s.vm.findClass "com/example/runpulse/runpulse/RunState" = some m.cls := findClass_of_methodNamed Bd.named
  have hnm := (name_of_methodNamed Bd.named Bd.method).1
  have hlk : meth.locks = false := BodyLoose.notSynchronized Bd
  have hret : meth.sig.returnType = none := Bd.returns
  have X0 : Stand p l e ({ frames := 2, cells := 0, slots := 0, locals := 24 } : Room) s m #[(.ref a), (.long ea), (.long la), .null, (.ref rn1), (.int al), .null] below meth c s₁ [] 0 0 := Stand.of_body Bd
  have e0 : s₁.heap = h0 := by rw [← hh, Bd.state]; rfl
  have N0 := Fr.nil n0
  show Go p e below s ({ frames := 2, cells := 0, slots := 0, locals := 24 } : Room).cells ({ frames := 2, cells := 0, slots := 0, locals := 24 } : Room).slots (QS2 Z a ea la rn1 al h0 n0) (s₁.setTop (entryFrame m #[(.ref a), (.long ea), (.long la), .null, (.ref rn1), (.int al), .null] 9))
  rw [efS2]
  refine Go.by (fun _ kont => XS.aloadN X0.here hx rfl (hb hby dS2_0) rfl rfl kont) ?_
  show Go _ _ _ _ _ _ _ (s₁.setTop (mkF m 1 #[.val (.ref a), .val (.long ea), .second, .val (.long la), .second, .val .null, .val (.ref rn1), .val (.int al), .val .null] [(.ref a)]))
  obtain ⟨_, _, ⟨T101, L101, k101, n101⟩, -, X101, ⟨Lc101, hQ101, l101, y101, z101⟩, st101⟩ := X0.specialBack hx (y := (⟨"java/lang/Record", "<init>", "()V"⟩ : MethodName)) rfl hown (mvT hZ (hw _ (List.mem_of_getElem? (i := 53) rfl))) (mvT hZ (hw _ (List.mem_of_getElem? (i := 13) rfl))) (mvT hZ (hw _ (List.mem_of_getElem? (i := 16) rfl))) (by decide) (backOf (W := 0) (rmR l Z a0 hw [] a h0 n0 Z0 ) hZ (hw _ (List.mem_of_getElem? (i := 16) rfl)) (hw _ (List.mem_of_getElem? (i := 15) rfl)) (by decide) (by decide)) (g := (mkF m 1 #[.val (.ref a), .val (.long ea), .second, .val (.long la), .second, .val .null, .val (.ref rn1), .val (.int al), .val .null] [(.ref a)])) rfl (by rw [hml]; rfl) (Steps.refl _) (a := a) (argsL := []) (rest := []) (lenOf pdS2_0 rfl) rfl (by show 2 * 0 + _ ≤ _; exact Nat.le_of_eq rfl) (hb hby dS2_1) (fun _ _ => ⟨rfl, e0, (by decide : 0 + 0 ≤ _), (by decide : 0 + 0 ≤ _)⟩)
  dsimp only [Pt.U, Pt.locs, Pt.cells, Pt.slots] at X101 l101 y101 z101 st101 hQ101
  subst l101 y101 z101
  obtain ⟨rfl, N101q, eh101⟩ := hQ101
  have N101 := Fr.app N0 N101q
  refine Go.tr st101 ?_
  show Go _ _ _ _ _ _ _ (T101.setTop (mkF m 4 #[.val (.ref a), .val (.long ea), .second, .val (.long la), .second, .val .null, .val (.ref rn1), .val (.int al), .val .null] []))
  refine Go.by (fun _ kont => XS.aloadN X101.here hx rfl (hb hby dS2_4) rfl rfl (XS.lloadN X101.here hx rfl (hb hby dS2_5) rfl kont)) ?_
  show Go _ _ _ _ _ _ _ (T101.setTop (mkF m 6 #[.val (.ref a), .val (.long ea), .second, .val (.long la), .second, .val .null, .val (.ref rn1), .val (.int al), .val .null] [(.long ea), (.ref a)]))
  obtain ⟨T102, h102, X102, e102, W102, st102⟩ := putF X101 hx hZ hown (host := "") (Or.inl (hw _ (List.mem_of_getElem? (i := 54) rfl))) Via.refl eh101 F0_a_earliest E0_a (Or.inr ⟨(hw _ (List.mem_of_getElem? (i := 55) rfl)), rfl, hnm⟩) (hw _ (List.mem_of_getElem? (i := 48) rfl)) (ty := .long) (by decide) rfl rfl (g := (mkF m 6 #[.val (.ref a), .val (.long ea), .second, .val (.long la), .second, .val .null, .val (.ref rn1), .val (.int al), .val .null] [(.long ea), (.ref a)])) rfl rfl (hb hby dS2_6)
  have Fw102 := F0_a_earliest.same W102
  have F103_latest_a := F0_a_latest.other W102 (Or.inr (slot_ne (Or.inr (hw _ (List.mem_of_getElem? (i := 57) rfl))) (Or.inr (hw _ (List.mem_of_getElem? (i := 55) rfl))) (by decide) (t := .long) (t' := .long) (by decide) (by decide)))
  have F103_starting_a := F0_a_starting.other W102 (Or.inr (slot_ne (Or.inr (hw _ (List.mem_of_getElem? (i := 59) rfl))) (Or.inr (hw _ (List.mem_of_getElem? (i := 55) rfl))) (by decide) (t := (.object "com/example/runpulse/runpulse/RunState$Event")) (t' := .long) (by decide) (by decide)))
  have F103_running_a := F0_a_running.other W102 (Or.inr (slot_ne (Or.inr (hw _ (List.mem_of_getElem? (i := 61) rfl))) (Or.inr (hw _ (List.mem_of_getElem? (i := 55) rfl))) (by decide) (t := (.object "java/lang/Long")) (t' := .long) (by decide) (by decide)))
  have F103_alive_a := F0_a_alive.other W102 (Or.inr (slot_ne (Or.inr (hw _ (List.mem_of_getElem? (i := 63) rfl))) (Or.inr (hw _ (List.mem_of_getElem? (i := 55) rfl))) (by decide) (t := .boolean) (t' := .long) (by decide) (by decide)))
  have F103_terminal_a := F0_a_terminal.other W102 (Or.inr (slot_ne (Or.inr (hw _ (List.mem_of_getElem? (i := 65) rfl))) (Or.inr (hw _ (List.mem_of_getElem? (i := 55) rfl))) (by decide) (t := (.object "com/example/runpulse/runpulse/RunState$Event")) (t' := .long) (by decide) (by decide)))
  have E103_a := E0_a.wr W102
  have Z103 := Nat.le_trans Z0 (Keep.of_wr W102).1
  have K103 : Keep h0 h102 [a] := (Keep.refl h0 [a]).wr W102 (Or.inl (by simp))
  have N102 := Fr.snoc X102 N101 ge0_a
  refine Go.by st102 ?_
  show Go _ _ _ _ _ _ _ (T102.setTop (mkF m 9 #[.val (.ref a), .val (.long ea), .second, .val (.long la), .second, .val .null, .val (.ref rn1), .val (.int al), .val .null] []))
  refine Go.by (fun _ kont => XS.aloadN X102.here hx rfl (hb hby dS2_9) rfl rfl (XS.lloadN X102.here hx rfl (hb hby dS2_10) rfl kont)) ?_
  show Go _ _ _ _ _ _ _ (T102.setTop (mkF m 11 #[.val (.ref a), .val (.long ea), .second, .val (.long la), .second, .val .null, .val (.ref rn1), .val (.int al), .val .null] [(.long la), (.ref a)]))
  obtain ⟨T104, h104, X104, e104, W104, st104⟩ := putF X102 hx hZ hown (host := "") (Or.inl (hw _ (List.mem_of_getElem? (i := 56) rfl))) Via.refl e102 F103_latest_a E103_a (Or.inr ⟨(hw _ (List.mem_of_getElem? (i := 57) rfl)), rfl, hnm⟩) (hw _ (List.mem_of_getElem? (i := 48) rfl)) (ty := .long) (by decide) rfl rfl (g := (mkF m 11 #[.val (.ref a), .val (.long ea), .second, .val (.long la), .second, .val .null, .val (.ref rn1), .val (.int al), .val .null] [(.long la), (.ref a)])) rfl rfl (hb hby dS2_11)
  have Fw104 := F103_latest_a.same W104
  have F105_earliest_a := Fw102.other W104 (Or.inr (slot_ne (Or.inr (hw _ (List.mem_of_getElem? (i := 55) rfl))) (Or.inr (hw _ (List.mem_of_getElem? (i := 57) rfl))) (by decide) (t := .long) (t' := .long) (by decide) (by decide)))
  have F105_starting_a := F103_starting_a.other W104 (Or.inr (slot_ne (Or.inr (hw _ (List.mem_of_getElem? (i := 59) rfl))) (Or.inr (hw _ (List.mem_of_getElem? (i := 57) rfl))) (by decide) (t := (.object "com/example/runpulse/runpulse/RunState$Event")) (t' := .long) (by decide) (by decide)))
  have F105_running_a := F103_running_a.other W104 (Or.inr (slot_ne (Or.inr (hw _ (List.mem_of_getElem? (i := 61) rfl))) (Or.inr (hw _ (List.mem_of_getElem? (i := 57) rfl))) (by decide) (t := (.object "java/lang/Long")) (t' := .long) (by decide) (by decide)))
  have F105_alive_a := F103_alive_a.other W104 (Or.inr (slot_ne (Or.inr (hw _ (List.mem_of_getElem? (i := 63) rfl))) (Or.inr (hw _ (List.mem_of_getElem? (i := 57) rfl))) (by decide) (t := .boolean) (t' := .long) (by decide) (by decide)))
  have F105_terminal_a := F103_terminal_a.other W104 (Or.inr (slot_ne (Or.inr (hw _ (List.mem_of_getElem? (i := 65) rfl))) (Or.inr (hw _ (List.mem_of_getElem? (i := 57) rfl))) (by decide) (t := (.object "com/example/runpulse/runpulse/RunState$Event")) (t' := .long) (by decide) (by decide)))
  have E105_a := E103_a.wr W104
  have Z105 := Nat.le_trans Z103 (Keep.of_wr W104).1
  have K105 : Keep h0 h104 [a] := K103.wr W104 (Or.inl (by simp))
  have N104 := Fr.snoc X104 N102 ge0_a
  refine Go.by st104 ?_
  show Go _ _ _ _ _ _ _ (T104.setTop (mkF m 14 #[.val (.ref a), .val (.long ea), .second, .val (.long la), .second, .val .null, .val (.ref rn1), .val (.int al), .val .null] []))
  refine Go.by (fun _ kont => XS.aloadN X104.here hx rfl (hb hby dS2_14) rfl rfl (XS.aload X104.here hx rfl (hb hby dS2_15) rfl rfl kont)) ?_
  show Go _ _ _ _ _ _ _ (T104.setTop (mkF m 17 #[.val (.ref a), .val (.long ea), .second, .val (.long la), .second, .val .null, .val (.ref rn1), .val (.int al), .val .null] [.null, (.ref a)]))
  obtain ⟨T106, h106, X106, e106, W106, st106⟩ := putF X104 hx hZ hown (host := "") (Or.inl (hw _ (List.mem_of_getElem? (i := 58) rfl))) Via.refl e104 F105_starting_a E105_a (Or.inr ⟨(hw _ (List.mem_of_getElem? (i := 59) rfl)), rfl, hnm⟩) (hw _ (List.mem_of_getElem? (i := 48) rfl)) (ty := (.object "com/example/runpulse/runpulse/RunState$Event")) (by decide) rfl rfl (g := (mkF m 17 #[.val (.ref a), .val (.long ea), .second, .val (.long la), .second, .val .null, .val (.ref rn1), .val (.int al), .val .null] [.null, (.ref a)])) rfl rfl (hb hby dS2_17)
  have Fw106 := F105_starting_a.same W106
  have F107_earliest_a := F105_earliest_a.other W106 (Or.inr (slot_ne (Or.inr (hw _ (List.mem_of_getElem? (i := 55) rfl))) (Or.inr (hw _ (List.mem_of_getElem? (i := 59) rfl))) (by decide) (t := .long) (t' := (.object "com/example/runpulse/runpulse/RunState$Event")) (by decide) (by decide)))
  have F107_latest_a := Fw104.other W106 (Or.inr (slot_ne (Or.inr (hw _ (List.mem_of_getElem? (i := 57) rfl))) (Or.inr (hw _ (List.mem_of_getElem? (i := 59) rfl))) (by decide) (t := .long) (t' := (.object "com/example/runpulse/runpulse/RunState$Event")) (by decide) (by decide)))
  have F107_running_a := F105_running_a.other W106 (Or.inr (slot_ne (Or.inr (hw _ (List.mem_of_getElem? (i := 61) rfl))) (Or.inr (hw _ (List.mem_of_getElem? (i := 59) rfl))) (by decide) (t := (.object "java/lang/Long")) (t' := (.object "com/example/runpulse/runpulse/RunState$Event")) (by decide) (by decide)))
  have F107_alive_a := F105_alive_a.other W106 (Or.inr (slot_ne (Or.inr (hw _ (List.mem_of_getElem? (i := 63) rfl))) (Or.inr (hw _ (List.mem_of_getElem? (i := 59) rfl))) (by decide) (t := .boolean) (t' := (.object "com/example/runpulse/runpulse/RunState$Event")) (by decide) (by decide)))
  have F107_terminal_a := F105_terminal_a.other W106 (Or.inr (slot_ne (Or.inr (hw _ (List.mem_of_getElem? (i := 65) rfl))) (Or.inr (hw _ (List.mem_of_getElem? (i := 59) rfl))) (by decide) (t := (.object "com/example/runpulse/runpulse/RunState$Event")) (t' := (.object "com/example/runpulse/runpulse/RunState$Event")) (by decide) (by decide)))
  have E107_a := E105_a.wr W106
  have Z107 := Nat.le_trans Z105 (Keep.of_wr W106).1
  have K107 : Keep h0 h106 [a] := K105.wr W106 (Or.inl (by simp))
  have N106 := Fr.snoc X106 N104 ge0_a
  refine Go.by st106 ?_
  show Go _ _ _ _ _ _ _ (T106.setTop (mkF m 20 #[.val (.ref a), .val (.long ea), .second, .val (.long la), .second, .val .null, .val (.ref rn1), .val (.int al), .val .null] []))
  refine Go.by (fun _ kont => XS.aloadN X106.here hx rfl (hb hby dS2_20) rfl rfl (XS.aload X106.here hx rfl (hb hby dS2_21) rfl rfl kont)) ?_
  show Go _ _ _ _ _ _ _ (T106.setTop (mkF m 23 #[.val (.ref a), .val (.long ea), .second, .val (.long la), .second, .val .null, .val (.ref rn1), .val (.int al), .val .null] [(.ref rn1), (.ref a)]))
  obtain ⟨T108, h108, X108, e108, W108, st108⟩ := putF X106 hx hZ hown (host := "") (Or.inl (hw _ (List.mem_of_getElem? (i := 60) rfl))) Via.refl e106 F107_running_a E107_a (Or.inr ⟨(hw _ (List.mem_of_getElem? (i := 61) rfl)), rfl, hnm⟩) (hw _ (List.mem_of_getElem? (i := 48) rfl)) (ty := (.object "java/lang/Long")) (by decide) rfl rfl (g := (mkF m 23 #[.val (.ref a), .val (.long ea), .second, .val (.long la), .second, .val .null, .val (.ref rn1), .val (.int al), .val .null] [(.ref rn1), (.ref a)])) rfl rfl (hb hby dS2_23)
  have Fw108 := F107_running_a.same W108
  have F109_earliest_a := F107_earliest_a.other W108 (Or.inr (slot_ne (Or.inr (hw _ (List.mem_of_getElem? (i := 55) rfl))) (Or.inr (hw _ (List.mem_of_getElem? (i := 61) rfl))) (by decide) (t := .long) (t' := (.object "java/lang/Long")) (by decide) (by decide)))
  have F109_latest_a := F107_latest_a.other W108 (Or.inr (slot_ne (Or.inr (hw _ (List.mem_of_getElem? (i := 57) rfl))) (Or.inr (hw _ (List.mem_of_getElem? (i := 61) rfl))) (by decide) (t := .long) (t' := (.object "java/lang/Long")) (by decide) (by decide)))
  have F109_starting_a := Fw106.other W108 (Or.inr (slot_ne (Or.inr (hw _ (List.mem_of_getElem? (i := 59) rfl))) (Or.inr (hw _ (List.mem_of_getElem? (i := 61) rfl))) (by decide) (t := (.object "com/example/runpulse/runpulse/RunState$Event")) (t' := (.object "java/lang/Long")) (by decide) (by decide)))
  have F109_alive_a := F107_alive_a.other W108 (Or.inr (slot_ne (Or.inr (hw _ (List.mem_of_getElem? (i := 63) rfl))) (Or.inr (hw _ (List.mem_of_getElem? (i := 61) rfl))) (by decide) (t := .boolean) (t' := (.object "java/lang/Long")) (by decide) (by decide)))
  have F109_terminal_a := F107_terminal_a.other W108 (Or.inr (slot_ne (Or.inr (hw _ (List.mem_of_getElem? (i := 65) rfl))) (Or.inr (hw _ (List.mem_of_getElem? (i := 61) rfl))) (by decide) (t := (.object "com/example/runpulse/runpulse/RunState$Event")) (t' := (.object "java/lang/Long")) (by decide) (by decide)))
  have E109_a := E107_a.wr W108
  have Z109 := Nat.le_trans Z107 (Keep.of_wr W108).1
  have K109 : Keep h0 h108 [a] := K107.wr W108 (Or.inl (by simp))
  have N108 := Fr.snoc X108 N106 ge0_a
  refine Go.by st108 ?_
  show Go _ _ _ _ _ _ _ (T108.setTop (mkF m 26 #[.val (.ref a), .val (.long ea), .second, .val (.long la), .second, .val .null, .val (.ref rn1), .val (.int al), .val .null] []))
  refine Go.by (fun _ kont => XS.aloadN X108.here hx rfl (hb hby dS2_26) rfl rfl (XS.iload X108.here hx rfl (hb hby dS2_27) rfl kont)) ?_
  show Go _ _ _ _ _ _ _ (T108.setTop (mkF m 29 #[.val (.ref a), .val (.long ea), .second, .val (.long la), .second, .val .null, .val (.ref rn1), .val (.int al), .val .null] [(.int al), (.ref a)]))
  obtain ⟨T110, h110, X110, e110, W110, st110⟩ := putF X108 hx hZ hown (host := "") (Or.inl (hw _ (List.mem_of_getElem? (i := 62) rfl))) Via.refl e108 F109_alive_a E109_a (Or.inr ⟨(hw _ (List.mem_of_getElem? (i := 63) rfl)), rfl, hnm⟩) (hw _ (List.mem_of_getElem? (i := 48) rfl)) (ty := .boolean) (by decide) (own_zn hal) (own_zf hal) (g := (mkF m 29 #[.val (.ref a), .val (.long ea), .second, .val (.long la), .second, .val .null, .val (.ref rn1), .val (.int al), .val .null] [(.int al), (.ref a)])) rfl rfl (hb hby dS2_29)
  have Fw110 := F109_alive_a.same W110
  have F111_earliest_a := F109_earliest_a.other W110 (Or.inr (slot_ne (Or.inr (hw _ (List.mem_of_getElem? (i := 55) rfl))) (Or.inr (hw _ (List.mem_of_getElem? (i := 63) rfl))) (by decide) (t := .long) (t' := .boolean) (by decide) (by decide)))
  have F111_latest_a := F109_latest_a.other W110 (Or.inr (slot_ne (Or.inr (hw _ (List.mem_of_getElem? (i := 57) rfl))) (Or.inr (hw _ (List.mem_of_getElem? (i := 63) rfl))) (by decide) (t := .long) (t' := .boolean) (by decide) (by decide)))
  have F111_starting_a := F109_starting_a.other W110 (Or.inr (slot_ne (Or.inr (hw _ (List.mem_of_getElem? (i := 59) rfl))) (Or.inr (hw _ (List.mem_of_getElem? (i := 63) rfl))) (by decide) (t := (.object "com/example/runpulse/runpulse/RunState$Event")) (t' := .boolean) (by decide) (by decide)))
  have F111_running_a := Fw108.other W110 (Or.inr (slot_ne (Or.inr (hw _ (List.mem_of_getElem? (i := 61) rfl))) (Or.inr (hw _ (List.mem_of_getElem? (i := 63) rfl))) (by decide) (t := (.object "java/lang/Long")) (t' := .boolean) (by decide) (by decide)))
  have F111_terminal_a := F109_terminal_a.other W110 (Or.inr (slot_ne (Or.inr (hw _ (List.mem_of_getElem? (i := 65) rfl))) (Or.inr (hw _ (List.mem_of_getElem? (i := 63) rfl))) (by decide) (t := (.object "com/example/runpulse/runpulse/RunState$Event")) (t' := .boolean) (by decide) (by decide)))
  have E111_a := E109_a.wr W110
  have Z111 := Nat.le_trans Z109 (Keep.of_wr W110).1
  have K111 : Keep h0 h110 [a] := K109.wr W110 (Or.inl (by simp))
  have N110 := Fr.snoc X110 N108 ge0_a
  refine Go.by st110 ?_
  show Go _ _ _ _ _ _ _ (T110.setTop (mkF m 32 #[.val (.ref a), .val (.long ea), .second, .val (.long la), .second, .val .null, .val (.ref rn1), .val (.int al), .val .null] []))
  refine Go.by (fun _ kont => XS.aloadN X110.here hx rfl (hb hby dS2_32) rfl rfl (XS.aload X110.here hx rfl (hb hby dS2_33) rfl rfl kont)) ?_
  show Go _ _ _ _ _ _ _ (T110.setTop (mkF m 35 #[.val (.ref a), .val (.long ea), .second, .val (.long la), .second, .val .null, .val (.ref rn1), .val (.int al), .val .null] [.null, (.ref a)]))
  obtain ⟨T112, h112, X112, e112, W112, st112⟩ := putF X110 hx hZ hown (host := "") (Or.inl (hw _ (List.mem_of_getElem? (i := 64) rfl))) Via.refl e110 F111_terminal_a E111_a (Or.inr ⟨(hw _ (List.mem_of_getElem? (i := 65) rfl)), rfl, hnm⟩) (hw _ (List.mem_of_getElem? (i := 48) rfl)) (ty := (.object "com/example/runpulse/runpulse/RunState$Event")) (by decide) rfl rfl (g := (mkF m 35 #[.val (.ref a), .val (.long ea), .second, .val (.long la), .second, .val .null, .val (.ref rn1), .val (.int al), .val .null] [.null, (.ref a)])) rfl rfl (hb hby dS2_35)
  have Fw112 := F111_terminal_a.same W112
  have F113_earliest_a := F111_earliest_a.other W112 (Or.inr (slot_ne (Or.inr (hw _ (List.mem_of_getElem? (i := 55) rfl))) (Or.inr (hw _ (List.mem_of_getElem? (i := 65) rfl))) (by decide) (t := .long) (t' := (.object "com/example/runpulse/runpulse/RunState$Event")) (by decide) (by decide)))
  have F113_latest_a := F111_latest_a.other W112 (Or.inr (slot_ne (Or.inr (hw _ (List.mem_of_getElem? (i := 57) rfl))) (Or.inr (hw _ (List.mem_of_getElem? (i := 65) rfl))) (by decide) (t := .long) (t' := (.object "com/example/runpulse/runpulse/RunState$Event")) (by decide) (by decide)))
  have F113_starting_a := F111_starting_a.other W112 (Or.inr (slot_ne (Or.inr (hw _ (List.mem_of_getElem? (i := 59) rfl))) (Or.inr (hw _ (List.mem_of_getElem? (i := 65) rfl))) (by decide) (t := (.object "com/example/runpulse/runpulse/RunState$Event")) (t' := (.object "com/example/runpulse/runpulse/RunState$Event")) (by decide) (by decide)))
  have F113_running_a := F111_running_a.other W112 (Or.inr (slot_ne (Or.inr (hw _ (List.mem_of_getElem? (i := 61) rfl))) (Or.inr (hw _ (List.mem_of_getElem? (i := 65) rfl))) (by decide) (t := (.object "java/lang/Long")) (t' := (.object "com/example/runpulse/runpulse/RunState$Event")) (by decide) (by decide)))
  have F113_alive_a := Fw110.other W112 (Or.inr (slot_ne (Or.inr (hw _ (List.mem_of_getElem? (i := 63) rfl))) (Or.inr (hw _ (List.mem_of_getElem? (i := 65) rfl))) (by decide) (t := .boolean) (t' := (.object "com/example/runpulse/runpulse/RunState$Event")) (by decide) (by decide)))
  have E113_a := E111_a.wr W112
  have Z113 := Nat.le_trans Z111 (Keep.of_wr W112).1
  have K113 : Keep h0 h112 [a] := K111.wr W112 (Or.inl (by simp))
  have N112 := Fr.snoc X112 N110 ge0_a
  refine Go.by st112 ?_
  show Go _ _ _ _ _ _ _ (T112.setTop (mkF m 38 #[.val (.ref a), .val (.long ea), .second, .val (.long la), .second, .val .null, .val (.ref rn1), .val (.int al), .val .null] []))
  refine Go.retV X112 hx hret hlk (hb hby dS2_38) ?_ (by decide) (by decide)
  show QS2 Z a ea la rn1 al h0 n0 none T112.heap _
  rw [e112]
  exact ⟨rfl, N112, K113, E113_a, F113_earliest_a, F113_latest_a, F113_starting_a, F113_running_a, F113_alive_a, Fw112⟩

theorem dS3_0 : decode prog_35_method_1_code 0 = .ok (.aload_n 0, 1) := by decide +kernel
theorem dS3_1 : decode prog_35_method_1_code 1 = .ok (.invokespecial 1, 3) := by decide +kernel
theorem dS3_4 : decode prog_35_method_1_code 4 = .ok (.aload_n 0, 1) := by decide +kernel
theorem dS3_5 : decode prog_35_method_1_code 5 = .ok (.lload_n 1, 1) := by decide +kernel
theorem dS3_6 : decode prog_35_method_1_code 6 = .ok (.putfield 7, 3) := by decide +kernel
theorem dS3_9 : decode prog_35_method_1_code 9 = .ok (.aload_n 0, 1) := by decide +kernel
theorem dS3_10 : decode prog_35_method_1_code 10 = .ok (.lload_n 3, 1) := by decide +kernel
theorem dS3_11 : decode prog_35_method_1_code 11 = .ok (.putfield 13, 3) := by decide +kernel
theorem dS3_14 : decode prog_35_method_1_code 14 = .ok (.aload_n 0, 1) := by decide +kernel
theorem dS3_15 : decode prog_35_method_1_code 15 = .ok (.aload 5, 2) := by decide +kernel
theorem dS3_17 : decode prog_35_method_1_code 17 = .ok (.putfield 16, 3) := by decide +kernel
theorem dS3_20 : decode prog_35_method_1_code 20 = .ok (.aload_n 0, 1) := by decide +kernel
theorem dS3_21 : decode prog_35_method_1_code 21 = .ok (.aload 6, 2) := by decide +kernel
theorem dS3_23 : decode prog_35_method_1_code 23 = .ok (.putfield 20, 3) := by decide +kernel
theorem dS3_26 : decode prog_35_method_1_code 26 = .ok (.aload_n 0, 1) := by decide +kernel
theorem dS3_27 : decode prog_35_method_1_code 27 = .ok (.iload 7, 2) := by decide +kernel
theorem dS3_29 : decode prog_35_method_1_code 29 = .ok (.putfield 24, 3) := by decide +kernel
theorem dS3_32 : decode prog_35_method_1_code 32 = .ok (.aload_n 0, 1) := by decide +kernel
theorem dS3_33 : decode prog_35_method_1_code 33 = .ok (.aload 8, 2) := by decide +kernel
theorem dS3_35 : decode prog_35_method_1_code 35 = .ok (.putfield 28, 3) := by decide +kernel
theorem dS3_38 : decode prog_35_method_1_code 38 = .ok (.return_, 1) := by decide +kernel
theorem pdS3_0 : parseMethodDescriptor "()V" = some ⟨[], none⟩ := by decide +kernel
theorem pnS3 : plainName "com/example/runpulse/runpulse/RunState" = true := by first | (simp [plainName, overriddenIn]; done) | decide +kernel
theorem efS3 (m : MethodId) (a : Addr) (ea : Int64) (la : Int64) (st1 : Addr) (rn1 : Addr) (al : Int32) : entryFrame m #[(.ref a), (.long ea), (.long la), (.ref st1), (.ref rn1), (.int al), .null] 9 = mkF m 0 #[.val (.ref a), .val (.long ea), .second, .val (.long la), .second, .val (.ref st1), .val (.ref rn1), .val (.int al), .val .null] [] := by first | (simp [entryFrame, mkF, argsToLocals, Value.category]; done) | rfl
def QS3 (Z : State) (a : Addr) (ea : Int64) (la : Int64) (st1 : Addr) (rn1 : Addr) (al : Int32) (h0 : Heap) (n0 : Nat) (v : Option Value) (h : Heap) (L : List Loc) : Prop := (v = none ∧ Fr n0 L ∧ Keep h0 h [a] ∧ Exa Z h a "com/example/runpulse/runpulse/RunState" ∧ Fld Z h a "com/example/runpulse/runpulse/RunState" "earliest" "J" (.long ea) ∧ Fld Z h a "com/example/runpulse/runpulse/RunState" "latest" "J" (.long la) ∧ Fld Z h a "com/example/runpulse/runpulse/RunState" "starting" "Lcom/example/runpulse/runpulse/RunState$Event;" (.ref st1) ∧ Fld Z h a "com/example/runpulse/runpulse/RunState" "running" "Ljava/lang/Long;" (.ref rn1) ∧ Fld Z h a "com/example/runpulse/runpulse/RunState" "alive" "Z" (.int al) ∧ Fld Z h a "com/example/runpulse/runpulse/RunState" "terminal" "Lcom/example/runpulse/runpulse/RunState$Event;" .null)
set_option maxRecDepth 65536 in
set_option maxHeartbeats 40000000 in
theorem rmS3 (l : Launch) (Z : State) (a0 : Array Value) (hw : ∀ d ∈ tables_1, d.before a0 Z = true) (ws : List Jvm.Cond) (a : Addr) (ea : Int64) (la : Int64) (st1 : Addr) (rn1 : Addr) (al : Int32) (h0 : Heap) (n0 : Nat) (Z0 : n0 ≤ h0.size) (E0_a : Exa Z h0 a "com/example/runpulse/runpulse/RunState") (F0_a_earliest : Fld Z h0 a "com/example/runpulse/runpulse/RunState" "earliest" "J" (.long (0 : Int64))) (F0_a_latest : Fld Z h0 a "com/example/runpulse/runpulse/RunState" "latest" "J" (.long (0 : Int64))) (F0_a_starting : Fld Z h0 a "com/example/runpulse/runpulse/RunState" "starting" "Lcom/example/runpulse/runpulse/RunState$Event;" .null) (F0_a_running : Fld Z h0 a "com/example/runpulse/runpulse/RunState" "running" "Ljava/lang/Long;" .null) (F0_a_alive : Fld Z h0 a "com/example/runpulse/runpulse/RunState" "alive" "Z" (.int (0 : Int32))) (F0_a_terminal : Fld Z h0 a "com/example/runpulse/runpulse/RunState" "terminal" "Lcom/example/runpulse/runpulse/RunState$Event;" .null) (ge0_a : n0 ≤ a) (hal : al = (0 : Int32) ∨ al = (1 : Int32)) :
    MetFree l (⟨"com/example/runpulse/runpulse/RunState", "<init>", "(JJLcom/example/runpulse/runpulse/RunState$Event;Ljava/lang/Long;ZLcom/example/runpulse/runpulse/RunState$Event;)V"⟩ : MethodName) (head1 (Jvm.Cond.code (⟨"com/example/runpulse/runpulse/RunState", "<init>", "(JJLcom/example/runpulse/runpulse/RunState$Event;Ljava/lang/Long;ZLcom/example/runpulse/runpulse/RunState$Event;)V"⟩ : MethodName) prog_35_method_1_code 9 none :: ws) ({ frames := 2, cells := 0, slots := 0, locals := 24 } : Room)) (fun aa_ U_ => aa_ = #[(.ref a), (.long ea), (.long la), (.ref st1), (.ref rn1), (.int al), .null] ∧ Z.Warmed39 U_.vm ∧ U_.heap = h0) (fun _ _ _ _ _ => True) (fun _ U_ o_ V_ => ∃ v_ L_, o_ = .returned v_ ∧ QS3 Z a ea la st1 rn1 al h0 n0 v_ V_.heap L_ ∧ FrameEnd U_ o_ V_ L_ ({ frames := 2, cells := 0, slots := 0, locals := 24 } : Room).cells ({ frames := 2, cells := 0, slots := 0, locals := 24 } : Room).slots) := by
  refine MetFree.of_bodySF (plainFor_of_name pnS3) hisR ?_
  intro p e s m args below meth c s₁ Bd hml0 hP hK
  obtain ⟨rfl, hZ, hh⟩ := hP
  have hx := Bd.exec
  have hby := Bd.bytes
  have hml : c.maxLocals = 9 := hml0
  have hown : s.vm.findClass "com/example/runpulse/runpulse/RunState" = some m.cls := findClass_of_methodNamed Bd.named
  have hnm := (name_of_methodNamed Bd.named Bd.method).1
  have hlk : meth.locks = false := BodyLoose.notSynchronized Bd
  have hret : meth.sig.returnType = none := Bd.returns
  have X0 : Stand p l e ({ frames := 2, cells := 0, slots := 0, locals := 24 } : Room) s m #[(.ref a), (.long ea), (.long la), (.ref st1), (.ref rn1), (.int al), .null] below meth c s₁ [] 0 0 := Stand.of_body Bd
  have e0 : s₁.heap = h0 := by rw [← hh, Bd.state]; rfl
  have N0 := Fr.nil n0
  show Go p e below s ({ frames := 2, cells := 0, slots := 0, locals := 24 } : Room).cells ({ frames := 2, cells := 0, slots := 0, locals := 24 } : Room).slots (QS3 Z a ea la st1 rn1 al h0 n0) (s₁.setTop (entryFrame m #[(.ref a), (.long ea), (.long la), (.ref st1), (.ref rn1), (.int al), .null] 9))
  rw [efS3]
  refine Go.by (fun _ kont => XS.aloadN X0.here hx rfl (hb hby dS3_0) rfl rfl kont) ?_
  show Go _ _ _ _ _ _ _ (s₁.setTop (mkF m 1 #[.val (.ref a), .val (.long ea), .second, .val (.long la), .second, .val (.ref st1), .val (.ref rn1), .val (.int al), .val .null] [(.ref a)]))
  obtain ⟨_, _, ⟨T101, L101, k101, n101⟩, -, X101, ⟨Lc101, hQ101, l101, y101, z101⟩, st101⟩ := X0.specialBack hx (y := (⟨"java/lang/Record", "<init>", "()V"⟩ : MethodName)) rfl hown (mvT hZ (hw _ (List.mem_of_getElem? (i := 53) rfl))) (mvT hZ (hw _ (List.mem_of_getElem? (i := 13) rfl))) (mvT hZ (hw _ (List.mem_of_getElem? (i := 16) rfl))) (by decide) (backOf (W := 0) (rmR l Z a0 hw [] a h0 n0 Z0 ) hZ (hw _ (List.mem_of_getElem? (i := 16) rfl)) (hw _ (List.mem_of_getElem? (i := 15) rfl)) (by decide) (by decide)) (g := (mkF m 1 #[.val (.ref a), .val (.long ea), .second, .val (.long la), .second, .val (.ref st1), .val (.ref rn1), .val (.int al), .val .null] [(.ref a)])) rfl (by rw [hml]; rfl) (Steps.refl _) (a := a) (argsL := []) (rest := []) (lenOf pdS3_0 rfl) rfl (by show 2 * 0 + _ ≤ _; exact Nat.le_of_eq rfl) (hb hby dS3_1) (fun _ _ => ⟨rfl, e0, (by decide : 0 + 0 ≤ _), (by decide : 0 + 0 ≤ _)⟩)
  dsimp only [Pt.U, Pt.locs, Pt.cells, Pt.slots] at X101 l101 y101 z101 st101 hQ101
  subst l101 y101 z101
  obtain ⟨rfl, N101q, eh101⟩ := hQ101
  have N101 := Fr.app N0 N101q
  refine Go.tr st101 ?_
  show Go _ _ _ _ _ _ _ (T101.setTop (mkF m 4 #[.val (.ref a), .val (.long ea), .second, .val (.long la), .second, .val (.ref st1), .val (.ref rn1), .val (.int al), .val .null] []))
  refine Go.by (fun _ kont => XS.aloadN X101.here hx rfl (hb hby dS3_4) rfl rfl (XS.lloadN X101.here hx rfl (hb hby dS3_5) rfl kont)) ?_
  show Go _ _ _ _ _ _ _ (T101.setTop (mkF m 6 #[.val (.ref a), .val (.long ea), .second, .val (.long la), .second, .val (.ref st1), .val (.ref rn1), .val (.int al), .val .null] [(.long ea), (.ref a)]))
  obtain ⟨T102, h102, X102, e102, W102, st102⟩ := putF X101 hx hZ hown (host := "") (Or.inl (hw _ (List.mem_of_getElem? (i := 54) rfl))) Via.refl eh101 F0_a_earliest E0_a (Or.inr ⟨(hw _ (List.mem_of_getElem? (i := 55) rfl)), rfl, hnm⟩) (hw _ (List.mem_of_getElem? (i := 48) rfl)) (ty := .long) (by decide) rfl rfl (g := (mkF m 6 #[.val (.ref a), .val (.long ea), .second, .val (.long la), .second, .val (.ref st1), .val (.ref rn1), .val (.int al), .val .null] [(.long ea), (.ref a)])) rfl rfl (hb hby dS3_6)
  have Fw102 := F0_a_earliest.same W102
  have F103_latest_a := F0_a_latest.other W102 (Or.inr (slot_ne (Or.inr (hw _ (List.mem_of_getElem? (i := 57) rfl))) (Or.inr (hw _ (List.mem_of_getElem? (i := 55) rfl))) (by decide) (t := .long) (t' := .long) (by decide) (by decide)))
  have F103_starting_a := F0_a_starting.other W102 (Or.inr (slot_ne (Or.inr (hw _ (List.mem_of_getElem? (i := 59) rfl))) (Or.inr (hw _ (List.mem_of_getElem? (i := 55) rfl))) (by decide) (t := (.object "com/example/runpulse/runpulse/RunState$Event")) (t' := .long) (by decide) (by decide)))
  have F103_running_a := F0_a_running.other W102 (Or.inr (slot_ne (Or.inr (hw _ (List.mem_of_getElem? (i := 61) rfl))) (Or.inr (hw _ (List.mem_of_getElem? (i := 55) rfl))) (by decide) (t := (.object "java/lang/Long")) (t' := .long) (by decide) (by decide)))
  have F103_alive_a := F0_a_alive.other W102 (Or.inr (slot_ne (Or.inr (hw _ (List.mem_of_getElem? (i := 63) rfl))) (Or.inr (hw _ (List.mem_of_getElem? (i := 55) rfl))) (by decide) (t := .boolean) (t' := .long) (by decide) (by decide)))
  have F103_terminal_a := F0_a_terminal.other W102 (Or.inr (slot_ne (Or.inr (hw _ (List.mem_of_getElem? (i := 65) rfl))) (Or.inr (hw _ (List.mem_of_getElem? (i := 55) rfl))) (by decide) (t := (.object "com/example/runpulse/runpulse/RunState$Event")) (t' := .long) (by decide) (by decide)))
  have E103_a := E0_a.wr W102
  have Z103 := Nat.le_trans Z0 (Keep.of_wr W102).1
  have K103 : Keep h0 h102 [a] := (Keep.refl h0 [a]).wr W102 (Or.inl (by simp))
  have N102 := Fr.snoc X102 N101 ge0_a
  refine Go.by st102 ?_
  show Go _ _ _ _ _ _ _ (T102.setTop (mkF m 9 #[.val (.ref a), .val (.long ea), .second, .val (.long la), .second, .val (.ref st1), .val (.ref rn1), .val (.int al), .val .null] []))
  refine Go.by (fun _ kont => XS.aloadN X102.here hx rfl (hb hby dS3_9) rfl rfl (XS.lloadN X102.here hx rfl (hb hby dS3_10) rfl kont)) ?_
  show Go _ _ _ _ _ _ _ (T102.setTop (mkF m 11 #[.val (.ref a), .val (.long ea), .second, .val (.long la), .second, .val (.ref st1), .val (.ref rn1), .val (.int al), .val .null] [(.long la), (.ref a)]))
  obtain ⟨T104, h104, X104, e104, W104, st104⟩ := putF X102 hx hZ hown (host := "") (Or.inl (hw _ (List.mem_of_getElem? (i := 56) rfl))) Via.refl e102 F103_latest_a E103_a (Or.inr ⟨(hw _ (List.mem_of_getElem? (i := 57) rfl)), rfl, hnm⟩) (hw _ (List.mem_of_getElem? (i := 48) rfl)) (ty := .long) (by decide) rfl rfl (g := (mkF m 11 #[.val (.ref a), .val (.long ea), .second, .val (.long la), .second, .val (.ref st1), .val (.ref rn1), .val (.int al), .val .null] [(.long la), (.ref a)])) rfl rfl (hb hby dS3_11)
  have Fw104 := F103_latest_a.same W104
  have F105_earliest_a := Fw102.other W104 (Or.inr (slot_ne (Or.inr (hw _ (List.mem_of_getElem? (i := 55) rfl))) (Or.inr (hw _ (List.mem_of_getElem? (i := 57) rfl))) (by decide) (t := .long) (t' := .long) (by decide) (by decide)))
  have F105_starting_a := F103_starting_a.other W104 (Or.inr (slot_ne (Or.inr (hw _ (List.mem_of_getElem? (i := 59) rfl))) (Or.inr (hw _ (List.mem_of_getElem? (i := 57) rfl))) (by decide) (t := (.object "com/example/runpulse/runpulse/RunState$Event")) (t' := .long) (by decide) (by decide)))
  have F105_running_a := F103_running_a.other W104 (Or.inr (slot_ne (Or.inr (hw _ (List.mem_of_getElem? (i := 61) rfl))) (Or.inr (hw _ (List.mem_of_getElem? (i := 57) rfl))) (by decide) (t := (.object "java/lang/Long")) (t' := .long) (by decide) (by decide)))
  have F105_alive_a := F103_alive_a.other W104 (Or.inr (slot_ne (Or.inr (hw _ (List.mem_of_getElem? (i := 63) rfl))) (Or.inr (hw _ (List.mem_of_getElem? (i := 57) rfl))) (by decide) (t := .boolean) (t' := .long) (by decide) (by decide)))
  have F105_terminal_a := F103_terminal_a.other W104 (Or.inr (slot_ne (Or.inr (hw _ (List.mem_of_getElem? (i := 65) rfl))) (Or.inr (hw _ (List.mem_of_getElem? (i := 57) rfl))) (by decide) (t := (.object "com/example/runpulse/runpulse/RunState$Event")) (t' := .long) (by decide) (by decide)))
  have E105_a := E103_a.wr W104
  have Z105 := Nat.le_trans Z103 (Keep.of_wr W104).1
  have K105 : Keep h0 h104 [a] := K103.wr W104 (Or.inl (by simp))
  have N104 := Fr.snoc X104 N102 ge0_a
  refine Go.by st104 ?_
  show Go _ _ _ _ _ _ _ (T104.setTop (mkF m 14 #[.val (.ref a), .val (.long ea), .second, .val (.long la), .second, .val (.ref st1), .val (.ref rn1), .val (.int al), .val .null] []))
  refine Go.by (fun _ kont => XS.aloadN X104.here hx rfl (hb hby dS3_14) rfl rfl (XS.aload X104.here hx rfl (hb hby dS3_15) rfl rfl kont)) ?_
  show Go _ _ _ _ _ _ _ (T104.setTop (mkF m 17 #[.val (.ref a), .val (.long ea), .second, .val (.long la), .second, .val (.ref st1), .val (.ref rn1), .val (.int al), .val .null] [(.ref st1), (.ref a)]))
  obtain ⟨T106, h106, X106, e106, W106, st106⟩ := putF X104 hx hZ hown (host := "") (Or.inl (hw _ (List.mem_of_getElem? (i := 58) rfl))) Via.refl e104 F105_starting_a E105_a (Or.inr ⟨(hw _ (List.mem_of_getElem? (i := 59) rfl)), rfl, hnm⟩) (hw _ (List.mem_of_getElem? (i := 48) rfl)) (ty := (.object "com/example/runpulse/runpulse/RunState$Event")) (by decide) rfl rfl (g := (mkF m 17 #[.val (.ref a), .val (.long ea), .second, .val (.long la), .second, .val (.ref st1), .val (.ref rn1), .val (.int al), .val .null] [(.ref st1), (.ref a)])) rfl rfl (hb hby dS3_17)
  have Fw106 := F105_starting_a.same W106
  have F107_earliest_a := F105_earliest_a.other W106 (Or.inr (slot_ne (Or.inr (hw _ (List.mem_of_getElem? (i := 55) rfl))) (Or.inr (hw _ (List.mem_of_getElem? (i := 59) rfl))) (by decide) (t := .long) (t' := (.object "com/example/runpulse/runpulse/RunState$Event")) (by decide) (by decide)))
  have F107_latest_a := Fw104.other W106 (Or.inr (slot_ne (Or.inr (hw _ (List.mem_of_getElem? (i := 57) rfl))) (Or.inr (hw _ (List.mem_of_getElem? (i := 59) rfl))) (by decide) (t := .long) (t' := (.object "com/example/runpulse/runpulse/RunState$Event")) (by decide) (by decide)))
  have F107_running_a := F105_running_a.other W106 (Or.inr (slot_ne (Or.inr (hw _ (List.mem_of_getElem? (i := 61) rfl))) (Or.inr (hw _ (List.mem_of_getElem? (i := 59) rfl))) (by decide) (t := (.object "java/lang/Long")) (t' := (.object "com/example/runpulse/runpulse/RunState$Event")) (by decide) (by decide)))
  have F107_alive_a := F105_alive_a.other W106 (Or.inr (slot_ne (Or.inr (hw _ (List.mem_of_getElem? (i := 63) rfl))) (Or.inr (hw _ (List.mem_of_getElem? (i := 59) rfl))) (by decide) (t := .boolean) (t' := (.object "com/example/runpulse/runpulse/RunState$Event")) (by decide) (by decide)))
  have F107_terminal_a := F105_terminal_a.other W106 (Or.inr (slot_ne (Or.inr (hw _ (List.mem_of_getElem? (i := 65) rfl))) (Or.inr (hw _ (List.mem_of_getElem? (i := 59) rfl))) (by decide) (t := (.object "com/example/runpulse/runpulse/RunState$Event")) (t' := (.object "com/example/runpulse/runpulse/RunState$Event")) (by decide) (by decide)))
  have E107_a := E105_a.wr W106
  have Z107 := Nat.le_trans Z105 (Keep.of_wr W106).1
  have K107 : Keep h0 h106 [a] := K105.wr W106 (Or.inl (by simp))
  have N106 := Fr.snoc X106 N104 ge0_a
  refine Go.by st106 ?_
  show Go _ _ _ _ _ _ _ (T106.setTop (mkF m 20 #[.val (.ref a), .val (.long ea), .second, .val (.long la), .second, .val (.ref st1), .val (.ref rn1), .val (.int al), .val .null] []))
  refine Go.by (fun _ kont => XS.aloadN X106.here hx rfl (hb hby dS3_20) rfl rfl (XS.aload X106.here hx rfl (hb hby dS3_21) rfl rfl kont)) ?_
  show Go _ _ _ _ _ _ _ (T106.setTop (mkF m 23 #[.val (.ref a), .val (.long ea), .second, .val (.long la), .second, .val (.ref st1), .val (.ref rn1), .val (.int al), .val .null] [(.ref rn1), (.ref a)]))
  obtain ⟨T108, h108, X108, e108, W108, st108⟩ := putF X106 hx hZ hown (host := "") (Or.inl (hw _ (List.mem_of_getElem? (i := 60) rfl))) Via.refl e106 F107_running_a E107_a (Or.inr ⟨(hw _ (List.mem_of_getElem? (i := 61) rfl)), rfl, hnm⟩) (hw _ (List.mem_of_getElem? (i := 48) rfl)) (ty := (.object "java/lang/Long")) (by decide) rfl rfl (g := (mkF m 23 #[.val (.ref a), .val (.long ea), .second, .val (.long la), .second, .val (.ref st1), .val (.ref rn1), .val (.int al), .val .null] [(.ref rn1), (.ref a)])) rfl rfl (hb hby dS3_23)
  have Fw108 := F107_running_a.same W108
  have F109_earliest_a := F107_earliest_a.other W108 (Or.inr (slot_ne (Or.inr (hw _ (List.mem_of_getElem? (i := 55) rfl))) (Or.inr (hw _ (List.mem_of_getElem? (i := 61) rfl))) (by decide) (t := .long) (t' := (.object "java/lang/Long")) (by decide) (by decide)))
  have F109_latest_a := F107_latest_a.other W108 (Or.inr (slot_ne (Or.inr (hw _ (List.mem_of_getElem? (i := 57) rfl))) (Or.inr (hw _ (List.mem_of_getElem? (i := 61) rfl))) (by decide) (t := .long) (t' := (.object "java/lang/Long")) (by decide) (by decide)))
  have F109_starting_a := Fw106.other W108 (Or.inr (slot_ne (Or.inr (hw _ (List.mem_of_getElem? (i := 59) rfl))) (Or.inr (hw _ (List.mem_of_getElem? (i := 61) rfl))) (by decide) (t := (.object "com/example/runpulse/runpulse/RunState$Event")) (t' := (.object "java/lang/Long")) (by decide) (by decide)))
  have F109_alive_a := F107_alive_a.other W108 (Or.inr (slot_ne (Or.inr (hw _ (List.mem_of_getElem? (i := 63) rfl))) (Or.inr (hw _ (List.mem_of_getElem? (i := 61) rfl))) (by decide) (t := .boolean) (t' := (.object "java/lang/Long")) (by decide) (by decide)))
  have F109_terminal_a := F107_terminal_a.other W108 (Or.inr (slot_ne (Or.inr (hw _ (List.mem_of_getElem? (i := 65) rfl))) (Or.inr (hw _ (List.mem_of_getElem? (i := 61) rfl))) (by decide) (t := (.object "com/example/runpulse/runpulse/RunState$Event")) (t' := (.object "java/lang/Long")) (by decide) (by decide)))
  have E109_a := E107_a.wr W108
  have Z109 := Nat.le_trans Z107 (Keep.of_wr W108).1
  have K109 : Keep h0 h108 [a] := K107.wr W108 (Or.inl (by simp))
  have N108 := Fr.snoc X108 N106 ge0_a
  refine Go.by st108 ?_
  show Go _ _ _ _ _ _ _ (T108.setTop (mkF m 26 #[.val (.ref a), .val (.long ea), .second, .val (.long la), .second, .val (.ref st1), .val (.ref rn1), .val (.int al), .val .null] []))
  refine Go.by (fun _ kont => XS.aloadN X108.here hx rfl (hb hby dS3_26) rfl rfl (XS.iload X108.here hx rfl (hb hby dS3_27) rfl kont)) ?_
  show Go _ _ _ _ _ _ _ (T108.setTop (mkF m 29 #[.val (.ref a), .val (.long ea), .second, .val (.long la), .second, .val (.ref st1), .val (.ref rn1), .val (.int al), .val .null] [(.int al), (.ref a)]))
  obtain ⟨T110, h110, X110, e110, W110, st110⟩ := putF X108 hx hZ hown (host := "") (Or.inl (hw _ (List.mem_of_getElem? (i := 62) rfl))) Via.refl e108 F109_alive_a E109_a (Or.inr ⟨(hw _ (List.mem_of_getElem? (i := 63) rfl)), rfl, hnm⟩) (hw _ (List.mem_of_getElem? (i := 48) rfl)) (ty := .boolean) (by decide) (own_zn hal) (own_zf hal) (g := (mkF m 29 #[.val (.ref a), .val (.long ea), .second, .val (.long la), .second, .val (.ref st1), .val (.ref rn1), .val (.int al), .val .null] [(.int al), (.ref a)])) rfl rfl (hb hby dS3_29)
  have Fw110 := F109_alive_a.same W110
  have F111_earliest_a := F109_earliest_a.other W110 (Or.inr (slot_ne (Or.inr (hw _ (List.mem_of_getElem? (i := 55) rfl))) (Or.inr (hw _ (List.mem_of_getElem? (i := 63) rfl))) (by decide) (t := .long) (t' := .boolean) (by decide) (by decide)))
  have F111_latest_a := F109_latest_a.other W110 (Or.inr (slot_ne (Or.inr (hw _ (List.mem_of_getElem? (i := 57) rfl))) (Or.inr (hw _ (List.mem_of_getElem? (i := 63) rfl))) (by decide) (t := .long) (t' := .boolean) (by decide) (by decide)))
  have F111_starting_a := F109_starting_a.other W110 (Or.inr (slot_ne (Or.inr (hw _ (List.mem_of_getElem? (i := 59) rfl))) (Or.inr (hw _ (List.mem_of_getElem? (i := 63) rfl))) (by decide) (t := (.object "com/example/runpulse/runpulse/RunState$Event")) (t' := .boolean) (by decide) (by decide)))
  have F111_running_a := Fw108.other W110 (Or.inr (slot_ne (Or.inr (hw _ (List.mem_of_getElem? (i := 61) rfl))) (Or.inr (hw _ (List.mem_of_getElem? (i := 63) rfl))) (by decide) (t := (.object "java/lang/Long")) (t' := .boolean) (by decide) (by decide)))
  have F111_terminal_a := F109_terminal_a.other W110 (Or.inr (slot_ne (Or.inr (hw _ (List.mem_of_getElem? (i := 65) rfl))) (Or.inr (hw _ (List.mem_of_getElem? (i := 63) rfl))) (by decide) (t := (.object "com/example/runpulse/runpulse/RunState$Event")) (t' := .boolean) (by decide) (by decide)))
  have E111_a := E109_a.wr W110
  have Z111 := Nat.le_trans Z109 (Keep.of_wr W110).1
  have K111 : Keep h0 h110 [a] := K109.wr W110 (Or.inl (by simp))
  have N110 := Fr.snoc X110 N108 ge0_a
  refine Go.by st110 ?_
  show Go _ _ _ _ _ _ _ (T110.setTop (mkF m 32 #[.val (.ref a), .val (.long ea), .second, .val (.long la), .second, .val (.ref st1), .val (.ref rn1), .val (.int al), .val .null] []))
  refine Go.by (fun _ kont => XS.aloadN X110.here hx rfl (hb hby dS3_32) rfl rfl (XS.aload X110.here hx rfl (hb hby dS3_33) rfl rfl kont)) ?_
  show Go _ _ _ _ _ _ _ (T110.setTop (mkF m 35 #[.val (.ref a), .val (.long ea), .second, .val (.long la), .second, .val (.ref st1), .val (.ref rn1), .val (.int al), .val .null] [.null, (.ref a)]))
  obtain ⟨T112, h112, X112, e112, W112, st112⟩ := putF X110 hx hZ hown (host := "") (Or.inl (hw _ (List.mem_of_getElem? (i := 64) rfl))) Via.refl e110 F111_terminal_a E111_a (Or.inr ⟨(hw _ (List.mem_of_getElem? (i := 65) rfl)), rfl, hnm⟩) (hw _ (List.mem_of_getElem? (i := 48) rfl)) (ty := (.object "com/example/runpulse/runpulse/RunState$Event")) (by decide) rfl rfl (g := (mkF m 35 #[.val (.ref a), .val (.long ea), .second, .val (.long la), .second, .val (.ref st1), .val (.ref rn1), .val (.int al), .val .null] [.null, (.ref a)])) rfl rfl (hb hby dS3_35)
  have Fw112 := F111_terminal_a.same W112
  have F113_earliest_a := F111_earliest_a.other W112 (Or.inr (slot_ne (Or.inr (hw _ (List.mem_of_getElem? (i := 55) rfl))) (Or.inr (hw _ (List.mem_of_getElem? (i := 65) rfl))) (by decide) (t := .long) (t' := (.object "com/example/runpulse/runpulse/RunState$Event")) (by decide) (by decide)))
  have F113_latest_a := F111_latest_a.other W112 (Or.inr (slot_ne (Or.inr (hw _ (List.mem_of_getElem? (i := 57) rfl))) (Or.inr (hw _ (List.mem_of_getElem? (i := 65) rfl))) (by decide) (t := .long) (t' := (.object "com/example/runpulse/runpulse/RunState$Event")) (by decide) (by decide)))
  have F113_starting_a := F111_starting_a.other W112 (Or.inr (slot_ne (Or.inr (hw _ (List.mem_of_getElem? (i := 59) rfl))) (Or.inr (hw _ (List.mem_of_getElem? (i := 65) rfl))) (by decide) (t := (.object "com/example/runpulse/runpulse/RunState$Event")) (t' := (.object "com/example/runpulse/runpulse/RunState$Event")) (by decide) (by decide)))
  have F113_running_a := F111_running_a.other W112 (Or.inr (slot_ne (Or.inr (hw _ (List.mem_of_getElem? (i := 61) rfl))) (Or.inr (hw _ (List.mem_of_getElem? (i := 65) rfl))) (by decide) (t := (.object "java/lang/Long")) (t' := (.object "com/example/runpulse/runpulse/RunState$Event")) (by decide) (by decide)))
  have F113_alive_a := Fw110.other W112 (Or.inr (slot_ne (Or.inr (hw _ (List.mem_of_getElem? (i := 63) rfl))) (Or.inr (hw _ (List.mem_of_getElem? (i := 65) rfl))) (by decide) (t := .boolean) (t' := (.object "com/example/runpulse/runpulse/RunState$Event")) (by decide) (by decide)))
  have E113_a := E111_a.wr W112
  have Z113 := Nat.le_trans Z111 (Keep.of_wr W112).1
  have K113 : Keep h0 h112 [a] := K111.wr W112 (Or.inl (by simp))
  have N112 := Fr.snoc X112 N110 ge0_a
  refine Go.by st112 ?_
  show Go _ _ _ _ _ _ _ (T112.setTop (mkF m 38 #[.val (.ref a), .val (.long ea), .second, .val (.long la), .second, .val (.ref st1), .val (.ref rn1), .val (.int al), .val .null] []))
  refine Go.retV X112 hx hret hlk (hb hby dS3_38) ?_ (by decide) (by decide)
  show QS3 Z a ea la st1 rn1 al h0 n0 none T112.heap _
  rw [e112]
  exact ⟨rfl, N112, K113, E113_a, F113_earliest_a, F113_latest_a, F113_starting_a, F113_running_a, F113_alive_a, Fw112⟩

theorem dS8_0 : decode prog_35_method_1_code 0 = .ok (.aload_n 0, 1) := by decide +kernel
theorem dS8_1 : decode prog_35_method_1_code 1 = .ok (.invokespecial 1, 3) := by decide +kernel
theorem dS8_4 : decode prog_35_method_1_code 4 = .ok (.aload_n 0, 1) := by decide +kernel
theorem dS8_5 : decode prog_35_method_1_code 5 = .ok (.lload_n 1, 1) := by decide +kernel
theorem dS8_6 : decode prog_35_method_1_code 6 = .ok (.putfield 7, 3) := by decide +kernel
theorem dS8_9 : decode prog_35_method_1_code 9 = .ok (.aload_n 0, 1) := by decide +kernel
theorem dS8_10 : decode prog_35_method_1_code 10 = .ok (.lload_n 3, 1) := by decide +kernel
theorem dS8_11 : decode prog_35_method_1_code 11 = .ok (.putfield 13, 3) := by decide +kernel
theorem dS8_14 : decode prog_35_method_1_code 14 = .ok (.aload_n 0, 1) := by decide +kernel
theorem dS8_15 : decode prog_35_method_1_code 15 = .ok (.aload 5, 2) := by decide +kernel
theorem dS8_17 : decode prog_35_method_1_code 17 = .ok (.putfield 16, 3) := by decide +kernel
theorem dS8_20 : decode prog_35_method_1_code 20 = .ok (.aload_n 0, 1) := by decide +kernel
theorem dS8_21 : decode prog_35_method_1_code 21 = .ok (.aload 6, 2) := by decide +kernel
theorem dS8_23 : decode prog_35_method_1_code 23 = .ok (.putfield 20, 3) := by decide +kernel
theorem dS8_26 : decode prog_35_method_1_code 26 = .ok (.aload_n 0, 1) := by decide +kernel
theorem dS8_27 : decode prog_35_method_1_code 27 = .ok (.iload 7, 2) := by decide +kernel
theorem dS8_29 : decode prog_35_method_1_code 29 = .ok (.putfield 24, 3) := by decide +kernel
theorem dS8_32 : decode prog_35_method_1_code 32 = .ok (.aload_n 0, 1) := by decide +kernel
theorem dS8_33 : decode prog_35_method_1_code 33 = .ok (.aload 8, 2) := by decide +kernel
theorem dS8_35 : decode prog_35_method_1_code 35 = .ok (.putfield 28, 3) := by decide +kernel
theorem dS8_38 : decode prog_35_method_1_code 38 = .ok (.return_, 1) := by decide +kernel
theorem pdS8_0 : parseMethodDescriptor "()V" = some ⟨[], none⟩ := by decide +kernel
theorem pnS8 : plainName "com/example/runpulse/runpulse/RunState" = true := by first | (simp [plainName, overriddenIn]; done) | decide +kernel
theorem efS8 (m : MethodId) (a : Addr) (ea : Int64) (la : Int64) (al : Int32) (te1 : Addr) : entryFrame m #[(.ref a), (.long ea), (.long la), .null, .null, (.int al), (.ref te1)] 9 = mkF m 0 #[.val (.ref a), .val (.long ea), .second, .val (.long la), .second, .val .null, .val .null, .val (.int al), .val (.ref te1)] [] := by first | (simp [entryFrame, mkF, argsToLocals, Value.category]; done) | rfl
def QS8 (Z : State) (a : Addr) (ea : Int64) (la : Int64) (al : Int32) (te1 : Addr) (h0 : Heap) (n0 : Nat) (v : Option Value) (h : Heap) (L : List Loc) : Prop := (v = none ∧ Fr n0 L ∧ Keep h0 h [a] ∧ Exa Z h a "com/example/runpulse/runpulse/RunState" ∧ Fld Z h a "com/example/runpulse/runpulse/RunState" "earliest" "J" (.long ea) ∧ Fld Z h a "com/example/runpulse/runpulse/RunState" "latest" "J" (.long la) ∧ Fld Z h a "com/example/runpulse/runpulse/RunState" "starting" "Lcom/example/runpulse/runpulse/RunState$Event;" .null ∧ Fld Z h a "com/example/runpulse/runpulse/RunState" "running" "Ljava/lang/Long;" .null ∧ Fld Z h a "com/example/runpulse/runpulse/RunState" "alive" "Z" (.int al) ∧ Fld Z h a "com/example/runpulse/runpulse/RunState" "terminal" "Lcom/example/runpulse/runpulse/RunState$Event;" (.ref te1))
set_option maxRecDepth 65536 in
set_option maxHeartbeats 40000000 in
theorem rmS8 (l : Launch) (Z : State) (a0 : Array Value) (hw : ∀ d ∈ tables_1, d.before a0 Z = true) (ws : List Jvm.Cond) (a : Addr) (ea : Int64) (la : Int64) (al : Int32) (te1 : Addr) (h0 : Heap) (n0 : Nat) (Z0 : n0 ≤ h0.size) (E0_a : Exa Z h0 a "com/example/runpulse/runpulse/RunState") (F0_a_earliest : Fld Z h0 a "com/example/runpulse/runpulse/RunState" "earliest" "J" (.long (0 : Int64))) (F0_a_latest : Fld Z h0 a "com/example/runpulse/runpulse/RunState" "latest" "J" (.long (0 : Int64))) (F0_a_starting : Fld Z h0 a "com/example/runpulse/runpulse/RunState" "starting" "Lcom/example/runpulse/runpulse/RunState$Event;" .null) (F0_a_running : Fld Z h0 a "com/example/runpulse/runpulse/RunState" "running" "Ljava/lang/Long;" .null) (F0_a_alive : Fld Z h0 a "com/example/runpulse/runpulse/RunState" "alive" "Z" (.int (0 : Int32))) (F0_a_terminal : Fld Z h0 a "com/example/runpulse/runpulse/RunState" "terminal" "Lcom/example/runpulse/runpulse/RunState$Event;" .null) (ge0_a : n0 ≤ a) (hal : al = (0 : Int32) ∨ al = (1 : Int32)) :
    MetFree l (⟨"com/example/runpulse/runpulse/RunState", "<init>", "(JJLcom/example/runpulse/runpulse/RunState$Event;Ljava/lang/Long;ZLcom/example/runpulse/runpulse/RunState$Event;)V"⟩ : MethodName) (head1 (Jvm.Cond.code (⟨"com/example/runpulse/runpulse/RunState", "<init>", "(JJLcom/example/runpulse/runpulse/RunState$Event;Ljava/lang/Long;ZLcom/example/runpulse/runpulse/RunState$Event;)V"⟩ : MethodName) prog_35_method_1_code 9 none :: ws) ({ frames := 2, cells := 0, slots := 0, locals := 24 } : Room)) (fun aa_ U_ => aa_ = #[(.ref a), (.long ea), (.long la), .null, .null, (.int al), (.ref te1)] ∧ Z.Warmed39 U_.vm ∧ U_.heap = h0) (fun _ _ _ _ _ => True) (fun _ U_ o_ V_ => ∃ v_ L_, o_ = .returned v_ ∧ QS8 Z a ea la al te1 h0 n0 v_ V_.heap L_ ∧ FrameEnd U_ o_ V_ L_ ({ frames := 2, cells := 0, slots := 0, locals := 24 } : Room).cells ({ frames := 2, cells := 0, slots := 0, locals := 24 } : Room).slots) := by
  refine MetFree.of_bodySF (plainFor_of_name pnS8) hisR ?_
  intro p e s m args below meth c s₁ Bd hml0 hP hK
  obtain ⟨rfl, hZ, hh⟩ := hP
  have hx := Bd.exec
  have hby := Bd.bytes
  have hml : c.maxLocals = 9 := hml0
  have hown : s.vm.findClass "com/example/runpulse/runpulse/RunState" = some m.cls := findClass_of_methodNamed Bd.named
  have hnm := (name_of_methodNamed Bd.named Bd.method).1
  have hlk : meth.locks = false := BodyLoose.notSynchronized Bd
  have hret : meth.sig.returnType = none := Bd.returns
  have X0 : Stand p l e ({ frames := 2, cells := 0, slots := 0, locals := 24 } : Room) s m #[(.ref a), (.long ea), (.long la), .null, .null, (.int al), (.ref te1)] below meth c s₁ [] 0 0 := Stand.of_body Bd
  have e0 : s₁.heap = h0 := by rw [← hh, Bd.state]; rfl
  have N0 := Fr.nil n0
  show Go p e below s ({ frames := 2, cells := 0, slots := 0, locals := 24 } : Room).cells ({ frames := 2, cells := 0, slots := 0, locals := 24 } : Room).slots (QS8 Z a ea la al te1 h0 n0) (s₁.setTop (entryFrame m #[(.ref a), (.long ea), (.long la), .null, .null, (.int al), (.ref te1)] 9))
  rw [efS8]
  refine Go.by (fun _ kont => XS.aloadN X0.here hx rfl (hb hby dS8_0) rfl rfl kont) ?_
  show Go _ _ _ _ _ _ _ (s₁.setTop (mkF m 1 #[.val (.ref a), .val (.long ea), .second, .val (.long la), .second, .val .null, .val .null, .val (.int al), .val (.ref te1)] [(.ref a)]))
  obtain ⟨_, _, ⟨T101, L101, k101, n101⟩, -, X101, ⟨Lc101, hQ101, l101, y101, z101⟩, st101⟩ := X0.specialBack hx (y := (⟨"java/lang/Record", "<init>", "()V"⟩ : MethodName)) rfl hown (mvT hZ (hw _ (List.mem_of_getElem? (i := 53) rfl))) (mvT hZ (hw _ (List.mem_of_getElem? (i := 13) rfl))) (mvT hZ (hw _ (List.mem_of_getElem? (i := 16) rfl))) (by decide) (backOf (W := 0) (rmR l Z a0 hw [] a h0 n0 Z0 ) hZ (hw _ (List.mem_of_getElem? (i := 16) rfl)) (hw _ (List.mem_of_getElem? (i := 15) rfl)) (by decide) (by decide)) (g := (mkF m 1 #[.val (.ref a), .val (.long ea), .second, .val (.long la), .second, .val .null, .val .null, .val (.int al), .val (.ref te1)] [(.ref a)])) rfl (by rw [hml]; rfl) (Steps.refl _) (a := a) (argsL := []) (rest := []) (lenOf pdS8_0 rfl) rfl (by show 2 * 0 + _ ≤ _; exact Nat.le_of_eq rfl) (hb hby dS8_1) (fun _ _ => ⟨rfl, e0, (by decide : 0 + 0 ≤ _), (by decide : 0 + 0 ≤ _)⟩)
  dsimp only [Pt.U, Pt.locs, Pt.cells, Pt.slots] at X101 l101 y101 z101 st101 hQ101
  subst l101 y101 z101
  obtain ⟨rfl, N101q, eh101⟩ := hQ101
  have N101 := Fr.app N0 N101q
  refine Go.tr st101 ?_
  show Go _ _ _ _ _ _ _ (T101.setTop (mkF m 4 #[.val (.ref a), .val (.long ea), .second, .val (.long la), .second, .val .null, .val .null, .val (.int al), .val (.ref te1)] []))
  refine Go.by (fun _ kont => XS.aloadN X101.here hx rfl (hb hby dS8_4) rfl rfl (XS.lloadN X101.here hx rfl (hb hby dS8_5) rfl kont)) ?_
  show Go _ _ _ _ _ _ _ (T101.setTop (mkF m 6 #[.val (.ref a), .val (.long ea), .second, .val (.long la), .second, .val .null, .val .null, .val (.int al), .val (.ref te1)] [(.long ea), (.ref a)]))
  obtain ⟨T102, h102, X102, e102, W102, st102⟩ := putF X101 hx hZ hown (host := "") (Or.inl (hw _ (List.mem_of_getElem? (i := 54) rfl))) Via.refl eh101 F0_a_earliest E0_a (Or.inr ⟨(hw _ (List.mem_of_getElem? (i := 55) rfl)), rfl, hnm⟩) (hw _ (List.mem_of_getElem? (i := 48) rfl)) (ty := .long) (by decide) rfl rfl (g := (mkF m 6 #[.val (.ref a), .val (.long ea), .second, .val (.long la), .second, .val .null, .val .null, .val (.int al), .val (.ref te1)] [(.long ea), (.ref a)])) rfl rfl (hb hby dS8_6)
  have Fw102 := F0_a_earliest.same W102
  have F103_latest_a := F0_a_latest.other W102 (Or.inr (slot_ne (Or.inr (hw _ (List.mem_of_getElem? (i := 57) rfl))) (Or.inr (hw _ (List.mem_of_getElem? (i := 55) rfl))) (by decide) (t := .long) (t' := .long) (by decide) (by decide)))
  have F103_starting_a := F0_a_starting.other W102 (Or.inr (slot_ne (Or.inr (hw _ (List.mem_of_getElem? (i := 59) rfl))) (Or.inr (hw _ (List.mem_of_getElem? (i := 55) rfl))) (by decide) (t := (.object "com/example/runpulse/runpulse/RunState$Event")) (t' := .long) (by decide) (by decide)))
  have F103_running_a := F0_a_running.other W102 (Or.inr (slot_ne (Or.inr (hw _ (List.mem_of_getElem? (i := 61) rfl))) (Or.inr (hw _ (List.mem_of_getElem? (i := 55) rfl))) (by decide) (t := (.object "java/lang/Long")) (t' := .long) (by decide) (by decide)))
  have F103_alive_a := F0_a_alive.other W102 (Or.inr (slot_ne (Or.inr (hw _ (List.mem_of_getElem? (i := 63) rfl))) (Or.inr (hw _ (List.mem_of_getElem? (i := 55) rfl))) (by decide) (t := .boolean) (t' := .long) (by decide) (by decide)))
  have F103_terminal_a := F0_a_terminal.other W102 (Or.inr (slot_ne (Or.inr (hw _ (List.mem_of_getElem? (i := 65) rfl))) (Or.inr (hw _ (List.mem_of_getElem? (i := 55) rfl))) (by decide) (t := (.object "com/example/runpulse/runpulse/RunState$Event")) (t' := .long) (by decide) (by decide)))
  have E103_a := E0_a.wr W102
  have Z103 := Nat.le_trans Z0 (Keep.of_wr W102).1
  have K103 : Keep h0 h102 [a] := (Keep.refl h0 [a]).wr W102 (Or.inl (by simp))
  have N102 := Fr.snoc X102 N101 ge0_a
  refine Go.by st102 ?_
  show Go _ _ _ _ _ _ _ (T102.setTop (mkF m 9 #[.val (.ref a), .val (.long ea), .second, .val (.long la), .second, .val .null, .val .null, .val (.int al), .val (.ref te1)] []))
  refine Go.by (fun _ kont => XS.aloadN X102.here hx rfl (hb hby dS8_9) rfl rfl (XS.lloadN X102.here hx rfl (hb hby dS8_10) rfl kont)) ?_
  show Go _ _ _ _ _ _ _ (T102.setTop (mkF m 11 #[.val (.ref a), .val (.long ea), .second, .val (.long la), .second, .val .null, .val .null, .val (.int al), .val (.ref te1)] [(.long la), (.ref a)]))
  obtain ⟨T104, h104, X104, e104, W104, st104⟩ := putF X102 hx hZ hown (host := "") (Or.inl (hw _ (List.mem_of_getElem? (i := 56) rfl))) Via.refl e102 F103_latest_a E103_a (Or.inr ⟨(hw _ (List.mem_of_getElem? (i := 57) rfl)), rfl, hnm⟩) (hw _ (List.mem_of_getElem? (i := 48) rfl)) (ty := .long) (by decide) rfl rfl (g := (mkF m 11 #[.val (.ref a), .val (.long ea), .second, .val (.long la), .second, .val .null, .val .null, .val (.int al), .val (.ref te1)] [(.long la), (.ref a)])) rfl rfl (hb hby dS8_11)
  have Fw104 := F103_latest_a.same W104
  have F105_earliest_a := Fw102.other W104 (Or.inr (slot_ne (Or.inr (hw _ (List.mem_of_getElem? (i := 55) rfl))) (Or.inr (hw _ (List.mem_of_getElem? (i := 57) rfl))) (by decide) (t := .long) (t' := .long) (by decide) (by decide)))
  have F105_starting_a := F103_starting_a.other W104 (Or.inr (slot_ne (Or.inr (hw _ (List.mem_of_getElem? (i := 59) rfl))) (Or.inr (hw _ (List.mem_of_getElem? (i := 57) rfl))) (by decide) (t := (.object "com/example/runpulse/runpulse/RunState$Event")) (t' := .long) (by decide) (by decide)))
  have F105_running_a := F103_running_a.other W104 (Or.inr (slot_ne (Or.inr (hw _ (List.mem_of_getElem? (i := 61) rfl))) (Or.inr (hw _ (List.mem_of_getElem? (i := 57) rfl))) (by decide) (t := (.object "java/lang/Long")) (t' := .long) (by decide) (by decide)))
  have F105_alive_a := F103_alive_a.other W104 (Or.inr (slot_ne (Or.inr (hw _ (List.mem_of_getElem? (i := 63) rfl))) (Or.inr (hw _ (List.mem_of_getElem? (i := 57) rfl))) (by decide) (t := .boolean) (t' := .long) (by decide) (by decide)))
  have F105_terminal_a := F103_terminal_a.other W104 (Or.inr (slot_ne (Or.inr (hw _ (List.mem_of_getElem? (i := 65) rfl))) (Or.inr (hw _ (List.mem_of_getElem? (i := 57) rfl))) (by decide) (t := (.object "com/example/runpulse/runpulse/RunState$Event")) (t' := .long) (by decide) (by decide)))
  have E105_a := E103_a.wr W104
  have Z105 := Nat.le_trans Z103 (Keep.of_wr W104).1
  have K105 : Keep h0 h104 [a] := K103.wr W104 (Or.inl (by simp))
  have N104 := Fr.snoc X104 N102 ge0_a
  refine Go.by st104 ?_
  show Go _ _ _ _ _ _ _ (T104.setTop (mkF m 14 #[.val (.ref a), .val (.long ea), .second, .val (.long la), .second, .val .null, .val .null, .val (.int al), .val (.ref te1)] []))
  refine Go.by (fun _ kont => XS.aloadN X104.here hx rfl (hb hby dS8_14) rfl rfl (XS.aload X104.here hx rfl (hb hby dS8_15) rfl rfl kont)) ?_
  show Go _ _ _ _ _ _ _ (T104.setTop (mkF m 17 #[.val (.ref a), .val (.long ea), .second, .val (.long la), .second, .val .null, .val .null, .val (.int al), .val (.ref te1)] [.null, (.ref a)]))
  obtain ⟨T106, h106, X106, e106, W106, st106⟩ := putF X104 hx hZ hown (host := "") (Or.inl (hw _ (List.mem_of_getElem? (i := 58) rfl))) Via.refl e104 F105_starting_a E105_a (Or.inr ⟨(hw _ (List.mem_of_getElem? (i := 59) rfl)), rfl, hnm⟩) (hw _ (List.mem_of_getElem? (i := 48) rfl)) (ty := (.object "com/example/runpulse/runpulse/RunState$Event")) (by decide) rfl rfl (g := (mkF m 17 #[.val (.ref a), .val (.long ea), .second, .val (.long la), .second, .val .null, .val .null, .val (.int al), .val (.ref te1)] [.null, (.ref a)])) rfl rfl (hb hby dS8_17)
  have Fw106 := F105_starting_a.same W106
  have F107_earliest_a := F105_earliest_a.other W106 (Or.inr (slot_ne (Or.inr (hw _ (List.mem_of_getElem? (i := 55) rfl))) (Or.inr (hw _ (List.mem_of_getElem? (i := 59) rfl))) (by decide) (t := .long) (t' := (.object "com/example/runpulse/runpulse/RunState$Event")) (by decide) (by decide)))
  have F107_latest_a := Fw104.other W106 (Or.inr (slot_ne (Or.inr (hw _ (List.mem_of_getElem? (i := 57) rfl))) (Or.inr (hw _ (List.mem_of_getElem? (i := 59) rfl))) (by decide) (t := .long) (t' := (.object "com/example/runpulse/runpulse/RunState$Event")) (by decide) (by decide)))
  have F107_running_a := F105_running_a.other W106 (Or.inr (slot_ne (Or.inr (hw _ (List.mem_of_getElem? (i := 61) rfl))) (Or.inr (hw _ (List.mem_of_getElem? (i := 59) rfl))) (by decide) (t := (.object "java/lang/Long")) (t' := (.object "com/example/runpulse/runpulse/RunState$Event")) (by decide) (by decide)))
  have F107_alive_a := F105_alive_a.other W106 (Or.inr (slot_ne (Or.inr (hw _ (List.mem_of_getElem? (i := 63) rfl))) (Or.inr (hw _ (List.mem_of_getElem? (i := 59) rfl))) (by decide) (t := .boolean) (t' := (.object "com/example/runpulse/runpulse/RunState$Event")) (by decide) (by decide)))
  have F107_terminal_a := F105_terminal_a.other W106 (Or.inr (slot_ne (Or.inr (hw _ (List.mem_of_getElem? (i := 65) rfl))) (Or.inr (hw _ (List.mem_of_getElem? (i := 59) rfl))) (by decide) (t := (.object "com/example/runpulse/runpulse/RunState$Event")) (t' := (.object "com/example/runpulse/runpulse/RunState$Event")) (by decide) (by decide)))
  have E107_a := E105_a.wr W106
  have Z107 := Nat.le_trans Z105 (Keep.of_wr W106).1
  have K107 : Keep h0 h106 [a] := K105.wr W106 (Or.inl (by simp))
  have N106 := Fr.snoc X106 N104 ge0_a
  refine Go.by st106 ?_
  show Go _ _ _ _ _ _ _ (T106.setTop (mkF m 20 #[.val (.ref a), .val (.long ea), .second, .val (.long la), .second, .val .null, .val .null, .val (.int al), .val (.ref te1)] []))
  refine Go.by (fun _ kont => XS.aloadN X106.here hx rfl (hb hby dS8_20) rfl rfl (XS.aload X106.here hx rfl (hb hby dS8_21) rfl rfl kont)) ?_
  show Go _ _ _ _ _ _ _ (T106.setTop (mkF m 23 #[.val (.ref a), .val (.long ea), .second, .val (.long la), .second, .val .null, .val .null, .val (.int al), .val (.ref te1)] [.null, (.ref a)]))
  obtain ⟨T108, h108, X108, e108, W108, st108⟩ := putF X106 hx hZ hown (host := "") (Or.inl (hw _ (List.mem_of_getElem? (i := 60) rfl))) Via.refl e106 F107_running_a E107_a (Or.inr ⟨(hw _ (List.mem_of_getElem? (i := 61) rfl)), rfl, hnm⟩) (hw _ (List.mem_of_getElem? (i := 48) rfl)) (ty := (.object "java/lang/Long")) (by decide) rfl rfl (g := (mkF m 23 #[.val (.ref a), .val (.long ea), .second, .val (.long la), .second, .val .null, .val .null, .val (.int al), .val (.ref te1)] [.null, (.ref a)])) rfl rfl (hb hby dS8_23)
  have Fw108 := F107_running_a.same W108
  have F109_earliest_a := F107_earliest_a.other W108 (Or.inr (slot_ne (Or.inr (hw _ (List.mem_of_getElem? (i := 55) rfl))) (Or.inr (hw _ (List.mem_of_getElem? (i := 61) rfl))) (by decide) (t := .long) (t' := (.object "java/lang/Long")) (by decide) (by decide)))
  have F109_latest_a := F107_latest_a.other W108 (Or.inr (slot_ne (Or.inr (hw _ (List.mem_of_getElem? (i := 57) rfl))) (Or.inr (hw _ (List.mem_of_getElem? (i := 61) rfl))) (by decide) (t := .long) (t' := (.object "java/lang/Long")) (by decide) (by decide)))
  have F109_starting_a := Fw106.other W108 (Or.inr (slot_ne (Or.inr (hw _ (List.mem_of_getElem? (i := 59) rfl))) (Or.inr (hw _ (List.mem_of_getElem? (i := 61) rfl))) (by decide) (t := (.object "com/example/runpulse/runpulse/RunState$Event")) (t' := (.object "java/lang/Long")) (by decide) (by decide)))
  have F109_alive_a := F107_alive_a.other W108 (Or.inr (slot_ne (Or.inr (hw _ (List.mem_of_getElem? (i := 63) rfl))) (Or.inr (hw _ (List.mem_of_getElem? (i := 61) rfl))) (by decide) (t := .boolean) (t' := (.object "java/lang/Long")) (by decide) (by decide)))
  have F109_terminal_a := F107_terminal_a.other W108 (Or.inr (slot_ne (Or.inr (hw _ (List.mem_of_getElem? (i := 65) rfl))) (Or.inr (hw _ (List.mem_of_getElem? (i := 61) rfl))) (by decide) (t := (.object "com/example/runpulse/runpulse/RunState$Event")) (t' := (.object "java/lang/Long")) (by decide) (by decide)))
  have E109_a := E107_a.wr W108
  have Z109 := Nat.le_trans Z107 (Keep.of_wr W108).1
  have K109 : Keep h0 h108 [a] := K107.wr W108 (Or.inl (by simp))
  have N108 := Fr.snoc X108 N106 ge0_a
  refine Go.by st108 ?_
  show Go _ _ _ _ _ _ _ (T108.setTop (mkF m 26 #[.val (.ref a), .val (.long ea), .second, .val (.long la), .second, .val .null, .val .null, .val (.int al), .val (.ref te1)] []))
  refine Go.by (fun _ kont => XS.aloadN X108.here hx rfl (hb hby dS8_26) rfl rfl (XS.iload X108.here hx rfl (hb hby dS8_27) rfl kont)) ?_
  show Go _ _ _ _ _ _ _ (T108.setTop (mkF m 29 #[.val (.ref a), .val (.long ea), .second, .val (.long la), .second, .val .null, .val .null, .val (.int al), .val (.ref te1)] [(.int al), (.ref a)]))
  obtain ⟨T110, h110, X110, e110, W110, st110⟩ := putF X108 hx hZ hown (host := "") (Or.inl (hw _ (List.mem_of_getElem? (i := 62) rfl))) Via.refl e108 F109_alive_a E109_a (Or.inr ⟨(hw _ (List.mem_of_getElem? (i := 63) rfl)), rfl, hnm⟩) (hw _ (List.mem_of_getElem? (i := 48) rfl)) (ty := .boolean) (by decide) (own_zn hal) (own_zf hal) (g := (mkF m 29 #[.val (.ref a), .val (.long ea), .second, .val (.long la), .second, .val .null, .val .null, .val (.int al), .val (.ref te1)] [(.int al), (.ref a)])) rfl rfl (hb hby dS8_29)
  have Fw110 := F109_alive_a.same W110
  have F111_earliest_a := F109_earliest_a.other W110 (Or.inr (slot_ne (Or.inr (hw _ (List.mem_of_getElem? (i := 55) rfl))) (Or.inr (hw _ (List.mem_of_getElem? (i := 63) rfl))) (by decide) (t := .long) (t' := .boolean) (by decide) (by decide)))
  have F111_latest_a := F109_latest_a.other W110 (Or.inr (slot_ne (Or.inr (hw _ (List.mem_of_getElem? (i := 57) rfl))) (Or.inr (hw _ (List.mem_of_getElem? (i := 63) rfl))) (by decide) (t := .long) (t' := .boolean) (by decide) (by decide)))
  have F111_starting_a := F109_starting_a.other W110 (Or.inr (slot_ne (Or.inr (hw _ (List.mem_of_getElem? (i := 59) rfl))) (Or.inr (hw _ (List.mem_of_getElem? (i := 63) rfl))) (by decide) (t := (.object "com/example/runpulse/runpulse/RunState$Event")) (t' := .boolean) (by decide) (by decide)))
  have F111_running_a := Fw108.other W110 (Or.inr (slot_ne (Or.inr (hw _ (List.mem_of_getElem? (i := 61) rfl))) (Or.inr (hw _ (List.mem_of_getElem? (i := 63) rfl))) (by decide) (t := (.object "java/lang/Long")) (t' := .boolean) (by decide) (by decide)))
  have F111_terminal_a := F109_terminal_a.other W110 (Or.inr (slot_ne (Or.inr (hw _ (List.mem_of_getElem? (i := 65) rfl))) (Or.inr (hw _ (List.mem_of_getElem? (i := 63) rfl))) (by decide) (t := (.object "com/example/runpulse/runpulse/RunState$Event")) (t' := .boolean) (by decide) (by decide)))
  have E111_a := E109_a.wr W110
  have Z111 := Nat.le_trans Z109 (Keep.of_wr W110).1
  have K111 : Keep h0 h110 [a] := K109.wr W110 (Or.inl (by simp))
  have N110 := Fr.snoc X110 N108 ge0_a
  refine Go.by st110 ?_
  show Go _ _ _ _ _ _ _ (T110.setTop (mkF m 32 #[.val (.ref a), .val (.long ea), .second, .val (.long la), .second, .val .null, .val .null, .val (.int al), .val (.ref te1)] []))
  refine Go.by (fun _ kont => XS.aloadN X110.here hx rfl (hb hby dS8_32) rfl rfl (XS.aload X110.here hx rfl (hb hby dS8_33) rfl rfl kont)) ?_
  show Go _ _ _ _ _ _ _ (T110.setTop (mkF m 35 #[.val (.ref a), .val (.long ea), .second, .val (.long la), .second, .val .null, .val .null, .val (.int al), .val (.ref te1)] [(.ref te1), (.ref a)]))
  obtain ⟨T112, h112, X112, e112, W112, st112⟩ := putF X110 hx hZ hown (host := "") (Or.inl (hw _ (List.mem_of_getElem? (i := 64) rfl))) Via.refl e110 F111_terminal_a E111_a (Or.inr ⟨(hw _ (List.mem_of_getElem? (i := 65) rfl)), rfl, hnm⟩) (hw _ (List.mem_of_getElem? (i := 48) rfl)) (ty := (.object "com/example/runpulse/runpulse/RunState$Event")) (by decide) rfl rfl (g := (mkF m 35 #[.val (.ref a), .val (.long ea), .second, .val (.long la), .second, .val .null, .val .null, .val (.int al), .val (.ref te1)] [(.ref te1), (.ref a)])) rfl rfl (hb hby dS8_35)
  have Fw112 := F111_terminal_a.same W112
  have F113_earliest_a := F111_earliest_a.other W112 (Or.inr (slot_ne (Or.inr (hw _ (List.mem_of_getElem? (i := 55) rfl))) (Or.inr (hw _ (List.mem_of_getElem? (i := 65) rfl))) (by decide) (t := .long) (t' := (.object "com/example/runpulse/runpulse/RunState$Event")) (by decide) (by decide)))
  have F113_latest_a := F111_latest_a.other W112 (Or.inr (slot_ne (Or.inr (hw _ (List.mem_of_getElem? (i := 57) rfl))) (Or.inr (hw _ (List.mem_of_getElem? (i := 65) rfl))) (by decide) (t := .long) (t' := (.object "com/example/runpulse/runpulse/RunState$Event")) (by decide) (by decide)))
  have F113_starting_a := F111_starting_a.other W112 (Or.inr (slot_ne (Or.inr (hw _ (List.mem_of_getElem? (i := 59) rfl))) (Or.inr (hw _ (List.mem_of_getElem? (i := 65) rfl))) (by decide) (t := (.object "com/example/runpulse/runpulse/RunState$Event")) (t' := (.object "com/example/runpulse/runpulse/RunState$Event")) (by decide) (by decide)))
  have F113_running_a := F111_running_a.other W112 (Or.inr (slot_ne (Or.inr (hw _ (List.mem_of_getElem? (i := 61) rfl))) (Or.inr (hw _ (List.mem_of_getElem? (i := 65) rfl))) (by decide) (t := (.object "java/lang/Long")) (t' := (.object "com/example/runpulse/runpulse/RunState$Event")) (by decide) (by decide)))
  have F113_alive_a := Fw110.other W112 (Or.inr (slot_ne (Or.inr (hw _ (List.mem_of_getElem? (i := 63) rfl))) (Or.inr (hw _ (List.mem_of_getElem? (i := 65) rfl))) (by decide) (t := .boolean) (t' := (.object "com/example/runpulse/runpulse/RunState$Event")) (by decide) (by decide)))
  have E113_a := E111_a.wr W112
  have Z113 := Nat.le_trans Z111 (Keep.of_wr W112).1
  have K113 : Keep h0 h112 [a] := K111.wr W112 (Or.inl (by simp))
  have N112 := Fr.snoc X112 N110 ge0_a
  refine Go.by st112 ?_
  show Go _ _ _ _ _ _ _ (T112.setTop (mkF m 38 #[.val (.ref a), .val (.long ea), .second, .val (.long la), .second, .val .null, .val .null, .val (.int al), .val (.ref te1)] []))
  refine Go.retV X112 hx hret hlk (hb hby dS8_38) ?_ (by decide) (by decide)
  show QS8 Z a ea la al te1 h0 n0 none T112.heap _
  rw [e112]
  exact ⟨rfl, N112, K113, E113_a, F113_earliest_a, F113_latest_a, F113_starting_a, F113_running_a, F113_alive_a, Fw112⟩

theorem dS9_0 : decode prog_35_method_1_code 0 = .ok (.aload_n 0, 1) := by decide +kernel
theorem dS9_1 : decode prog_35_method_1_code 1 = .ok (.invokespecial 1, 3) := by decide +kernel
theorem dS9_4 : decode prog_35_method_1_code 4 = .ok (.aload_n 0, 1) := by decide +kernel
theorem dS9_5 : decode prog_35_method_1_code 5 = .ok (.lload_n 1, 1) := by decide +kernel
theorem dS9_6 : decode prog_35_method_1_code 6 = .ok (.putfield 7, 3) := by decide +kernel
theorem dS9_9 : decode prog_35_method_1_code 9 = .ok (.aload_n 0, 1) := by decide +kernel
theorem dS9_10 : decode prog_35_method_1_code 10 = .ok (.lload_n 3, 1) := by decide +kernel
theorem dS9_11 : decode prog_35_method_1_code 11 = .ok (.putfield 13, 3) := by decide +kernel
theorem dS9_14 : decode prog_35_method_1_code 14 = .ok (.aload_n 0, 1) := by decide +kernel
theorem dS9_15 : decode prog_35_method_1_code 15 = .ok (.aload 5, 2) := by decide +kernel
theorem dS9_17 : decode prog_35_method_1_code 17 = .ok (.putfield 16, 3) := by decide +kernel
theorem dS9_20 : decode prog_35_method_1_code 20 = .ok (.aload_n 0, 1) := by decide +kernel
theorem dS9_21 : decode prog_35_method_1_code 21 = .ok (.aload 6, 2) := by decide +kernel
theorem dS9_23 : decode prog_35_method_1_code 23 = .ok (.putfield 20, 3) := by decide +kernel
theorem dS9_26 : decode prog_35_method_1_code 26 = .ok (.aload_n 0, 1) := by decide +kernel
theorem dS9_27 : decode prog_35_method_1_code 27 = .ok (.iload 7, 2) := by decide +kernel
theorem dS9_29 : decode prog_35_method_1_code 29 = .ok (.putfield 24, 3) := by decide +kernel
theorem dS9_32 : decode prog_35_method_1_code 32 = .ok (.aload_n 0, 1) := by decide +kernel
theorem dS9_33 : decode prog_35_method_1_code 33 = .ok (.aload 8, 2) := by decide +kernel
theorem dS9_35 : decode prog_35_method_1_code 35 = .ok (.putfield 28, 3) := by decide +kernel
theorem dS9_38 : decode prog_35_method_1_code 38 = .ok (.return_, 1) := by decide +kernel
theorem pdS9_0 : parseMethodDescriptor "()V" = some ⟨[], none⟩ := by decide +kernel
theorem pnS9 : plainName "com/example/runpulse/runpulse/RunState" = true := by first | (simp [plainName, overriddenIn]; done) | decide +kernel
theorem efS9 (m : MethodId) (a : Addr) (ea : Int64) (la : Int64) (st1 : Addr) (al : Int32) (te1 : Addr) : entryFrame m #[(.ref a), (.long ea), (.long la), (.ref st1), .null, (.int al), (.ref te1)] 9 = mkF m 0 #[.val (.ref a), .val (.long ea), .second, .val (.long la), .second, .val (.ref st1), .val .null, .val (.int al), .val (.ref te1)] [] := by first | (simp [entryFrame, mkF, argsToLocals, Value.category]; done) | rfl
def QS9 (Z : State) (a : Addr) (ea : Int64) (la : Int64) (st1 : Addr) (al : Int32) (te1 : Addr) (h0 : Heap) (n0 : Nat) (v : Option Value) (h : Heap) (L : List Loc) : Prop := (v = none ∧ Fr n0 L ∧ Keep h0 h [a] ∧ Exa Z h a "com/example/runpulse/runpulse/RunState" ∧ Fld Z h a "com/example/runpulse/runpulse/RunState" "earliest" "J" (.long ea) ∧ Fld Z h a "com/example/runpulse/runpulse/RunState" "latest" "J" (.long la) ∧ Fld Z h a "com/example/runpulse/runpulse/RunState" "starting" "Lcom/example/runpulse/runpulse/RunState$Event;" (.ref st1) ∧ Fld Z h a "com/example/runpulse/runpulse/RunState" "running" "Ljava/lang/Long;" .null ∧ Fld Z h a "com/example/runpulse/runpulse/RunState" "alive" "Z" (.int al) ∧ Fld Z h a "com/example/runpulse/runpulse/RunState" "terminal" "Lcom/example/runpulse/runpulse/RunState$Event;" (.ref te1))
set_option maxRecDepth 65536 in
set_option maxHeartbeats 40000000 in
theorem rmS9 (l : Launch) (Z : State) (a0 : Array Value) (hw : ∀ d ∈ tables_1, d.before a0 Z = true) (ws : List Jvm.Cond) (a : Addr) (ea : Int64) (la : Int64) (st1 : Addr) (al : Int32) (te1 : Addr) (h0 : Heap) (n0 : Nat) (Z0 : n0 ≤ h0.size) (E0_a : Exa Z h0 a "com/example/runpulse/runpulse/RunState") (F0_a_earliest : Fld Z h0 a "com/example/runpulse/runpulse/RunState" "earliest" "J" (.long (0 : Int64))) (F0_a_latest : Fld Z h0 a "com/example/runpulse/runpulse/RunState" "latest" "J" (.long (0 : Int64))) (F0_a_starting : Fld Z h0 a "com/example/runpulse/runpulse/RunState" "starting" "Lcom/example/runpulse/runpulse/RunState$Event;" .null) (F0_a_running : Fld Z h0 a "com/example/runpulse/runpulse/RunState" "running" "Ljava/lang/Long;" .null) (F0_a_alive : Fld Z h0 a "com/example/runpulse/runpulse/RunState" "alive" "Z" (.int (0 : Int32))) (F0_a_terminal : Fld Z h0 a "com/example/runpulse/runpulse/RunState" "terminal" "Lcom/example/runpulse/runpulse/RunState$Event;" .null) (ge0_a : n0 ≤ a) (hal : al = (0 : Int32) ∨ al = (1 : Int32)) :
    MetFree l (⟨"com/example/runpulse/runpulse/RunState", "<init>", "(JJLcom/example/runpulse/runpulse/RunState$Event;Ljava/lang/Long;ZLcom/example/runpulse/runpulse/RunState$Event;)V"⟩ : MethodName) (head1 (Jvm.Cond.code (⟨"com/example/runpulse/runpulse/RunState", "<init>", "(JJLcom/example/runpulse/runpulse/RunState$Event;Ljava/lang/Long;ZLcom/example/runpulse/runpulse/RunState$Event;)V"⟩ : MethodName) prog_35_method_1_code 9 none :: ws) ({ frames := 2, cells := 0, slots := 0, locals := 24 } : Room)) (fun aa_ U_ => aa_ = #[(.ref a), (.long ea), (.long la), (.ref st1), .null, (.int al), (.ref te1)] ∧ Z.Warmed39 U_.vm ∧ U_.heap = h0) (fun _ _ _ _ _ => True) (fun _ U_ o_ V_ => ∃ v_ L_, o_ = .returned v_ ∧ QS9 Z a ea la st1 al te1 h0 n0 v_ V_.heap L_ ∧ FrameEnd U_ o_ V_ L_ ({ frames := 2, cells := 0, slots := 0, locals := 24 } : Room).cells ({ frames := 2, cells := 0, slots := 0, locals := 24 } : Room).slots) := by
  refine MetFree.of_bodySF (plainFor_of_name pnS9) hisR ?_
  intro p e s m args below meth c s₁ Bd hml0 hP hK
  obtain ⟨rfl, hZ, hh⟩ := hP
  have hx := Bd.exec
  have hby := Bd.bytes
  have hml : c.maxLocals = 9 := hml0
  have hown : s.vm.findClass "com/example/runpulse/runpulse/RunState" = some m.cls := findClass_of_methodNamed Bd.named
  have hnm := (name_of_methodNamed Bd.named Bd.method).1
  have hlk : meth.locks = false := BodyLoose.notSynchronized Bd
  have hret : meth.sig.returnType = none := Bd.returns
  have X0 : Stand p l e ({ frames := 2, cells := 0, slots := 0, locals := 24 } : Room) s m #[(.ref a), (.long ea), (.long la), (.ref st1), .null, (.int al), (.ref te1)] below meth c s₁ [] 0 0 := Stand.of_body Bd
  have e0 : s₁.heap = h0 := by rw [← hh, Bd.state]; rfl
  have N0 := Fr.nil n0
  show Go p e below s ({ frames := 2, cells := 0, slots := 0, locals := 24 } : Room).cells ({ frames := 2, cells := 0, slots := 0, locals := 24 } : Room).slots (QS9 Z a ea la st1 al te1 h0 n0) (s₁.setTop (entryFrame m #[(.ref a), (.long ea), (.long la), (.ref st1), .null, (.int al), (.ref te1)] 9))
  rw [efS9]
  refine Go.by (fun _ kont => XS.aloadN X0.here hx rfl (hb hby dS9_0) rfl rfl kont) ?_
  show Go _ _ _ _ _ _ _ (s₁.setTop (mkF m 1 #[.val (.ref a), .val (.long ea), .second, .val (.long la), .second, .val (.ref st1), .val .null, .val (.int al), .val (.ref te1)] [(.ref a)]))
  obtain ⟨_, _, ⟨T101, L101, k101, n101⟩, -, X101, ⟨Lc101, hQ101, l101, y101, z101⟩, st101⟩ := X0.specialBack hx (y := (⟨"java/lang/Record", "<init>", "()V"⟩ : MethodName)) rfl hown (mvT hZ (hw _ (List.mem_of_getElem? (i := 53) rfl))) (mvT hZ (hw _ (List.mem_of_getElem? (i := 13) rfl))) (mvT hZ (hw _ (List.mem_of_getElem? (i := 16) rfl))) (by decide) (backOf (W := 0) (rmR l Z a0 hw [] a h0 n0 Z0 ) hZ (hw _ (List.mem_of_getElem? (i := 16) rfl)) (hw _ (List.mem_of_getElem? (i := 15) rfl)) (by decide) (by decide)) (g := (mkF m 1 #[.val (.ref a), .val (.long ea), .second, .val (.long la), .second, .val (.ref st1), .val .null, .val (.int al), .val (.ref te1)] [(.ref a)])) rfl (by rw [hml]; rfl) (Steps.refl _) (a := a) (argsL := []) (rest := []) (lenOf pdS9_0 rfl) rfl (by show 2 * 0 + _ ≤ _; exact Nat.le_of_eq rfl) (hb hby dS9_1) (fun _ _ => ⟨rfl, e0, (by decide : 0 + 0 ≤ _), (by decide : 0 + 0 ≤ _)⟩)
  dsimp only [Pt.U, Pt.locs, Pt.cells, Pt.slots] at X101 l101 y101 z101 st101 hQ101
  subst l101 y101 z101
  obtain ⟨rfl, N101q, eh101⟩ := hQ101
  have N101 := Fr.app N0 N101q
  refine Go.tr st101 ?_
  show Go _ _ _ _ _ _ _ (T101.setTop (mkF m 4 #[.val (.ref a), .val (.long ea), .second, .val (.long la), .second, .val (.ref st1), .val .null, .val (.int al), .val (.ref te1)] []))
  refine Go.by (fun _ kont => XS.aloadN X101.here hx rfl (hb hby dS9_4) rfl rfl (XS.lloadN X101.here hx rfl (hb hby dS9_5) rfl kont)) ?_
  show Go _ _ _ _ _ _ _ (T101.setTop (mkF m 6 #[.val (.ref a), .val (.long ea), .second, .val (.long la), .second, .val (.ref st1), .val .null, .val (.int al), .val (.ref te1)] [(.long ea), (.ref a)]))
  obtain ⟨T102, h102, X102, e102, W102, st102⟩ := putF X101 hx hZ hown (host := "") (Or.inl (hw _ (List.mem_of_getElem? (i := 54) rfl))) Via.refl eh101 F0_a_earliest E0_a (Or.inr ⟨(hw _ (List.mem_of_getElem? (i := 55) rfl)), rfl, hnm⟩) (hw _ (List.mem_of_getElem? (i := 48) rfl)) (ty := .long) (by decide) rfl rfl (g := (mkF m 6 #[.val (.ref a), .val (.long ea), .second, .val (.long la), .second, .val (.ref st1), .val .null, .val (.int al), .val (.ref te1)] [(.long ea), (.ref a)])) rfl rfl (hb hby dS9_6)
  have Fw102 := F0_a_earliest.same W102
  have F103_latest_a := F0_a_latest.other W102 (Or.inr (slot_ne (Or.inr (hw _ (List.mem_of_getElem? (i := 57) rfl))) (Or.inr (hw _ (List.mem_of_getElem? (i := 55) rfl))) (by decide) (t := .long) (t' := .long) (by decide) (by decide)))
  have F103_starting_a := F0_a_starting.other W102 (Or.inr (slot_ne (Or.inr (hw _ (List.mem_of_getElem? (i := 59) rfl))) (Or.inr (hw _ (List.mem_of_getElem? (i := 55) rfl))) (by decide) (t := (.object "com/example/runpulse/runpulse/RunState$Event")) (t' := .long) (by decide) (by decide)))
  have F103_running_a := F0_a_running.other W102 (Or.inr (slot_ne (Or.inr (hw _ (List.mem_of_getElem? (i := 61) rfl))) (Or.inr (hw _ (List.mem_of_getElem? (i := 55) rfl))) (by decide) (t := (.object "java/lang/Long")) (t' := .long) (by decide) (by decide)))
  have F103_alive_a := F0_a_alive.other W102 (Or.inr (slot_ne (Or.inr (hw _ (List.mem_of_getElem? (i := 63) rfl))) (Or.inr (hw _ (List.mem_of_getElem? (i := 55) rfl))) (by decide) (t := .boolean) (t' := .long) (by decide) (by decide)))
  have F103_terminal_a := F0_a_terminal.other W102 (Or.inr (slot_ne (Or.inr (hw _ (List.mem_of_getElem? (i := 65) rfl))) (Or.inr (hw _ (List.mem_of_getElem? (i := 55) rfl))) (by decide) (t := (.object "com/example/runpulse/runpulse/RunState$Event")) (t' := .long) (by decide) (by decide)))
  have E103_a := E0_a.wr W102
  have Z103 := Nat.le_trans Z0 (Keep.of_wr W102).1
  have K103 : Keep h0 h102 [a] := (Keep.refl h0 [a]).wr W102 (Or.inl (by simp))
  have N102 := Fr.snoc X102 N101 ge0_a
  refine Go.by st102 ?_
  show Go _ _ _ _ _ _ _ (T102.setTop (mkF m 9 #[.val (.ref a), .val (.long ea), .second, .val (.long la), .second, .val (.ref st1), .val .null, .val (.int al), .val (.ref te1)] []))
  refine Go.by (fun _ kont => XS.aloadN X102.here hx rfl (hb hby dS9_9) rfl rfl (XS.lloadN X102.here hx rfl (hb hby dS9_10) rfl kont)) ?_
  show Go _ _ _ _ _ _ _ (T102.setTop (mkF m 11 #[.val (.ref a), .val (.long ea), .second, .val (.long la), .second, .val (.ref st1), .val .null, .val (.int al), .val (.ref te1)] [(.long la), (.ref a)]))
  obtain ⟨T104, h104, X104, e104, W104, st104⟩ := putF X102 hx hZ hown (host := "") (Or.inl (hw _ (List.mem_of_getElem? (i := 56) rfl))) Via.refl e102 F103_latest_a E103_a (Or.inr ⟨(hw _ (List.mem_of_getElem? (i := 57) rfl)), rfl, hnm⟩) (hw _ (List.mem_of_getElem? (i := 48) rfl)) (ty := .long) (by decide) rfl rfl (g := (mkF m 11 #[.val (.ref a), .val (.long ea), .second, .val (.long la), .second, .val (.ref st1), .val .null, .val (.int al), .val (.ref te1)] [(.long la), (.ref a)])) rfl rfl (hb hby dS9_11)
  have Fw104 := F103_latest_a.same W104
  have F105_earliest_a := Fw102.other W104 (Or.inr (slot_ne (Or.inr (hw _ (List.mem_of_getElem? (i := 55) rfl))) (Or.inr (hw _ (List.mem_of_getElem? (i := 57) rfl))) (by decide) (t := .long) (t' := .long) (by decide) (by decide)))
  have F105_starting_a := F103_starting_a.other W104 (Or.inr (slot_ne (Or.inr (hw _ (List.mem_of_getElem? (i := 59) rfl))) (Or.inr (hw _ (List.mem_of_getElem? (i := 57) rfl))) (by decide) (t := (.object "com/example/runpulse/runpulse/RunState$Event")) (t' := .long) (by decide) (by decide)))
  have F105_running_a := F103_running_a.other W104 (Or.inr (slot_ne (Or.inr (hw _ (List.mem_of_getElem? (i := 61) rfl))) (Or.inr (hw _ (List.mem_of_getElem? (i := 57) rfl))) (by decide) (t := (.object "java/lang/Long")) (t' := .long) (by decide) (by decide)))
  have F105_alive_a := F103_alive_a.other W104 (Or.inr (slot_ne (Or.inr (hw _ (List.mem_of_getElem? (i := 63) rfl))) (Or.inr (hw _ (List.mem_of_getElem? (i := 57) rfl))) (by decide) (t := .boolean) (t' := .long) (by decide) (by decide)))
  have F105_terminal_a := F103_terminal_a.other W104 (Or.inr (slot_ne (Or.inr (hw _ (List.mem_of_getElem? (i := 65) rfl))) (Or.inr (hw _ (List.mem_of_getElem? (i := 57) rfl))) (by decide) (t := (.object "com/example/runpulse/runpulse/RunState$Event")) (t' := .long) (by decide) (by decide)))
  have E105_a := E103_a.wr W104
  have Z105 := Nat.le_trans Z103 (Keep.of_wr W104).1
  have K105 : Keep h0 h104 [a] := K103.wr W104 (Or.inl (by simp))
  have N104 := Fr.snoc X104 N102 ge0_a
  refine Go.by st104 ?_
  show Go _ _ _ _ _ _ _ (T104.setTop (mkF m 14 #[.val (.ref a), .val (.long ea), .second, .val (.long la), .second, .val (.ref st1), .val .null, .val (.int al), .val (.ref te1)] []))
  refine Go.by (fun _ kont => XS.aloadN X104.here hx rfl (hb hby dS9_14) rfl rfl (XS.aload X104.here hx rfl (hb hby dS9_15) rfl rfl kont)) ?_
  show Go _ _ _ _ _ _ _ (T104.setTop (mkF m 17 #[.val (.ref a), .val (.long ea), .second, .val (.long la), .second, .val (.ref st1), .val .null, .val (.int al), .val (.ref te1)] [(.ref st1), (.ref a)]))
  obtain ⟨T106, h106, X106, e106, W106, st106⟩ := putF X104 hx hZ hown (host := "") (Or.inl (hw _ (List.mem_of_getElem? (i := 58) rfl))) Via.refl e104 F105_starting_a E105_a (Or.inr ⟨(hw _ (List.mem_of_getElem? (i := 59) rfl)), rfl, hnm⟩) (hw _ (List.mem_of_getElem? (i := 48) rfl)) (ty := (.object "com/example/runpulse/runpulse/RunState$Event")) (by decide) rfl rfl (g := (mkF m 17 #[.val (.ref a), .val (.long ea), .second, .val (.long la), .second, .val (.ref st1), .val .null, .val (.int al), .val (.ref te1)] [(.ref st1), (.ref a)])) rfl rfl (hb hby dS9_17)
  have Fw106 := F105_starting_a.same W106
  have F107_earliest_a := F105_earliest_a.other W106 (Or.inr (slot_ne (Or.inr (hw _ (List.mem_of_getElem? (i := 55) rfl))) (Or.inr (hw _ (List.mem_of_getElem? (i := 59) rfl))) (by decide) (t := .long) (t' := (.object "com/example/runpulse/runpulse/RunState$Event")) (by decide) (by decide)))
  have F107_latest_a := Fw104.other W106 (Or.inr (slot_ne (Or.inr (hw _ (List.mem_of_getElem? (i := 57) rfl))) (Or.inr (hw _ (List.mem_of_getElem? (i := 59) rfl))) (by decide) (t := .long) (t' := (.object "com/example/runpulse/runpulse/RunState$Event")) (by decide) (by decide)))
  have F107_running_a := F105_running_a.other W106 (Or.inr (slot_ne (Or.inr (hw _ (List.mem_of_getElem? (i := 61) rfl))) (Or.inr (hw _ (List.mem_of_getElem? (i := 59) rfl))) (by decide) (t := (.object "java/lang/Long")) (t' := (.object "com/example/runpulse/runpulse/RunState$Event")) (by decide) (by decide)))
  have F107_alive_a := F105_alive_a.other W106 (Or.inr (slot_ne (Or.inr (hw _ (List.mem_of_getElem? (i := 63) rfl))) (Or.inr (hw _ (List.mem_of_getElem? (i := 59) rfl))) (by decide) (t := .boolean) (t' := (.object "com/example/runpulse/runpulse/RunState$Event")) (by decide) (by decide)))
  have F107_terminal_a := F105_terminal_a.other W106 (Or.inr (slot_ne (Or.inr (hw _ (List.mem_of_getElem? (i := 65) rfl))) (Or.inr (hw _ (List.mem_of_getElem? (i := 59) rfl))) (by decide) (t := (.object "com/example/runpulse/runpulse/RunState$Event")) (t' := (.object "com/example/runpulse/runpulse/RunState$Event")) (by decide) (by decide)))
  have E107_a := E105_a.wr W106
  have Z107 := Nat.le_trans Z105 (Keep.of_wr W106).1
  have K107 : Keep h0 h106 [a] := K105.wr W106 (Or.inl (by simp))
  have N106 := Fr.snoc X106 N104 ge0_a
  refine Go.by st106 ?_
  show Go _ _ _ _ _ _ _ (T106.setTop (mkF m 20 #[.val (.ref a), .val (.long ea), .second, .val (.long la), .second, .val (.ref st1), .val .null, .val (.int al), .val (.ref te1)] []))
  refine Go.by (fun _ kont => XS.aloadN X106.here hx rfl (hb hby dS9_20) rfl rfl (XS.aload X106.here hx rfl (hb hby dS9_21) rfl rfl kont)) ?_
  show Go _ _ _ _ _ _ _ (T106.setTop (mkF m 23 #[.val (.ref a), .val (.long ea), .second, .val (.long la), .second, .val (.ref st1), .val .null, .val (.int al), .val (.ref te1)] [.null, (.ref a)]))
  obtain ⟨T108, h108, X108, e108, W108, st108⟩ := putF X106 hx hZ hown (host := "") (Or.inl (hw _ (List.mem_of_getElem? (i := 60) rfl))) Via.refl e106 F107_running_a E107_a (Or.inr ⟨(hw _ (List.mem_of_getElem? (i := 61) rfl)), rfl, hnm⟩) (hw _ (List.mem_of_getElem? (i := 48) rfl)) (ty := (.object "java/lang/Long")) (by decide) rfl rfl (g := (mkF m 23 #[.val (.ref a), .val (.long ea), .second, .val (.long la), .second, .val (.ref st1), .val .null, .val (.int al), .val (.ref te1)] [.null, (.ref a)])) rfl rfl (hb hby dS9_23)
  have Fw108 := F107_running_a.same W108
  have F109_earliest_a := F107_earliest_a.other W108 (Or.inr (slot_ne (Or.inr (hw _ (List.mem_of_getElem? (i := 55) rfl))) (Or.inr (hw _ (List.mem_of_getElem? (i := 61) rfl))) (by decide) (t := .long) (t' := (.object "java/lang/Long")) (by decide) (by decide)))
  have F109_latest_a := F107_latest_a.other W108 (Or.inr (slot_ne (Or.inr (hw _ (List.mem_of_getElem? (i := 57) rfl))) (Or.inr (hw _ (List.mem_of_getElem? (i := 61) rfl))) (by decide) (t := .long) (t' := (.object "java/lang/Long")) (by decide) (by decide)))
  have F109_starting_a := Fw106.other W108 (Or.inr (slot_ne (Or.inr (hw _ (List.mem_of_getElem? (i := 59) rfl))) (Or.inr (hw _ (List.mem_of_getElem? (i := 61) rfl))) (by decide) (t := (.object "com/example/runpulse/runpulse/RunState$Event")) (t' := (.object "java/lang/Long")) (by decide) (by decide)))
  have F109_alive_a := F107_alive_a.other W108 (Or.inr (slot_ne (Or.inr (hw _ (List.mem_of_getElem? (i := 63) rfl))) (Or.inr (hw _ (List.mem_of_getElem? (i := 61) rfl))) (by decide) (t := .boolean) (t' := (.object "java/lang/Long")) (by decide) (by decide)))
  have F109_terminal_a := F107_terminal_a.other W108 (Or.inr (slot_ne (Or.inr (hw _ (List.mem_of_getElem? (i := 65) rfl))) (Or.inr (hw _ (List.mem_of_getElem? (i := 61) rfl))) (by decide) (t := (.object "com/example/runpulse/runpulse/RunState$Event")) (t' := (.object "java/lang/Long")) (by decide) (by decide)))
  have E109_a := E107_a.wr W108
  have Z109 := Nat.le_trans Z107 (Keep.of_wr W108).1
  have K109 : Keep h0 h108 [a] := K107.wr W108 (Or.inl (by simp))
  have N108 := Fr.snoc X108 N106 ge0_a
  refine Go.by st108 ?_
  show Go _ _ _ _ _ _ _ (T108.setTop (mkF m 26 #[.val (.ref a), .val (.long ea), .second, .val (.long la), .second, .val (.ref st1), .val .null, .val (.int al), .val (.ref te1)] []))
  refine Go.by (fun _ kont => XS.aloadN X108.here hx rfl (hb hby dS9_26) rfl rfl (XS.iload X108.here hx rfl (hb hby dS9_27) rfl kont)) ?_
  show Go _ _ _ _ _ _ _ (T108.setTop (mkF m 29 #[.val (.ref a), .val (.long ea), .second, .val (.long la), .second, .val (.ref st1), .val .null, .val (.int al), .val (.ref te1)] [(.int al), (.ref a)]))
  obtain ⟨T110, h110, X110, e110, W110, st110⟩ := putF X108 hx hZ hown (host := "") (Or.inl (hw _ (List.mem_of_getElem? (i := 62) rfl))) Via.refl e108 F109_alive_a E109_a (Or.inr ⟨(hw _ (List.mem_of_getElem? (i := 63) rfl)), rfl, hnm⟩) (hw _ (List.mem_of_getElem? (i := 48) rfl)) (ty := .boolean) (by decide) (own_zn hal) (own_zf hal) (g := (mkF m 29 #[.val (.ref a), .val (.long ea), .second, .val (.long la), .second, .val (.ref st1), .val .null, .val (.int al), .val (.ref te1)] [(.int al), (.ref a)])) rfl rfl (hb hby dS9_29)
  have Fw110 := F109_alive_a.same W110
  have F111_earliest_a := F109_earliest_a.other W110 (Or.inr (slot_ne (Or.inr (hw _ (List.mem_of_getElem? (i := 55) rfl))) (Or.inr (hw _ (List.mem_of_getElem? (i := 63) rfl))) (by decide) (t := .long) (t' := .boolean) (by decide) (by decide)))
  have F111_latest_a := F109_latest_a.other W110 (Or.inr (slot_ne (Or.inr (hw _ (List.mem_of_getElem? (i := 57) rfl))) (Or.inr (hw _ (List.mem_of_getElem? (i := 63) rfl))) (by decide) (t := .long) (t' := .boolean) (by decide) (by decide)))
  have F111_starting_a := F109_starting_a.other W110 (Or.inr (slot_ne (Or.inr (hw _ (List.mem_of_getElem? (i := 59) rfl))) (Or.inr (hw _ (List.mem_of_getElem? (i := 63) rfl))) (by decide) (t := (.object "com/example/runpulse/runpulse/RunState$Event")) (t' := .boolean) (by decide) (by decide)))
  have F111_running_a := Fw108.other W110 (Or.inr (slot_ne (Or.inr (hw _ (List.mem_of_getElem? (i := 61) rfl))) (Or.inr (hw _ (List.mem_of_getElem? (i := 63) rfl))) (by decide) (t := (.object "java/lang/Long")) (t' := .boolean) (by decide) (by decide)))
  have F111_terminal_a := F109_terminal_a.other W110 (Or.inr (slot_ne (Or.inr (hw _ (List.mem_of_getElem? (i := 65) rfl))) (Or.inr (hw _ (List.mem_of_getElem? (i := 63) rfl))) (by decide) (t := (.object "com/example/runpulse/runpulse/RunState$Event")) (t' := .boolean) (by decide) (by decide)))
  have E111_a := E109_a.wr W110
  have Z111 := Nat.le_trans Z109 (Keep.of_wr W110).1
  have K111 : Keep h0 h110 [a] := K109.wr W110 (Or.inl (by simp))
  have N110 := Fr.snoc X110 N108 ge0_a
  refine Go.by st110 ?_
  show Go _ _ _ _ _ _ _ (T110.setTop (mkF m 32 #[.val (.ref a), .val (.long ea), .second, .val (.long la), .second, .val (.ref st1), .val .null, .val (.int al), .val (.ref te1)] []))
  refine Go.by (fun _ kont => XS.aloadN X110.here hx rfl (hb hby dS9_32) rfl rfl (XS.aload X110.here hx rfl (hb hby dS9_33) rfl rfl kont)) ?_
  show Go _ _ _ _ _ _ _ (T110.setTop (mkF m 35 #[.val (.ref a), .val (.long ea), .second, .val (.long la), .second, .val (.ref st1), .val .null, .val (.int al), .val (.ref te1)] [(.ref te1), (.ref a)]))
  obtain ⟨T112, h112, X112, e112, W112, st112⟩ := putF X110 hx hZ hown (host := "") (Or.inl (hw _ (List.mem_of_getElem? (i := 64) rfl))) Via.refl e110 F111_terminal_a E111_a (Or.inr ⟨(hw _ (List.mem_of_getElem? (i := 65) rfl)), rfl, hnm⟩) (hw _ (List.mem_of_getElem? (i := 48) rfl)) (ty := (.object "com/example/runpulse/runpulse/RunState$Event")) (by decide) rfl rfl (g := (mkF m 35 #[.val (.ref a), .val (.long ea), .second, .val (.long la), .second, .val (.ref st1), .val .null, .val (.int al), .val (.ref te1)] [(.ref te1), (.ref a)])) rfl rfl (hb hby dS9_35)
  have Fw112 := F111_terminal_a.same W112
  have F113_earliest_a := F111_earliest_a.other W112 (Or.inr (slot_ne (Or.inr (hw _ (List.mem_of_getElem? (i := 55) rfl))) (Or.inr (hw _ (List.mem_of_getElem? (i := 65) rfl))) (by decide) (t := .long) (t' := (.object "com/example/runpulse/runpulse/RunState$Event")) (by decide) (by decide)))
  have F113_latest_a := F111_latest_a.other W112 (Or.inr (slot_ne (Or.inr (hw _ (List.mem_of_getElem? (i := 57) rfl))) (Or.inr (hw _ (List.mem_of_getElem? (i := 65) rfl))) (by decide) (t := .long) (t' := (.object "com/example/runpulse/runpulse/RunState$Event")) (by decide) (by decide)))
  have F113_starting_a := F111_starting_a.other W112 (Or.inr (slot_ne (Or.inr (hw _ (List.mem_of_getElem? (i := 59) rfl))) (Or.inr (hw _ (List.mem_of_getElem? (i := 65) rfl))) (by decide) (t := (.object "com/example/runpulse/runpulse/RunState$Event")) (t' := (.object "com/example/runpulse/runpulse/RunState$Event")) (by decide) (by decide)))
  have F113_running_a := F111_running_a.other W112 (Or.inr (slot_ne (Or.inr (hw _ (List.mem_of_getElem? (i := 61) rfl))) (Or.inr (hw _ (List.mem_of_getElem? (i := 65) rfl))) (by decide) (t := (.object "java/lang/Long")) (t' := (.object "com/example/runpulse/runpulse/RunState$Event")) (by decide) (by decide)))
  have F113_alive_a := Fw110.other W112 (Or.inr (slot_ne (Or.inr (hw _ (List.mem_of_getElem? (i := 63) rfl))) (Or.inr (hw _ (List.mem_of_getElem? (i := 65) rfl))) (by decide) (t := .boolean) (t' := (.object "com/example/runpulse/runpulse/RunState$Event")) (by decide) (by decide)))
  have E113_a := E111_a.wr W112
  have Z113 := Nat.le_trans Z111 (Keep.of_wr W112).1
  have K113 : Keep h0 h112 [a] := K111.wr W112 (Or.inl (by simp))
  have N112 := Fr.snoc X112 N110 ge0_a
  refine Go.by st112 ?_
  show Go _ _ _ _ _ _ _ (T112.setTop (mkF m 38 #[.val (.ref a), .val (.long ea), .second, .val (.long la), .second, .val (.ref st1), .val .null, .val (.int al), .val (.ref te1)] []))
  refine Go.retV X112 hx hret hlk (hb hby dS9_38) ?_ (by decide) (by decide)
  show QS9 Z a ea la st1 al te1 h0 n0 none T112.heap _
  rw [e112]
  exact ⟨rfl, N112, K113, E113_a, F113_earliest_a, F113_latest_a, F113_starting_a, F113_running_a, F113_alive_a, Fw112⟩

theorem dS10_0 : decode prog_35_method_1_code 0 = .ok (.aload_n 0, 1) := by decide +kernel
theorem dS10_1 : decode prog_35_method_1_code 1 = .ok (.invokespecial 1, 3) := by decide +kernel
theorem dS10_4 : decode prog_35_method_1_code 4 = .ok (.aload_n 0, 1) := by decide +kernel
theorem dS10_5 : decode prog_35_method_1_code 5 = .ok (.lload_n 1, 1) := by decide +kernel
theorem dS10_6 : decode prog_35_method_1_code 6 = .ok (.putfield 7, 3) := by decide +kernel
theorem dS10_9 : decode prog_35_method_1_code 9 = .ok (.aload_n 0, 1) := by decide +kernel
theorem dS10_10 : decode prog_35_method_1_code 10 = .ok (.lload_n 3, 1) := by decide +kernel
theorem dS10_11 : decode prog_35_method_1_code 11 = .ok (.putfield 13, 3) := by decide +kernel
theorem dS10_14 : decode prog_35_method_1_code 14 = .ok (.aload_n 0, 1) := by decide +kernel
theorem dS10_15 : decode prog_35_method_1_code 15 = .ok (.aload 5, 2) := by decide +kernel
theorem dS10_17 : decode prog_35_method_1_code 17 = .ok (.putfield 16, 3) := by decide +kernel
theorem dS10_20 : decode prog_35_method_1_code 20 = .ok (.aload_n 0, 1) := by decide +kernel
theorem dS10_21 : decode prog_35_method_1_code 21 = .ok (.aload 6, 2) := by decide +kernel
theorem dS10_23 : decode prog_35_method_1_code 23 = .ok (.putfield 20, 3) := by decide +kernel
theorem dS10_26 : decode prog_35_method_1_code 26 = .ok (.aload_n 0, 1) := by decide +kernel
theorem dS10_27 : decode prog_35_method_1_code 27 = .ok (.iload 7, 2) := by decide +kernel
theorem dS10_29 : decode prog_35_method_1_code 29 = .ok (.putfield 24, 3) := by decide +kernel
theorem dS10_32 : decode prog_35_method_1_code 32 = .ok (.aload_n 0, 1) := by decide +kernel
theorem dS10_33 : decode prog_35_method_1_code 33 = .ok (.aload 8, 2) := by decide +kernel
theorem dS10_35 : decode prog_35_method_1_code 35 = .ok (.putfield 28, 3) := by decide +kernel
theorem dS10_38 : decode prog_35_method_1_code 38 = .ok (.return_, 1) := by decide +kernel
theorem pdS10_0 : parseMethodDescriptor "()V" = some ⟨[], none⟩ := by decide +kernel
theorem pnS10 : plainName "com/example/runpulse/runpulse/RunState" = true := by first | (simp [plainName, overriddenIn]; done) | decide +kernel
theorem efS10 (m : MethodId) (a : Addr) (ea : Int64) (la : Int64) (rn1 : Addr) (al : Int32) (te1 : Addr) : entryFrame m #[(.ref a), (.long ea), (.long la), .null, (.ref rn1), (.int al), (.ref te1)] 9 = mkF m 0 #[.val (.ref a), .val (.long ea), .second, .val (.long la), .second, .val .null, .val (.ref rn1), .val (.int al), .val (.ref te1)] [] := by first | (simp [entryFrame, mkF, argsToLocals, Value.category]; done) | rfl
def QS10 (Z : State) (a : Addr) (ea : Int64) (la : Int64) (rn1 : Addr) (al : Int32) (te1 : Addr) (h0 : Heap) (n0 : Nat) (v : Option Value) (h : Heap) (L : List Loc) : Prop := (v = none ∧ Fr n0 L ∧ Keep h0 h [a] ∧ Exa Z h a "com/example/runpulse/runpulse/RunState" ∧ Fld Z h a "com/example/runpulse/runpulse/RunState" "earliest" "J" (.long ea) ∧ Fld Z h a "com/example/runpulse/runpulse/RunState" "latest" "J" (.long la) ∧ Fld Z h a "com/example/runpulse/runpulse/RunState" "starting" "Lcom/example/runpulse/runpulse/RunState$Event;" .null ∧ Fld Z h a "com/example/runpulse/runpulse/RunState" "running" "Ljava/lang/Long;" (.ref rn1) ∧ Fld Z h a "com/example/runpulse/runpulse/RunState" "alive" "Z" (.int al) ∧ Fld Z h a "com/example/runpulse/runpulse/RunState" "terminal" "Lcom/example/runpulse/runpulse/RunState$Event;" (.ref te1))
set_option maxRecDepth 65536 in
set_option maxHeartbeats 40000000 in
theorem rmS10 (l : Launch) (Z : State) (a0 : Array Value) (hw : ∀ d ∈ tables_1, d.before a0 Z = true) (ws : List Jvm.Cond) (a : Addr) (ea : Int64) (la : Int64) (rn1 : Addr) (al : Int32) (te1 : Addr) (h0 : Heap) (n0 : Nat) (Z0 : n0 ≤ h0.size) (E0_a : Exa Z h0 a "com/example/runpulse/runpulse/RunState") (F0_a_earliest : Fld Z h0 a "com/example/runpulse/runpulse/RunState" "earliest" "J" (.long (0 : Int64))) (F0_a_latest : Fld Z h0 a "com/example/runpulse/runpulse/RunState" "latest" "J" (.long (0 : Int64))) (F0_a_starting : Fld Z h0 a "com/example/runpulse/runpulse/RunState" "starting" "Lcom/example/runpulse/runpulse/RunState$Event;" .null) (F0_a_running : Fld Z h0 a "com/example/runpulse/runpulse/RunState" "running" "Ljava/lang/Long;" .null) (F0_a_alive : Fld Z h0 a "com/example/runpulse/runpulse/RunState" "alive" "Z" (.int (0 : Int32))) (F0_a_terminal : Fld Z h0 a "com/example/runpulse/runpulse/RunState" "terminal" "Lcom/example/runpulse/runpulse/RunState$Event;" .null) (ge0_a : n0 ≤ a) (hal : al = (0 : Int32) ∨ al = (1 : Int32)) :
    MetFree l (⟨"com/example/runpulse/runpulse/RunState", "<init>", "(JJLcom/example/runpulse/runpulse/RunState$Event;Ljava/lang/Long;ZLcom/example/runpulse/runpulse/RunState$Event;)V"⟩ : MethodName) (head1 (Jvm.Cond.code (⟨"com/example/runpulse/runpulse/RunState", "<init>", "(JJLcom/example/runpulse/runpulse/RunState$Event;Ljava/lang/Long;ZLcom/example/runpulse/runpulse/RunState$Event;)V"⟩ : MethodName) prog_35_method_1_code 9 none :: ws) ({ frames := 2, cells := 0, slots := 0, locals := 24 } : Room)) (fun aa_ U_ => aa_ = #[(.ref a), (.long ea), (.long la), .null, (.ref rn1), (.int al), (.ref te1)] ∧ Z.Warmed39 U_.vm ∧ U_.heap = h0) (fun _ _ _ _ _ => True) (fun _ U_ o_ V_ => ∃ v_ L_, o_ = .returned v_ ∧ QS10 Z a ea la rn1 al te1 h0 n0 v_ V_.heap L_ ∧ FrameEnd U_ o_ V_ L_ ({ frames := 2, cells := 0, slots := 0, locals := 24 } : Room).cells ({ frames := 2, cells := 0, slots := 0, locals := 24 } : Room).slots) := by
  refine MetFree.of_bodySF (plainFor_of_name pnS10) hisR ?_
  intro p e s m args below meth c s₁ Bd hml0 hP hK
  obtain ⟨rfl, hZ, hh⟩ := hP
  have hx := Bd.exec
  have hby := Bd.bytes
  have hml : c.maxLocals = 9 := hml0
  have hown : s.vm.findClass "com/example/runpulse/runpulse/RunState" = some m.cls := findClass_of_methodNamed Bd.named
  have hnm := (name_of_methodNamed Bd.named Bd.method).1
  have hlk : meth.locks = false := BodyLoose.notSynchronized Bd
  have hret : meth.sig.returnType = none := Bd.returns
  have X0 : Stand p l e ({ frames := 2, cells := 0, slots := 0, locals := 24 } : Room) s m #[(.ref a), (.long ea), (.long la), .null, (.ref rn1), (.int al), (.ref te1)] below meth c s₁ [] 0 0 := Stand.of_body Bd
  have e0 : s₁.heap = h0 := by rw [← hh, Bd.state]; rfl
  have N0 := Fr.nil n0
  show Go p e below s ({ frames := 2, cells := 0, slots := 0, locals := 24 } : Room).cells ({ frames := 2, cells := 0, slots := 0, locals := 24 } : Room).slots (QS10 Z a ea la rn1 al te1 h0 n0) (s₁.setTop (entryFrame m #[(.ref a), (.long ea), (.long la), .null, (.ref rn1), (.int al), (.ref te1)] 9))
  rw [efS10]
  refine Go.by (fun _ kont => XS.aloadN X0.here hx rfl (hb hby dS10_0) rfl rfl kont) ?_
  show Go _ _ _ _ _ _ _ (s₁.setTop (mkF m 1 #[.val (.ref a), .val (.long ea), .second, .val (.long la), .second, .val .null, .val (.ref rn1), .val (.int al), .val (.ref te1)] [(.ref a)]))
  obtain ⟨_, _, ⟨T101, L101, k101, n101⟩, -, X101, ⟨Lc101, hQ101, l101, y101, z101⟩, st101⟩ := X0.specialBack hx (y := (⟨"java/lang/Record", "<init>", "()V"⟩ : MethodName)) rfl hown (mvT hZ (hw _ (List.mem_of_getElem? (i := 53) rfl))) (mvT hZ (hw _ (List.mem_of_getElem? (i := 13) rfl))) (mvT hZ (hw _ (List.mem_of_getElem? (i := 16) rfl))) (by decide) (backOf (W := 0) (rmR l Z a0 hw [] a h0 n0 Z0 ) hZ (hw _ (List.mem_of_getElem? (i := 16) rfl)) (hw _ (List.mem_of_getElem? (i := 15) rfl)) (by decide) (by decide)) (g := (mkF m 1 #[.val (.ref a), .val (.long ea), .second, .val (.long la), .second, .val .null, .val (.ref rn1), .val (.int al), .val (.ref te1)] [(.ref a)])) rfl (by rw [hml]; rfl) (Steps.refl _) (a := a) (argsL := []) (rest := []) (lenOf pdS10_0 rfl) rfl (by show 2 * 0 + _ ≤ _; exact Nat.le_of_eq rfl) (hb hby dS10_1) (fun _ _ => ⟨rfl, e0, (by decide : 0 + 0 ≤ _), (by decide : 0 + 0 ≤ _)⟩)
  dsimp only [Pt.U, Pt.locs, Pt.cells, Pt.slots] at X101 l101 y101 z101 st101 hQ101
  subst l101 y101 z101
  obtain ⟨rfl, N101q, eh101⟩ := hQ101
  have N101 := Fr.app N0 N101q
  refine Go.tr st101 ?_
  show Go _ _ _ _ _ _ _ (T101.setTop (mkF m 4 #[.val (.ref a), .val (.long ea), .second, .val (.long la), .second, .val .null, .val (.ref rn1), .val (.int al), .val (.ref te1)] []))
  refine Go.by (fun _ kont => XS.aloadN X101.here hx rfl (hb hby dS10_4) rfl rfl (XS.lloadN X101.here hx rfl (hb hby dS10_5) rfl kont)) ?_
  show Go _ _ _ _ _ _ _ (T101.setTop (mkF m 6 #[.val (.ref a), .val (.long ea), .second, .val (.long la), .second, .val .null, .val (.ref rn1), .val (.int al), .val (.ref te1)] [(.long ea), (.ref a)]))
  obtain ⟨T102, h102, X102, e102, W102, st102⟩ := putF X101 hx hZ hown (host := "") (Or.inl (hw _ (List.mem_of_getElem? (i := 54) rfl))) Via.refl eh101 F0_a_earliest E0_a (Or.inr ⟨(hw _ (List.mem_of_getElem? (i := 55) rfl)), rfl, hnm⟩) (hw _ (List.mem_of_getElem? (i := 48) rfl)) (ty := .long) (by decide) rfl rfl (g := (mkF m 6 #[.val (.ref a), .val (.long ea), .second, .val (.long la), .second, .val .null, .val (.ref rn1), .val (.int al), .val (.ref te1)] [(.long ea), (.ref a)])) rfl rfl (hb hby dS10_6)
  have Fw102 := F0_a_earliest.same W102
  have F103_latest_a := F0_a_latest.other W102 (Or.inr (slot_ne (Or.inr (hw _ (List.mem_of_getElem? (i := 57) rfl))) (Or.inr (hw _ (List.mem_of_getElem? (i := 55) rfl))) (by decide) (t := .long) (t' := .long) (by decide) (by decide)))
  have F103_starting_a := F0_a_starting.other W102 (Or.inr (slot_ne (Or.inr (hw _ (List.mem_of_getElem? (i := 59) rfl))) (Or.inr (hw _ (List.mem_of_getElem? (i := 55) rfl))) (by decide) (t := (.object "com/example/runpulse/runpulse/RunState$Event")) (t' := .long) (by decide) (by decide)))
  have F103_running_a := F0_a_running.other W102 (Or.inr (slot_ne (Or.inr (hw _ (List.mem_of_getElem? (i := 61) rfl))) (Or.inr (hw _ (List.mem_of_getElem? (i := 55) rfl))) (by decide) (t := (.object "java/lang/Long")) (t' := .long) (by decide) (by decide)))
  have F103_alive_a := F0_a_alive.other W102 (Or.inr (slot_ne (Or.inr (hw _ (List.mem_of_getElem? (i := 63) rfl))) (Or.inr (hw _ (List.mem_of_getElem? (i := 55) rfl))) (by decide) (t := .boolean) (t' := .long) (by decide) (by decide)))
  have F103_terminal_a := F0_a_terminal.other W102 (Or.inr (slot_ne (Or.inr (hw _ (List.mem_of_getElem? (i := 65) rfl))) (Or.inr (hw _ (List.mem_of_getElem? (i := 55) rfl))) (by decide) (t := (.object "com/example/runpulse/runpulse/RunState$Event")) (t' := .long) (by decide) (by decide)))
  have E103_a := E0_a.wr W102
  have Z103 := Nat.le_trans Z0 (Keep.of_wr W102).1
  have K103 : Keep h0 h102 [a] := (Keep.refl h0 [a]).wr W102 (Or.inl (by simp))
  have N102 := Fr.snoc X102 N101 ge0_a
  refine Go.by st102 ?_
  show Go _ _ _ _ _ _ _ (T102.setTop (mkF m 9 #[.val (.ref a), .val (.long ea), .second, .val (.long la), .second, .val .null, .val (.ref rn1), .val (.int al), .val (.ref te1)] []))
  refine Go.by (fun _ kont => XS.aloadN X102.here hx rfl (hb hby dS10_9) rfl rfl (XS.lloadN X102.here hx rfl (hb hby dS10_10) rfl kont)) ?_
  show Go _ _ _ _ _ _ _ (T102.setTop (mkF m 11 #[.val (.ref a), .val (.long ea), .second, .val (.long la), .second, .val .null, .val (.ref rn1), .val (.int al), .val (.ref te1)] [(.long la), (.ref a)]))
  obtain ⟨T104, h104, X104, e104, W104, st104⟩ := putF X102 hx hZ hown (host := "") (Or.inl (hw _ (List.mem_of_getElem? (i := 56) rfl))) Via.refl e102 F103_latest_a E103_a (Or.inr ⟨(hw _ (List.mem_of_getElem? (i := 57) rfl)), rfl, hnm⟩) (hw _ (List.mem_of_getElem? (i := 48) rfl)) (ty := .long) (by decide) rfl rfl (g := (mkF m 11 #[.val (.ref a), .val (.long ea), .second, .val (.long la), .second, .val .null, .val (.ref rn1), .val (.int al), .val (.ref te1)] [(.long la), (.ref a)])) rfl rfl (hb hby dS10_11)
  have Fw104 := F103_latest_a.same W104
  have F105_earliest_a := Fw102.other W104 (Or.inr (slot_ne (Or.inr (hw _ (List.mem_of_getElem? (i := 55) rfl))) (Or.inr (hw _ (List.mem_of_getElem? (i := 57) rfl))) (by decide) (t := .long) (t' := .long) (by decide) (by decide)))
  have F105_starting_a := F103_starting_a.other W104 (Or.inr (slot_ne (Or.inr (hw _ (List.mem_of_getElem? (i := 59) rfl))) (Or.inr (hw _ (List.mem_of_getElem? (i := 57) rfl))) (by decide) (t := (.object "com/example/runpulse/runpulse/RunState$Event")) (t' := .long) (by decide) (by decide)))
  have F105_running_a := F103_running_a.other W104 (Or.inr (slot_ne (Or.inr (hw _ (List.mem_of_getElem? (i := 61) rfl))) (Or.inr (hw _ (List.mem_of_getElem? (i := 57) rfl))) (by decide) (t := (.object "java/lang/Long")) (t' := .long) (by decide) (by decide)))
  have F105_alive_a := F103_alive_a.other W104 (Or.inr (slot_ne (Or.inr (hw _ (List.mem_of_getElem? (i := 63) rfl))) (Or.inr (hw _ (List.mem_of_getElem? (i := 57) rfl))) (by decide) (t := .boolean) (t' := .long) (by decide) (by decide)))
  have F105_terminal_a := F103_terminal_a.other W104 (Or.inr (slot_ne (Or.inr (hw _ (List.mem_of_getElem? (i := 65) rfl))) (Or.inr (hw _ (List.mem_of_getElem? (i := 57) rfl))) (by decide) (t := (.object "com/example/runpulse/runpulse/RunState$Event")) (t' := .long) (by decide) (by decide)))
  have E105_a := E103_a.wr W104
  have Z105 := Nat.le_trans Z103 (Keep.of_wr W104).1
  have K105 : Keep h0 h104 [a] := K103.wr W104 (Or.inl (by simp))
  have N104 := Fr.snoc X104 N102 ge0_a
  refine Go.by st104 ?_
  show Go _ _ _ _ _ _ _ (T104.setTop (mkF m 14 #[.val (.ref a), .val (.long ea), .second, .val (.long la), .second, .val .null, .val (.ref rn1), .val (.int al), .val (.ref te1)] []))
  refine Go.by (fun _ kont => XS.aloadN X104.here hx rfl (hb hby dS10_14) rfl rfl (XS.aload X104.here hx rfl (hb hby dS10_15) rfl rfl kont)) ?_
  show Go _ _ _ _ _ _ _ (T104.setTop (mkF m 17 #[.val (.ref a), .val (.long ea), .second, .val (.long la), .second, .val .null, .val (.ref rn1), .val (.int al), .val (.ref te1)] [.null, (.ref a)]))
  obtain ⟨T106, h106, X106, e106, W106, st106⟩ := putF X104 hx hZ hown (host := "") (Or.inl (hw _ (List.mem_of_getElem? (i := 58) rfl))) Via.refl e104 F105_starting_a E105_a (Or.inr ⟨(hw _ (List.mem_of_getElem? (i := 59) rfl)), rfl, hnm⟩) (hw _ (List.mem_of_getElem? (i := 48) rfl)) (ty := (.object "com/example/runpulse/runpulse/RunState$Event")) (by decide) rfl rfl (g := (mkF m 17 #[.val (.ref a), .val (.long ea), .second, .val (.long la), .second, .val .null, .val (.ref rn1), .val (.int al), .val (.ref te1)] [.null, (.ref a)])) rfl rfl (hb hby dS10_17)
  have Fw106 := F105_starting_a.same W106
  have F107_earliest_a := F105_earliest_a.other W106 (Or.inr (slot_ne (Or.inr (hw _ (List.mem_of_getElem? (i := 55) rfl))) (Or.inr (hw _ (List.mem_of_getElem? (i := 59) rfl))) (by decide) (t := .long) (t' := (.object "com/example/runpulse/runpulse/RunState$Event")) (by decide) (by decide)))
  have F107_latest_a := Fw104.other W106 (Or.inr (slot_ne (Or.inr (hw _ (List.mem_of_getElem? (i := 57) rfl))) (Or.inr (hw _ (List.mem_of_getElem? (i := 59) rfl))) (by decide) (t := .long) (t' := (.object "com/example/runpulse/runpulse/RunState$Event")) (by decide) (by decide)))
  have F107_running_a := F105_running_a.other W106 (Or.inr (slot_ne (Or.inr (hw _ (List.mem_of_getElem? (i := 61) rfl))) (Or.inr (hw _ (List.mem_of_getElem? (i := 59) rfl))) (by decide) (t := (.object "java/lang/Long")) (t' := (.object "com/example/runpulse/runpulse/RunState$Event")) (by decide) (by decide)))
  have F107_alive_a := F105_alive_a.other W106 (Or.inr (slot_ne (Or.inr (hw _ (List.mem_of_getElem? (i := 63) rfl))) (Or.inr (hw _ (List.mem_of_getElem? (i := 59) rfl))) (by decide) (t := .boolean) (t' := (.object "com/example/runpulse/runpulse/RunState$Event")) (by decide) (by decide)))
  have F107_terminal_a := F105_terminal_a.other W106 (Or.inr (slot_ne (Or.inr (hw _ (List.mem_of_getElem? (i := 65) rfl))) (Or.inr (hw _ (List.mem_of_getElem? (i := 59) rfl))) (by decide) (t := (.object "com/example/runpulse/runpulse/RunState$Event")) (t' := (.object "com/example/runpulse/runpulse/RunState$Event")) (by decide) (by decide)))
  have E107_a := E105_a.wr W106
  have Z107 := Nat.le_trans Z105 (Keep.of_wr W106).1
  have K107 : Keep h0 h106 [a] := K105.wr W106 (Or.inl (by simp))
  have N106 := Fr.snoc X106 N104 ge0_a
  refine Go.by st106 ?_
  show Go _ _ _ _ _ _ _ (T106.setTop (mkF m 20 #[.val (.ref a), .val (.long ea), .second, .val (.long la), .second, .val .null, .val (.ref rn1), .val (.int al), .val (.ref te1)] []))
  refine Go.by (fun _ kont => XS.aloadN X106.here hx rfl (hb hby dS10_20) rfl rfl (XS.aload X106.here hx rfl (hb hby dS10_21) rfl rfl kont)) ?_
  show Go _ _ _ _ _ _ _ (T106.setTop (mkF m 23 #[.val (.ref a), .val (.long ea), .second, .val (.long la), .second, .val .null, .val (.ref rn1), .val (.int al), .val (.ref te1)] [(.ref rn1), (.ref a)]))
  obtain ⟨T108, h108, X108, e108, W108, st108⟩ := putF X106 hx hZ hown (host := "") (Or.inl (hw _ (List.mem_of_getElem? (i := 60) rfl))) Via.refl e106 F107_running_a E107_a (Or.inr ⟨(hw _ (List.mem_of_getElem? (i := 61) rfl)), rfl, hnm⟩) (hw _ (List.mem_of_getElem? (i := 48) rfl)) (ty := (.object "java/lang/Long")) (by decide) rfl rfl (g := (mkF m 23 #[.val (.ref a), .val (.long ea), .second, .val (.long la), .second, .val .null, .val (.ref rn1), .val (.int al), .val (.ref te1)] [(.ref rn1), (.ref a)])) rfl rfl (hb hby dS10_23)
  have Fw108 := F107_running_a.same W108
  have F109_earliest_a := F107_earliest_a.other W108 (Or.inr (slot_ne (Or.inr (hw _ (List.mem_of_getElem? (i := 55) rfl))) (Or.inr (hw _ (List.mem_of_getElem? (i := 61) rfl))) (by decide) (t := .long) (t' := (.object "java/lang/Long")) (by decide) (by decide)))
  have F109_latest_a := F107_latest_a.other W108 (Or.inr (slot_ne (Or.inr (hw _ (List.mem_of_getElem? (i := 57) rfl))) (Or.inr (hw _ (List.mem_of_getElem? (i := 61) rfl))) (by decide) (t := .long) (t' := (.object "java/lang/Long")) (by decide) (by decide)))
  have F109_starting_a := Fw106.other W108 (Or.inr (slot_ne (Or.inr (hw _ (List.mem_of_getElem? (i := 59) rfl))) (Or.inr (hw _ (List.mem_of_getElem? (i := 61) rfl))) (by decide) (t := (.object "com/example/runpulse/runpulse/RunState$Event")) (t' := (.object "java/lang/Long")) (by decide) (by decide)))
  have F109_alive_a := F107_alive_a.other W108 (Or.inr (slot_ne (Or.inr (hw _ (List.mem_of_getElem? (i := 63) rfl))) (Or.inr (hw _ (List.mem_of_getElem? (i := 61) rfl))) (by decide) (t := .boolean) (t' := (.object "java/lang/Long")) (by decide) (by decide)))
  have F109_terminal_a := F107_terminal_a.other W108 (Or.inr (slot_ne (Or.inr (hw _ (List.mem_of_getElem? (i := 65) rfl))) (Or.inr (hw _ (List.mem_of_getElem? (i := 61) rfl))) (by decide) (t := (.object "com/example/runpulse/runpulse/RunState$Event")) (t' := (.object "java/lang/Long")) (by decide) (by decide)))
  have E109_a := E107_a.wr W108
  have Z109 := Nat.le_trans Z107 (Keep.of_wr W108).1
  have K109 : Keep h0 h108 [a] := K107.wr W108 (Or.inl (by simp))
  have N108 := Fr.snoc X108 N106 ge0_a
  refine Go.by st108 ?_
  show Go _ _ _ _ _ _ _ (T108.setTop (mkF m 26 #[.val (.ref a), .val (.long ea), .second, .val (.long la), .second, .val .null, .val (.ref rn1), .val (.int al), .val (.ref te1)] []))
  refine Go.by (fun _ kont => XS.aloadN X108.here hx rfl (hb hby dS10_26) rfl rfl (XS.iload X108.here hx rfl (hb hby dS10_27) rfl kont)) ?_
  show Go _ _ _ _ _ _ _ (T108.setTop (mkF m 29 #[.val (.ref a), .val (.long ea), .second, .val (.long la), .second, .val .null, .val (.ref rn1), .val (.int al), .val (.ref te1)] [(.int al), (.ref a)]))
  obtain ⟨T110, h110, X110, e110, W110, st110⟩ := putF X108 hx hZ hown (host := "") (Or.inl (hw _ (List.mem_of_getElem? (i := 62) rfl))) Via.refl e108 F109_alive_a E109_a (Or.inr ⟨(hw _ (List.mem_of_getElem? (i := 63) rfl)), rfl, hnm⟩) (hw _ (List.mem_of_getElem? (i := 48) rfl)) (ty := .boolean) (by decide) (own_zn hal) (own_zf hal) (g := (mkF m 29 #[.val (.ref a), .val (.long ea), .second, .val (.long la), .second, .val .null, .val (.ref rn1), .val (.int al), .val (.ref te1)] [(.int al), (.ref a)])) rfl rfl (hb hby dS10_29)
  have Fw110 := F109_alive_a.same W110
  have F111_earliest_a := F109_earliest_a.other W110 (Or.inr (slot_ne (Or.inr (hw _ (List.mem_of_getElem? (i := 55) rfl))) (Or.inr (hw _ (List.mem_of_getElem? (i := 63) rfl))) (by decide) (t := .long) (t' := .boolean) (by decide) (by decide)))
  have F111_latest_a := F109_latest_a.other W110 (Or.inr (slot_ne (Or.inr (hw _ (List.mem_of_getElem? (i := 57) rfl))) (Or.inr (hw _ (List.mem_of_getElem? (i := 63) rfl))) (by decide) (t := .long) (t' := .boolean) (by decide) (by decide)))
  have F111_starting_a := F109_starting_a.other W110 (Or.inr (slot_ne (Or.inr (hw _ (List.mem_of_getElem? (i := 59) rfl))) (Or.inr (hw _ (List.mem_of_getElem? (i := 63) rfl))) (by decide) (t := (.object "com/example/runpulse/runpulse/RunState$Event")) (t' := .boolean) (by decide) (by decide)))
  have F111_running_a := Fw108.other W110 (Or.inr (slot_ne (Or.inr (hw _ (List.mem_of_getElem? (i := 61) rfl))) (Or.inr (hw _ (List.mem_of_getElem? (i := 63) rfl))) (by decide) (t := (.object "java/lang/Long")) (t' := .boolean) (by decide) (by decide)))
  have F111_terminal_a := F109_terminal_a.other W110 (Or.inr (slot_ne (Or.inr (hw _ (List.mem_of_getElem? (i := 65) rfl))) (Or.inr (hw _ (List.mem_of_getElem? (i := 63) rfl))) (by decide) (t := (.object "com/example/runpulse/runpulse/RunState$Event")) (t' := .boolean) (by decide) (by decide)))
  have E111_a := E109_a.wr W110
  have Z111 := Nat.le_trans Z109 (Keep.of_wr W110).1
  have K111 : Keep h0 h110 [a] := K109.wr W110 (Or.inl (by simp))
  have N110 := Fr.snoc X110 N108 ge0_a
  refine Go.by st110 ?_
  show Go _ _ _ _ _ _ _ (T110.setTop (mkF m 32 #[.val (.ref a), .val (.long ea), .second, .val (.long la), .second, .val .null, .val (.ref rn1), .val (.int al), .val (.ref te1)] []))
  refine Go.by (fun _ kont => XS.aloadN X110.here hx rfl (hb hby dS10_32) rfl rfl (XS.aload X110.here hx rfl (hb hby dS10_33) rfl rfl kont)) ?_
  show Go _ _ _ _ _ _ _ (T110.setTop (mkF m 35 #[.val (.ref a), .val (.long ea), .second, .val (.long la), .second, .val .null, .val (.ref rn1), .val (.int al), .val (.ref te1)] [(.ref te1), (.ref a)]))
  obtain ⟨T112, h112, X112, e112, W112, st112⟩ := putF X110 hx hZ hown (host := "") (Or.inl (hw _ (List.mem_of_getElem? (i := 64) rfl))) Via.refl e110 F111_terminal_a E111_a (Or.inr ⟨(hw _ (List.mem_of_getElem? (i := 65) rfl)), rfl, hnm⟩) (hw _ (List.mem_of_getElem? (i := 48) rfl)) (ty := (.object "com/example/runpulse/runpulse/RunState$Event")) (by decide) rfl rfl (g := (mkF m 35 #[.val (.ref a), .val (.long ea), .second, .val (.long la), .second, .val .null, .val (.ref rn1), .val (.int al), .val (.ref te1)] [(.ref te1), (.ref a)])) rfl rfl (hb hby dS10_35)
  have Fw112 := F111_terminal_a.same W112
  have F113_earliest_a := F111_earliest_a.other W112 (Or.inr (slot_ne (Or.inr (hw _ (List.mem_of_getElem? (i := 55) rfl))) (Or.inr (hw _ (List.mem_of_getElem? (i := 65) rfl))) (by decide) (t := .long) (t' := (.object "com/example/runpulse/runpulse/RunState$Event")) (by decide) (by decide)))
  have F113_latest_a := F111_latest_a.other W112 (Or.inr (slot_ne (Or.inr (hw _ (List.mem_of_getElem? (i := 57) rfl))) (Or.inr (hw _ (List.mem_of_getElem? (i := 65) rfl))) (by decide) (t := .long) (t' := (.object "com/example/runpulse/runpulse/RunState$Event")) (by decide) (by decide)))
  have F113_starting_a := F111_starting_a.other W112 (Or.inr (slot_ne (Or.inr (hw _ (List.mem_of_getElem? (i := 59) rfl))) (Or.inr (hw _ (List.mem_of_getElem? (i := 65) rfl))) (by decide) (t := (.object "com/example/runpulse/runpulse/RunState$Event")) (t' := (.object "com/example/runpulse/runpulse/RunState$Event")) (by decide) (by decide)))
  have F113_running_a := F111_running_a.other W112 (Or.inr (slot_ne (Or.inr (hw _ (List.mem_of_getElem? (i := 61) rfl))) (Or.inr (hw _ (List.mem_of_getElem? (i := 65) rfl))) (by decide) (t := (.object "java/lang/Long")) (t' := (.object "com/example/runpulse/runpulse/RunState$Event")) (by decide) (by decide)))
  have F113_alive_a := Fw110.other W112 (Or.inr (slot_ne (Or.inr (hw _ (List.mem_of_getElem? (i := 63) rfl))) (Or.inr (hw _ (List.mem_of_getElem? (i := 65) rfl))) (by decide) (t := .boolean) (t' := (.object "com/example/runpulse/runpulse/RunState$Event")) (by decide) (by decide)))
  have E113_a := E111_a.wr W112
  have Z113 := Nat.le_trans Z111 (Keep.of_wr W112).1
  have K113 : Keep h0 h112 [a] := K111.wr W112 (Or.inl (by simp))
  have N112 := Fr.snoc X112 N110 ge0_a
  refine Go.by st112 ?_
  show Go _ _ _ _ _ _ _ (T112.setTop (mkF m 38 #[.val (.ref a), .val (.long ea), .second, .val (.long la), .second, .val .null, .val (.ref rn1), .val (.int al), .val (.ref te1)] []))
  refine Go.retV X112 hx hret hlk (hb hby dS10_38) ?_ (by decide) (by decide)
  show QS10 Z a ea la rn1 al te1 h0 n0 none T112.heap _
  rw [e112]
  exact ⟨rfl, N112, K113, E113_a, F113_earliest_a, F113_latest_a, F113_starting_a, F113_running_a, F113_alive_a, Fw112⟩

theorem dS11_0 : decode prog_35_method_1_code 0 = .ok (.aload_n 0, 1) := by decide +kernel
theorem dS11_1 : decode prog_35_method_1_code 1 = .ok (.invokespecial 1, 3) := by decide +kernel
theorem dS11_4 : decode prog_35_method_1_code 4 = .ok (.aload_n 0, 1) := by decide +kernel
theorem dS11_5 : decode prog_35_method_1_code 5 = .ok (.lload_n 1, 1) := by decide +kernel
theorem dS11_6 : decode prog_35_method_1_code 6 = .ok (.putfield 7, 3) := by decide +kernel
theorem dS11_9 : decode prog_35_method_1_code 9 = .ok (.aload_n 0, 1) := by decide +kernel
theorem dS11_10 : decode prog_35_method_1_code 10 = .ok (.lload_n 3, 1) := by decide +kernel
theorem dS11_11 : decode prog_35_method_1_code 11 = .ok (.putfield 13, 3) := by decide +kernel
theorem dS11_14 : decode prog_35_method_1_code 14 = .ok (.aload_n 0, 1) := by decide +kernel
theorem dS11_15 : decode prog_35_method_1_code 15 = .ok (.aload 5, 2) := by decide +kernel
theorem dS11_17 : decode prog_35_method_1_code 17 = .ok (.putfield 16, 3) := by decide +kernel
theorem dS11_20 : decode prog_35_method_1_code 20 = .ok (.aload_n 0, 1) := by decide +kernel
theorem dS11_21 : decode prog_35_method_1_code 21 = .ok (.aload 6, 2) := by decide +kernel
theorem dS11_23 : decode prog_35_method_1_code 23 = .ok (.putfield 20, 3) := by decide +kernel
theorem dS11_26 : decode prog_35_method_1_code 26 = .ok (.aload_n 0, 1) := by decide +kernel
theorem dS11_27 : decode prog_35_method_1_code 27 = .ok (.iload 7, 2) := by decide +kernel
theorem dS11_29 : decode prog_35_method_1_code 29 = .ok (.putfield 24, 3) := by decide +kernel
theorem dS11_32 : decode prog_35_method_1_code 32 = .ok (.aload_n 0, 1) := by decide +kernel
theorem dS11_33 : decode prog_35_method_1_code 33 = .ok (.aload 8, 2) := by decide +kernel
theorem dS11_35 : decode prog_35_method_1_code 35 = .ok (.putfield 28, 3) := by decide +kernel
theorem dS11_38 : decode prog_35_method_1_code 38 = .ok (.return_, 1) := by decide +kernel
theorem pdS11_0 : parseMethodDescriptor "()V" = some ⟨[], none⟩ := by decide +kernel
theorem pnS11 : plainName "com/example/runpulse/runpulse/RunState" = true := by first | (simp [plainName, overriddenIn]; done) | decide +kernel
theorem efS11 (m : MethodId) (a : Addr) (ea : Int64) (la : Int64) (st1 : Addr) (rn1 : Addr) (al : Int32) (te1 : Addr) : entryFrame m #[(.ref a), (.long ea), (.long la), (.ref st1), (.ref rn1), (.int al), (.ref te1)] 9 = mkF m 0 #[.val (.ref a), .val (.long ea), .second, .val (.long la), .second, .val (.ref st1), .val (.ref rn1), .val (.int al), .val (.ref te1)] [] := by first | (simp [entryFrame, mkF, argsToLocals, Value.category]; done) | rfl
def QS11 (Z : State) (a : Addr) (ea : Int64) (la : Int64) (st1 : Addr) (rn1 : Addr) (al : Int32) (te1 : Addr) (h0 : Heap) (n0 : Nat) (v : Option Value) (h : Heap) (L : List Loc) : Prop := (v = none ∧ Fr n0 L ∧ Keep h0 h [a] ∧ Exa Z h a "com/example/runpulse/runpulse/RunState" ∧ Fld Z h a "com/example/runpulse/runpulse/RunState" "earliest" "J" (.long ea) ∧ Fld Z h a "com/example/runpulse/runpulse/RunState" "latest" "J" (.long la) ∧ Fld Z h a "com/example/runpulse/runpulse/RunState" "starting" "Lcom/example/runpulse/runpulse/RunState$Event;" (.ref st1) ∧ Fld Z h a "com/example/runpulse/runpulse/RunState" "running" "Ljava/lang/Long;" (.ref rn1) ∧ Fld Z h a "com/example/runpulse/runpulse/RunState" "alive" "Z" (.int al) ∧ Fld Z h a "com/example/runpulse/runpulse/RunState" "terminal" "Lcom/example/runpulse/runpulse/RunState$Event;" (.ref te1))
set_option maxRecDepth 65536 in
set_option maxHeartbeats 40000000 in
theorem rmS11 (l : Launch) (Z : State) (a0 : Array Value) (hw : ∀ d ∈ tables_1, d.before a0 Z = true) (ws : List Jvm.Cond) (a : Addr) (ea : Int64) (la : Int64) (st1 : Addr) (rn1 : Addr) (al : Int32) (te1 : Addr) (h0 : Heap) (n0 : Nat) (Z0 : n0 ≤ h0.size) (E0_a : Exa Z h0 a "com/example/runpulse/runpulse/RunState") (F0_a_earliest : Fld Z h0 a "com/example/runpulse/runpulse/RunState" "earliest" "J" (.long (0 : Int64))) (F0_a_latest : Fld Z h0 a "com/example/runpulse/runpulse/RunState" "latest" "J" (.long (0 : Int64))) (F0_a_starting : Fld Z h0 a "com/example/runpulse/runpulse/RunState" "starting" "Lcom/example/runpulse/runpulse/RunState$Event;" .null) (F0_a_running : Fld Z h0 a "com/example/runpulse/runpulse/RunState" "running" "Ljava/lang/Long;" .null) (F0_a_alive : Fld Z h0 a "com/example/runpulse/runpulse/RunState" "alive" "Z" (.int (0 : Int32))) (F0_a_terminal : Fld Z h0 a "com/example/runpulse/runpulse/RunState" "terminal" "Lcom/example/runpulse/runpulse/RunState$Event;" .null) (ge0_a : n0 ≤ a) (hal : al = (0 : Int32) ∨ al = (1 : Int32)) :
    MetFree l (⟨"com/example/runpulse/runpulse/RunState", "<init>", "(JJLcom/example/runpulse/runpulse/RunState$Event;Ljava/lang/Long;ZLcom/example/runpulse/runpulse/RunState$Event;)V"⟩ : MethodName) (head1 (Jvm.Cond.code (⟨"com/example/runpulse/runpulse/RunState", "<init>", "(JJLcom/example/runpulse/runpulse/RunState$Event;Ljava/lang/Long;ZLcom/example/runpulse/runpulse/RunState$Event;)V"⟩ : MethodName) prog_35_method_1_code 9 none :: ws) ({ frames := 2, cells := 0, slots := 0, locals := 24 } : Room)) (fun aa_ U_ => aa_ = #[(.ref a), (.long ea), (.long la), (.ref st1), (.ref rn1), (.int al), (.ref te1)] ∧ Z.Warmed39 U_.vm ∧ U_.heap = h0) (fun _ _ _ _ _ => True) (fun _ U_ o_ V_ => ∃ v_ L_, o_ = .returned v_ ∧ QS11 Z a ea la st1 rn1 al te1 h0 n0 v_ V_.heap L_ ∧ FrameEnd U_ o_ V_ L_ ({ frames := 2, cells := 0, slots := 0, locals := 24 } : Room).cells ({ frames := 2, cells := 0, slots := 0, locals := 24 } : Room).slots) := by
  refine MetFree.of_bodySF (plainFor_of_name pnS11) hisR ?_
  intro p e s m args below meth c s₁ Bd hml0 hP hK
  obtain ⟨rfl, hZ, hh⟩ := hP
  have hx := Bd.exec
  have hby := Bd.bytes
  have hml : c.maxLocals = 9 := hml0
  have hown : s.vm.findClass "com/example/runpulse/runpulse/RunState" = some m.cls := findClass_of_methodNamed Bd.named
  have hnm := (name_of_methodNamed Bd.named Bd.method).1
  have hlk : meth.locks = false := BodyLoose.notSynchronized Bd
  have hret : meth.sig.returnType = none := Bd.returns
  have X0 : Stand p l e ({ frames := 2, cells := 0, slots := 0, locals := 24 } : Room) s m #[(.ref a), (.long ea), (.long la), (.ref st1), (.ref rn1), (.int al), (.ref te1)] below meth c s₁ [] 0 0 := Stand.of_body Bd
  have e0 : s₁.heap = h0 := by rw [← hh, Bd.state]; rfl
  have N0 := Fr.nil n0
  show Go p e below s ({ frames := 2, cells := 0, slots := 0, locals := 24 } : Room).cells ({ frames := 2, cells := 0, slots := 0, locals := 24 } : Room).slots (QS11 Z a ea la st1 rn1 al te1 h0 n0) (s₁.setTop (entryFrame m #[(.ref a), (.long ea), (.long la), (.ref st1), (.ref rn1), (.int al), (.ref te1)] 9))
  rw [efS11]
  refine Go.by (fun _ kont => XS.aloadN X0.here hx rfl (hb hby dS11_0) rfl rfl kont) ?_
  show Go _ _ _ _ _ _ _ (s₁.setTop (mkF m 1 #[.val (.ref a), .val (.long ea), .second, .val (.long la), .second, .val (.ref st1), .val (.ref rn1), .val (.int al), .val (.ref te1)] [(.ref a)]))
  obtain ⟨_, _, ⟨T101, L101, k101, n101⟩, -, X101, ⟨Lc101, hQ101, l101, y101, z101⟩, st101⟩ := X0.specialBack hx (y := (⟨"java/lang/Record", "<init>", "()V"⟩ : MethodName)) rfl hown (mvT hZ (hw _ (List.mem_of_getElem? (i := 53) rfl))) (mvT hZ (hw _ (List.mem_of_getElem? (i := 13) rfl))) (mvT hZ (hw _ (List.mem_of_getElem? (i := 16) rfl))) (by decide) (backOf (W := 0) (rmR l Z a0 hw [] a h0 n0 Z0 ) hZ (hw _ (List.mem_of_getElem? (i := 16) rfl)) (hw _ (List.mem_of_getElem? (i := 15) rfl)) (by decide) (by decide)) (g := (mkF m 1 #[.val (.ref a), .val (.long ea), .second, .val (.long la), .second, .val (.ref st1), .val (.ref rn1), .val (.int al), .val (.ref te1)] [(.ref a)])) rfl (by rw [hml]; rfl) (Steps.refl _) (a := a) (argsL := []) (rest := []) (lenOf pdS11_0 rfl) rfl (by show 2 * 0 + _ ≤ _; exact Nat.le_of_eq rfl) (hb hby dS11_1) (fun _ _ => ⟨rfl, e0, (by decide : 0 + 0 ≤ _), (by decide : 0 + 0 ≤ _)⟩)
  dsimp only [Pt.U, Pt.locs, Pt.cells, Pt.slots] at X101 l101 y101 z101 st101 hQ101
  subst l101 y101 z101
  obtain ⟨rfl, N101q, eh101⟩ := hQ101
  have N101 := Fr.app N0 N101q
  refine Go.tr st101 ?_
  show Go _ _ _ _ _ _ _ (T101.setTop (mkF m 4 #[.val (.ref a), .val (.long ea), .second, .val (.long la), .second, .val (.ref st1), .val (.ref rn1), .val (.int al), .val (.ref te1)] []))
  refine Go.by (fun _ kont => XS.aloadN X101.here hx rfl (hb hby dS11_4) rfl rfl (XS.lloadN X101.here hx rfl (hb hby dS11_5) rfl kont)) ?_
  show Go _ _ _ _ _ _ _ (T101.setTop (mkF m 6 #[.val (.ref a), .val (.long ea), .second, .val (.long la), .second, .val (.ref st1), .val (.ref rn1), .val (.int al), .val (.ref te1)] [(.long ea), (.ref a)]))
  obtain ⟨T102, h102, X102, e102, W102, st102⟩ := putF X101 hx hZ hown (host := "") (Or.inl (hw _ (List.mem_of_getElem? (i := 54) rfl))) Via.refl eh101 F0_a_earliest E0_a (Or.inr ⟨(hw _ (List.mem_of_getElem? (i := 55) rfl)), rfl, hnm⟩) (hw _ (List.mem_of_getElem? (i := 48) rfl)) (ty := .long) (by decide) rfl rfl (g := (mkF m 6 #[.val (.ref a), .val (.long ea), .second, .val (.long la), .second, .val (.ref st1), .val (.ref rn1), .val (.int al), .val (.ref te1)] [(.long ea), (.ref a)])) rfl rfl (hb hby dS11_6)
  have Fw102 := F0_a_earliest.same W102
  have F103_latest_a := F0_a_latest.other W102 (Or.inr (slot_ne (Or.inr (hw _ (List.mem_of_getElem? (i := 57) rfl))) (Or.inr (hw _ (List.mem_of_getElem? (i := 55) rfl))) (by decide) (t := .long) (t' := .long) (by decide) (by decide)))
  have F103_starting_a := F0_a_starting.other W102 (Or.inr (slot_ne (Or.inr (hw _ (List.mem_of_getElem? (i := 59) rfl))) (Or.inr (hw _ (List.mem_of_getElem? (i := 55) rfl))) (by decide) (t := (.object "com/example/runpulse/runpulse/RunState$Event")) (t' := .long) (by decide) (by decide)))
  have F103_running_a := F0_a_running.other W102 (Or.inr (slot_ne (Or.inr (hw _ (List.mem_of_getElem? (i := 61) rfl))) (Or.inr (hw _ (List.mem_of_getElem? (i := 55) rfl))) (by decide) (t := (.object "java/lang/Long")) (t' := .long) (by decide) (by decide)))
  have F103_alive_a := F0_a_alive.other W102 (Or.inr (slot_ne (Or.inr (hw _ (List.mem_of_getElem? (i := 63) rfl))) (Or.inr (hw _ (List.mem_of_getElem? (i := 55) rfl))) (by decide) (t := .boolean) (t' := .long) (by decide) (by decide)))
  have F103_terminal_a := F0_a_terminal.other W102 (Or.inr (slot_ne (Or.inr (hw _ (List.mem_of_getElem? (i := 65) rfl))) (Or.inr (hw _ (List.mem_of_getElem? (i := 55) rfl))) (by decide) (t := (.object "com/example/runpulse/runpulse/RunState$Event")) (t' := .long) (by decide) (by decide)))
  have E103_a := E0_a.wr W102
  have Z103 := Nat.le_trans Z0 (Keep.of_wr W102).1
  have K103 : Keep h0 h102 [a] := (Keep.refl h0 [a]).wr W102 (Or.inl (by simp))
  have N102 := Fr.snoc X102 N101 ge0_a
  refine Go.by st102 ?_
  show Go _ _ _ _ _ _ _ (T102.setTop (mkF m 9 #[.val (.ref a), .val (.long ea), .second, .val (.long la), .second, .val (.ref st1), .val (.ref rn1), .val (.int al), .val (.ref te1)] []))
  refine Go.by (fun _ kont => XS.aloadN X102.here hx rfl (hb hby dS11_9) rfl rfl (XS.lloadN X102.here hx rfl (hb hby dS11_10) rfl kont)) ?_
  show Go _ _ _ _ _ _ _ (T102.setTop (mkF m 11 #[.val (.ref a), .val (.long ea), .second, .val (.long la), .second, .val (.ref st1), .val (.ref rn1), .val (.int al), .val (.ref te1)] [(.long la), (.ref a)]))
  obtain ⟨T104, h104, X104, e104, W104, st104⟩ := putF X102 hx hZ hown (host := "") (Or.inl (hw _ (List.mem_of_getElem? (i := 56) rfl))) Via.refl e102 F103_latest_a E103_a (Or.inr ⟨(hw _ (List.mem_of_getElem? (i := 57) rfl)), rfl, hnm⟩) (hw _ (List.mem_of_getElem? (i := 48) rfl)) (ty := .long) (by decide) rfl rfl (g := (mkF m 11 #[.val (.ref a), .val (.long ea), .second, .val (.long la), .second, .val (.ref st1), .val (.ref rn1), .val (.int al), .val (.ref te1)] [(.long la), (.ref a)])) rfl rfl (hb hby dS11_11)
  have Fw104 := F103_latest_a.same W104
  have F105_earliest_a := Fw102.other W104 (Or.inr (slot_ne (Or.inr (hw _ (List.mem_of_getElem? (i := 55) rfl))) (Or.inr (hw _ (List.mem_of_getElem? (i := 57) rfl))) (by decide) (t := .long) (t' := .long) (by decide) (by decide)))
  have F105_starting_a := F103_starting_a.other W104 (Or.inr (slot_ne (Or.inr (hw _ (List.mem_of_getElem? (i := 59) rfl))) (Or.inr (hw _ (List.mem_of_getElem? (i := 57) rfl))) (by decide) (t := (.object "com/example/runpulse/runpulse/RunState$Event")) (t' := .long) (by decide) (by decide)))
  have F105_running_a := F103_running_a.other W104 (Or.inr (slot_ne (Or.inr (hw _ (List.mem_of_getElem? (i := 61) rfl))) (Or.inr (hw _ (List.mem_of_getElem? (i := 57) rfl))) (by decide) (t := (.object "java/lang/Long")) (t' := .long) (by decide) (by decide)))
  have F105_alive_a := F103_alive_a.other W104 (Or.inr (slot_ne (Or.inr (hw _ (List.mem_of_getElem? (i := 63) rfl))) (Or.inr (hw _ (List.mem_of_getElem? (i := 57) rfl))) (by decide) (t := .boolean) (t' := .long) (by decide) (by decide)))
  have F105_terminal_a := F103_terminal_a.other W104 (Or.inr (slot_ne (Or.inr (hw _ (List.mem_of_getElem? (i := 65) rfl))) (Or.inr (hw _ (List.mem_of_getElem? (i := 57) rfl))) (by decide) (t := (.object "com/example/runpulse/runpulse/RunState$Event")) (t' := .long) (by decide) (by decide)))
  have E105_a := E103_a.wr W104
  have Z105 := Nat.le_trans Z103 (Keep.of_wr W104).1
  have K105 : Keep h0 h104 [a] := K103.wr W104 (Or.inl (by simp))
  have N104 := Fr.snoc X104 N102 ge0_a
  refine Go.by st104 ?_
  show Go _ _ _ _ _ _ _ (T104.setTop (mkF m 14 #[.val (.ref a), .val (.long ea), .second, .val (.long la), .second, .val (.ref st1), .val (.ref rn1), .val (.int al), .val (.ref te1)] []))
  refine Go.by (fun _ kont => XS.aloadN X104.here hx rfl (hb hby dS11_14) rfl rfl (XS.aload X104.here hx rfl (hb hby dS11_15) rfl rfl kont)) ?_
  show Go _ _ _ _ _ _ _ (T104.setTop (mkF m 17 #[.val (.ref a), .val (.long ea), .second, .val (.long la), .second, .val (.ref st1), .val (.ref rn1), .val (.int al), .val (.ref te1)] [(.ref st1), (.ref a)]))
  obtain ⟨T106, h106, X106, e106, W106, st106⟩ := putF X104 hx hZ hown (host := "") (Or.inl (hw _ (List.mem_of_getElem? (i := 58) rfl))) Via.refl e104 F105_starting_a E105_a (Or.inr ⟨(hw _ (List.mem_of_getElem? (i := 59) rfl)), rfl, hnm⟩) (hw _ (List.mem_of_getElem? (i := 48) rfl)) (ty := (.object "com/example/runpulse/runpulse/RunState$Event")) (by decide) rfl rfl (g := (mkF m 17 #[.val (.ref a), .val (.long ea), .second, .val (.long la), .second, .val (.ref st1), .val (.ref rn1), .val (.int al), .val (.ref te1)] [(.ref st1), (.ref a)])) rfl rfl (hb hby dS11_17)
  have Fw106 := F105_starting_a.same W106
  have F107_earliest_a := F105_earliest_a.other W106 (Or.inr (slot_ne (Or.inr (hw _ (List.mem_of_getElem? (i := 55) rfl))) (Or.inr (hw _ (List.mem_of_getElem? (i := 59) rfl))) (by decide) (t := .long) (t' := (.object "com/example/runpulse/runpulse/RunState$Event")) (by decide) (by decide)))
  have F107_latest_a := Fw104.other W106 (Or.inr (slot_ne (Or.inr (hw _ (List.mem_of_getElem? (i := 57) rfl))) (Or.inr (hw _ (List.mem_of_getElem? (i := 59) rfl))) (by decide) (t := .long) (t' := (.object "com/example/runpulse/runpulse/RunState$Event")) (by decide) (by decide)))
  have F107_running_a := F105_running_a.other W106 (Or.inr (slot_ne (Or.inr (hw _ (List.mem_of_getElem? (i := 61) rfl))) (Or.inr (hw _ (List.mem_of_getElem? (i := 59) rfl))) (by decide) (t := (.object "java/lang/Long")) (t' := (.object "com/example/runpulse/runpulse/RunState$Event")) (by decide) (by decide)))
  have F107_alive_a := F105_alive_a.other W106 (Or.inr (slot_ne (Or.inr (hw _ (List.mem_of_getElem? (i := 63) rfl))) (Or.inr (hw _ (List.mem_of_getElem? (i := 59) rfl))) (by decide) (t := .boolean) (t' := (.object "com/example/runpulse/runpulse/RunState$Event")) (by decide) (by decide)))
  have F107_terminal_a := F105_terminal_a.other W106 (Or.inr (slot_ne (Or.inr (hw _ (List.mem_of_getElem? (i := 65) rfl))) (Or.inr (hw _ (List.mem_of_getElem? (i := 59) rfl))) (by decide) (t := (.object "com/example/runpulse/runpulse/RunState$Event")) (t' := (.object "com/example/runpulse/runpulse/RunState$Event")) (by decide) (by decide)))
  have E107_a := E105_a.wr W106
  have Z107 := Nat.le_trans Z105 (Keep.of_wr W106).1
  have K107 : Keep h0 h106 [a] := K105.wr W106 (Or.inl (by simp))
  have N106 := Fr.snoc X106 N104 ge0_a
  refine Go.by st106 ?_
  show Go _ _ _ _ _ _ _ (T106.setTop (mkF m 20 #[.val (.ref a), .val (.long ea), .second, .val (.long la), .second, .val (.ref st1), .val (.ref rn1), .val (.int al), .val (.ref te1)] []))
  refine Go.by (fun _ kont => XS.aloadN X106.here hx rfl (hb hby dS11_20) rfl rfl (XS.aload X106.here hx rfl (hb hby dS11_21) rfl rfl kont)) ?_
  show Go _ _ _ _ _ _ _ (T106.setTop (mkF m 23 #[.val (.ref a), .val (.long ea), .second, .val (.long la), .second, .val (.ref st1), .val (.ref rn1), .val (.int al), .val (.ref te1)] [(.ref rn1), (.ref a)]))
  obtain ⟨T108, h108, X108, e108, W108, st108⟩ := putF X106 hx hZ hown (host := "") (Or.inl (hw _ (List.mem_of_getElem? (i := 60) rfl))) Via.refl e106 F107_running_a E107_a (Or.inr ⟨(hw _ (List.mem_of_getElem? (i := 61) rfl)), rfl, hnm⟩) (hw _ (List.mem_of_getElem? (i := 48) rfl)) (ty := (.object "java/lang/Long")) (by decide) rfl rfl (g := (mkF m 23 #[.val (.ref a), .val (.long ea), .second, .val (.long la), .second, .val (.ref st1), .val (.ref rn1), .val (.int al), .val (.ref te1)] [(.ref rn1), (.ref a)])) rfl rfl (hb hby dS11_23)
  have Fw108 := F107_running_a.same W108
  have F109_earliest_a := F107_earliest_a.other W108 (Or.inr (slot_ne (Or.inr (hw _ (List.mem_of_getElem? (i := 55) rfl))) (Or.inr (hw _ (List.mem_of_getElem? (i := 61) rfl))) (by decide) (t := .long) (t' := (.object "java/lang/Long")) (by decide) (by decide)))
  have F109_latest_a := F107_latest_a.other W108 (Or.inr (slot_ne (Or.inr (hw _ (List.mem_of_getElem? (i := 57) rfl))) (Or.inr (hw _ (List.mem_of_getElem? (i := 61) rfl))) (by decide) (t := .long) (t' := (.object "java/lang/Long")) (by decide) (by decide)))
  have F109_starting_a := Fw106.other W108 (Or.inr (slot_ne (Or.inr (hw _ (List.mem_of_getElem? (i := 59) rfl))) (Or.inr (hw _ (List.mem_of_getElem? (i := 61) rfl))) (by decide) (t := (.object "com/example/runpulse/runpulse/RunState$Event")) (t' := (.object "java/lang/Long")) (by decide) (by decide)))
  have F109_alive_a := F107_alive_a.other W108 (Or.inr (slot_ne (Or.inr (hw _ (List.mem_of_getElem? (i := 63) rfl))) (Or.inr (hw _ (List.mem_of_getElem? (i := 61) rfl))) (by decide) (t := .boolean) (t' := (.object "java/lang/Long")) (by decide) (by decide)))
  have F109_terminal_a := F107_terminal_a.other W108 (Or.inr (slot_ne (Or.inr (hw _ (List.mem_of_getElem? (i := 65) rfl))) (Or.inr (hw _ (List.mem_of_getElem? (i := 61) rfl))) (by decide) (t := (.object "com/example/runpulse/runpulse/RunState$Event")) (t' := (.object "java/lang/Long")) (by decide) (by decide)))
  have E109_a := E107_a.wr W108
  have Z109 := Nat.le_trans Z107 (Keep.of_wr W108).1
  have K109 : Keep h0 h108 [a] := K107.wr W108 (Or.inl (by simp))
  have N108 := Fr.snoc X108 N106 ge0_a
  refine Go.by st108 ?_
  show Go _ _ _ _ _ _ _ (T108.setTop (mkF m 26 #[.val (.ref a), .val (.long ea), .second, .val (.long la), .second, .val (.ref st1), .val (.ref rn1), .val (.int al), .val (.ref te1)] []))
  refine Go.by (fun _ kont => XS.aloadN X108.here hx rfl (hb hby dS11_26) rfl rfl (XS.iload X108.here hx rfl (hb hby dS11_27) rfl kont)) ?_
  show Go _ _ _ _ _ _ _ (T108.setTop (mkF m 29 #[.val (.ref a), .val (.long ea), .second, .val (.long la), .second, .val (.ref st1), .val (.ref rn1), .val (.int al), .val (.ref te1)] [(.int al), (.ref a)]))
  obtain ⟨T110, h110, X110, e110, W110, st110⟩ := putF X108 hx hZ hown (host := "") (Or.inl (hw _ (List.mem_of_getElem? (i := 62) rfl))) Via.refl e108 F109_alive_a E109_a (Or.inr ⟨(hw _ (List.mem_of_getElem? (i := 63) rfl)), rfl, hnm⟩) (hw _ (List.mem_of_getElem? (i := 48) rfl)) (ty := .boolean) (by decide) (own_zn hal) (own_zf hal) (g := (mkF m 29 #[.val (.ref a), .val (.long ea), .second, .val (.long la), .second, .val (.ref st1), .val (.ref rn1), .val (.int al), .val (.ref te1)] [(.int al), (.ref a)])) rfl rfl (hb hby dS11_29)
  have Fw110 := F109_alive_a.same W110
  have F111_earliest_a := F109_earliest_a.other W110 (Or.inr (slot_ne (Or.inr (hw _ (List.mem_of_getElem? (i := 55) rfl))) (Or.inr (hw _ (List.mem_of_getElem? (i := 63) rfl))) (by decide) (t := .long) (t' := .boolean) (by decide) (by decide)))
  have F111_latest_a := F109_latest_a.other W110 (Or.inr (slot_ne (Or.inr (hw _ (List.mem_of_getElem? (i := 57) rfl))) (Or.inr (hw _ (List.mem_of_getElem? (i := 63) rfl))) (by decide) (t := .long) (t' := .boolean) (by decide) (by decide)))
  have F111_starting_a := F109_starting_a.other W110 (Or.inr (slot_ne (Or.inr (hw _ (List.mem_of_getElem? (i := 59) rfl))) (Or.inr (hw _ (List.mem_of_getElem? (i := 63) rfl))) (by decide) (t := (.object "com/example/runpulse/runpulse/RunState$Event")) (t' := .boolean) (by decide) (by decide)))
  have F111_running_a := Fw108.other W110 (Or.inr (slot_ne (Or.inr (hw _ (List.mem_of_getElem? (i := 61) rfl))) (Or.inr (hw _ (List.mem_of_getElem? (i := 63) rfl))) (by decide) (t := (.object "java/lang/Long")) (t' := .boolean) (by decide) (by decide)))
  have F111_terminal_a := F109_terminal_a.other W110 (Or.inr (slot_ne (Or.inr (hw _ (List.mem_of_getElem? (i := 65) rfl))) (Or.inr (hw _ (List.mem_of_getElem? (i := 63) rfl))) (by decide) (t := (.object "com/example/runpulse/runpulse/RunState$Event")) (t' := .boolean) (by decide) (by decide)))
  have E111_a := E109_a.wr W110
  have Z111 := Nat.le_trans Z109 (Keep.of_wr W110).1
  have K111 : Keep h0 h110 [a] := K109.wr W110 (Or.inl (by simp))
  have N110 := Fr.snoc X110 N108 ge0_a
  refine Go.by st110 ?_
  show Go _ _ _ _ _ _ _ (T110.setTop (mkF m 32 #[.val (.ref a), .val (.long ea), .second, .val (.long la), .second, .val (.ref st1), .val (.ref rn1), .val (.int al), .val (.ref te1)] []))
  refine Go.by (fun _ kont => XS.aloadN X110.here hx rfl (hb hby dS11_32) rfl rfl (XS.aload X110.here hx rfl (hb hby dS11_33) rfl rfl kont)) ?_
  show Go _ _ _ _ _ _ _ (T110.setTop (mkF m 35 #[.val (.ref a), .val (.long ea), .second, .val (.long la), .second, .val (.ref st1), .val (.ref rn1), .val (.int al), .val (.ref te1)] [(.ref te1), (.ref a)]))
  obtain ⟨T112, h112, X112, e112, W112, st112⟩ := putF X110 hx hZ hown (host := "") (Or.inl (hw _ (List.mem_of_getElem? (i := 64) rfl))) Via.refl e110 F111_terminal_a E111_a (Or.inr ⟨(hw _ (List.mem_of_getElem? (i := 65) rfl)), rfl, hnm⟩) (hw _ (List.mem_of_getElem? (i := 48) rfl)) (ty := (.object "com/example/runpulse/runpulse/RunState$Event")) (by decide) rfl rfl (g := (mkF m 35 #[.val (.ref a), .val (.long ea), .second, .val (.long la), .second, .val (.ref st1), .val (.ref rn1), .val (.int al), .val (.ref te1)] [(.ref te1), (.ref a)])) rfl rfl (hb hby dS11_35)
  have Fw112 := F111_terminal_a.same W112
  have F113_earliest_a := F111_earliest_a.other W112 (Or.inr (slot_ne (Or.inr (hw _ (List.mem_of_getElem? (i := 55) rfl))) (Or.inr (hw _ (List.mem_of_getElem? (i := 65) rfl))) (by decide) (t := .long) (t' := (.object "com/example/runpulse/runpulse/RunState$Event")) (by decide) (by decide)))
  have F113_latest_a := F111_latest_a.other W112 (Or.inr (slot_ne (Or.inr (hw _ (List.mem_of_getElem? (i := 57) rfl))) (Or.inr (hw _ (List.mem_of_getElem? (i := 65) rfl))) (by decide) (t := .long) (t' := (.object "com/example/runpulse/runpulse/RunState$Event")) (by decide) (by decide)))
  have F113_starting_a := F111_starting_a.other W112 (Or.inr (slot_ne (Or.inr (hw _ (List.mem_of_getElem? (i := 59) rfl))) (Or.inr (hw _ (List.mem_of_getElem? (i := 65) rfl))) (by decide) (t := (.object "com/example/runpulse/runpulse/RunState$Event")) (t' := (.object "com/example/runpulse/runpulse/RunState$Event")) (by decide) (by decide)))
  have F113_running_a := F111_running_a.other W112 (Or.inr (slot_ne (Or.inr (hw _ (List.mem_of_getElem? (i := 61) rfl))) (Or.inr (hw _ (List.mem_of_getElem? (i := 65) rfl))) (by decide) (t := (.object "java/lang/Long")) (t' := (.object "com/example/runpulse/runpulse/RunState$Event")) (by decide) (by decide)))
  have F113_alive_a := Fw110.other W112 (Or.inr (slot_ne (Or.inr (hw _ (List.mem_of_getElem? (i := 63) rfl))) (Or.inr (hw _ (List.mem_of_getElem? (i := 65) rfl))) (by decide) (t := .boolean) (t' := (.object "com/example/runpulse/runpulse/RunState$Event")) (by decide) (by decide)))
  have E113_a := E111_a.wr W112
  have Z113 := Nat.le_trans Z111 (Keep.of_wr W112).1
  have K113 : Keep h0 h112 [a] := K111.wr W112 (Or.inl (by simp))
  have N112 := Fr.snoc X112 N110 ge0_a
  refine Go.by st112 ?_
  show Go _ _ _ _ _ _ _ (T112.setTop (mkF m 38 #[.val (.ref a), .val (.long ea), .second, .val (.long la), .second, .val (.ref st1), .val (.ref rn1), .val (.int al), .val (.ref te1)] []))
  refine Go.retV X112 hx hret hlk (hb hby dS11_38) ?_ (by decide) (by decide)
  show QS11 Z a ea la st1 rn1 al te1 h0 n0 none T112.heap _
  rw [e112]
  exact ⟨rfl, N112, K113, E113_a, F113_earliest_a, F113_latest_a, F113_starting_a, F113_running_a, F113_alive_a, Fw112⟩

theorem dM_0 : decode prog_37_method_7_code 0 = .ok (.aload_n 0, 1) := by decide +kernel
theorem dM_1 : decode prog_37_method_7_code 1 = .ok (.getfield 22, 3) := by decide +kernel
theorem dM_4 : decode prog_37_method_7_code 4 = .ok (.lreturn, 1) := by decide +kernel
theorem pnM : plainName "com/example/runpulse/runpulse/RunState$Event" = true := by first | (simp [plainName, overriddenIn]; done) | decide +kernel
theorem efM (m : MethodId) (a : Addr) : entryFrame m #[(.ref a)] 1 = mkF m 0 #[.val (.ref a)] [] := by first | (simp [entryFrame, mkF, argsToLocals, Value.category]; done) | rfl
def QM (Z : State) (a : Addr) (tt : Int64) (h0 : Heap) (n0 : Nat) (v : Option Value) (h : Heap) (L : List Loc) : Prop := (v = some (.long tt) ∧ Fr n0 L ∧ h = h0)
set_option maxRecDepth 65536 in
set_option maxHeartbeats 40000000 in
theorem rmM (l : Launch) (Z : State) (a0 : Array Value) (hw : ∀ d ∈ tables_1, d.before a0 Z = true) (ws : List Jvm.Cond) (a : Addr) (tt : Int64) (h0 : Heap) (n0 : Nat) (Z0 : n0 ≤ h0.size) (E0_a : Exa Z h0 a "com/example/runpulse/runpulse/RunState$Event") (F0_a_time : Fld Z h0 a "com/example/runpulse/runpulse/RunState$Event" "time" "J" (.long tt)) :
    MetFree l (⟨"com/example/runpulse/runpulse/RunState$Event", "time", "()J"⟩ : MethodName) (head1 (Jvm.Cond.code (⟨"com/example/runpulse/runpulse/RunState$Event", "time", "()J"⟩ : MethodName) prog_37_method_7_code 1 (some .long) :: ws) ({ frames := 0, cells := 0, slots := 0, locals := 0 } : Room)) (fun aa_ U_ => aa_ = #[(.ref a)] ∧ Z.Warmed39 U_.vm ∧ U_.heap = h0) (fun _ _ _ _ _ => True) (fun _ U_ o_ V_ => ∃ v_ L_, o_ = .returned v_ ∧ QM Z a tt h0 n0 v_ V_.heap L_ ∧ FrameEnd U_ o_ V_ L_ ({ frames := 0, cells := 0, slots := 0, locals := 0 } : Room).cells ({ frames := 0, cells := 0, slots := 0, locals := 0 } : Room).slots) := by
  refine MetFree.of_bodySF (plainFor_of_name pnM) hisR ?_
  intro p e s m args below meth c s₁ Bd hml0 hP hK
  obtain ⟨rfl, hZ, hh⟩ := hP
  have hx := Bd.exec
  have hby := Bd.bytes
  have hml : c.maxLocals = 1 := hml0
  have hown : s.vm.findClass "com/example/runpulse/runpulse/RunState$Event" = some m.cls := findClass_of_methodNamed Bd.named
  have hnm := (name_of_methodNamed Bd.named Bd.method).1
  have hlk : meth.locks = false := BodyLoose.notSynchronized Bd
  have hret : meth.sig.returnType = (some .long) := Bd.returns
  have X0 : Stand p l e ({ frames := 0, cells := 0, slots := 0, locals := 0 } : Room) s m #[(.ref a)] below meth c s₁ [] 0 0 := Stand.of_body Bd
  have e0 : s₁.heap = h0 := by rw [← hh, Bd.state]; rfl
  have N0 := Fr.nil n0
  show Go p e below s ({ frames := 0, cells := 0, slots := 0, locals := 0 } : Room).cells ({ frames := 0, cells := 0, slots := 0, locals := 0 } : Room).slots (QM Z a tt h0 n0) (s₁.setTop (entryFrame m #[(.ref a)] 1))
  rw [efM]
  refine Go.by (fun _ kont => XS.aloadN X0.here hx rfl (hb hby dM_0) rfl rfl kont) ?_
  show Go _ _ _ _ _ _ _ (s₁.setTop (mkF m 1 #[.val (.ref a)] [(.ref a)]))
  obtain ⟨T101, X101, e101, st101⟩ := getF X0 hx hZ hown (host := "") (Or.inl (hw _ (List.mem_of_getElem? (i := 35) rfl))) Via.refl e0 F0_a_time (g := (mkF m 1 #[.val (.ref a)] [(.ref a)])) rfl rfl (hb hby dM_1)
  refine Go.by st101 ?_
  show Go _ _ _ _ _ _ _ (T101.setTop (mkF m 4 #[.val (.ref a)] [(.long tt)]))
  refine Go.retJ X101 hx hret hlk (hb hby dM_4) ?_ (by decide) (by decide)
  show QM Z a tt h0 n0 (some (.long tt)) T101.heap _
  rw [e101]
  exact ⟨rfl, N0, rfl⟩

theorem dA0_0 : decode prog_35_method_3_code 0 = .ok (.aload_n 0, 1) := by decide +kernel
theorem dA0_1 : decode prog_35_method_3_code 1 = .ok (.getfield 16, 3) := by decide +kernel
theorem dA0_4 : decode prog_35_method_3_code 4 = .ok (.ifnonnull 10, 3) := by decide +kernel
theorem dA0_7 : decode prog_35_method_3_code 7 = .ok (.aload_n 0, 1) := by decide +kernel
theorem dA0_8 : decode prog_35_method_3_code 8 = .ok (.getfield 7, 3) := by decide +kernel
theorem dA0_11 : decode prog_35_method_3_code 11 = .ok (.goto 10, 3) := by decide +kernel
theorem dA0_21 : decode prog_35_method_3_code 21 = .ok (.lreturn, 1) := by decide +kernel
theorem pnA0 : plainName "com/example/runpulse/runpulse/RunState" = true := by first | (simp [plainName, overriddenIn]; done) | decide +kernel
theorem efA0 (m : MethodId) (a : Addr) : entryFrame m #[(.ref a)] 1 = mkF m 0 #[.val (.ref a)] [] := by first | (simp [entryFrame, mkF, argsToLocals, Value.category]; done) | rfl
def QA0 (Z : State) (a : Addr) (ea : Int64) (h0 : Heap) (n0 : Nat) (v : Option Value) (h : Heap) (L : List Loc) : Prop := (v = some (.long ea) ∧ Fr n0 L ∧ h = h0)
set_option maxRecDepth 65536 in
set_option maxHeartbeats 40000000 in
theorem rmA0 (l : Launch) (Z : State) (a0 : Array Value) (hw : ∀ d ∈ tables_1, d.before a0 Z = true) (ws : List Jvm.Cond) (a : Addr) (ea : Int64) (h0 : Heap) (n0 : Nat) (Z0 : n0 ≤ h0.size) (E0_a : Exa Z h0 a "com/example/runpulse/runpulse/RunState") (F0_a_starting : Fld Z h0 a "com/example/runpulse/runpulse/RunState" "starting" "Lcom/example/runpulse/runpulse/RunState$Event;" .null) (F0_a_earliest : Fld Z h0 a "com/example/runpulse/runpulse/RunState" "earliest" "J" (.long ea)) :
    MetFree l (⟨"com/example/runpulse/runpulse/RunState", "start", "()J"⟩ : MethodName) (head1 (Jvm.Cond.code (⟨"com/example/runpulse/runpulse/RunState", "start", "()J"⟩ : MethodName) prog_35_method_3_code 1 (some .long) :: ws) ({ frames := 0, cells := 0, slots := 0, locals := 0 } : Room)) (fun aa_ U_ => aa_ = #[(.ref a)] ∧ Z.Warmed39 U_.vm ∧ U_.heap = h0) (fun _ _ _ _ _ => True) (fun _ U_ o_ V_ => ∃ v_ L_, o_ = .returned v_ ∧ QA0 Z a ea h0 n0 v_ V_.heap L_ ∧ FrameEnd U_ o_ V_ L_ ({ frames := 0, cells := 0, slots := 0, locals := 0 } : Room).cells ({ frames := 0, cells := 0, slots := 0, locals := 0 } : Room).slots) := by
  refine MetFree.of_bodySF (plainFor_of_name pnA0) hisR ?_
  intro p e s m args below meth c s₁ Bd hml0 hP hK
  obtain ⟨rfl, hZ, hh⟩ := hP
  have hx := Bd.exec
  have hby := Bd.bytes
  have hml : c.maxLocals = 1 := hml0
  have hown : s.vm.findClass "com/example/runpulse/runpulse/RunState" = some m.cls := findClass_of_methodNamed Bd.named
  have hnm := (name_of_methodNamed Bd.named Bd.method).1
  have hlk : meth.locks = false := BodyLoose.notSynchronized Bd
  have hret : meth.sig.returnType = (some .long) := Bd.returns
  have X0 : Stand p l e ({ frames := 0, cells := 0, slots := 0, locals := 0 } : Room) s m #[(.ref a)] below meth c s₁ [] 0 0 := Stand.of_body Bd
  have e0 : s₁.heap = h0 := by rw [← hh, Bd.state]; rfl
  have N0 := Fr.nil n0
  show Go p e below s ({ frames := 0, cells := 0, slots := 0, locals := 0 } : Room).cells ({ frames := 0, cells := 0, slots := 0, locals := 0 } : Room).slots (QA0 Z a ea h0 n0) (s₁.setTop (entryFrame m #[(.ref a)] 1))
  rw [efA0]
  refine Go.by (fun _ kont => XS.aloadN X0.here hx rfl (hb hby dA0_0) rfl rfl kont) ?_
  show Go _ _ _ _ _ _ _ (s₁.setTop (mkF m 1 #[.val (.ref a)] [(.ref a)]))
  obtain ⟨T101, X101, e101, st101⟩ := getF X0 hx hZ hown (host := "") (Or.inl (hw _ (List.mem_of_getElem? (i := 58) rfl))) Via.refl e0 F0_a_starting (g := (mkF m 1 #[.val (.ref a)] [(.ref a)])) rfl rfl (hb hby dA0_1)
  refine Go.by st101 ?_
  show Go _ _ _ _ _ _ _ (T101.setTop (mkF m 4 #[.val (.ref a)] [.null]))
  refine Go.by (fun _ kont => XS.ifnonnullNo X101.here hx rfl (hb hby dA0_4) rfl (XS.aloadN X101.here hx rfl (hb hby dA0_7) rfl rfl kont)) ?_
  show Go _ _ _ _ _ _ _ (T101.setTop (mkF m 8 #[.val (.ref a)] [(.ref a)]))
  obtain ⟨T102, X102, e102, st102⟩ := getF X101 hx hZ hown (host := "") (Or.inl (hw _ (List.mem_of_getElem? (i := 54) rfl))) Via.refl e101 F0_a_earliest (g := (mkF m 8 #[.val (.ref a)] [(.ref a)])) rfl rfl (hb hby dA0_8)
  refine Go.by st102 ?_
  show Go _ _ _ _ _ _ _ (T102.setTop (mkF m 11 #[.val (.ref a)] [(.long ea)]))
  refine Go.by (fun _ kont => XS.goto X102.here hx rfl (pc0 := 11) (pc' := 21) rfl (hb hby dA0_11) (by decide) (by decide) kont) ?_
  show Go _ _ _ _ _ _ _ (T102.setTop (mkF m 21 #[.val (.ref a)] [(.long ea)]))
  refine Go.retJ X102 hx hret hlk (hb hby dA0_21) ?_ (by decide) (by decide)
  show QA0 Z a ea h0 n0 (some (.long ea)) T102.heap _
  rw [e102]
  exact ⟨rfl, N0, rfl⟩

theorem dA1_0 : decode prog_35_method_3_code 0 = .ok (.aload_n 0, 1) := by decide +kernel
theorem dA1_1 : decode prog_35_method_3_code 1 = .ok (.getfield 16, 3) := by decide +kernel
theorem dA1_4 : decode prog_35_method_3_code 4 = .ok (.ifnonnull 10, 3) := by decide +kernel
theorem dA1_14 : decode prog_35_method_3_code 14 = .ok (.aload_n 0, 1) := by decide +kernel
theorem dA1_15 : decode prog_35_method_3_code 15 = .ok (.getfield 16, 3) := by decide +kernel
theorem dA1_18 : decode prog_35_method_3_code 18 = .ok (.invokevirtual 53, 3) := by decide +kernel
theorem dA1_21 : decode prog_35_method_3_code 21 = .ok (.lreturn, 1) := by decide +kernel
theorem pdA1_0 : parseMethodDescriptor "()J" = some ⟨[], some .long⟩ := by decide +kernel
theorem pnA1 : plainName "com/example/runpulse/runpulse/RunState" = true := by first | (simp [plainName, overriddenIn]; done) | decide +kernel
theorem efA1 (m : MethodId) (a : Addr) : entryFrame m #[(.ref a)] 1 = mkF m 0 #[.val (.ref a)] [] := by first | (simp [entryFrame, mkF, argsToLocals, Value.category]; done) | rfl
def QA1 (Z : State) (a : Addr) (ev : Addr) (ea : Int64) (tt : Int64) (h0 : Heap) (n0 : Nat) (v : Option Value) (h : Heap) (L : List Loc) : Prop := (v = some (.long tt) ∧ Fr n0 L ∧ h = h0)
set_option maxRecDepth 65536 in
set_option maxHeartbeats 40000000 in
theorem rmA1 (l : Launch) (Z : State) (a0 : Array Value) (hw : ∀ d ∈ tables_1, d.before a0 Z = true) (ws : List Jvm.Cond) (a : Addr) (ev : Addr) (ea : Int64) (tt : Int64) (h0 : Heap) (n0 : Nat) (Z0 : n0 ≤ h0.size) (E0_a : Exa Z h0 a "com/example/runpulse/runpulse/RunState") (F0_a_starting : Fld Z h0 a "com/example/runpulse/runpulse/RunState" "starting" "Lcom/example/runpulse/runpulse/RunState$Event;" (.ref ev)) (F0_a_earliest : Fld Z h0 a "com/example/runpulse/runpulse/RunState" "earliest" "J" (.long ea)) (E0_ev : Exa Z h0 ev "com/example/runpulse/runpulse/RunState$Event") (F0_ev_time : Fld Z h0 ev "com/example/runpulse/runpulse/RunState$Event" "time" "J" (.long tt)) :
    MetFree l (⟨"com/example/runpulse/runpulse/RunState", "start", "()J"⟩ : MethodName) (head1 (Jvm.Cond.code (⟨"com/example/runpulse/runpulse/RunState", "start", "()J"⟩ : MethodName) prog_35_method_3_code 1 (some .long) :: ws) ({ frames := 1, cells := 0, slots := 0, locals := 12 } : Room)) (fun aa_ U_ => aa_ = #[(.ref a)] ∧ Z.Warmed39 U_.vm ∧ U_.heap = h0) (fun _ _ _ _ _ => True) (fun _ U_ o_ V_ => ∃ v_ L_, o_ = .returned v_ ∧ QA1 Z a ev ea tt h0 n0 v_ V_.heap L_ ∧ FrameEnd U_ o_ V_ L_ ({ frames := 1, cells := 0, slots := 0, locals := 12 } : Room).cells ({ frames := 1, cells := 0, slots := 0, locals := 12 } : Room).slots) := by
  refine MetFree.of_bodySF (plainFor_of_name pnA1) hisR ?_
  intro p e s m args below meth c s₁ Bd hml0 hP hK
  obtain ⟨rfl, hZ, hh⟩ := hP
  have hx := Bd.exec
  have hby := Bd.bytes
  have hml : c.maxLocals = 1 := hml0
  have hown : s.vm.findClass "com/example/runpulse/runpulse/RunState" = some m.cls := findClass_of_methodNamed Bd.named
  have hnm := (name_of_methodNamed Bd.named Bd.method).1
  have hlk : meth.locks = false := BodyLoose.notSynchronized Bd
  have hret : meth.sig.returnType = (some .long) := Bd.returns
  have X0 : Stand p l e ({ frames := 1, cells := 0, slots := 0, locals := 12 } : Room) s m #[(.ref a)] below meth c s₁ [] 0 0 := Stand.of_body Bd
  have e0 : s₁.heap = h0 := by rw [← hh, Bd.state]; rfl
  have N0 := Fr.nil n0
  show Go p e below s ({ frames := 1, cells := 0, slots := 0, locals := 12 } : Room).cells ({ frames := 1, cells := 0, slots := 0, locals := 12 } : Room).slots (QA1 Z a ev ea tt h0 n0) (s₁.setTop (entryFrame m #[(.ref a)] 1))
  rw [efA1]
  refine Go.by (fun _ kont => XS.aloadN X0.here hx rfl (hb hby dA1_0) rfl rfl kont) ?_
  show Go _ _ _ _ _ _ _ (s₁.setTop (mkF m 1 #[.val (.ref a)] [(.ref a)]))
  obtain ⟨T101, X101, e101, st101⟩ := getF X0 hx hZ hown (host := "") (Or.inl (hw _ (List.mem_of_getElem? (i := 58) rfl))) Via.refl e0 F0_a_starting (g := (mkF m 1 #[.val (.ref a)] [(.ref a)])) rfl rfl (hb hby dA1_1)
  refine Go.by st101 ?_
  show Go _ _ _ _ _ _ _ (T101.setTop (mkF m 4 #[.val (.ref a)] [(.ref ev)]))
  refine Go.by (fun _ kont => XS.ifnonnullYes X101.here hx rfl (pc0 := 4) (pc' := 14) rfl (hb hby dA1_4) rfl (by decide) (by decide) (XS.aloadN X101.here hx rfl (hb hby dA1_14) rfl rfl kont)) ?_
  show Go _ _ _ _ _ _ _ (T101.setTop (mkF m 15 #[.val (.ref a)] [(.ref a)]))
  obtain ⟨T102, X102, e102, st102⟩ := getF X101 hx hZ hown (host := "") (Or.inl (hw _ (List.mem_of_getElem? (i := 58) rfl))) Via.refl e101 F0_a_starting (g := (mkF m 15 #[.val (.ref a)] [(.ref a)])) rfl rfl (hb hby dA1_15)
  refine Go.by st102 ?_
  show Go _ _ _ _ _ _ _ (T102.setTop (mkF m 18 #[.val (.ref a)] [(.ref ev)]))
  obtain ⟨cq103, kq103, q103a, q103b, q103c⟩ := isOf hZ e102 E0_ev
  obtain ⟨_, _, ⟨T103, L103, k103, n103⟩, -, X103, ⟨Lc103, hQ103, l103, y103, z103⟩, st103⟩ := X102.virtualBack hx (y := (⟨"com/example/runpulse/runpulse/RunState$Event", "time", "()J"⟩ : MethodName)) (z := (⟨"com/example/runpulse/runpulse/RunState$Event", "time", "()J"⟩ : MethodName)) hown (mvT hZ (hw _ (List.mem_of_getElem? (i := 71) rfl))) (mvT hZ (hw _ (List.mem_of_getElem? (i := 72) rfl))) (notFace_of_selects (args := #[]) (mvT hZ (hw _ (List.mem_of_getElem? (i := 74) rfl)))) (mvT hZ (hw _ (List.mem_of_getElem? (i := 74) rfl))) (mvT hZ (hw _ (List.mem_of_getElem? (i := 73) rfl))) (by decide) (backOf (W := 0) (rmM l Z a0 hw [] ev tt h0 n0 Z0 E0_ev F0_ev_time) hZ (hw _ (List.mem_of_getElem? (i := 75) rfl)) (hw _ (List.mem_of_getElem? (i := 2) rfl)) (by decide) (by decide)) q103a q103c (g := (mkF m 18 #[.val (.ref a)] [(.ref ev)])) rfl (by rw [hml]; rfl) (Steps.refl _) (argsL := []) (rest := []) (lenOf pdA1_0 rfl) rfl (by show 2 * 0 + _ ≤ _; exact Nat.le_of_eq rfl) (hb hby dA1_18) (fun _ _ => ⟨rfl, e102, (by decide : 0 + 0 ≤ _), (by decide : 0 + 0 ≤ _)⟩)
  dsimp only [Pt.U, Pt.locs, Pt.cells, Pt.slots] at X103 l103 y103 z103 st103 hQ103
  subst l103 y103 z103
  obtain ⟨rfl, N103q, eh103⟩ := hQ103
  have N103 := Fr.app N0 N103q
  refine Go.tr st103 ?_
  show Go _ _ _ _ _ _ _ (T103.setTop (mkF m 21 #[.val (.ref a)] [(.long tt)]))
  refine Go.retJ X103 hx hret hlk (hb hby dA1_21) ?_ (by decide) (by decide)
  show QA1 Z a ev ea tt h0 n0 (some (.long tt)) T103.heap _
  rw [eh103]
  exact ⟨rfl, N103, rfl⟩

theorem pd0_0 : parseMethodDescriptor "(JJLcom/example/runpulse/runpulse/RunState$Event;Ljava/lang/Long;ZLcom/example/runpulse/runpulse/RunState$Event;)V" = some ⟨[.long, .long, (.object "com/example/runpulse/runpulse/RunState$Event"), (.object "java/lang/Long"), .boolean, (.object "com/example/runpulse/runpulse/RunState$Event")], none⟩ := by decide +kernel
theorem pd0_1 : parseMethodDescriptor "()J" = some ⟨[], some .long⟩ := by decide +kernel
theorem pd0_2 : parseMethodDescriptor "(I)Lcom/example/runpulse/runpulse/LifecycleEvent$Kind;" = some ⟨[.int], some (.object "com/example/runpulse/runpulse/LifecycleEvent$Kind")⟩ := by decide +kernel
theorem pd0_3 : parseMethodDescriptor "(Lcom/example/runpulse/runpulse/LifecycleEvent$Kind;JLcom/example/runpulse/runpulse/EventDetails;)V" = some ⟨[(.object "com/example/runpulse/runpulse/LifecycleEvent$Kind"), .long, (.object "com/example/runpulse/runpulse/EventDetails")], none⟩ := by decide +kernel
theorem pd0_4 : parseMethodDescriptor "(J)Ljava/lang/Long;" = some ⟨[.long], some (.object "java/lang/Long")⟩ := by decide +kernel
theorem pn0 : plainName "com/example/runpulse/runpulse/RunStateStartPinLaw" = true := by first | (simp [plainName, overriddenIn]; done) | decide +kernel
theorem ef0 (m : MethodId) (ea : Int64) (sm : Int64) (la : Int64) (rt : Int64) (fl : Int32) (tt : Int64) : entryFrame m #[(.long ea), (.long sm), (.long la), (.long rt), (.int fl), (.long tt)] maxLocals = mkF m 0 #[.val (.long ea), .second, .val (.long sm), .second, .val (.long la), .second, .val (.long rt), .second, .val (.int fl), .val (.long tt), .second, .unset, .unset, .unset, .unset, .unset, .unset, .unset, .unset, .unset, .unset, .unset, .unset] [] := by first | (simp [entryFrame, mkF, argsToLocals, Value.category, maxLocals]; done) | rfl
def Q0 (Z : State) (h0 : Heap) (n0 : Nat) (v : Option Value) (h : Heap) (L : List Loc) : Prop := v = some (.int 1) ∧ Fr n0 L
set_option maxRecDepth 65536 in
set_option maxHeartbeats 40000000 in
theorem rm0 (l : Launch) (Z : State) (a0 : Array Value) (hw : ∀ d ∈ tables_1, d.before a0 Z = true) (ws : List Jvm.Cond) (ea : Int64) (sm : Int64) (la : Int64) (rt : Int64) (fl : Int32) (tt : Int64) (s_STARTING : Addr) (s_NONE : Addr) (s_COMPLETED : Addr) (s_FAILED : Addr) (s_KILLED : Addr) (s_cache : Addr) (kcl : ClassId) (h0 : Heap) (n0 : Nat) (Z0 : n0 ≤ h0.size) (S_STARTING : Sta Z h0 "com/example/runpulse/runpulse/LifecycleEvent$Kind" "STARTING" "Lcom/example/runpulse/runpulse/LifecycleEvent$Kind;" (.ref s_STARTING)) (S_NONE : Sta Z h0 "com/example/runpulse/runpulse/EventDetails" "NONE" "Lcom/example/runpulse/runpulse/EventDetails;" (.ref s_NONE)) (S_COMPLETED : Sta Z h0 "com/example/runpulse/runpulse/LifecycleEvent$Kind" "COMPLETED" "Lcom/example/runpulse/runpulse/LifecycleEvent$Kind;" (.ref s_COMPLETED)) (S_FAILED : Sta Z h0 "com/example/runpulse/runpulse/LifecycleEvent$Kind" "FAILED" "Lcom/example/runpulse/runpulse/LifecycleEvent$Kind;" (.ref s_FAILED)) (S_KILLED : Sta Z h0 "com/example/runpulse/runpulse/LifecycleEvent$Kind" "KILLED" "Lcom/example/runpulse/runpulse/LifecycleEvent$Kind;" (.ref s_KILLED)) (E_s_STARTING : Exa Z h0 s_STARTING "com/example/runpulse/runpulse/LifecycleEvent$Kind") (E_s_NONE : Exa Z h0 s_NONE "com/example/runpulse/runpulse/EventDetails") (E_s_COMPLETED : Exa Z h0 s_COMPLETED "com/example/runpulse/runpulse/LifecycleEvent$Kind") (E_s_FAILED : Exa Z h0 s_FAILED "com/example/runpulse/runpulse/LifecycleEvent$Kind") (E_s_KILLED : Exa Z h0 s_KILLED "com/example/runpulse/runpulse/LifecycleEvent$Kind") (Vl : LC Z h0 s_cache kcl) (Sl : Sta Z h0 "java/lang/Long$LongCache" "cache" "[Ljava/lang/Long;" (.ref s_cache)) :
    MetFree l x (head1 (Jvm.Cond.code x code maxLocals ret :: ws) room_1) (fun aa_ U_ => aa_ = #[(.long ea), (.long sm), (.long la), (.long rt), (.int fl), (.long tt)] ∧ Z.Warmed39 U_.vm ∧ U_.heap = h0 ∧ U_.vm = Z.vm) (fun _ _ _ _ _ => True) (fun _ U_ o_ V_ => ∃ v_ L_, o_ = .returned v_ ∧ Q0 Z h0 n0 v_ V_.heap L_ ∧ ReturnedEndW U_ o_ V_ L_ 24 2176) := by
  refine MetFree.of_bodySF (plainFor_of_name pn0) hisR ?_
  intro p e s m args below meth c s₁ Bd hml0 hP hK
  obtain ⟨rfl, hZ, hh, hvm⟩ := hP
  have hx := Bd.exec
  have hby := Bd.bytes
  have hml : c.maxLocals = 23 := hml0
  have hown : s.vm.findClass "com/example/runpulse/runpulse/RunStateStartPinLaw" = some m.cls := findClass_of_methodNamed Bd.named
  have hnm := (name_of_methodNamed Bd.named Bd.method).1
  have hlk : meth.locks = false := BodyLoose.notSynchronized Bd
  have hret : meth.sig.returnType = (some .boolean) := Bd.returns
  have X0 : Stand p l e room_1 (s.setVm s.vm) m #[(.long ea), (.long sm), (.long la), (.long rt), (.int fl), (.long tt)] below meth c s₁ [] 0 0 := Stand.of_body Bd
  have e0 : s₁.heap = h0 := by rw [← hh, Bd.state]; rfl
  have N0 := Fr.nil n0
  have hS : s.Since s.vm 0 := (State.WarmedH.refl s).since 0
  have hk0 : 0 ≤ h0.size := Nat.zero_le _
  have IB0 : IB Z s.vm [] := by rw [hvm]; exact IB.start
  show GoW p e below s 24 2176 (Q0 Z h0 n0) (s₁.setTop (entryFrame m #[(.long ea), (.long sm), (.long la), (.long rt), (.int fl), (.long tt)] maxLocals))
  rw [ef0]
  refine GoW.by (fun _ kont => XS.iload X0.here hx rfl (hb hby at_0) rfl (XS.iconst X0.here hx rfl (hb hby at_2) (XS.iand X0.here hx rfl (hb hby at_3) rfl kont))) ?_
  show GoW _ _ _ _ _ _ _ (s₁.setTop (mkF m 4 #[.val (.long ea), .second, .val (.long sm), .second, .val (.long la), .second, .val (.long rt), .second, .val (.int fl), .val (.long tt), .second, .unset, .unset, .unset, .unset, .unset, .unset, .unset, .unset, .unset, .unset, .unset, .unset] [(.int (fl &&& (1 : Int32)))]))
  by_cases hc101 : (fl &&& (1 : Int32)) = (0 : Int32)
  · refine GoW.by (fun _ kont => XS.ifYes X0.here hx rfl (pc0 := 4) (pc' := 11) rfl (hb hby at_4) rfl ((if0 _ _).trans (teq hc101).1) (by decide) (by decide) kont) ?_
    show GoW _ _ _ _ _ _ _ (s₁.setTop (mkF m 11 #[.val (.long ea), .second, .val (.long sm), .second, .val (.long la), .second, .val (.long rt), .second, .val (.int fl), .val (.long tt), .second, .unset, .unset, .unset, .unset, .unset, .unset, .unset, .unset, .unset, .unset, .unset, .unset] []))
    refine GoW.by (fun _ kont => XS.iconst X0.here hx rfl (hb hby at_11) (XS.istore X0.here hx rfl (hb hby at_12) rfl (l' := #[.val (.long ea), .second, .val (.long sm), .second, .val (.long la), .second, .val (.long rt), .second, .val (.int fl), .val (.long tt), .second, .val (.int (0 : Int32)), .unset, .unset, .unset, .unset, .unset, .unset, .unset, .unset, .unset, .unset, .unset]) rfl (XS.iload X0.here hx rfl (hb hby at_14) rfl (XS.iconst X0.here hx rfl (hb hby at_16) (XS.iand X0.here hx rfl (hb hby at_17) rfl kont))))) ?_
    show GoW _ _ _ _ _ _ _ (s₁.setTop (mkF m 18 #[.val (.long ea), .second, .val (.long sm), .second, .val (.long la), .second, .val (.long rt), .second, .val (.int fl), .val (.long tt), .second, .val (.int (0 : Int32)), .unset, .unset, .unset, .unset, .unset, .unset, .unset, .unset, .unset, .unset, .unset] [(.int (fl &&& (2 : Int32)))]))
    by_cases hc102 : (fl &&& (2 : Int32)) = (0 : Int32)
    · refine GoW.by (fun _ kont => XS.ifYes X0.here hx rfl (pc0 := 18) (pc' := 25) rfl (hb hby at_18) rfl ((if0 _ _).trans (teq hc102).1) (by decide) (by decide) kont) ?_
      show GoW _ _ _ _ _ _ _ (s₁.setTop (mkF m 25 #[.val (.long ea), .second, .val (.long sm), .second, .val (.long la), .second, .val (.long rt), .second, .val (.int fl), .val (.long tt), .second, .val (.int (0 : Int32)), .unset, .unset, .unset, .unset, .unset, .unset, .unset, .unset, .unset, .unset, .unset] []))
      refine GoW.by (fun _ kont => XS.iconst X0.here hx rfl (hb hby at_25) (XS.istore X0.here hx rfl (hb hby at_26) rfl (l' := #[.val (.long ea), .second, .val (.long sm), .second, .val (.long la), .second, .val (.long rt), .second, .val (.int fl), .val (.long tt), .second, .val (.int (0 : Int32)), .val (.int (0 : Int32)), .unset, .unset, .unset, .unset, .unset, .unset, .unset, .unset, .unset, .unset]) rfl kont)) ?_
      show GoW _ _ _ _ _ _ _ (s₁.setTop (mkF m 28 #[.val (.long ea), .second, .val (.long sm), .second, .val (.long la), .second, .val (.long rt), .second, .val (.int fl), .val (.long tt), .second, .val (.int (0 : Int32)), .val (.int (0 : Int32)), .unset, .unset, .unset, .unset, .unset, .unset, .unset, .unset, .unset, .unset] []))
      have cut42 : ∀ (al : Int32), (al = (0 : Int32) ∨ al = (1 : Int32)) → GoW p e below s 24 2176 (Q0 Z h0 n0) (s₁.setTop (mkF m 42 #[.val (.long ea), .second, .val (.long sm), .second, .val (.long la), .second, .val (.long rt), .second, .val (.int fl), .val (.long tt), .second, .val (.int (0 : Int32)), .val (.int (0 : Int32)), .val (.int al), .unset, .unset, .unset, .unset, .unset, .unset, .unset, .unset, .unset] [])) := by
        intro al hal
        show GoW _ _ _ _ _ _ _ (s₁.setTop (mkF m 42 #[.val (.long ea), .second, .val (.long sm), .second, .val (.long la), .second, .val (.long rt), .second, .val (.int fl), .val (.long tt), .second, .val (.int (0 : Int32)), .val (.int (0 : Int32)), .val (.int al), .unset, .unset, .unset, .unset, .unset, .unset, .unset, .unset, .unset] []))
        refine GoW.by (fun _ kont => XS.iload X0.here hx rfl (hb hby at_42) rfl (XS.bipush X0.here hx rfl (hb hby at_44) (XS.iand X0.here hx rfl (hb hby at_46) rfl kont))) ?_
        show GoW _ _ _ _ _ _ _ (s₁.setTop (mkF m 47 #[.val (.long ea), .second, .val (.long sm), .second, .val (.long la), .second, .val (.long rt), .second, .val (.int fl), .val (.long tt), .second, .val (.int (0 : Int32)), .val (.int (0 : Int32)), .val (.int al), .unset, .unset, .unset, .unset, .unset, .unset, .unset, .unset, .unset] [(.int (fl &&& (8 : Int32)))]))
        by_cases hc103 : (fl &&& (8 : Int32)) = (0 : Int32)
        · refine GoW.by (fun _ kont => XS.ifYes X0.here hx rfl (pc0 := 47) (pc' := 54) rfl (hb hby at_47) rfl ((if0 _ _).trans (teq hc103).1) (by decide) (by decide) kont) ?_
          show GoW _ _ _ _ _ _ _ (s₁.setTop (mkF m 54 #[.val (.long ea), .second, .val (.long sm), .second, .val (.long la), .second, .val (.long rt), .second, .val (.int fl), .val (.long tt), .second, .val (.int (0 : Int32)), .val (.int (0 : Int32)), .val (.int al), .unset, .unset, .unset, .unset, .unset, .unset, .unset, .unset, .unset] []))
          refine GoW.by (fun _ kont => XS.iconst X0.here hx rfl (hb hby at_54) (XS.istore X0.here hx rfl (hb hby at_55) rfl (l' := #[.val (.long ea), .second, .val (.long sm), .second, .val (.long la), .second, .val (.long rt), .second, .val (.int fl), .val (.long tt), .second, .val (.int (0 : Int32)), .val (.int (0 : Int32)), .val (.int al), .val (.int (0 : Int32)), .unset, .unset, .unset, .unset, .unset, .unset, .unset, .unset]) rfl (XS.iload X0.here hx rfl (hb hby at_57) rfl kont))) ?_
          show GoW _ _ _ _ _ _ _ (s₁.setTop (mkF m 59 #[.val (.long ea), .second, .val (.long sm), .second, .val (.long la), .second, .val (.long rt), .second, .val (.int fl), .val (.long tt), .second, .val (.int (0 : Int32)), .val (.int (0 : Int32)), .val (.int al), .val (.int (0 : Int32)), .unset, .unset, .unset, .unset, .unset, .unset, .unset, .unset] [(.int (0 : Int32))]))
          refine GoW.by (fun _ kont => XS.ifYes X0.here hx rfl (pc0 := 59) (pc' := 79) rfl (hb hby at_59) rfl (by decide) (by decide) (by decide) kont) ?_
          show GoW _ _ _ _ _ _ _ (s₁.setTop (mkF m 79 #[.val (.long ea), .second, .val (.long sm), .second, .val (.long la), .second, .val (.long rt), .second, .val (.int fl), .val (.long tt), .second, .val (.int (0 : Int32)), .val (.int (0 : Int32)), .val (.int al), .val (.int (0 : Int32)), .unset, .unset, .unset, .unset, .unset, .unset, .unset, .unset] []))
          refine GoW.by (fun _ kont => XS.aconstNull X0.here hx rfl (hb hby at_79) (XS.astore X0.here hx rfl (hb hby at_80) rfl rfl (l' := #[.val (.long ea), .second, .val (.long sm), .second, .val (.long la), .second, .val (.long rt), .second, .val (.int fl), .val (.long tt), .second, .val (.int (0 : Int32)), .val (.int (0 : Int32)), .val (.int al), .val (.int (0 : Int32)), .val .null, .unset, .unset, .unset, .unset, .unset, .unset, .unset]) rfl (XS.iload X0.here hx rfl (hb hby at_82) rfl kont))) ?_
          show GoW _ _ _ _ _ _ _ (s₁.setTop (mkF m 84 #[.val (.long ea), .second, .val (.long sm), .second, .val (.long la), .second, .val (.long rt), .second, .val (.int fl), .val (.long tt), .second, .val (.int (0 : Int32)), .val (.int (0 : Int32)), .val (.int al), .val (.int (0 : Int32)), .val .null, .unset, .unset, .unset, .unset, .unset, .unset, .unset] [(.int (0 : Int32))]))
          refine GoW.by (fun _ kont => XS.ifYes X0.here hx rfl (pc0 := 84) (pc' := 95) rfl (hb hby at_84) rfl (by decide) (by decide) (by decide) kont) ?_
          show GoW _ _ _ _ _ _ _ (s₁.setTop (mkF m 95 #[.val (.long ea), .second, .val (.long sm), .second, .val (.long la), .second, .val (.long rt), .second, .val (.int fl), .val (.long tt), .second, .val (.int (0 : Int32)), .val (.int (0 : Int32)), .val (.int al), .val (.int (0 : Int32)), .val .null, .unset, .unset, .unset, .unset, .unset, .unset, .unset] []))
          refine GoW.by (fun _ kont => XS.aconstNull X0.here hx rfl (hb hby at_95) (XS.astore X0.here hx rfl (hb hby at_96) rfl rfl (l' := #[.val (.long ea), .second, .val (.long sm), .second, .val (.long la), .second, .val (.long rt), .second, .val (.int fl), .val (.long tt), .second, .val (.int (0 : Int32)), .val (.int (0 : Int32)), .val (.int al), .val (.int (0 : Int32)), .val .null, .val .null, .unset, .unset, .unset, .unset, .unset, .unset]) rfl (XS.iload X0.here hx rfl (hb hby at_98) rfl kont))) ?_
          show GoW _ _ _ _ _ _ _ (s₁.setTop (mkF m 100 #[.val (.long ea), .second, .val (.long sm), .second, .val (.long la), .second, .val (.long rt), .second, .val (.int fl), .val (.long tt), .second, .val (.int (0 : Int32)), .val (.int (0 : Int32)), .val (.int al), .val (.int (0 : Int32)), .val .null, .val .null, .unset, .unset, .unset, .unset, .unset, .unset] [(.int (0 : Int32))]))
          refine GoW.by (fun _ kont => XS.ifYes X0.here hx rfl (pc0 := 100) (pc' := 123) rfl (hb hby at_100) rfl (by decide) (by decide) (by decide) kont) ?_
          show GoW _ _ _ _ _ _ _ (s₁.setTop (mkF m 123 #[.val (.long ea), .second, .val (.long sm), .second, .val (.long la), .second, .val (.long rt), .second, .val (.int fl), .val (.long tt), .second, .val (.int (0 : Int32)), .val (.int (0 : Int32)), .val (.int al), .val (.int (0 : Int32)), .val .null, .val .null, .unset, .unset, .unset, .unset, .unset, .unset] []))
          refine GoW.by (fun _ kont => XS.aconstNull X0.here hx rfl (hb hby at_123) (XS.astore X0.here hx rfl (hb hby at_124) rfl rfl (l' := #[.val (.long ea), .second, .val (.long sm), .second, .val (.long la), .second, .val (.long rt), .second, .val (.int fl), .val (.long tt), .second, .val (.int (0 : Int32)), .val (.int (0 : Int32)), .val (.int al), .val (.int (0 : Int32)), .val .null, .val .null, .val .null, .unset, .unset, .unset, .unset, .unset]) rfl kont)) ?_
          show GoW _ _ _ _ _ _ _ (s₁.setTop (mkF m 126 #[.val (.long ea), .second, .val (.long sm), .second, .val (.long la), .second, .val (.long rt), .second, .val (.int fl), .val (.long tt), .second, .val (.int (0 : Int32)), .val (.int (0 : Int32)), .val (.int al), .val (.int (0 : Int32)), .val .null, .val .null, .val .null, .unset, .unset, .unset, .unset, .unset] []))
          obtain ⟨T104, h104, X104, e104, X_104, A104, D104, -, st104⟩ := newO X0 hx hZ hown (hw _ (List.mem_of_getElem? (i := 47) rfl)) (hw _ (List.mem_of_getElem? (i := 48) rfl)) (hw _ (List.mem_of_getElem? (i := 49) rfl)) e0 (g := (mkF m 126 #[.val (.long ea), .second, .val (.long sm), .second, .val (.long la), .second, .val (.long rt), .second, .val (.int fl), .val (.long tt), .second, .val (.int (0 : Int32)), .val (.int (0 : Int32)), .val (.int al), .val (.int (0 : Int32)), .val .null, .val .null, .val .null, .unset, .unset, .unset, .unset, .unset] [])) rfl (hb hby at_126) (by decide) (by decide)
          obtain ⟨b104, g104⟩ : ∃ z, z = h0.size := ⟨_, rfl⟩
          rw [← g104] at A104 D104 st104
          have ne_s_STARTING_b104 : s_STARTING ≠ b104 := Nat.ne_of_lt (Nat.lt_of_lt_of_le E_s_STARTING.lt (Nat.le_of_eq g104.symm))
          have ne_s_NONE_b104 : s_NONE ≠ b104 := Nat.ne_of_lt (Nat.lt_of_lt_of_le E_s_NONE.lt (Nat.le_of_eq g104.symm))
          have ne_s_COMPLETED_b104 : s_COMPLETED ≠ b104 := Nat.ne_of_lt (Nat.lt_of_lt_of_le E_s_COMPLETED.lt (Nat.le_of_eq g104.symm))
          have ne_s_FAILED_b104 : s_FAILED ≠ b104 := Nat.ne_of_lt (Nat.lt_of_lt_of_le E_s_FAILED.lt (Nat.le_of_eq g104.symm))
          have ne_s_KILLED_b104 : s_KILLED ≠ b104 := Nat.ne_of_lt (Nat.lt_of_lt_of_le E_s_KILLED.lt (Nat.le_of_eq g104.symm))
          have ne_s_cache_b104 : s_cache ≠ b104 := Nat.ne_of_lt (Nat.lt_of_lt_of_le Vl.lt (Nat.le_of_eq g104.symm))
          have ge_b104 : n0 ≤ b104 := Nat.le_trans Z0 (Nat.le_of_eq g104.symm)
          have sz_b104 : h0.size ≤ b104 := Nat.le_trans (Keep.refl h0 []).1 (Nat.le_of_eq g104.symm)
          have E105_s_STARTING := E_s_STARTING.ext X_104
          have E105_s_NONE := E_s_NONE.ext X_104
          have E105_s_COMPLETED := E_s_COMPLETED.ext X_104
          have E105_s_FAILED := E_s_FAILED.ext X_104
          have E105_s_KILLED := E_s_KILLED.ext X_104
          have V105_s_cache := Vl.ext X_104
          have S105_STARTING := S_STARTING.ext X_104
          have S105_NONE := S_NONE.ext X_104
          have S105_COMPLETED := S_COMPLETED.ext X_104
          have S105_FAILED := S_FAILED.ext X_104
          have S105_KILLED := S_KILLED.ext X_104
          have S105_cache := Sl.ext X_104
          have Z105 := Nat.le_trans Z0 X_104.1
          have hk105 := Nat.le_trans hk0 X_104.1
          have K105 : Keep h0 h104 [] := (Keep.refl h0 []).ext X_104
          have F104_earliest : Fld Z h104 b104 "com/example/runpulse/runpulse/RunState" "earliest" "J" (.long (0 : Int64)) := D104 (Or.inr (hw _ (List.mem_of_getElem? (i := 55) rfl))) (ty := .long) (by decide)
          have F104_latest : Fld Z h104 b104 "com/example/runpulse/runpulse/RunState" "latest" "J" (.long (0 : Int64)) := D104 (Or.inr (hw _ (List.mem_of_getElem? (i := 57) rfl))) (ty := .long) (by decide)
          have F104_starting : Fld Z h104 b104 "com/example/runpulse/runpulse/RunState" "starting" "Lcom/example/runpulse/runpulse/RunState$Event;" .null := D104 (Or.inr (hw _ (List.mem_of_getElem? (i := 59) rfl))) (ty := (.object "com/example/runpulse/runpulse/RunState$Event")) (by decide)
          have F104_running : Fld Z h104 b104 "com/example/runpulse/runpulse/RunState" "running" "Ljava/lang/Long;" .null := D104 (Or.inr (hw _ (List.mem_of_getElem? (i := 61) rfl))) (ty := (.object "java/lang/Long")) (by decide)
          have F104_alive : Fld Z h104 b104 "com/example/runpulse/runpulse/RunState" "alive" "Z" (.int (0 : Int32)) := D104 (Or.inr (hw _ (List.mem_of_getElem? (i := 63) rfl))) (ty := .boolean) (by decide)
          have F104_terminal : Fld Z h104 b104 "com/example/runpulse/runpulse/RunState" "terminal" "Lcom/example/runpulse/runpulse/RunState$Event;" .null := D104 (Or.inr (hw _ (List.mem_of_getElem? (i := 65) rfl))) (ty := (.object "com/example/runpulse/runpulse/RunState$Event")) (by decide)
          refine GoW.by st104 ?_
          show GoW _ _ _ _ _ _ _ (T104.setTop (mkF m 129 #[.val (.long ea), .second, .val (.long sm), .second, .val (.long la), .second, .val (.long rt), .second, .val (.int fl), .val (.long tt), .second, .val (.int (0 : Int32)), .val (.int (0 : Int32)), .val (.int al), .val (.int (0 : Int32)), .val .null, .val .null, .val .null, .unset, .unset, .unset, .unset, .unset] [(.ref b104)]))
          refine GoW.by (fun _ kont => XS.dup X104.here hx rfl (hb hby at_129) rfl rfl (XS.lloadN X104.here hx rfl (hb hby at_130) rfl (XS.lload X104.here hx rfl (hb hby at_131) rfl (XS.aload X104.here hx rfl (hb hby at_133) rfl rfl (XS.aload X104.here hx rfl (hb hby at_135) rfl rfl (XS.iload X104.here hx rfl (hb hby at_137) rfl kont)))))) ?_
          show GoW _ _ _ _ _ _ _ (T104.setTop (mkF m 139 #[.val (.long ea), .second, .val (.long sm), .second, .val (.long la), .second, .val (.long rt), .second, .val (.int fl), .val (.long tt), .second, .val (.int (0 : Int32)), .val (.int (0 : Int32)), .val (.int al), .val (.int (0 : Int32)), .val .null, .val .null, .val .null, .unset, .unset, .unset, .unset, .unset] [(.int al), .null, .null, (.long la), (.long ea), (.ref b104), (.ref b104)]))
          refine GoW.by (fun _ kont => XS.aload X104.here hx rfl (hb hby at_139) rfl rfl kont) ?_
          show GoW _ _ _ _ _ _ _ (T104.setTop (mkF m 141 #[.val (.long ea), .second, .val (.long sm), .second, .val (.long la), .second, .val (.long rt), .second, .val (.int fl), .val (.long tt), .second, .val (.int (0 : Int32)), .val (.int (0 : Int32)), .val (.int al), .val (.int (0 : Int32)), .val .null, .val .null, .val .null, .unset, .unset, .unset, .unset, .unset] [.null, (.int al), .null, .null, (.long la), (.long ea), (.ref b104), (.ref b104)]))
          obtain ⟨_, _, ⟨T106, L106, k106, n106⟩, -, X106, ⟨Lc106, hQ106, l106, y106, z106⟩, st106⟩ := X104.specialBack hx (y := (⟨"com/example/runpulse/runpulse/RunState", "<init>", "(JJLcom/example/runpulse/runpulse/RunState$Event;Ljava/lang/Long;ZLcom/example/runpulse/runpulse/RunState$Event;)V"⟩ : MethodName)) rfl hown (mvT hZ (hw _ (List.mem_of_getElem? (i := 50) rfl))) (mvT hZ (hw _ (List.mem_of_getElem? (i := 51) rfl))) (mvT hZ (hw _ (List.mem_of_getElem? (i := 52) rfl))) (by decide) (backOf (W := 1) (rmS0 l Z a0 hw [] b104 ea la al h104 n0 Z105 A104 F104_earliest F104_latest F104_starting F104_running F104_alive F104_terminal ge_b104 hal) hZ (hw _ (List.mem_of_getElem? (i := 52) rfl)) (hw _ (List.mem_of_getElem? (i := 49) rfl)) (by decide) (by decide)) (g := (mkF m 141 #[.val (.long ea), .second, .val (.long sm), .second, .val (.long la), .second, .val (.long rt), .second, .val (.int fl), .val (.long tt), .second, .val (.int (0 : Int32)), .val (.int (0 : Int32)), .val (.int al), .val (.int (0 : Int32)), .val .null, .val .null, .val .null, .unset, .unset, .unset, .unset, .unset] [.null, (.int al), .null, .null, (.long la), (.long ea), (.ref b104), (.ref b104)])) rfl (by rw [hml]; rfl) (Steps.refl _) (a := b104) (argsL := [(.long ea), (.long la), .null, .null, (.int al), .null]) (rest := [(.ref b104)]) (lenOf pd0_0 rfl) rfl (by show 2 * 0 + _ ≤ _; exact Nat.le_of_eq rfl) (hb hby at_141) (fun _ _ => ⟨rfl, e104, (by decide : 1 + 0 ≤ _), (by decide : 6 + 0 ≤ _)⟩)
          dsimp only [Pt.U, Pt.locs, Pt.cells, Pt.slots] at X106 l106 y106 z106 st106 hQ106
          subst l106 y106 z106
          obtain ⟨rfl, N106q, K106, g106_0, g106_1, g106_2, g106_3, g106_4, g106_5, g106_6⟩ := hQ106
          have S107_STARTING := own_stakeep S105_STARTING K106 (allS (own_ns A104) all0)
          have S107_NONE := own_stakeep S105_NONE K106 (allS (own_ns A104) all0)
          have S107_COMPLETED := own_stakeep S105_COMPLETED K106 (allS (own_ns A104) all0)
          have S107_FAILED := own_stakeep S105_FAILED K106 (allS (own_ns A104) all0)
          have S107_KILLED := own_stakeep S105_KILLED K106 (allS (own_ns A104) all0)
          have S107_cache := own_stakeep S105_cache K106 (allS (own_ns A104) all0)
          have E107_s_STARTING := E105_s_STARTING.keep K106
          have E107_s_NONE := E105_s_NONE.keep K106
          have E107_s_COMPLETED := E105_s_COMPLETED.keep K106
          have E107_s_FAILED := E105_s_FAILED.keep K106
          have E107_s_KILLED := E105_s_KILLED.keep K106
          have E107_b104 := A104.keep K106
          have V107_s_cache := V105_s_cache.keep K106 (ninS ne_s_cache_b104 nin0)
          have Z107 := Nat.le_trans Z105 K106.1
          have hk107 := Nat.le_trans hk105 K106.1
          have K107 : Keep h0 T106.heap [] := Keep.trans K105 K106 (allS (Or.inr sz_b104) all0)
          have N106 := Fr.app N0 N106q
          refine GoW.tr st106 ?_
          show GoW _ _ _ _ _ _ _ (T106.setTop (mkF m 144 #[.val (.long ea), .second, .val (.long sm), .second, .val (.long la), .second, .val (.long rt), .second, .val (.int fl), .val (.long tt), .second, .val (.int (0 : Int32)), .val (.int (0 : Int32)), .val (.int al), .val (.int (0 : Int32)), .val .null, .val .null, .val .null, .unset, .unset, .unset, .unset, .unset] [(.ref b104)]))
          refine GoW.by (fun _ kont => XS.astore X106.here hx rfl (hb hby at_144) rfl rfl (l' := #[.val (.long ea), .second, .val (.long sm), .second, .val (.long la), .second, .val (.long rt), .second, .val (.int fl), .val (.long tt), .second, .val (.int (0 : Int32)), .val (.int (0 : Int32)), .val (.int al), .val (.int (0 : Int32)), .val .null, .val .null, .val .null, .val (.ref b104), .unset, .unset, .unset, .unset]) rfl (XS.aload X106.here hx rfl (hb hby at_146) rfl rfl kont)) ?_
          show GoW _ _ _ _ _ _ _ (T106.setTop (mkF m 148 #[.val (.long ea), .second, .val (.long sm), .second, .val (.long la), .second, .val (.long rt), .second, .val (.int fl), .val (.long tt), .second, .val (.int (0 : Int32)), .val (.int (0 : Int32)), .val (.int al), .val (.int (0 : Int32)), .val .null, .val .null, .val .null, .val (.ref b104), .unset, .unset, .unset, .unset] [(.ref b104)]))
          obtain ⟨cq108, kq108, q108a, q108b, q108c⟩ := isOf hZ rfl g106_0
          obtain ⟨_, _, ⟨T108, L108, k108, n108⟩, -, X108, ⟨Lc108, hQ108, l108, y108, z108⟩, st108⟩ := X106.virtualBack hx (y := (⟨"com/example/runpulse/runpulse/RunState", "start", "()J"⟩ : MethodName)) (z := (⟨"com/example/runpulse/runpulse/RunState", "start", "()J"⟩ : MethodName)) hown (mvT hZ (hw _ (List.mem_of_getElem? (i := 66) rfl))) (mvT hZ (hw _ (List.mem_of_getElem? (i := 67) rfl))) (notFace_of_selects (args := #[]) (mvT hZ (hw _ (List.mem_of_getElem? (i := 69) rfl)))) (mvT hZ (hw _ (List.mem_of_getElem? (i := 69) rfl))) (mvT hZ (hw _ (List.mem_of_getElem? (i := 68) rfl))) (by decide) (backOf (W := 0) (rmA0 l Z a0 hw [] b104 ea T106.heap n0 Z107 g106_0 g106_3 g106_1) hZ (hw _ (List.mem_of_getElem? (i := 70) rfl)) (hw _ (List.mem_of_getElem? (i := 49) rfl)) (by decide) (by decide)) q108a q108c (g := (mkF m 148 #[.val (.long ea), .second, .val (.long sm), .second, .val (.long la), .second, .val (.long rt), .second, .val (.int fl), .val (.long tt), .second, .val (.int (0 : Int32)), .val (.int (0 : Int32)), .val (.int al), .val (.int (0 : Int32)), .val .null, .val .null, .val .null, .val (.ref b104), .unset, .unset, .unset, .unset] [(.ref b104)])) rfl (by rw [hml]; rfl) (Steps.refl _) (argsL := []) (rest := []) (lenOf pd0_1 rfl) rfl (by show 2 * 0 + _ ≤ _; exact Nat.le_of_eq rfl) (hb hby at_148) (fun _ _ => ⟨rfl, rfl, (by decide : 1 + 0 ≤ _), (by decide : 6 + 0 ≤ _)⟩)
          dsimp only [Pt.U, Pt.locs, Pt.cells, Pt.slots] at X108 l108 y108 z108 st108 hQ108
          subst l108 y108 z108
          obtain ⟨rfl, N108q, eh108⟩ := hQ108
          have N108 := Fr.app N106 N108q
          refine GoW.tr st108 ?_
          show GoW _ _ _ _ _ _ _ (T108.setTop (mkF m 151 #[.val (.long ea), .second, .val (.long sm), .second, .val (.long la), .second, .val (.long rt), .second, .val (.int fl), .val (.long tt), .second, .val (.int (0 : Int32)), .val (.int (0 : Int32)), .val (.int al), .val (.int (0 : Int32)), .val .null, .val .null, .val .null, .val (.ref b104), .unset, .unset, .unset, .unset] [(.long ea)]))
          refine GoW.by (fun _ kont => XS.lstore X108.here hx rfl (hb hby at_151) rfl (l' := #[.val (.long ea), .second, .val (.long sm), .second, .val (.long la), .second, .val (.long rt), .second, .val (.int fl), .val (.long tt), .second, .val (.int (0 : Int32)), .val (.int (0 : Int32)), .val (.int al), .val (.int (0 : Int32)), .val .null, .val .null, .val .null, .val (.ref b104), .val (.long ea), .second, .unset, .unset]) rfl (XS.iload X108.here hx rfl (hb hby at_153) rfl kont)) ?_
          show GoW _ _ _ _ _ _ _ (T108.setTop (mkF m 155 #[.val (.long ea), .second, .val (.long sm), .second, .val (.long la), .second, .val (.long rt), .second, .val (.int fl), .val (.long tt), .second, .val (.int (0 : Int32)), .val (.int (0 : Int32)), .val (.int al), .val (.int (0 : Int32)), .val .null, .val .null, .val .null, .val (.ref b104), .val (.long ea), .second, .unset, .unset] [(.int (0 : Int32))]))
          refine GoW.by (fun _ kont => XS.ifYes X108.here hx rfl (pc0 := 155) (pc' := 164) rfl (hb hby at_155) rfl (by decide) (by decide) (by decide) kont) ?_
          show GoW _ _ _ _ _ _ _ (T108.setTop (mkF m 164 #[.val (.long ea), .second, .val (.long sm), .second, .val (.long la), .second, .val (.long rt), .second, .val (.int fl), .val (.long tt), .second, .val (.int (0 : Int32)), .val (.int (0 : Int32)), .val (.int al), .val (.int (0 : Int32)), .val .null, .val .null, .val .null, .val (.ref b104), .val (.long ea), .second, .unset, .unset] []))
          refine GoW.by (fun _ kont => XS.lloadN X108.here hx rfl (hb hby at_164) rfl (XS.lstore X108.here hx rfl (hb hby at_165) rfl (l' := #[.val (.long ea), .second, .val (.long sm), .second, .val (.long la), .second, .val (.long rt), .second, .val (.int fl), .val (.long tt), .second, .val (.int (0 : Int32)), .val (.int (0 : Int32)), .val (.int al), .val (.int (0 : Int32)), .val .null, .val .null, .val .null, .val (.ref b104), .val (.long ea), .second, .val (.long ea), .second]) rfl (XS.lload X108.here hx rfl (hb hby at_167) rfl (XS.lload X108.here hx rfl (hb hby at_169) rfl (XS.lcmp X108.here hx rfl (hb hby at_171) rfl kont))))) ?_
          show GoW _ _ _ _ _ _ _ (T108.setTop (mkF m 172 #[.val (.long ea), .second, .val (.long sm), .second, .val (.long la), .second, .val (.long rt), .second, .val (.int fl), .val (.long tt), .second, .val (.int (0 : Int32)), .val (.int (0 : Int32)), .val (.int al), .val (.int (0 : Int32)), .val .null, .val .null, .val .null, .val (.ref b104), .val (.long ea), .second, .val (.long ea), .second] [(.int (lcmpW ea ea))]))
          refine GoW.by (fun _ kont => XS.ifNo X108.here hx rfl (hb hby at_172) rfl ((if0 _ _).trans (teq ((lw_eq _ _).mpr rfl)).2) kont) ?_
          show GoW _ _ _ _ _ _ _ (T108.setTop (mkF m 175 #[.val (.long ea), .second, .val (.long sm), .second, .val (.long la), .second, .val (.long rt), .second, .val (.int fl), .val (.long tt), .second, .val (.int (0 : Int32)), .val (.int (0 : Int32)), .val (.int al), .val (.int (0 : Int32)), .val .null, .val .null, .val .null, .val (.ref b104), .val (.long ea), .second, .val (.long ea), .second] []))
          refine GoW.by (fun _ kont => XS.iconst X108.here hx rfl (hb hby at_175) (XS.goto X108.here hx rfl (pc0 := 176) (pc' := 180) rfl (hb hby at_176) (by decide) (by decide) kont)) ?_
          show GoW _ _ _ _ _ _ _ (T108.setTop (mkF m 180 #[.val (.long ea), .second, .val (.long sm), .second, .val (.long la), .second, .val (.long rt), .second, .val (.int fl), .val (.long tt), .second, .val (.int (0 : Int32)), .val (.int (0 : Int32)), .val (.int al), .val (.int (0 : Int32)), .val .null, .val .null, .val .null, .val (.ref b104), .val (.long ea), .second, .val (.long ea), .second] [(.int (1 : Int32))]))
          refine GoW.retN X108 hS (by rw [eh108]; exact hk107) hx (t := .boolean) hret (by simp) hlk (hb hby at_180) ?_ (by decide) (by decide)
          show Q0 Z h0 n0 (some (.int (1 : Int32))) T108.heap _
          rw [eh108]
          exact ⟨rfl, N108⟩
        · refine GoW.by (fun _ kont => XS.ifNo X0.here hx rfl (hb hby at_47) rfl ((if0 _ _).trans (feq hc103).1) kont) ?_
          show GoW _ _ _ _ _ _ _ (s₁.setTop (mkF m 50 #[.val (.long ea), .second, .val (.long sm), .second, .val (.long la), .second, .val (.long rt), .second, .val (.int fl), .val (.long tt), .second, .val (.int (0 : Int32)), .val (.int (0 : Int32)), .val (.int al), .unset, .unset, .unset, .unset, .unset, .unset, .unset, .unset, .unset] []))
          refine GoW.by (fun _ kont => XS.iconst X0.here hx rfl (hb hby at_50) (XS.goto X0.here hx rfl (pc0 := 51) (pc' := 55) rfl (hb hby at_51) (by decide) (by decide) (XS.istore X0.here hx rfl (hb hby at_55) rfl (l' := #[.val (.long ea), .second, .val (.long sm), .second, .val (.long la), .second, .val (.long rt), .second, .val (.int fl), .val (.long tt), .second, .val (.int (0 : Int32)), .val (.int (0 : Int32)), .val (.int al), .val (.int (1 : Int32)), .unset, .unset, .unset, .unset, .unset, .unset, .unset, .unset]) rfl (XS.iload X0.here hx rfl (hb hby at_57) rfl kont)))) ?_
          show GoW _ _ _ _ _ _ _ (s₁.setTop (mkF m 59 #[.val (.long ea), .second, .val (.long sm), .second, .val (.long la), .second, .val (.long rt), .second, .val (.int fl), .val (.long tt), .second, .val (.int (0 : Int32)), .val (.int (0 : Int32)), .val (.int al), .val (.int (1 : Int32)), .unset, .unset, .unset, .unset, .unset, .unset, .unset, .unset] [(.int (0 : Int32))]))
          refine GoW.by (fun _ kont => XS.ifYes X0.here hx rfl (pc0 := 59) (pc' := 79) rfl (hb hby at_59) rfl (by decide) (by decide) (by decide) kont) ?_
          show GoW _ _ _ _ _ _ _ (s₁.setTop (mkF m 79 #[.val (.long ea), .second, .val (.long sm), .second, .val (.long la), .second, .val (.long rt), .second, .val (.int fl), .val (.long tt), .second, .val (.int (0 : Int32)), .val (.int (0 : Int32)), .val (.int al), .val (.int (1 : Int32)), .unset, .unset, .unset, .unset, .unset, .unset, .unset, .unset] []))
          refine GoW.by (fun _ kont => XS.aconstNull X0.here hx rfl (hb hby at_79) (XS.astore X0.here hx rfl (hb hby at_80) rfl rfl (l' := #[.val (.long ea), .second, .val (.long sm), .second, .val (.long la), .second, .val (.long rt), .second, .val (.int fl), .val (.long tt), .second, .val (.int (0 : Int32)), .val (.int (0 : Int32)), .val (.int al), .val (.int (1 : Int32)), .val .null, .unset, .unset, .unset, .unset, .unset, .unset, .unset]) rfl (XS.iload X0.here hx rfl (hb hby at_82) rfl kont))) ?_
          show GoW _ _ _ _ _ _ _ (s₁.setTop (mkF m 84 #[.val (.long ea), .second, .val (.long sm), .second, .val (.long la), .second, .val (.long rt), .second, .val (.int fl), .val (.long tt), .second, .val (.int (0 : Int32)), .val (.int (0 : Int32)), .val (.int al), .val (.int (1 : Int32)), .val .null, .unset, .unset, .unset, .unset, .unset, .unset, .unset] [(.int (0 : Int32))]))
          refine GoW.by (fun _ kont => XS.ifYes X0.here hx rfl (pc0 := 84) (pc' := 95) rfl (hb hby at_84) rfl (by decide) (by decide) (by decide) kont) ?_
          show GoW _ _ _ _ _ _ _ (s₁.setTop (mkF m 95 #[.val (.long ea), .second, .val (.long sm), .second, .val (.long la), .second, .val (.long rt), .second, .val (.int fl), .val (.long tt), .second, .val (.int (0 : Int32)), .val (.int (0 : Int32)), .val (.int al), .val (.int (1 : Int32)), .val .null, .unset, .unset, .unset, .unset, .unset, .unset, .unset] []))
          refine GoW.by (fun _ kont => XS.aconstNull X0.here hx rfl (hb hby at_95) (XS.astore X0.here hx rfl (hb hby at_96) rfl rfl (l' := #[.val (.long ea), .second, .val (.long sm), .second, .val (.long la), .second, .val (.long rt), .second, .val (.int fl), .val (.long tt), .second, .val (.int (0 : Int32)), .val (.int (0 : Int32)), .val (.int al), .val (.int (1 : Int32)), .val .null, .val .null, .unset, .unset, .unset, .unset, .unset, .unset]) rfl (XS.iload X0.here hx rfl (hb hby at_98) rfl kont))) ?_
          show GoW _ _ _ _ _ _ _ (s₁.setTop (mkF m 100 #[.val (.long ea), .second, .val (.long sm), .second, .val (.long la), .second, .val (.long rt), .second, .val (.int fl), .val (.long tt), .second, .val (.int (0 : Int32)), .val (.int (0 : Int32)), .val (.int al), .val (.int (1 : Int32)), .val .null, .val .null, .unset, .unset, .unset, .unset, .unset, .unset] [(.int (1 : Int32))]))
          refine GoW.by (fun _ kont => XS.ifNo X0.here hx rfl (hb hby at_100) rfl (by decide) kont) ?_
          show GoW _ _ _ _ _ _ _ (s₁.setTop (mkF m 103 #[.val (.long ea), .second, .val (.long sm), .second, .val (.long la), .second, .val (.long rt), .second, .val (.int fl), .val (.long tt), .second, .val (.int (0 : Int32)), .val (.int (0 : Int32)), .val (.int al), .val (.int (1 : Int32)), .val .null, .val .null, .unset, .unset, .unset, .unset, .unset, .unset] []))
          obtain ⟨T109, h109, X109, e109, X_109, A109, D109, -, st109⟩ := newO X0 hx hZ hown (hw _ (List.mem_of_getElem? (i := 0) rfl)) (hw _ (List.mem_of_getElem? (i := 1) rfl)) (hw _ (List.mem_of_getElem? (i := 2) rfl)) e0 (g := (mkF m 103 #[.val (.long ea), .second, .val (.long sm), .second, .val (.long la), .second, .val (.long rt), .second, .val (.int fl), .val (.long tt), .second, .val (.int (0 : Int32)), .val (.int (0 : Int32)), .val (.int al), .val (.int (1 : Int32)), .val .null, .val .null, .unset, .unset, .unset, .unset, .unset, .unset] [])) rfl (hb hby at_103) (by decide) (by decide)
          obtain ⟨b109, g109⟩ : ∃ z, z = h0.size := ⟨_, rfl⟩
          rw [← g109] at A109 D109 st109
          have ne_s_STARTING_b109 : s_STARTING ≠ b109 := Nat.ne_of_lt (Nat.lt_of_lt_of_le E_s_STARTING.lt (Nat.le_of_eq g109.symm))
          have ne_s_NONE_b109 : s_NONE ≠ b109 := Nat.ne_of_lt (Nat.lt_of_lt_of_le E_s_NONE.lt (Nat.le_of_eq g109.symm))
          have ne_s_COMPLETED_b109 : s_COMPLETED ≠ b109 := Nat.ne_of_lt (Nat.lt_of_lt_of_le E_s_COMPLETED.lt (Nat.le_of_eq g109.symm))
          have ne_s_FAILED_b109 : s_FAILED ≠ b109 := Nat.ne_of_lt (Nat.lt_of_lt_of_le E_s_FAILED.lt (Nat.le_of_eq g109.symm))
          have ne_s_KILLED_b109 : s_KILLED ≠ b109 := Nat.ne_of_lt (Nat.lt_of_lt_of_le E_s_KILLED.lt (Nat.le_of_eq g109.symm))
          have ne_s_cache_b109 : s_cache ≠ b109 := Nat.ne_of_lt (Nat.lt_of_lt_of_le Vl.lt (Nat.le_of_eq g109.symm))
          have ge_b109 : n0 ≤ b109 := Nat.le_trans Z0 (Nat.le_of_eq g109.symm)
          have sz_b109 : h0.size ≤ b109 := Nat.le_trans (Keep.refl h0 []).1 (Nat.le_of_eq g109.symm)
          have E110_s_STARTING := E_s_STARTING.ext X_109
          have E110_s_NONE := E_s_NONE.ext X_109
          have E110_s_COMPLETED := E_s_COMPLETED.ext X_109
          have E110_s_FAILED := E_s_FAILED.ext X_109
          have E110_s_KILLED := E_s_KILLED.ext X_109
          have V110_s_cache := Vl.ext X_109
          have S110_STARTING := S_STARTING.ext X_109
          have S110_NONE := S_NONE.ext X_109
          have S110_COMPLETED := S_COMPLETED.ext X_109
          have S110_FAILED := S_FAILED.ext X_109
          have S110_KILLED := S_KILLED.ext X_109
          have S110_cache := Sl.ext X_109
          have Z110 := Nat.le_trans Z0 X_109.1
          have hk110 := Nat.le_trans hk0 X_109.1
          have K110 : Keep h0 h109 [] := (Keep.refl h0 []).ext X_109
          have F109_kind : Fld Z h109 b109 "com/example/runpulse/runpulse/RunState$Event" "kind" "Lcom/example/runpulse/runpulse/LifecycleEvent$Kind;" .null := D109 (Or.inr (hw _ (List.mem_of_getElem? (i := 34) rfl))) (ty := (.object "com/example/runpulse/runpulse/LifecycleEvent$Kind")) (by decide)
          have F109_time : Fld Z h109 b109 "com/example/runpulse/runpulse/RunState$Event" "time" "J" (.long (0 : Int64)) := D109 (Or.inr (hw _ (List.mem_of_getElem? (i := 36) rfl))) (ty := .long) (by decide)
          have F109_details : Fld Z h109 b109 "com/example/runpulse/runpulse/RunState$Event" "details" "Lcom/example/runpulse/runpulse/EventDetails;" .null := D109 (Or.inr (hw _ (List.mem_of_getElem? (i := 38) rfl))) (ty := (.object "com/example/runpulse/runpulse/EventDetails")) (by decide)
          refine GoW.by st109 ?_
          show GoW _ _ _ _ _ _ _ (T109.setTop (mkF m 106 #[.val (.long ea), .second, .val (.long sm), .second, .val (.long la), .second, .val (.long rt), .second, .val (.int fl), .val (.long tt), .second, .val (.int (0 : Int32)), .val (.int (0 : Int32)), .val (.int al), .val (.int (1 : Int32)), .val .null, .val .null, .unset, .unset, .unset, .unset, .unset, .unset] [(.ref b109)]))
          refine GoW.by (fun _ kont => XS.dup X109.here hx rfl (hb hby at_106) rfl rfl (XS.iload X109.here hx rfl (hb hby at_107) rfl kont)) ?_
          show GoW _ _ _ _ _ _ _ (T109.setTop (mkF m 109 #[.val (.long ea), .second, .val (.long sm), .second, .val (.long la), .second, .val (.long rt), .second, .val (.int fl), .val (.long tt), .second, .val (.int (0 : Int32)), .val (.int (0 : Int32)), .val (.int al), .val (.int (1 : Int32)), .val .null, .val .null, .unset, .unset, .unset, .unset, .unset, .unset] [(.int fl), (.ref b109), (.ref b109)]))
          obtain ⟨_, _, ⟨T111, L111, k111, n111⟩, -, X111, ⟨Lc111, hQ111, l111, y111, z111⟩, st111⟩ := Jvm.LawKit.callS X109 hx (y := (⟨"com/example/runpulse/runpulse/RunStateStartPinLaw", "terminalKind", "(I)Lcom/example/runpulse/runpulse/LifecycleEvent$Kind;"⟩ : MethodName)) hown (mvT hZ (hw _ (List.mem_of_getElem? (i := 91) rfl))) (mvT hZ (hw _ (List.mem_of_getElem? (i := 92) rfl))) (mvT hZ (hw _ (List.mem_of_getElem? (i := 93) rfl))) (mvT hZ (hw _ (List.mem_of_getElem? (i := 94) rfl))) (by decide) (backOf (W := 2) (rmT l Z a0 hw [] fl s_COMPLETED s_FAILED s_KILLED h109 n0 Z110 S110_COMPLETED S110_FAILED S110_KILLED) hZ (hw _ (List.mem_of_getElem? (i := 94) rfl)) (hw _ (List.mem_of_getElem? (i := 93) rfl)) (by decide) (by decide)) (g := (mkF m 109 #[.val (.long ea), .second, .val (.long sm), .second, .val (.long la), .second, .val (.long rt), .second, .val (.int fl), .val (.long tt), .second, .val (.int (0 : Int32)), .val (.int (0 : Int32)), .val (.int al), .val (.int (1 : Int32)), .val .null, .val .null, .unset, .unset, .unset, .unset, .unset, .unset] [(.int fl), (.ref b109), (.ref b109)])) rfl (by rw [hml]; rfl) (argsL := [(.int fl)]) (rest := [(.ref b109), (.ref b109)]) (lenOf pd0_2 rfl) rfl (by show 2 * 0 + _ ≤ _; exact Nat.le_of_eq rfl) (hb hby at_109) (fun _ _ => ⟨rfl, e109, (by decide : 1 + 0 ≤ _), (by decide : 3 + 0 ≤ _)⟩)
          dsimp only [Pt.U, Pt.locs, Pt.cells, Pt.slots] at X111 l111 y111 z111 st111 hQ111
          subst l111 y111 z111
          obtain ⟨y111, rfl, N111q, eh111⟩ := hQ111
          have N111 := Fr.app N0 N111q
          refine GoW.by st111 ?_
          show GoW _ _ _ _ _ _ _ (T111.setTop (mkF m 112 #[.val (.long ea), .second, .val (.long sm), .second, .val (.long la), .second, .val (.long rt), .second, .val (.int fl), .val (.long tt), .second, .val (.int (0 : Int32)), .val (.int (0 : Int32)), .val (.int al), .val (.int (1 : Int32)), .val .null, .val .null, .unset, .unset, .unset, .unset, .unset, .unset] [(.ref y111), (.ref b109), (.ref b109)]))
          refine GoW.by (fun _ kont => XS.lload X111.here hx rfl (hb hby at_112) rfl kont) ?_
          show GoW _ _ _ _ _ _ _ (T111.setTop (mkF m 114 #[.val (.long ea), .second, .val (.long sm), .second, .val (.long la), .second, .val (.long rt), .second, .val (.int fl), .val (.long tt), .second, .val (.int (0 : Int32)), .val (.int (0 : Int32)), .val (.int al), .val (.int (1 : Int32)), .val .null, .val .null, .unset, .unset, .unset, .unset, .unset, .unset] [(.long tt), (.ref y111), (.ref b109), (.ref b109)]))
          obtain ⟨T112, X112, e112, st112⟩ := getS2 X111 hx hZ hown (host := "") (Or.inl (hw _ (List.mem_of_getElem? (i := 6) rfl))) Via.refl eh111 S110_NONE (g := (mkF m 114 #[.val (.long ea), .second, .val (.long sm), .second, .val (.long la), .second, .val (.long rt), .second, .val (.int fl), .val (.long tt), .second, .val (.int (0 : Int32)), .val (.int (0 : Int32)), .val (.int al), .val (.int (1 : Int32)), .val .null, .val .null, .unset, .unset, .unset, .unset, .unset, .unset] [(.long tt), (.ref y111), (.ref b109), (.ref b109)])) rfl (hb hby at_114)
          refine GoW.by st112 ?_
          show GoW _ _ _ _ _ _ _ (T112.setTop (mkF m 117 #[.val (.long ea), .second, .val (.long sm), .second, .val (.long la), .second, .val (.long rt), .second, .val (.int fl), .val (.long tt), .second, .val (.int (0 : Int32)), .val (.int (0 : Int32)), .val (.int al), .val (.int (1 : Int32)), .val .null, .val .null, .unset, .unset, .unset, .unset, .unset, .unset] [(.ref s_NONE), (.long tt), (.ref y111), (.ref b109), (.ref b109)]))
          obtain ⟨_, _, ⟨T113, L113, k113, n113⟩, -, X113, hS113, hg113, ⟨Lc113, hQ113, l113, y113, z113⟩, st113⟩ := X112.specialBackS hx (y := (⟨"com/example/runpulse/runpulse/RunState$Event", "<init>", "(Lcom/example/runpulse/runpulse/LifecycleEvent$Kind;JLcom/example/runpulse/runpulse/EventDetails;)V"⟩ : MethodName)) rfl hown (mvT hZ (hw _ (List.mem_of_getElem? (i := 9) rfl))) (mvT hZ (hw _ (List.mem_of_getElem? (i := 10) rfl))) (mvT hZ (hw _ (List.mem_of_getElem? (i := 11) rfl))) (by decide) (backOfS (W := 1) (rmE l Z a0 hw [] b109 y111 tt s_NONE h109 n0 Z110 A109 F109_kind F109_time F109_details ge_b109) hZ (hw _ (List.mem_of_getElem? (i := 11) rfl)) (hw _ (List.mem_of_getElem? (i := 2) rfl)) (by decide) (by decide)) (g := (mkF m 117 #[.val (.long ea), .second, .val (.long sm), .second, .val (.long la), .second, .val (.long rt), .second, .val (.int fl), .val (.long tt), .second, .val (.int (0 : Int32)), .val (.int (0 : Int32)), .val (.int al), .val (.int (1 : Int32)), .val .null, .val .null, .unset, .unset, .unset, .unset, .unset, .unset] [(.ref s_NONE), (.long tt), (.ref y111), (.ref b109), (.ref b109)])) rfl (by rw [hml]; rfl) (Steps.refl _) (a := b109) (argsL := [(.ref y111), (.long tt), (.ref s_NONE)]) (rest := [(.ref b109)]) (lenOf pd0_3 rfl) rfl (by show 2 * 0 + _ ≤ _; exact Nat.le_of_eq rfl) (hb hby at_117) (fun _ _ => ⟨rfl, e112, (by decide : 1 + 4 ≤ _), (by decide : 3 + 52 ≤ _)⟩)
          dsimp only [Pt.U, Pt.locs, Pt.cells, Pt.slots] at X113 hS113 hg113 l113 y113 z113 st113 hQ113
          subst l113 y113 z113
          obtain ⟨X113, hS, hZ, hown⟩ := rebS hS (show _ ≤ T112.heap.size from by rw [e112]; exact hk110) X113 hS113 hg113 hZ hown
          obtain ⟨rfl, N113q, K113, E113z, F113z⟩ := hQ113
          have S114_STARTING := own_stakeep S110_STARTING K113 (allS (own_ns A109) all0)
          have S114_NONE := own_stakeep S110_NONE K113 (allS (own_ns A109) all0)
          have S114_COMPLETED := own_stakeep S110_COMPLETED K113 (allS (own_ns A109) all0)
          have S114_FAILED := own_stakeep S110_FAILED K113 (allS (own_ns A109) all0)
          have S114_KILLED := own_stakeep S110_KILLED K113 (allS (own_ns A109) all0)
          have S114_cache := own_stakeep S110_cache K113 (allS (own_ns A109) all0)
          have E114_s_STARTING := E110_s_STARTING.keep K113
          have E114_s_NONE := E110_s_NONE.keep K113
          have E114_s_COMPLETED := E110_s_COMPLETED.keep K113
          have E114_s_FAILED := E110_s_FAILED.keep K113
          have E114_s_KILLED := E110_s_KILLED.keep K113
          have E114_b109 := A109.keep K113
          have V114_s_cache := V110_s_cache.keep K113 (ninS ne_s_cache_b109 nin0)
          have Z114 := Nat.le_trans Z110 K113.1
          have K114 : Keep h0 T113.heap [] := Keep.trans K110 K113 (allS (Or.inr sz_b109) all0)
          have N113 := Fr.app N111 N113q
          refine GoW.tr st113 ?_
          show GoW _ _ _ _ _ _ _ (T113.setTop (mkF m 120 #[.val (.long ea), .second, .val (.long sm), .second, .val (.long la), .second, .val (.long rt), .second, .val (.int fl), .val (.long tt), .second, .val (.int (0 : Int32)), .val (.int (0 : Int32)), .val (.int al), .val (.int (1 : Int32)), .val .null, .val .null, .unset, .unset, .unset, .unset, .unset, .unset] [(.ref b109)]))
          refine GoW.by (fun _ kont => XS.goto X113.here hx rfl (pc0 := 120) (pc' := 124) rfl (hb hby at_120) (by decide) (by decide) (XS.astore X113.here hx rfl (hb hby at_124) rfl rfl (l' := #[.val (.long ea), .second, .val (.long sm), .second, .val (.long la), .second, .val (.long rt), .second, .val (.int fl), .val (.long tt), .second, .val (.int (0 : Int32)), .val (.int (0 : Int32)), .val (.int al), .val (.int (1 : Int32)), .val .null, .val .null, .val (.ref b109), .unset, .unset, .unset, .unset, .unset]) rfl kont)) ?_
          show GoW _ _ _ _ _ _ _ (T113.setTop (mkF m 126 #[.val (.long ea), .second, .val (.long sm), .second, .val (.long la), .second, .val (.long rt), .second, .val (.int fl), .val (.long tt), .second, .val (.int (0 : Int32)), .val (.int (0 : Int32)), .val (.int al), .val (.int (1 : Int32)), .val .null, .val .null, .val (.ref b109), .unset, .unset, .unset, .unset, .unset] []))
          obtain ⟨T115, h115, X115, e115, X_115, A115, D115, -, st115⟩ := newO X113 hx hZ hown (hw _ (List.mem_of_getElem? (i := 47) rfl)) (hw _ (List.mem_of_getElem? (i := 48) rfl)) (hw _ (List.mem_of_getElem? (i := 49) rfl)) rfl (g := (mkF m 126 #[.val (.long ea), .second, .val (.long sm), .second, .val (.long la), .second, .val (.long rt), .second, .val (.int fl), .val (.long tt), .second, .val (.int (0 : Int32)), .val (.int (0 : Int32)), .val (.int al), .val (.int (1 : Int32)), .val .null, .val .null, .val (.ref b109), .unset, .unset, .unset, .unset, .unset] [])) rfl (hb hby at_126) (by decide) (by decide)
          obtain ⟨b115, g115⟩ : ∃ z, z = T113.heap.size := ⟨_, rfl⟩
          rw [← g115] at A115 D115 st115
          have ne_b109_b115 : b109 ≠ b115 := Nat.ne_of_lt (Nat.lt_of_lt_of_le F113z.lt (Nat.le_of_eq g115.symm))
          have ne_s_STARTING_b115 : s_STARTING ≠ b115 := Nat.ne_of_lt (Nat.lt_of_lt_of_le E114_s_STARTING.lt (Nat.le_of_eq g115.symm))
          have ne_s_NONE_b115 : s_NONE ≠ b115 := Nat.ne_of_lt (Nat.lt_of_lt_of_le E114_s_NONE.lt (Nat.le_of_eq g115.symm))
          have ne_s_COMPLETED_b115 : s_COMPLETED ≠ b115 := Nat.ne_of_lt (Nat.lt_of_lt_of_le E114_s_COMPLETED.lt (Nat.le_of_eq g115.symm))
          have ne_s_FAILED_b115 : s_FAILED ≠ b115 := Nat.ne_of_lt (Nat.lt_of_lt_of_le E114_s_FAILED.lt (Nat.le_of_eq g115.symm))
          have ne_s_KILLED_b115 : s_KILLED ≠ b115 := Nat.ne_of_lt (Nat.lt_of_lt_of_le E114_s_KILLED.lt (Nat.le_of_eq g115.symm))
          have ne_s_cache_b115 : s_cache ≠ b115 := Nat.ne_of_lt (Nat.lt_of_lt_of_le V114_s_cache.lt (Nat.le_of_eq g115.symm))
          have ge_b115 : n0 ≤ b115 := Nat.le_trans Z114 (Nat.le_of_eq g115.symm)
          have sz_b115 : h0.size ≤ b115 := Nat.le_trans K114.1 (Nat.le_of_eq g115.symm)
          have F116_time_b109 := F113z.ext X_115
          have E116_s_STARTING := E114_s_STARTING.ext X_115
          have E116_s_NONE := E114_s_NONE.ext X_115
          have E116_s_COMPLETED := E114_s_COMPLETED.ext X_115
          have E116_s_FAILED := E114_s_FAILED.ext X_115
          have E116_s_KILLED := E114_s_KILLED.ext X_115
          have E116_b109 := E113z.ext X_115
          have V116_s_cache := V114_s_cache.ext X_115
          have S116_STARTING := S114_STARTING.ext X_115
          have S116_NONE := S114_NONE.ext X_115
          have S116_COMPLETED := S114_COMPLETED.ext X_115
          have S116_FAILED := S114_FAILED.ext X_115
          have S116_KILLED := S114_KILLED.ext X_115
          have S116_cache := S114_cache.ext X_115
          have Z116 := Nat.le_trans Z114 X_115.1
          have hk116 := Nat.le_trans (Nat.le_refl _) X_115.1
          have K116 : Keep h0 h115 [] := K114.ext X_115
          have F115_earliest : Fld Z h115 b115 "com/example/runpulse/runpulse/RunState" "earliest" "J" (.long (0 : Int64)) := D115 (Or.inr (hw _ (List.mem_of_getElem? (i := 55) rfl))) (ty := .long) (by decide)
          have F115_latest : Fld Z h115 b115 "com/example/runpulse/runpulse/RunState" "latest" "J" (.long (0 : Int64)) := D115 (Or.inr (hw _ (List.mem_of_getElem? (i := 57) rfl))) (ty := .long) (by decide)
          have F115_starting : Fld Z h115 b115 "com/example/runpulse/runpulse/RunState" "starting" "Lcom/example/runpulse/runpulse/RunState$Event;" .null := D115 (Or.inr (hw _ (List.mem_of_getElem? (i := 59) rfl))) (ty := (.object "com/example/runpulse/runpulse/RunState$Event")) (by decide)
          have F115_running : Fld Z h115 b115 "com/example/runpulse/runpulse/RunState" "running" "Ljava/lang/Long;" .null := D115 (Or.inr (hw _ (List.mem_of_getElem? (i := 61) rfl))) (ty := (.object "java/lang/Long")) (by decide)
          have F115_alive : Fld Z h115 b115 "com/example/runpulse/runpulse/RunState" "alive" "Z" (.int (0 : Int32)) := D115 (Or.inr (hw _ (List.mem_of_getElem? (i := 63) rfl))) (ty := .boolean) (by decide)
          have F115_terminal : Fld Z h115 b115 "com/example/runpulse/runpulse/RunState" "terminal" "Lcom/example/runpulse/runpulse/RunState$Event;" .null := D115 (Or.inr (hw _ (List.mem_of_getElem? (i := 65) rfl))) (ty := (.object "com/example/runpulse/runpulse/RunState$Event")) (by decide)
          refine GoW.by st115 ?_
          show GoW _ _ _ _ _ _ _ (T115.setTop (mkF m 129 #[.val (.long ea), .second, .val (.long sm), .second, .val (.long la), .second, .val (.long rt), .second, .val (.int fl), .val (.long tt), .second, .val (.int (0 : Int32)), .val (.int (0 : Int32)), .val (.int al), .val (.int (1 : Int32)), .val .null, .val .null, .val (.ref b109), .unset, .unset, .unset, .unset, .unset] [(.ref b115)]))
          refine GoW.by (fun _ kont => XS.dup X115.here hx rfl (hb hby at_129) rfl rfl (XS.lloadN X115.here hx rfl (hb hby at_130) rfl (XS.lload X115.here hx rfl (hb hby at_131) rfl (XS.aload X115.here hx rfl (hb hby at_133) rfl rfl (XS.aload X115.here hx rfl (hb hby at_135) rfl rfl (XS.iload X115.here hx rfl (hb hby at_137) rfl kont)))))) ?_
          show GoW _ _ _ _ _ _ _ (T115.setTop (mkF m 139 #[.val (.long ea), .second, .val (.long sm), .second, .val (.long la), .second, .val (.long rt), .second, .val (.int fl), .val (.long tt), .second, .val (.int (0 : Int32)), .val (.int (0 : Int32)), .val (.int al), .val (.int (1 : Int32)), .val .null, .val .null, .val (.ref b109), .unset, .unset, .unset, .unset, .unset] [(.int al), .null, .null, (.long la), (.long ea), (.ref b115), (.ref b115)]))
          refine GoW.by (fun _ kont => XS.aload X115.here hx rfl (hb hby at_139) rfl rfl kont) ?_
          show GoW _ _ _ _ _ _ _ (T115.setTop (mkF m 141 #[.val (.long ea), .second, .val (.long sm), .second, .val (.long la), .second, .val (.long rt), .second, .val (.int fl), .val (.long tt), .second, .val (.int (0 : Int32)), .val (.int (0 : Int32)), .val (.int al), .val (.int (1 : Int32)), .val .null, .val .null, .val (.ref b109), .unset, .unset, .unset, .unset, .unset] [(.ref b109), (.int al), .null, .null, (.long la), (.long ea), (.ref b115), (.ref b115)]))
          obtain ⟨_, _, ⟨T117, L117, k117, n117⟩, -, X117, ⟨Lc117, hQ117, l117, y117, z117⟩, st117⟩ := X115.specialBack hx (y := (⟨"com/example/runpulse/runpulse/RunState", "<init>", "(JJLcom/example/runpulse/runpulse/RunState$Event;Ljava/lang/Long;ZLcom/example/runpulse/runpulse/RunState$Event;)V"⟩ : MethodName)) rfl hown (mvT hZ (hw _ (List.mem_of_getElem? (i := 50) rfl))) (mvT hZ (hw _ (List.mem_of_getElem? (i := 51) rfl))) (mvT hZ (hw _ (List.mem_of_getElem? (i := 52) rfl))) (by decide) (backOf (W := 1) (rmS8 l Z a0 hw [] b115 ea la al b109 h115 n0 Z116 A115 F115_earliest F115_latest F115_starting F115_running F115_alive F115_terminal ge_b115 hal) hZ (hw _ (List.mem_of_getElem? (i := 52) rfl)) (hw _ (List.mem_of_getElem? (i := 49) rfl)) (by decide) (by decide)) (g := (mkF m 141 #[.val (.long ea), .second, .val (.long sm), .second, .val (.long la), .second, .val (.long rt), .second, .val (.int fl), .val (.long tt), .second, .val (.int (0 : Int32)), .val (.int (0 : Int32)), .val (.int al), .val (.int (1 : Int32)), .val .null, .val .null, .val (.ref b109), .unset, .unset, .unset, .unset, .unset] [(.ref b109), (.int al), .null, .null, (.long la), (.long ea), (.ref b115), (.ref b115)])) rfl (by rw [hml]; rfl) (Steps.refl _) (a := b115) (argsL := [(.long ea), (.long la), .null, .null, (.int al), (.ref b109)]) (rest := [(.ref b115)]) (lenOf pd0_0 rfl) rfl (by show 2 * 0 + _ ≤ _; exact Nat.le_of_eq rfl) (hb hby at_141) (fun _ _ => ⟨rfl, e115, (by decide : 6 + 0 ≤ _), (by decide : 61 + 0 ≤ _)⟩)
          dsimp only [Pt.U, Pt.locs, Pt.cells, Pt.slots] at X117 l117 y117 z117 st117 hQ117
          subst l117 y117 z117
          obtain ⟨rfl, N117q, K117, g117_0, g117_1, g117_2, g117_3, g117_4, g117_5, g117_6⟩ := hQ117
          have S118_STARTING := own_stakeep S116_STARTING K117 (allS (own_ns A115) all0)
          have S118_NONE := own_stakeep S116_NONE K117 (allS (own_ns A115) all0)
          have S118_COMPLETED := own_stakeep S116_COMPLETED K117 (allS (own_ns A115) all0)
          have S118_FAILED := own_stakeep S116_FAILED K117 (allS (own_ns A115) all0)
          have S118_KILLED := own_stakeep S116_KILLED K117 (allS (own_ns A115) all0)
          have S118_cache := own_stakeep S116_cache K117 (allS (own_ns A115) all0)
          have F118_time_b109 := F116_time_b109.keep K117 (ninS ne_b109_b115 nin0)
          have E118_s_STARTING := E116_s_STARTING.keep K117
          have E118_s_NONE := E116_s_NONE.keep K117
          have E118_s_COMPLETED := E116_s_COMPLETED.keep K117
          have E118_s_FAILED := E116_s_FAILED.keep K117
          have E118_s_KILLED := E116_s_KILLED.keep K117
          have E118_b109 := E116_b109.keep K117
          have E118_b115 := A115.keep K117
          have V118_s_cache := V116_s_cache.keep K117 (ninS ne_s_cache_b115 nin0)
          have Z118 := Nat.le_trans Z116 K117.1
          have hk118 := Nat.le_trans hk116 K117.1
          have K118 : Keep h0 T117.heap [] := Keep.trans K116 K117 (allS (Or.inr sz_b115) all0)
          have N117 := Fr.app N113 N117q
          refine GoW.tr st117 ?_
          show GoW _ _ _ _ _ _ _ (T117.setTop (mkF m 144 #[.val (.long ea), .second, .val (.long sm), .second, .val (.long la), .second, .val (.long rt), .second, .val (.int fl), .val (.long tt), .second, .val (.int (0 : Int32)), .val (.int (0 : Int32)), .val (.int al), .val (.int (1 : Int32)), .val .null, .val .null, .val (.ref b109), .unset, .unset, .unset, .unset, .unset] [(.ref b115)]))
          refine GoW.by (fun _ kont => XS.astore X117.here hx rfl (hb hby at_144) rfl rfl (l' := #[.val (.long ea), .second, .val (.long sm), .second, .val (.long la), .second, .val (.long rt), .second, .val (.int fl), .val (.long tt), .second, .val (.int (0 : Int32)), .val (.int (0 : Int32)), .val (.int al), .val (.int (1 : Int32)), .val .null, .val .null, .val (.ref b109), .val (.ref b115), .unset, .unset, .unset, .unset]) rfl (XS.aload X117.here hx rfl (hb hby at_146) rfl rfl kont)) ?_
          show GoW _ _ _ _ _ _ _ (T117.setTop (mkF m 148 #[.val (.long ea), .second, .val (.long sm), .second, .val (.long la), .second, .val (.long rt), .second, .val (.int fl), .val (.long tt), .second, .val (.int (0 : Int32)), .val (.int (0 : Int32)), .val (.int al), .val (.int (1 : Int32)), .val .null, .val .null, .val (.ref b109), .val (.ref b115), .unset, .unset, .unset, .unset] [(.ref b115)]))
          obtain ⟨cq119, kq119, q119a, q119b, q119c⟩ := isOf hZ rfl g117_0
          obtain ⟨_, _, ⟨T119, L119, k119, n119⟩, -, X119, ⟨Lc119, hQ119, l119, y119, z119⟩, st119⟩ := X117.virtualBack hx (y := (⟨"com/example/runpulse/runpulse/RunState", "start", "()J"⟩ : MethodName)) (z := (⟨"com/example/runpulse/runpulse/RunState", "start", "()J"⟩ : MethodName)) hown (mvT hZ (hw _ (List.mem_of_getElem? (i := 66) rfl))) (mvT hZ (hw _ (List.mem_of_getElem? (i := 67) rfl))) (notFace_of_selects (args := #[]) (mvT hZ (hw _ (List.mem_of_getElem? (i := 69) rfl)))) (mvT hZ (hw _ (List.mem_of_getElem? (i := 69) rfl))) (mvT hZ (hw _ (List.mem_of_getElem? (i := 68) rfl))) (by decide) (backOf (W := 0) (rmA0 l Z a0 hw [] b115 ea T117.heap n0 Z118 g117_0 g117_3 g117_1) hZ (hw _ (List.mem_of_getElem? (i := 70) rfl)) (hw _ (List.mem_of_getElem? (i := 49) rfl)) (by decide) (by decide)) q119a q119c (g := (mkF m 148 #[.val (.long ea), .second, .val (.long sm), .second, .val (.long la), .second, .val (.long rt), .second, .val (.int fl), .val (.long tt), .second, .val (.int (0 : Int32)), .val (.int (0 : Int32)), .val (.int al), .val (.int (1 : Int32)), .val .null, .val .null, .val (.ref b109), .val (.ref b115), .unset, .unset, .unset, .unset] [(.ref b115)])) rfl (by rw [hml]; rfl) (Steps.refl _) (argsL := []) (rest := []) (lenOf pd0_1 rfl) rfl (by show 2 * 0 + _ ≤ _; exact Nat.le_of_eq rfl) (hb hby at_148) (fun _ _ => ⟨rfl, rfl, (by decide : 6 + 0 ≤ _), (by decide : 61 + 0 ≤ _)⟩)
          dsimp only [Pt.U, Pt.locs, Pt.cells, Pt.slots] at X119 l119 y119 z119 st119 hQ119
          subst l119 y119 z119
          obtain ⟨rfl, N119q, eh119⟩ := hQ119
          have N119 := Fr.app N117 N119q
          refine GoW.tr st119 ?_
          show GoW _ _ _ _ _ _ _ (T119.setTop (mkF m 151 #[.val (.long ea), .second, .val (.long sm), .second, .val (.long la), .second, .val (.long rt), .second, .val (.int fl), .val (.long tt), .second, .val (.int (0 : Int32)), .val (.int (0 : Int32)), .val (.int al), .val (.int (1 : Int32)), .val .null, .val .null, .val (.ref b109), .val (.ref b115), .unset, .unset, .unset, .unset] [(.long ea)]))
          refine GoW.by (fun _ kont => XS.lstore X119.here hx rfl (hb hby at_151) rfl (l' := #[.val (.long ea), .second, .val (.long sm), .second, .val (.long la), .second, .val (.long rt), .second, .val (.int fl), .val (.long tt), .second, .val (.int (0 : Int32)), .val (.int (0 : Int32)), .val (.int al), .val (.int (1 : Int32)), .val .null, .val .null, .val (.ref b109), .val (.ref b115), .val (.long ea), .second, .unset, .unset]) rfl (XS.iload X119.here hx rfl (hb hby at_153) rfl kont)) ?_
          show GoW _ _ _ _ _ _ _ (T119.setTop (mkF m 155 #[.val (.long ea), .second, .val (.long sm), .second, .val (.long la), .second, .val (.long rt), .second, .val (.int fl), .val (.long tt), .second, .val (.int (0 : Int32)), .val (.int (0 : Int32)), .val (.int al), .val (.int (1 : Int32)), .val .null, .val .null, .val (.ref b109), .val (.ref b115), .val (.long ea), .second, .unset, .unset] [(.int (0 : Int32))]))
          refine GoW.by (fun _ kont => XS.ifYes X119.here hx rfl (pc0 := 155) (pc' := 164) rfl (hb hby at_155) rfl (by decide) (by decide) (by decide) kont) ?_
          show GoW _ _ _ _ _ _ _ (T119.setTop (mkF m 164 #[.val (.long ea), .second, .val (.long sm), .second, .val (.long la), .second, .val (.long rt), .second, .val (.int fl), .val (.long tt), .second, .val (.int (0 : Int32)), .val (.int (0 : Int32)), .val (.int al), .val (.int (1 : Int32)), .val .null, .val .null, .val (.ref b109), .val (.ref b115), .val (.long ea), .second, .unset, .unset] []))
          refine GoW.by (fun _ kont => XS.lloadN X119.here hx rfl (hb hby at_164) rfl (XS.lstore X119.here hx rfl (hb hby at_165) rfl (l' := #[.val (.long ea), .second, .val (.long sm), .second, .val (.long la), .second, .val (.long rt), .second, .val (.int fl), .val (.long tt), .second, .val (.int (0 : Int32)), .val (.int (0 : Int32)), .val (.int al), .val (.int (1 : Int32)), .val .null, .val .null, .val (.ref b109), .val (.ref b115), .val (.long ea), .second, .val (.long ea), .second]) rfl (XS.lload X119.here hx rfl (hb hby at_167) rfl (XS.lload X119.here hx rfl (hb hby at_169) rfl (XS.lcmp X119.here hx rfl (hb hby at_171) rfl kont))))) ?_
          show GoW _ _ _ _ _ _ _ (T119.setTop (mkF m 172 #[.val (.long ea), .second, .val (.long sm), .second, .val (.long la), .second, .val (.long rt), .second, .val (.int fl), .val (.long tt), .second, .val (.int (0 : Int32)), .val (.int (0 : Int32)), .val (.int al), .val (.int (1 : Int32)), .val .null, .val .null, .val (.ref b109), .val (.ref b115), .val (.long ea), .second, .val (.long ea), .second] [(.int (lcmpW ea ea))]))
          refine GoW.by (fun _ kont => XS.ifNo X119.here hx rfl (hb hby at_172) rfl ((if0 _ _).trans (teq ((lw_eq _ _).mpr rfl)).2) kont) ?_
          show GoW _ _ _ _ _ _ _ (T119.setTop (mkF m 175 #[.val (.long ea), .second, .val (.long sm), .second, .val (.long la), .second, .val (.long rt), .second, .val (.int fl), .val (.long tt), .second, .val (.int (0 : Int32)), .val (.int (0 : Int32)), .val (.int al), .val (.int (1 : Int32)), .val .null, .val .null, .val (.ref b109), .val (.ref b115), .val (.long ea), .second, .val (.long ea), .second] []))
          refine GoW.by (fun _ kont => XS.iconst X119.here hx rfl (hb hby at_175) (XS.goto X119.here hx rfl (pc0 := 176) (pc' := 180) rfl (hb hby at_176) (by decide) (by decide) kont)) ?_
          show GoW _ _ _ _ _ _ _ (T119.setTop (mkF m 180 #[.val (.long ea), .second, .val (.long sm), .second, .val (.long la), .second, .val (.long rt), .second, .val (.int fl), .val (.long tt), .second, .val (.int (0 : Int32)), .val (.int (0 : Int32)), .val (.int al), .val (.int (1 : Int32)), .val .null, .val .null, .val (.ref b109), .val (.ref b115), .val (.long ea), .second, .val (.long ea), .second] [(.int (1 : Int32))]))
          refine GoW.retN X119 hS (by rw [eh119]; exact hk118) hx (t := .boolean) hret (by simp) hlk (hb hby at_180) ?_ (by decide) (by decide)
          show Q0 Z h0 n0 (some (.int (1 : Int32))) T119.heap _
          rw [eh119]
          exact ⟨rfl, N119⟩
      show GoW _ _ _ _ _ _ _ (s₁.setTop (mkF m 28 #[.val (.long ea), .second, .val (.long sm), .second, .val (.long la), .second, .val (.long rt), .second, .val (.int fl), .val (.long tt), .second, .val (.int (0 : Int32)), .val (.int (0 : Int32)), .unset, .unset, .unset, .unset, .unset, .unset, .unset, .unset, .unset, .unset] []))
      refine GoW.by (fun _ kont => XS.iload X0.here hx rfl (hb hby at_28) rfl (XS.iconst X0.here hx rfl (hb hby at_30) (XS.iand X0.here hx rfl (hb hby at_31) rfl kont))) ?_
      show GoW _ _ _ _ _ _ _ (s₁.setTop (mkF m 32 #[.val (.long ea), .second, .val (.long sm), .second, .val (.long la), .second, .val (.long rt), .second, .val (.int fl), .val (.long tt), .second, .val (.int (0 : Int32)), .val (.int (0 : Int32)), .unset, .unset, .unset, .unset, .unset, .unset, .unset, .unset, .unset, .unset] [(.int (fl &&& (4 : Int32)))]))
      by_cases hc120 : (fl &&& (4 : Int32)) = (0 : Int32)
      · refine GoW.by (fun _ kont => XS.ifYes X0.here hx rfl (pc0 := 32) (pc' := 39) rfl (hb hby at_32) rfl ((if0 _ _).trans (teq hc120).1) (by decide) (by decide) kont) ?_
        show GoW _ _ _ _ _ _ _ (s₁.setTop (mkF m 39 #[.val (.long ea), .second, .val (.long sm), .second, .val (.long la), .second, .val (.long rt), .second, .val (.int fl), .val (.long tt), .second, .val (.int (0 : Int32)), .val (.int (0 : Int32)), .unset, .unset, .unset, .unset, .unset, .unset, .unset, .unset, .unset, .unset] []))
        refine GoW.by (fun _ kont => XS.iconst X0.here hx rfl (hb hby at_39) (XS.istore X0.here hx rfl (hb hby at_40) rfl (l' := #[.val (.long ea), .second, .val (.long sm), .second, .val (.long la), .second, .val (.long rt), .second, .val (.int fl), .val (.long tt), .second, .val (.int (0 : Int32)), .val (.int (0 : Int32)), .val (.int (0 : Int32)), .unset, .unset, .unset, .unset, .unset, .unset, .unset, .unset, .unset]) rfl kont)) ?_
        show GoW _ _ _ _ _ _ _ (s₁.setTop (mkF m 42 #[.val (.long ea), .second, .val (.long sm), .second, .val (.long la), .second, .val (.long rt), .second, .val (.int fl), .val (.long tt), .second, .val (.int (0 : Int32)), .val (.int (0 : Int32)), .val (.int (0 : Int32)), .unset, .unset, .unset, .unset, .unset, .unset, .unset, .unset, .unset] []))
        exact cut42 (0 : Int32) (Or.inl rfl)
      · refine GoW.by (fun _ kont => XS.ifNo X0.here hx rfl (hb hby at_32) rfl ((if0 _ _).trans (feq hc120).1) kont) ?_
        show GoW _ _ _ _ _ _ _ (s₁.setTop (mkF m 35 #[.val (.long ea), .second, .val (.long sm), .second, .val (.long la), .second, .val (.long rt), .second, .val (.int fl), .val (.long tt), .second, .val (.int (0 : Int32)), .val (.int (0 : Int32)), .unset, .unset, .unset, .unset, .unset, .unset, .unset, .unset, .unset, .unset] []))
        refine GoW.by (fun _ kont => XS.iconst X0.here hx rfl (hb hby at_35) (XS.goto X0.here hx rfl (pc0 := 36) (pc' := 40) rfl (hb hby at_36) (by decide) (by decide) (XS.istore X0.here hx rfl (hb hby at_40) rfl (l' := #[.val (.long ea), .second, .val (.long sm), .second, .val (.long la), .second, .val (.long rt), .second, .val (.int fl), .val (.long tt), .second, .val (.int (0 : Int32)), .val (.int (0 : Int32)), .val (.int (1 : Int32)), .unset, .unset, .unset, .unset, .unset, .unset, .unset, .unset, .unset]) rfl kont))) ?_
        show GoW _ _ _ _ _ _ _ (s₁.setTop (mkF m 42 #[.val (.long ea), .second, .val (.long sm), .second, .val (.long la), .second, .val (.long rt), .second, .val (.int fl), .val (.long tt), .second, .val (.int (0 : Int32)), .val (.int (0 : Int32)), .val (.int (1 : Int32)), .unset, .unset, .unset, .unset, .unset, .unset, .unset, .unset, .unset] []))
        exact cut42 (1 : Int32) (Or.inr rfl)
    · refine GoW.by (fun _ kont => XS.ifNo X0.here hx rfl (hb hby at_18) rfl ((if0 _ _).trans (feq hc102).1) kont) ?_
      show GoW _ _ _ _ _ _ _ (s₁.setTop (mkF m 21 #[.val (.long ea), .second, .val (.long sm), .second, .val (.long la), .second, .val (.long rt), .second, .val (.int fl), .val (.long tt), .second, .val (.int (0 : Int32)), .unset, .unset, .unset, .unset, .unset, .unset, .unset, .unset, .unset, .unset, .unset] []))
      refine GoW.by (fun _ kont => XS.iconst X0.here hx rfl (hb hby at_21) (XS.goto X0.here hx rfl (pc0 := 22) (pc' := 26) rfl (hb hby at_22) (by decide) (by decide) (XS.istore X0.here hx rfl (hb hby at_26) rfl (l' := #[.val (.long ea), .second, .val (.long sm), .second, .val (.long la), .second, .val (.long rt), .second, .val (.int fl), .val (.long tt), .second, .val (.int (0 : Int32)), .val (.int (1 : Int32)), .unset, .unset, .unset, .unset, .unset, .unset, .unset, .unset, .unset, .unset]) rfl kont))) ?_
      show GoW _ _ _ _ _ _ _ (s₁.setTop (mkF m 28 #[.val (.long ea), .second, .val (.long sm), .second, .val (.long la), .second, .val (.long rt), .second, .val (.int fl), .val (.long tt), .second, .val (.int (0 : Int32)), .val (.int (1 : Int32)), .unset, .unset, .unset, .unset, .unset, .unset, .unset, .unset, .unset, .unset] []))
      have cut42 : ∀ (al : Int32), (al = (0 : Int32) ∨ al = (1 : Int32)) → GoW p e below s 24 2176 (Q0 Z h0 n0) (s₁.setTop (mkF m 42 #[.val (.long ea), .second, .val (.long sm), .second, .val (.long la), .second, .val (.long rt), .second, .val (.int fl), .val (.long tt), .second, .val (.int (0 : Int32)), .val (.int (1 : Int32)), .val (.int al), .unset, .unset, .unset, .unset, .unset, .unset, .unset, .unset, .unset] [])) := by
        intro al hal
        show GoW _ _ _ _ _ _ _ (s₁.setTop (mkF m 42 #[.val (.long ea), .second, .val (.long sm), .second, .val (.long la), .second, .val (.long rt), .second, .val (.int fl), .val (.long tt), .second, .val (.int (0 : Int32)), .val (.int (1 : Int32)), .val (.int al), .unset, .unset, .unset, .unset, .unset, .unset, .unset, .unset, .unset] []))
        refine GoW.by (fun _ kont => XS.iload X0.here hx rfl (hb hby at_42) rfl (XS.bipush X0.here hx rfl (hb hby at_44) (XS.iand X0.here hx rfl (hb hby at_46) rfl kont))) ?_
        show GoW _ _ _ _ _ _ _ (s₁.setTop (mkF m 47 #[.val (.long ea), .second, .val (.long sm), .second, .val (.long la), .second, .val (.long rt), .second, .val (.int fl), .val (.long tt), .second, .val (.int (0 : Int32)), .val (.int (1 : Int32)), .val (.int al), .unset, .unset, .unset, .unset, .unset, .unset, .unset, .unset, .unset] [(.int (fl &&& (8 : Int32)))]))
        by_cases hc121 : (fl &&& (8 : Int32)) = (0 : Int32)
        · refine GoW.by (fun _ kont => XS.ifYes X0.here hx rfl (pc0 := 47) (pc' := 54) rfl (hb hby at_47) rfl ((if0 _ _).trans (teq hc121).1) (by decide) (by decide) kont) ?_
          show GoW _ _ _ _ _ _ _ (s₁.setTop (mkF m 54 #[.val (.long ea), .second, .val (.long sm), .second, .val (.long la), .second, .val (.long rt), .second, .val (.int fl), .val (.long tt), .second, .val (.int (0 : Int32)), .val (.int (1 : Int32)), .val (.int al), .unset, .unset, .unset, .unset, .unset, .unset, .unset, .unset, .unset] []))
          refine GoW.by (fun _ kont => XS.iconst X0.here hx rfl (hb hby at_54) (XS.istore X0.here hx rfl (hb hby at_55) rfl (l' := #[.val (.long ea), .second, .val (.long sm), .second, .val (.long la), .second, .val (.long rt), .second, .val (.int fl), .val (.long tt), .second, .val (.int (0 : Int32)), .val (.int (1 : Int32)), .val (.int al), .val (.int (0 : Int32)), .unset, .unset, .unset, .unset, .unset, .unset, .unset, .unset]) rfl (XS.iload X0.here hx rfl (hb hby at_57) rfl kont))) ?_
          show GoW _ _ _ _ _ _ _ (s₁.setTop (mkF m 59 #[.val (.long ea), .second, .val (.long sm), .second, .val (.long la), .second, .val (.long rt), .second, .val (.int fl), .val (.long tt), .second, .val (.int (0 : Int32)), .val (.int (1 : Int32)), .val (.int al), .val (.int (0 : Int32)), .unset, .unset, .unset, .unset, .unset, .unset, .unset, .unset] [(.int (0 : Int32))]))
          refine GoW.by (fun _ kont => XS.ifYes X0.here hx rfl (pc0 := 59) (pc' := 79) rfl (hb hby at_59) rfl (by decide) (by decide) (by decide) kont) ?_
          show GoW _ _ _ _ _ _ _ (s₁.setTop (mkF m 79 #[.val (.long ea), .second, .val (.long sm), .second, .val (.long la), .second, .val (.long rt), .second, .val (.int fl), .val (.long tt), .second, .val (.int (0 : Int32)), .val (.int (1 : Int32)), .val (.int al), .val (.int (0 : Int32)), .unset, .unset, .unset, .unset, .unset, .unset, .unset, .unset] []))
          refine GoW.by (fun _ kont => XS.aconstNull X0.here hx rfl (hb hby at_79) (XS.astore X0.here hx rfl (hb hby at_80) rfl rfl (l' := #[.val (.long ea), .second, .val (.long sm), .second, .val (.long la), .second, .val (.long rt), .second, .val (.int fl), .val (.long tt), .second, .val (.int (0 : Int32)), .val (.int (1 : Int32)), .val (.int al), .val (.int (0 : Int32)), .val .null, .unset, .unset, .unset, .unset, .unset, .unset, .unset]) rfl (XS.iload X0.here hx rfl (hb hby at_82) rfl kont))) ?_
          show GoW _ _ _ _ _ _ _ (s₁.setTop (mkF m 84 #[.val (.long ea), .second, .val (.long sm), .second, .val (.long la), .second, .val (.long rt), .second, .val (.int fl), .val (.long tt), .second, .val (.int (0 : Int32)), .val (.int (1 : Int32)), .val (.int al), .val (.int (0 : Int32)), .val .null, .unset, .unset, .unset, .unset, .unset, .unset, .unset] [(.int (1 : Int32))]))
          refine GoW.by (fun _ kont => XS.ifNo X0.here hx rfl (hb hby at_84) rfl (by decide) kont) ?_
          show GoW _ _ _ _ _ _ _ (s₁.setTop (mkF m 87 #[.val (.long ea), .second, .val (.long sm), .second, .val (.long la), .second, .val (.long rt), .second, .val (.int fl), .val (.long tt), .second, .val (.int (0 : Int32)), .val (.int (1 : Int32)), .val (.int al), .val (.int (0 : Int32)), .val .null, .unset, .unset, .unset, .unset, .unset, .unset, .unset] []))
          refine GoW.by (fun _ kont => XS.lload X0.here hx rfl (hb hby at_87) rfl kont) ?_
          show GoW _ _ _ _ _ _ _ (s₁.setTop (mkF m 89 #[.val (.long ea), .second, .val (.long sm), .second, .val (.long la), .second, .val (.long rt), .second, .val (.int fl), .val (.long tt), .second, .val (.int (0 : Int32)), .val (.int (1 : Int32)), .val (.int al), .val (.int (0 : Int32)), .val .null, .unset, .unset, .unset, .unset, .unset, .unset, .unset] [(.long rt)]))
          obtain ⟨_, _, ⟨T122, L122, k122, n122⟩, -, X122, ⟨Lc122, hQ122, l122, y122, z122⟩, st122⟩ := Jvm.LawKit.callS X0 hx (y := (⟨"java/lang/Long", "valueOf", "(J)Ljava/lang/Long;"⟩ : MethodName)) hown (mvT hZ (hw _ (List.mem_of_getElem? (i := 39) rfl))) (mvT hZ (hw _ (List.mem_of_getElem? (i := 40) rfl))) (mvT hZ (hw _ (List.mem_of_getElem? (i := 41) rfl))) (mvT hZ (hw _ (List.mem_of_getElem? (i := 42) rfl))) (by decide) (backOf (W := 0) (rmV l Z a0 hw [] rt s_cache kcl h0 n0 Z0 Vl Sl) hZ (hw _ (List.mem_of_getElem? (i := 42) rfl)) (hw _ (List.mem_of_getElem? (i := 41) rfl)) (by decide) (by decide)) (g := (mkF m 89 #[.val (.long ea), .second, .val (.long sm), .second, .val (.long la), .second, .val (.long rt), .second, .val (.int fl), .val (.long tt), .second, .val (.int (0 : Int32)), .val (.int (1 : Int32)), .val (.int al), .val (.int (0 : Int32)), .val .null, .unset, .unset, .unset, .unset, .unset, .unset, .unset] [(.long rt)])) rfl (by rw [hml]; rfl) (argsL := [(.long rt)]) (rest := []) (lenOf pd0_4 rfl) rfl (by show 2 * 0 + _ ≤ _; exact Nat.le_of_eq rfl) (hb hby at_89) (fun _ _ => ⟨rfl, e0, (by decide : 0 + 1 ≤ _), (by decide : 0 + 1 ≤ _)⟩)
          dsimp only [Pt.U, Pt.locs, Pt.cells, Pt.slots] at X122 l122 y122 z122 st122 hQ122
          subst l122 y122 z122
          obtain ⟨y122, rfl, N122q, K122⟩ := hQ122
          have S123_STARTING := own_stakeep S_STARTING K122 all0
          have S123_NONE := own_stakeep S_NONE K122 all0
          have S123_COMPLETED := own_stakeep S_COMPLETED K122 all0
          have S123_FAILED := own_stakeep S_FAILED K122 all0
          have S123_KILLED := own_stakeep S_KILLED K122 all0
          have S123_cache := own_stakeep Sl K122 all0
          have E123_s_STARTING := E_s_STARTING.keep K122
          have E123_s_NONE := E_s_NONE.keep K122
          have E123_s_COMPLETED := E_s_COMPLETED.keep K122
          have E123_s_FAILED := E_s_FAILED.keep K122
          have E123_s_KILLED := E_s_KILLED.keep K122
          have V123_s_cache := Vl.keep K122 nin0
          have Z123 := Nat.le_trans Z0 K122.1
          have hk123 := Nat.le_trans hk0 K122.1
          have K123 : Keep h0 T122.heap [] := Keep.trans (Keep.refl h0 []) K122 all0
          have N122 := Fr.app N0 N122q
          refine GoW.by st122 ?_
          show GoW _ _ _ _ _ _ _ (T122.setTop (mkF m 92 #[.val (.long ea), .second, .val (.long sm), .second, .val (.long la), .second, .val (.long rt), .second, .val (.int fl), .val (.long tt), .second, .val (.int (0 : Int32)), .val (.int (1 : Int32)), .val (.int al), .val (.int (0 : Int32)), .val .null, .unset, .unset, .unset, .unset, .unset, .unset, .unset] [(.ref y122)]))
          refine GoW.by (fun _ kont => XS.goto X122.here hx rfl (pc0 := 92) (pc' := 96) rfl (hb hby at_92) (by decide) (by decide) (XS.astore X122.here hx rfl (hb hby at_96) rfl rfl (l' := #[.val (.long ea), .second, .val (.long sm), .second, .val (.long la), .second, .val (.long rt), .second, .val (.int fl), .val (.long tt), .second, .val (.int (0 : Int32)), .val (.int (1 : Int32)), .val (.int al), .val (.int (0 : Int32)), .val .null, .val (.ref y122), .unset, .unset, .unset, .unset, .unset, .unset]) rfl (XS.iload X122.here hx rfl (hb hby at_98) rfl kont))) ?_
          show GoW _ _ _ _ _ _ _ (T122.setTop (mkF m 100 #[.val (.long ea), .second, .val (.long sm), .second, .val (.long la), .second, .val (.long rt), .second, .val (.int fl), .val (.long tt), .second, .val (.int (0 : Int32)), .val (.int (1 : Int32)), .val (.int al), .val (.int (0 : Int32)), .val .null, .val (.ref y122), .unset, .unset, .unset, .unset, .unset, .unset] [(.int (0 : Int32))]))
          refine GoW.by (fun _ kont => XS.ifYes X122.here hx rfl (pc0 := 100) (pc' := 123) rfl (hb hby at_100) rfl (by decide) (by decide) (by decide) kont) ?_
          show GoW _ _ _ _ _ _ _ (T122.setTop (mkF m 123 #[.val (.long ea), .second, .val (.long sm), .second, .val (.long la), .second, .val (.long rt), .second, .val (.int fl), .val (.long tt), .second, .val (.int (0 : Int32)), .val (.int (1 : Int32)), .val (.int al), .val (.int (0 : Int32)), .val .null, .val (.ref y122), .unset, .unset, .unset, .unset, .unset, .unset] []))
          refine GoW.by (fun _ kont => XS.aconstNull X122.here hx rfl (hb hby at_123) (XS.astore X122.here hx rfl (hb hby at_124) rfl rfl (l' := #[.val (.long ea), .second, .val (.long sm), .second, .val (.long la), .second, .val (.long rt), .second, .val (.int fl), .val (.long tt), .second, .val (.int (0 : Int32)), .val (.int (1 : Int32)), .val (.int al), .val (.int (0 : Int32)), .val .null, .val (.ref y122), .val .null, .unset, .unset, .unset, .unset, .unset]) rfl kont)) ?_
          show GoW _ _ _ _ _ _ _ (T122.setTop (mkF m 126 #[.val (.long ea), .second, .val (.long sm), .second, .val (.long la), .second, .val (.long rt), .second, .val (.int fl), .val (.long tt), .second, .val (.int (0 : Int32)), .val (.int (1 : Int32)), .val (.int al), .val (.int (0 : Int32)), .val .null, .val (.ref y122), .val .null, .unset, .unset, .unset, .unset, .unset] []))
          obtain ⟨T124, h124, X124, e124, X_124, A124, D124, -, st124⟩ := newO X122 hx hZ hown (hw _ (List.mem_of_getElem? (i := 47) rfl)) (hw _ (List.mem_of_getElem? (i := 48) rfl)) (hw _ (List.mem_of_getElem? (i := 49) rfl)) rfl (g := (mkF m 126 #[.val (.long ea), .second, .val (.long sm), .second, .val (.long la), .second, .val (.long rt), .second, .val (.int fl), .val (.long tt), .second, .val (.int (0 : Int32)), .val (.int (1 : Int32)), .val (.int al), .val (.int (0 : Int32)), .val .null, .val (.ref y122), .val .null, .unset, .unset, .unset, .unset, .unset] [])) rfl (hb hby at_126) (by decide) (by decide)
          obtain ⟨b124, g124⟩ : ∃ z, z = T122.heap.size := ⟨_, rfl⟩
          rw [← g124] at A124 D124 st124
          have ne_s_STARTING_b124 : s_STARTING ≠ b124 := Nat.ne_of_lt (Nat.lt_of_lt_of_le E123_s_STARTING.lt (Nat.le_of_eq g124.symm))
          have ne_s_NONE_b124 : s_NONE ≠ b124 := Nat.ne_of_lt (Nat.lt_of_lt_of_le E123_s_NONE.lt (Nat.le_of_eq g124.symm))
          have ne_s_COMPLETED_b124 : s_COMPLETED ≠ b124 := Nat.ne_of_lt (Nat.lt_of_lt_of_le E123_s_COMPLETED.lt (Nat.le_of_eq g124.symm))
          have ne_s_FAILED_b124 : s_FAILED ≠ b124 := Nat.ne_of_lt (Nat.lt_of_lt_of_le E123_s_FAILED.lt (Nat.le_of_eq g124.symm))
          have ne_s_KILLED_b124 : s_KILLED ≠ b124 := Nat.ne_of_lt (Nat.lt_of_lt_of_le E123_s_KILLED.lt (Nat.le_of_eq g124.symm))
          have ne_s_cache_b124 : s_cache ≠ b124 := Nat.ne_of_lt (Nat.lt_of_lt_of_le V123_s_cache.lt (Nat.le_of_eq g124.symm))
          have ge_b124 : n0 ≤ b124 := Nat.le_trans Z123 (Nat.le_of_eq g124.symm)
          have sz_b124 : h0.size ≤ b124 := Nat.le_trans K123.1 (Nat.le_of_eq g124.symm)
          have E125_s_STARTING := E123_s_STARTING.ext X_124
          have E125_s_NONE := E123_s_NONE.ext X_124
          have E125_s_COMPLETED := E123_s_COMPLETED.ext X_124
          have E125_s_FAILED := E123_s_FAILED.ext X_124
          have E125_s_KILLED := E123_s_KILLED.ext X_124
          have V125_s_cache := V123_s_cache.ext X_124
          have S125_STARTING := S123_STARTING.ext X_124
          have S125_NONE := S123_NONE.ext X_124
          have S125_COMPLETED := S123_COMPLETED.ext X_124
          have S125_FAILED := S123_FAILED.ext X_124
          have S125_KILLED := S123_KILLED.ext X_124
          have S125_cache := S123_cache.ext X_124
          have Z125 := Nat.le_trans Z123 X_124.1
          have hk125 := Nat.le_trans hk123 X_124.1
          have K125 : Keep h0 h124 [] := K123.ext X_124
          have F124_earliest : Fld Z h124 b124 "com/example/runpulse/runpulse/RunState" "earliest" "J" (.long (0 : Int64)) := D124 (Or.inr (hw _ (List.mem_of_getElem? (i := 55) rfl))) (ty := .long) (by decide)
          have F124_latest : Fld Z h124 b124 "com/example/runpulse/runpulse/RunState" "latest" "J" (.long (0 : Int64)) := D124 (Or.inr (hw _ (List.mem_of_getElem? (i := 57) rfl))) (ty := .long) (by decide)
          have F124_starting : Fld Z h124 b124 "com/example/runpulse/runpulse/RunState" "starting" "Lcom/example/runpulse/runpulse/RunState$Event;" .null := D124 (Or.inr (hw _ (List.mem_of_getElem? (i := 59) rfl))) (ty := (.object "com/example/runpulse/runpulse/RunState$Event")) (by decide)
          have F124_running : Fld Z h124 b124 "com/example/runpulse/runpulse/RunState" "running" "Ljava/lang/Long;" .null := D124 (Or.inr (hw _ (List.mem_of_getElem? (i := 61) rfl))) (ty := (.object "java/lang/Long")) (by decide)
          have F124_alive : Fld Z h124 b124 "com/example/runpulse/runpulse/RunState" "alive" "Z" (.int (0 : Int32)) := D124 (Or.inr (hw _ (List.mem_of_getElem? (i := 63) rfl))) (ty := .boolean) (by decide)
          have F124_terminal : Fld Z h124 b124 "com/example/runpulse/runpulse/RunState" "terminal" "Lcom/example/runpulse/runpulse/RunState$Event;" .null := D124 (Or.inr (hw _ (List.mem_of_getElem? (i := 65) rfl))) (ty := (.object "com/example/runpulse/runpulse/RunState$Event")) (by decide)
          refine GoW.by st124 ?_
          show GoW _ _ _ _ _ _ _ (T124.setTop (mkF m 129 #[.val (.long ea), .second, .val (.long sm), .second, .val (.long la), .second, .val (.long rt), .second, .val (.int fl), .val (.long tt), .second, .val (.int (0 : Int32)), .val (.int (1 : Int32)), .val (.int al), .val (.int (0 : Int32)), .val .null, .val (.ref y122), .val .null, .unset, .unset, .unset, .unset, .unset] [(.ref b124)]))
          refine GoW.by (fun _ kont => XS.dup X124.here hx rfl (hb hby at_129) rfl rfl (XS.lloadN X124.here hx rfl (hb hby at_130) rfl (XS.lload X124.here hx rfl (hb hby at_131) rfl (XS.aload X124.here hx rfl (hb hby at_133) rfl rfl (XS.aload X124.here hx rfl (hb hby at_135) rfl rfl (XS.iload X124.here hx rfl (hb hby at_137) rfl kont)))))) ?_
          show GoW _ _ _ _ _ _ _ (T124.setTop (mkF m 139 #[.val (.long ea), .second, .val (.long sm), .second, .val (.long la), .second, .val (.long rt), .second, .val (.int fl), .val (.long tt), .second, .val (.int (0 : Int32)), .val (.int (1 : Int32)), .val (.int al), .val (.int (0 : Int32)), .val .null, .val (.ref y122), .val .null, .unset, .unset, .unset, .unset, .unset] [(.int al), (.ref y122), .null, (.long la), (.long ea), (.ref b124), (.ref b124)]))
          refine GoW.by (fun _ kont => XS.aload X124.here hx rfl (hb hby at_139) rfl rfl kont) ?_
          show GoW _ _ _ _ _ _ _ (T124.setTop (mkF m 141 #[.val (.long ea), .second, .val (.long sm), .second, .val (.long la), .second, .val (.long rt), .second, .val (.int fl), .val (.long tt), .second, .val (.int (0 : Int32)), .val (.int (1 : Int32)), .val (.int al), .val (.int (0 : Int32)), .val .null, .val (.ref y122), .val .null, .unset, .unset, .unset, .unset, .unset] [.null, (.int al), (.ref y122), .null, (.long la), (.long ea), (.ref b124), (.ref b124)]))
          obtain ⟨_, _, ⟨T126, L126, k126, n126⟩, -, X126, ⟨Lc126, hQ126, l126, y126, z126⟩, st126⟩ := X124.specialBack hx (y := (⟨"com/example/runpulse/runpulse/RunState", "<init>", "(JJLcom/example/runpulse/runpulse/RunState$Event;Ljava/lang/Long;ZLcom/example/runpulse/runpulse/RunState$Event;)V"⟩ : MethodName)) rfl hown (mvT hZ (hw _ (List.mem_of_getElem? (i := 50) rfl))) (mvT hZ (hw _ (List.mem_of_getElem? (i := 51) rfl))) (mvT hZ (hw _ (List.mem_of_getElem? (i := 52) rfl))) (by decide) (backOf (W := 1) (rmS2 l Z a0 hw [] b124 ea la y122 al h124 n0 Z125 A124 F124_earliest F124_latest F124_starting F124_running F124_alive F124_terminal ge_b124 hal) hZ (hw _ (List.mem_of_getElem? (i := 52) rfl)) (hw _ (List.mem_of_getElem? (i := 49) rfl)) (by decide) (by decide)) (g := (mkF m 141 #[.val (.long ea), .second, .val (.long sm), .second, .val (.long la), .second, .val (.long rt), .second, .val (.int fl), .val (.long tt), .second, .val (.int (0 : Int32)), .val (.int (1 : Int32)), .val (.int al), .val (.int (0 : Int32)), .val .null, .val (.ref y122), .val .null, .unset, .unset, .unset, .unset, .unset] [.null, (.int al), (.ref y122), .null, (.long la), (.long ea), (.ref b124), (.ref b124)])) rfl (by rw [hml]; rfl) (Steps.refl _) (a := b124) (argsL := [(.long ea), (.long la), .null, (.ref y122), (.int al), .null]) (rest := [(.ref b124)]) (lenOf pd0_0 rfl) rfl (by show 2 * 0 + _ ≤ _; exact Nat.le_of_eq rfl) (hb hby at_141) (fun _ _ => ⟨rfl, e124, (by decide : 2 + 0 ≤ _), (by decide : 7 + 0 ≤ _)⟩)
          dsimp only [Pt.U, Pt.locs, Pt.cells, Pt.slots] at X126 l126 y126 z126 st126 hQ126
          subst l126 y126 z126
          obtain ⟨rfl, N126q, K126, g126_0, g126_1, g126_2, g126_3, g126_4, g126_5, g126_6⟩ := hQ126
          have S127_STARTING := own_stakeep S125_STARTING K126 (allS (own_ns A124) all0)
          have S127_NONE := own_stakeep S125_NONE K126 (allS (own_ns A124) all0)
          have S127_COMPLETED := own_stakeep S125_COMPLETED K126 (allS (own_ns A124) all0)
          have S127_FAILED := own_stakeep S125_FAILED K126 (allS (own_ns A124) all0)
          have S127_KILLED := own_stakeep S125_KILLED K126 (allS (own_ns A124) all0)
          have S127_cache := own_stakeep S125_cache K126 (allS (own_ns A124) all0)
          have E127_s_STARTING := E125_s_STARTING.keep K126
          have E127_s_NONE := E125_s_NONE.keep K126
          have E127_s_COMPLETED := E125_s_COMPLETED.keep K126
          have E127_s_FAILED := E125_s_FAILED.keep K126
          have E127_s_KILLED := E125_s_KILLED.keep K126
          have E127_b124 := A124.keep K126
          have V127_s_cache := V125_s_cache.keep K126 (ninS ne_s_cache_b124 nin0)
          have Z127 := Nat.le_trans Z125 K126.1
          have hk127 := Nat.le_trans hk125 K126.1
          have K127 : Keep h0 T126.heap [] := Keep.trans K125 K126 (allS (Or.inr sz_b124) all0)
          have N126 := Fr.app N122 N126q
          refine GoW.tr st126 ?_
          show GoW _ _ _ _ _ _ _ (T126.setTop (mkF m 144 #[.val (.long ea), .second, .val (.long sm), .second, .val (.long la), .second, .val (.long rt), .second, .val (.int fl), .val (.long tt), .second, .val (.int (0 : Int32)), .val (.int (1 : Int32)), .val (.int al), .val (.int (0 : Int32)), .val .null, .val (.ref y122), .val .null, .unset, .unset, .unset, .unset, .unset] [(.ref b124)]))
          refine GoW.by (fun _ kont => XS.astore X126.here hx rfl (hb hby at_144) rfl rfl (l' := #[.val (.long ea), .second, .val (.long sm), .second, .val (.long la), .second, .val (.long rt), .second, .val (.int fl), .val (.long tt), .second, .val (.int (0 : Int32)), .val (.int (1 : Int32)), .val (.int al), .val (.int (0 : Int32)), .val .null, .val (.ref y122), .val .null, .val (.ref b124), .unset, .unset, .unset, .unset]) rfl (XS.aload X126.here hx rfl (hb hby at_146) rfl rfl kont)) ?_
          show GoW _ _ _ _ _ _ _ (T126.setTop (mkF m 148 #[.val (.long ea), .second, .val (.long sm), .second, .val (.long la), .second, .val (.long rt), .second, .val (.int fl), .val (.long tt), .second, .val (.int (0 : Int32)), .val (.int (1 : Int32)), .val (.int al), .val (.int (0 : Int32)), .val .null, .val (.ref y122), .val .null, .val (.ref b124), .unset, .unset, .unset, .unset] [(.ref b124)]))
          obtain ⟨cq128, kq128, q128a, q128b, q128c⟩ := isOf hZ rfl g126_0
          obtain ⟨_, _, ⟨T128, L128, k128, n128⟩, -, X128, ⟨Lc128, hQ128, l128, y128, z128⟩, st128⟩ := X126.virtualBack hx (y := (⟨"com/example/runpulse/runpulse/RunState", "start", "()J"⟩ : MethodName)) (z := (⟨"com/example/runpulse/runpulse/RunState", "start", "()J"⟩ : MethodName)) hown (mvT hZ (hw _ (List.mem_of_getElem? (i := 66) rfl))) (mvT hZ (hw _ (List.mem_of_getElem? (i := 67) rfl))) (notFace_of_selects (args := #[]) (mvT hZ (hw _ (List.mem_of_getElem? (i := 69) rfl)))) (mvT hZ (hw _ (List.mem_of_getElem? (i := 69) rfl))) (mvT hZ (hw _ (List.mem_of_getElem? (i := 68) rfl))) (by decide) (backOf (W := 0) (rmA0 l Z a0 hw [] b124 ea T126.heap n0 Z127 g126_0 g126_3 g126_1) hZ (hw _ (List.mem_of_getElem? (i := 70) rfl)) (hw _ (List.mem_of_getElem? (i := 49) rfl)) (by decide) (by decide)) q128a q128c (g := (mkF m 148 #[.val (.long ea), .second, .val (.long sm), .second, .val (.long la), .second, .val (.long rt), .second, .val (.int fl), .val (.long tt), .second, .val (.int (0 : Int32)), .val (.int (1 : Int32)), .val (.int al), .val (.int (0 : Int32)), .val .null, .val (.ref y122), .val .null, .val (.ref b124), .unset, .unset, .unset, .unset] [(.ref b124)])) rfl (by rw [hml]; rfl) (Steps.refl _) (argsL := []) (rest := []) (lenOf pd0_1 rfl) rfl (by show 2 * 0 + _ ≤ _; exact Nat.le_of_eq rfl) (hb hby at_148) (fun _ _ => ⟨rfl, rfl, (by decide : 2 + 0 ≤ _), (by decide : 7 + 0 ≤ _)⟩)
          dsimp only [Pt.U, Pt.locs, Pt.cells, Pt.slots] at X128 l128 y128 z128 st128 hQ128
          subst l128 y128 z128
          obtain ⟨rfl, N128q, eh128⟩ := hQ128
          have N128 := Fr.app N126 N128q
          refine GoW.tr st128 ?_
          show GoW _ _ _ _ _ _ _ (T128.setTop (mkF m 151 #[.val (.long ea), .second, .val (.long sm), .second, .val (.long la), .second, .val (.long rt), .second, .val (.int fl), .val (.long tt), .second, .val (.int (0 : Int32)), .val (.int (1 : Int32)), .val (.int al), .val (.int (0 : Int32)), .val .null, .val (.ref y122), .val .null, .val (.ref b124), .unset, .unset, .unset, .unset] [(.long ea)]))
          refine GoW.by (fun _ kont => XS.lstore X128.here hx rfl (hb hby at_151) rfl (l' := #[.val (.long ea), .second, .val (.long sm), .second, .val (.long la), .second, .val (.long rt), .second, .val (.int fl), .val (.long tt), .second, .val (.int (0 : Int32)), .val (.int (1 : Int32)), .val (.int al), .val (.int (0 : Int32)), .val .null, .val (.ref y122), .val .null, .val (.ref b124), .val (.long ea), .second, .unset, .unset]) rfl (XS.iload X128.here hx rfl (hb hby at_153) rfl kont)) ?_
          show GoW _ _ _ _ _ _ _ (T128.setTop (mkF m 155 #[.val (.long ea), .second, .val (.long sm), .second, .val (.long la), .second, .val (.long rt), .second, .val (.int fl), .val (.long tt), .second, .val (.int (0 : Int32)), .val (.int (1 : Int32)), .val (.int al), .val (.int (0 : Int32)), .val .null, .val (.ref y122), .val .null, .val (.ref b124), .val (.long ea), .second, .unset, .unset] [(.int (0 : Int32))]))
          refine GoW.by (fun _ kont => XS.ifYes X128.here hx rfl (pc0 := 155) (pc' := 164) rfl (hb hby at_155) rfl (by decide) (by decide) (by decide) kont) ?_
          show GoW _ _ _ _ _ _ _ (T128.setTop (mkF m 164 #[.val (.long ea), .second, .val (.long sm), .second, .val (.long la), .second, .val (.long rt), .second, .val (.int fl), .val (.long tt), .second, .val (.int (0 : Int32)), .val (.int (1 : Int32)), .val (.int al), .val (.int (0 : Int32)), .val .null, .val (.ref y122), .val .null, .val (.ref b124), .val (.long ea), .second, .unset, .unset] []))
          refine GoW.by (fun _ kont => XS.lloadN X128.here hx rfl (hb hby at_164) rfl (XS.lstore X128.here hx rfl (hb hby at_165) rfl (l' := #[.val (.long ea), .second, .val (.long sm), .second, .val (.long la), .second, .val (.long rt), .second, .val (.int fl), .val (.long tt), .second, .val (.int (0 : Int32)), .val (.int (1 : Int32)), .val (.int al), .val (.int (0 : Int32)), .val .null, .val (.ref y122), .val .null, .val (.ref b124), .val (.long ea), .second, .val (.long ea), .second]) rfl (XS.lload X128.here hx rfl (hb hby at_167) rfl (XS.lload X128.here hx rfl (hb hby at_169) rfl (XS.lcmp X128.here hx rfl (hb hby at_171) rfl kont))))) ?_
          show GoW _ _ _ _ _ _ _ (T128.setTop (mkF m 172 #[.val (.long ea), .second, .val (.long sm), .second, .val (.long la), .second, .val (.long rt), .second, .val (.int fl), .val (.long tt), .second, .val (.int (0 : Int32)), .val (.int (1 : Int32)), .val (.int al), .val (.int (0 : Int32)), .val .null, .val (.ref y122), .val .null, .val (.ref b124), .val (.long ea), .second, .val (.long ea), .second] [(.int (lcmpW ea ea))]))
          refine GoW.by (fun _ kont => XS.ifNo X128.here hx rfl (hb hby at_172) rfl ((if0 _ _).trans (teq ((lw_eq _ _).mpr rfl)).2) kont) ?_
          show GoW _ _ _ _ _ _ _ (T128.setTop (mkF m 175 #[.val (.long ea), .second, .val (.long sm), .second, .val (.long la), .second, .val (.long rt), .second, .val (.int fl), .val (.long tt), .second, .val (.int (0 : Int32)), .val (.int (1 : Int32)), .val (.int al), .val (.int (0 : Int32)), .val .null, .val (.ref y122), .val .null, .val (.ref b124), .val (.long ea), .second, .val (.long ea), .second] []))
          refine GoW.by (fun _ kont => XS.iconst X128.here hx rfl (hb hby at_175) (XS.goto X128.here hx rfl (pc0 := 176) (pc' := 180) rfl (hb hby at_176) (by decide) (by decide) kont)) ?_
          show GoW _ _ _ _ _ _ _ (T128.setTop (mkF m 180 #[.val (.long ea), .second, .val (.long sm), .second, .val (.long la), .second, .val (.long rt), .second, .val (.int fl), .val (.long tt), .second, .val (.int (0 : Int32)), .val (.int (1 : Int32)), .val (.int al), .val (.int (0 : Int32)), .val .null, .val (.ref y122), .val .null, .val (.ref b124), .val (.long ea), .second, .val (.long ea), .second] [(.int (1 : Int32))]))
          refine GoW.retN X128 hS (by rw [eh128]; exact hk127) hx (t := .boolean) hret (by simp) hlk (hb hby at_180) ?_ (by decide) (by decide)
          show Q0 Z h0 n0 (some (.int (1 : Int32))) T128.heap _
          rw [eh128]
          exact ⟨rfl, N128⟩
        · refine GoW.by (fun _ kont => XS.ifNo X0.here hx rfl (hb hby at_47) rfl ((if0 _ _).trans (feq hc121).1) kont) ?_
          show GoW _ _ _ _ _ _ _ (s₁.setTop (mkF m 50 #[.val (.long ea), .second, .val (.long sm), .second, .val (.long la), .second, .val (.long rt), .second, .val (.int fl), .val (.long tt), .second, .val (.int (0 : Int32)), .val (.int (1 : Int32)), .val (.int al), .unset, .unset, .unset, .unset, .unset, .unset, .unset, .unset, .unset] []))
          refine GoW.by (fun _ kont => XS.iconst X0.here hx rfl (hb hby at_50) (XS.goto X0.here hx rfl (pc0 := 51) (pc' := 55) rfl (hb hby at_51) (by decide) (by decide) (XS.istore X0.here hx rfl (hb hby at_55) rfl (l' := #[.val (.long ea), .second, .val (.long sm), .second, .val (.long la), .second, .val (.long rt), .second, .val (.int fl), .val (.long tt), .second, .val (.int (0 : Int32)), .val (.int (1 : Int32)), .val (.int al), .val (.int (1 : Int32)), .unset, .unset, .unset, .unset, .unset, .unset, .unset, .unset]) rfl (XS.iload X0.here hx rfl (hb hby at_57) rfl kont)))) ?_
          show GoW _ _ _ _ _ _ _ (s₁.setTop (mkF m 59 #[.val (.long ea), .second, .val (.long sm), .second, .val (.long la), .second, .val (.long rt), .second, .val (.int fl), .val (.long tt), .second, .val (.int (0 : Int32)), .val (.int (1 : Int32)), .val (.int al), .val (.int (1 : Int32)), .unset, .unset, .unset, .unset, .unset, .unset, .unset, .unset] [(.int (0 : Int32))]))
          refine GoW.by (fun _ kont => XS.ifYes X0.here hx rfl (pc0 := 59) (pc' := 79) rfl (hb hby at_59) rfl (by decide) (by decide) (by decide) kont) ?_
          show GoW _ _ _ _ _ _ _ (s₁.setTop (mkF m 79 #[.val (.long ea), .second, .val (.long sm), .second, .val (.long la), .second, .val (.long rt), .second, .val (.int fl), .val (.long tt), .second, .val (.int (0 : Int32)), .val (.int (1 : Int32)), .val (.int al), .val (.int (1 : Int32)), .unset, .unset, .unset, .unset, .unset, .unset, .unset, .unset] []))
          refine GoW.by (fun _ kont => XS.aconstNull X0.here hx rfl (hb hby at_79) (XS.astore X0.here hx rfl (hb hby at_80) rfl rfl (l' := #[.val (.long ea), .second, .val (.long sm), .second, .val (.long la), .second, .val (.long rt), .second, .val (.int fl), .val (.long tt), .second, .val (.int (0 : Int32)), .val (.int (1 : Int32)), .val (.int al), .val (.int (1 : Int32)), .val .null, .unset, .unset, .unset, .unset, .unset, .unset, .unset]) rfl (XS.iload X0.here hx rfl (hb hby at_82) rfl kont))) ?_
          show GoW _ _ _ _ _ _ _ (s₁.setTop (mkF m 84 #[.val (.long ea), .second, .val (.long sm), .second, .val (.long la), .second, .val (.long rt), .second, .val (.int fl), .val (.long tt), .second, .val (.int (0 : Int32)), .val (.int (1 : Int32)), .val (.int al), .val (.int (1 : Int32)), .val .null, .unset, .unset, .unset, .unset, .unset, .unset, .unset] [(.int (1 : Int32))]))
          refine GoW.by (fun _ kont => XS.ifNo X0.here hx rfl (hb hby at_84) rfl (by decide) kont) ?_
          show GoW _ _ _ _ _ _ _ (s₁.setTop (mkF m 87 #[.val (.long ea), .second, .val (.long sm), .second, .val (.long la), .second, .val (.long rt), .second, .val (.int fl), .val (.long tt), .second, .val (.int (0 : Int32)), .val (.int (1 : Int32)), .val (.int al), .val (.int (1 : Int32)), .val .null, .unset, .unset, .unset, .unset, .unset, .unset, .unset] []))
          refine GoW.by (fun _ kont => XS.lload X0.here hx rfl (hb hby at_87) rfl kont) ?_
          show GoW _ _ _ _ _ _ _ (s₁.setTop (mkF m 89 #[.val (.long ea), .second, .val (.long sm), .second, .val (.long la), .second, .val (.long rt), .second, .val (.int fl), .val (.long tt), .second, .val (.int (0 : Int32)), .val (.int (1 : Int32)), .val (.int al), .val (.int (1 : Int32)), .val .null, .unset, .unset, .unset, .unset, .unset, .unset, .unset] [(.long rt)]))
          obtain ⟨_, _, ⟨T129, L129, k129, n129⟩, -, X129, ⟨Lc129, hQ129, l129, y129, z129⟩, st129⟩ := Jvm.LawKit.callS X0 hx (y := (⟨"java/lang/Long", "valueOf", "(J)Ljava/lang/Long;"⟩ : MethodName)) hown (mvT hZ (hw _ (List.mem_of_getElem? (i := 39) rfl))) (mvT hZ (hw _ (List.mem_of_getElem? (i := 40) rfl))) (mvT hZ (hw _ (List.mem_of_getElem? (i := 41) rfl))) (mvT hZ (hw _ (List.mem_of_getElem? (i := 42) rfl))) (by decide) (backOf (W := 0) (rmV l Z a0 hw [] rt s_cache kcl h0 n0 Z0 Vl Sl) hZ (hw _ (List.mem_of_getElem? (i := 42) rfl)) (hw _ (List.mem_of_getElem? (i := 41) rfl)) (by decide) (by decide)) (g := (mkF m 89 #[.val (.long ea), .second, .val (.long sm), .second, .val (.long la), .second, .val (.long rt), .second, .val (.int fl), .val (.long tt), .second, .val (.int (0 : Int32)), .val (.int (1 : Int32)), .val (.int al), .val (.int (1 : Int32)), .val .null, .unset, .unset, .unset, .unset, .unset, .unset, .unset] [(.long rt)])) rfl (by rw [hml]; rfl) (argsL := [(.long rt)]) (rest := []) (lenOf pd0_4 rfl) rfl (by show 2 * 0 + _ ≤ _; exact Nat.le_of_eq rfl) (hb hby at_89) (fun _ _ => ⟨rfl, e0, (by decide : 0 + 1 ≤ _), (by decide : 0 + 1 ≤ _)⟩)
          dsimp only [Pt.U, Pt.locs, Pt.cells, Pt.slots] at X129 l129 y129 z129 st129 hQ129
          subst l129 y129 z129
          obtain ⟨y129, rfl, N129q, K129⟩ := hQ129
          have S130_STARTING := own_stakeep S_STARTING K129 all0
          have S130_NONE := own_stakeep S_NONE K129 all0
          have S130_COMPLETED := own_stakeep S_COMPLETED K129 all0
          have S130_FAILED := own_stakeep S_FAILED K129 all0
          have S130_KILLED := own_stakeep S_KILLED K129 all0
          have S130_cache := own_stakeep Sl K129 all0
          have E130_s_STARTING := E_s_STARTING.keep K129
          have E130_s_NONE := E_s_NONE.keep K129
          have E130_s_COMPLETED := E_s_COMPLETED.keep K129
          have E130_s_FAILED := E_s_FAILED.keep K129
          have E130_s_KILLED := E_s_KILLED.keep K129
          have V130_s_cache := Vl.keep K129 nin0
          have Z130 := Nat.le_trans Z0 K129.1
          have hk130 := Nat.le_trans hk0 K129.1
          have K130 : Keep h0 T129.heap [] := Keep.trans (Keep.refl h0 []) K129 all0
          have N129 := Fr.app N0 N129q
          refine GoW.by st129 ?_
          show GoW _ _ _ _ _ _ _ (T129.setTop (mkF m 92 #[.val (.long ea), .second, .val (.long sm), .second, .val (.long la), .second, .val (.long rt), .second, .val (.int fl), .val (.long tt), .second, .val (.int (0 : Int32)), .val (.int (1 : Int32)), .val (.int al), .val (.int (1 : Int32)), .val .null, .unset, .unset, .unset, .unset, .unset, .unset, .unset] [(.ref y129)]))
          refine GoW.by (fun _ kont => XS.goto X129.here hx rfl (pc0 := 92) (pc' := 96) rfl (hb hby at_92) (by decide) (by decide) (XS.astore X129.here hx rfl (hb hby at_96) rfl rfl (l' := #[.val (.long ea), .second, .val (.long sm), .second, .val (.long la), .second, .val (.long rt), .second, .val (.int fl), .val (.long tt), .second, .val (.int (0 : Int32)), .val (.int (1 : Int32)), .val (.int al), .val (.int (1 : Int32)), .val .null, .val (.ref y129), .unset, .unset, .unset, .unset, .unset, .unset]) rfl (XS.iload X129.here hx rfl (hb hby at_98) rfl kont))) ?_
          show GoW _ _ _ _ _ _ _ (T129.setTop (mkF m 100 #[.val (.long ea), .second, .val (.long sm), .second, .val (.long la), .second, .val (.long rt), .second, .val (.int fl), .val (.long tt), .second, .val (.int (0 : Int32)), .val (.int (1 : Int32)), .val (.int al), .val (.int (1 : Int32)), .val .null, .val (.ref y129), .unset, .unset, .unset, .unset, .unset, .unset] [(.int (1 : Int32))]))
          refine GoW.by (fun _ kont => XS.ifNo X129.here hx rfl (hb hby at_100) rfl (by decide) kont) ?_
          show GoW _ _ _ _ _ _ _ (T129.setTop (mkF m 103 #[.val (.long ea), .second, .val (.long sm), .second, .val (.long la), .second, .val (.long rt), .second, .val (.int fl), .val (.long tt), .second, .val (.int (0 : Int32)), .val (.int (1 : Int32)), .val (.int al), .val (.int (1 : Int32)), .val .null, .val (.ref y129), .unset, .unset, .unset, .unset, .unset, .unset] []))
          obtain ⟨T131, h131, X131, e131, X_131, A131, D131, -, st131⟩ := newO X129 hx hZ hown (hw _ (List.mem_of_getElem? (i := 0) rfl)) (hw _ (List.mem_of_getElem? (i := 1) rfl)) (hw _ (List.mem_of_getElem? (i := 2) rfl)) rfl (g := (mkF m 103 #[.val (.long ea), .second, .val (.long sm), .second, .val (.long la), .second, .val (.long rt), .second, .val (.int fl), .val (.long tt), .second, .val (.int (0 : Int32)), .val (.int (1 : Int32)), .val (.int al), .val (.int (1 : Int32)), .val .null, .val (.ref y129), .unset, .unset, .unset, .unset, .unset, .unset] [])) rfl (hb hby at_103) (by decide) (by decide)
          obtain ⟨b131, g131⟩ : ∃ z, z = T129.heap.size := ⟨_, rfl⟩
          rw [← g131] at A131 D131 st131
          have ne_s_STARTING_b131 : s_STARTING ≠ b131 := Nat.ne_of_lt (Nat.lt_of_lt_of_le E130_s_STARTING.lt (Nat.le_of_eq g131.symm))
          have ne_s_NONE_b131 : s_NONE ≠ b131 := Nat.ne_of_lt (Nat.lt_of_lt_of_le E130_s_NONE.lt (Nat.le_of_eq g131.symm))
          have ne_s_COMPLETED_b131 : s_COMPLETED ≠ b131 := Nat.ne_of_lt (Nat.lt_of_lt_of_le E130_s_COMPLETED.lt (Nat.le_of_eq g131.symm))
          have ne_s_FAILED_b131 : s_FAILED ≠ b131 := Nat.ne_of_lt (Nat.lt_of_lt_of_le E130_s_FAILED.lt (Nat.le_of_eq g131.symm))
          have ne_s_KILLED_b131 : s_KILLED ≠ b131 := Nat.ne_of_lt (Nat.lt_of_lt_of_le E130_s_KILLED.lt (Nat.le_of_eq g131.symm))
          have ne_s_cache_b131 : s_cache ≠ b131 := Nat.ne_of_lt (Nat.lt_of_lt_of_le V130_s_cache.lt (Nat.le_of_eq g131.symm))
          have ge_b131 : n0 ≤ b131 := Nat.le_trans Z130 (Nat.le_of_eq g131.symm)
          have sz_b131 : h0.size ≤ b131 := Nat.le_trans K130.1 (Nat.le_of_eq g131.symm)
          have E132_s_STARTING := E130_s_STARTING.ext X_131
          have E132_s_NONE := E130_s_NONE.ext X_131
          have E132_s_COMPLETED := E130_s_COMPLETED.ext X_131
          have E132_s_FAILED := E130_s_FAILED.ext X_131
          have E132_s_KILLED := E130_s_KILLED.ext X_131
          have V132_s_cache := V130_s_cache.ext X_131
          have S132_STARTING := S130_STARTING.ext X_131
          have S132_NONE := S130_NONE.ext X_131
          have S132_COMPLETED := S130_COMPLETED.ext X_131
          have S132_FAILED := S130_FAILED.ext X_131
          have S132_KILLED := S130_KILLED.ext X_131
          have S132_cache := S130_cache.ext X_131
          have Z132 := Nat.le_trans Z130 X_131.1
          have hk132 := Nat.le_trans hk130 X_131.1
          have K132 : Keep h0 h131 [] := K130.ext X_131
          have F131_kind : Fld Z h131 b131 "com/example/runpulse/runpulse/RunState$Event" "kind" "Lcom/example/runpulse/runpulse/LifecycleEvent$Kind;" .null := D131 (Or.inr (hw _ (List.mem_of_getElem? (i := 34) rfl))) (ty := (.object "com/example/runpulse/runpulse/LifecycleEvent$Kind")) (by decide)
          have F131_time : Fld Z h131 b131 "com/example/runpulse/runpulse/RunState$Event" "time" "J" (.long (0 : Int64)) := D131 (Or.inr (hw _ (List.mem_of_getElem? (i := 36) rfl))) (ty := .long) (by decide)
          have F131_details : Fld Z h131 b131 "com/example/runpulse/runpulse/RunState$Event" "details" "Lcom/example/runpulse/runpulse/EventDetails;" .null := D131 (Or.inr (hw _ (List.mem_of_getElem? (i := 38) rfl))) (ty := (.object "com/example/runpulse/runpulse/EventDetails")) (by decide)
          refine GoW.by st131 ?_
          show GoW _ _ _ _ _ _ _ (T131.setTop (mkF m 106 #[.val (.long ea), .second, .val (.long sm), .second, .val (.long la), .second, .val (.long rt), .second, .val (.int fl), .val (.long tt), .second, .val (.int (0 : Int32)), .val (.int (1 : Int32)), .val (.int al), .val (.int (1 : Int32)), .val .null, .val (.ref y129), .unset, .unset, .unset, .unset, .unset, .unset] [(.ref b131)]))
          refine GoW.by (fun _ kont => XS.dup X131.here hx rfl (hb hby at_106) rfl rfl (XS.iload X131.here hx rfl (hb hby at_107) rfl kont)) ?_
          show GoW _ _ _ _ _ _ _ (T131.setTop (mkF m 109 #[.val (.long ea), .second, .val (.long sm), .second, .val (.long la), .second, .val (.long rt), .second, .val (.int fl), .val (.long tt), .second, .val (.int (0 : Int32)), .val (.int (1 : Int32)), .val (.int al), .val (.int (1 : Int32)), .val .null, .val (.ref y129), .unset, .unset, .unset, .unset, .unset, .unset] [(.int fl), (.ref b131), (.ref b131)]))
          obtain ⟨_, _, ⟨T133, L133, k133, n133⟩, -, X133, ⟨Lc133, hQ133, l133, y133, z133⟩, st133⟩ := Jvm.LawKit.callS X131 hx (y := (⟨"com/example/runpulse/runpulse/RunStateStartPinLaw", "terminalKind", "(I)Lcom/example/runpulse/runpulse/LifecycleEvent$Kind;"⟩ : MethodName)) hown (mvT hZ (hw _ (List.mem_of_getElem? (i := 91) rfl))) (mvT hZ (hw _ (List.mem_of_getElem? (i := 92) rfl))) (mvT hZ (hw _ (List.mem_of_getElem? (i := 93) rfl))) (mvT hZ (hw _ (List.mem_of_getElem? (i := 94) rfl))) (by decide) (backOf (W := 2) (rmT l Z a0 hw [] fl s_COMPLETED s_FAILED s_KILLED h131 n0 Z132 S132_COMPLETED S132_FAILED S132_KILLED) hZ (hw _ (List.mem_of_getElem? (i := 94) rfl)) (hw _ (List.mem_of_getElem? (i := 93) rfl)) (by decide) (by decide)) (g := (mkF m 109 #[.val (.long ea), .second, .val (.long sm), .second, .val (.long la), .second, .val (.long rt), .second, .val (.int fl), .val (.long tt), .second, .val (.int (0 : Int32)), .val (.int (1 : Int32)), .val (.int al), .val (.int (1 : Int32)), .val .null, .val (.ref y129), .unset, .unset, .unset, .unset, .unset, .unset] [(.int fl), (.ref b131), (.ref b131)])) rfl (by rw [hml]; rfl) (argsL := [(.int fl)]) (rest := [(.ref b131), (.ref b131)]) (lenOf pd0_2 rfl) rfl (by show 2 * 0 + _ ≤ _; exact Nat.le_of_eq rfl) (hb hby at_109) (fun _ _ => ⟨rfl, e131, (by decide : 2 + 0 ≤ _), (by decide : 4 + 0 ≤ _)⟩)
          dsimp only [Pt.U, Pt.locs, Pt.cells, Pt.slots] at X133 l133 y133 z133 st133 hQ133
          subst l133 y133 z133
          obtain ⟨y133, rfl, N133q, eh133⟩ := hQ133
          have N133 := Fr.app N129 N133q
          refine GoW.by st133 ?_
          show GoW _ _ _ _ _ _ _ (T133.setTop (mkF m 112 #[.val (.long ea), .second, .val (.long sm), .second, .val (.long la), .second, .val (.long rt), .second, .val (.int fl), .val (.long tt), .second, .val (.int (0 : Int32)), .val (.int (1 : Int32)), .val (.int al), .val (.int (1 : Int32)), .val .null, .val (.ref y129), .unset, .unset, .unset, .unset, .unset, .unset] [(.ref y133), (.ref b131), (.ref b131)]))
          refine GoW.by (fun _ kont => XS.lload X133.here hx rfl (hb hby at_112) rfl kont) ?_
          show GoW _ _ _ _ _ _ _ (T133.setTop (mkF m 114 #[.val (.long ea), .second, .val (.long sm), .second, .val (.long la), .second, .val (.long rt), .second, .val (.int fl), .val (.long tt), .second, .val (.int (0 : Int32)), .val (.int (1 : Int32)), .val (.int al), .val (.int (1 : Int32)), .val .null, .val (.ref y129), .unset, .unset, .unset, .unset, .unset, .unset] [(.long tt), (.ref y133), (.ref b131), (.ref b131)]))
          obtain ⟨T134, X134, e134, st134⟩ := getS2 X133 hx hZ hown (host := "") (Or.inl (hw _ (List.mem_of_getElem? (i := 6) rfl))) Via.refl eh133 S132_NONE (g := (mkF m 114 #[.val (.long ea), .second, .val (.long sm), .second, .val (.long la), .second, .val (.long rt), .second, .val (.int fl), .val (.long tt), .second, .val (.int (0 : Int32)), .val (.int (1 : Int32)), .val (.int al), .val (.int (1 : Int32)), .val .null, .val (.ref y129), .unset, .unset, .unset, .unset, .unset, .unset] [(.long tt), (.ref y133), (.ref b131), (.ref b131)])) rfl (hb hby at_114)
          refine GoW.by st134 ?_
          show GoW _ _ _ _ _ _ _ (T134.setTop (mkF m 117 #[.val (.long ea), .second, .val (.long sm), .second, .val (.long la), .second, .val (.long rt), .second, .val (.int fl), .val (.long tt), .second, .val (.int (0 : Int32)), .val (.int (1 : Int32)), .val (.int al), .val (.int (1 : Int32)), .val .null, .val (.ref y129), .unset, .unset, .unset, .unset, .unset, .unset] [(.ref s_NONE), (.long tt), (.ref y133), (.ref b131), (.ref b131)]))
          obtain ⟨_, _, ⟨T135, L135, k135, n135⟩, -, X135, hS135, hg135, ⟨Lc135, hQ135, l135, y135, z135⟩, st135⟩ := X134.specialBackS hx (y := (⟨"com/example/runpulse/runpulse/RunState$Event", "<init>", "(Lcom/example/runpulse/runpulse/LifecycleEvent$Kind;JLcom/example/runpulse/runpulse/EventDetails;)V"⟩ : MethodName)) rfl hown (mvT hZ (hw _ (List.mem_of_getElem? (i := 9) rfl))) (mvT hZ (hw _ (List.mem_of_getElem? (i := 10) rfl))) (mvT hZ (hw _ (List.mem_of_getElem? (i := 11) rfl))) (by decide) (backOfS (W := 1) (rmE l Z a0 hw [] b131 y133 tt s_NONE h131 n0 Z132 A131 F131_kind F131_time F131_details ge_b131) hZ (hw _ (List.mem_of_getElem? (i := 11) rfl)) (hw _ (List.mem_of_getElem? (i := 2) rfl)) (by decide) (by decide)) (g := (mkF m 117 #[.val (.long ea), .second, .val (.long sm), .second, .val (.long la), .second, .val (.long rt), .second, .val (.int fl), .val (.long tt), .second, .val (.int (0 : Int32)), .val (.int (1 : Int32)), .val (.int al), .val (.int (1 : Int32)), .val .null, .val (.ref y129), .unset, .unset, .unset, .unset, .unset, .unset] [(.ref s_NONE), (.long tt), (.ref y133), (.ref b131), (.ref b131)])) rfl (by rw [hml]; rfl) (Steps.refl _) (a := b131) (argsL := [(.ref y133), (.long tt), (.ref s_NONE)]) (rest := [(.ref b131)]) (lenOf pd0_3 rfl) rfl (by show 2 * 0 + _ ≤ _; exact Nat.le_of_eq rfl) (hb hby at_117) (fun _ _ => ⟨rfl, e134, (by decide : 2 + 4 ≤ _), (by decide : 4 + 52 ≤ _)⟩)
          dsimp only [Pt.U, Pt.locs, Pt.cells, Pt.slots] at X135 hS135 hg135 l135 y135 z135 st135 hQ135
          subst l135 y135 z135
          obtain ⟨X135, hS, hZ, hown⟩ := rebS hS (show _ ≤ T134.heap.size from by rw [e134]; exact hk132) X135 hS135 hg135 hZ hown
          obtain ⟨rfl, N135q, K135, E135z, F135z⟩ := hQ135
          have S136_STARTING := own_stakeep S132_STARTING K135 (allS (own_ns A131) all0)
          have S136_NONE := own_stakeep S132_NONE K135 (allS (own_ns A131) all0)
          have S136_COMPLETED := own_stakeep S132_COMPLETED K135 (allS (own_ns A131) all0)
          have S136_FAILED := own_stakeep S132_FAILED K135 (allS (own_ns A131) all0)
          have S136_KILLED := own_stakeep S132_KILLED K135 (allS (own_ns A131) all0)
          have S136_cache := own_stakeep S132_cache K135 (allS (own_ns A131) all0)
          have E136_s_STARTING := E132_s_STARTING.keep K135
          have E136_s_NONE := E132_s_NONE.keep K135
          have E136_s_COMPLETED := E132_s_COMPLETED.keep K135
          have E136_s_FAILED := E132_s_FAILED.keep K135
          have E136_s_KILLED := E132_s_KILLED.keep K135
          have E136_b131 := A131.keep K135
          have V136_s_cache := V132_s_cache.keep K135 (ninS ne_s_cache_b131 nin0)
          have Z136 := Nat.le_trans Z132 K135.1
          have K136 : Keep h0 T135.heap [] := Keep.trans K132 K135 (allS (Or.inr sz_b131) all0)
          have N135 := Fr.app N133 N135q
          refine GoW.tr st135 ?_
          show GoW _ _ _ _ _ _ _ (T135.setTop (mkF m 120 #[.val (.long ea), .second, .val (.long sm), .second, .val (.long la), .second, .val (.long rt), .second, .val (.int fl), .val (.long tt), .second, .val (.int (0 : Int32)), .val (.int (1 : Int32)), .val (.int al), .val (.int (1 : Int32)), .val .null, .val (.ref y129), .unset, .unset, .unset, .unset, .unset, .unset] [(.ref b131)]))
          refine GoW.by (fun _ kont => XS.goto X135.here hx rfl (pc0 := 120) (pc' := 124) rfl (hb hby at_120) (by decide) (by decide) (XS.astore X135.here hx rfl (hb hby at_124) rfl rfl (l' := #[.val (.long ea), .second, .val (.long sm), .second, .val (.long la), .second, .val (.long rt), .second, .val (.int fl), .val (.long tt), .second, .val (.int (0 : Int32)), .val (.int (1 : Int32)), .val (.int al), .val (.int (1 : Int32)), .val .null, .val (.ref y129), .val (.ref b131), .unset, .unset, .unset, .unset, .unset]) rfl kont)) ?_
          show GoW _ _ _ _ _ _ _ (T135.setTop (mkF m 126 #[.val (.long ea), .second, .val (.long sm), .second, .val (.long la), .second, .val (.long rt), .second, .val (.int fl), .val (.long tt), .second, .val (.int (0 : Int32)), .val (.int (1 : Int32)), .val (.int al), .val (.int (1 : Int32)), .val .null, .val (.ref y129), .val (.ref b131), .unset, .unset, .unset, .unset, .unset] []))
          obtain ⟨T137, h137, X137, e137, X_137, A137, D137, -, st137⟩ := newO X135 hx hZ hown (hw _ (List.mem_of_getElem? (i := 47) rfl)) (hw _ (List.mem_of_getElem? (i := 48) rfl)) (hw _ (List.mem_of_getElem? (i := 49) rfl)) rfl (g := (mkF m 126 #[.val (.long ea), .second, .val (.long sm), .second, .val (.long la), .second, .val (.long rt), .second, .val (.int fl), .val (.long tt), .second, .val (.int (0 : Int32)), .val (.int (1 : Int32)), .val (.int al), .val (.int (1 : Int32)), .val .null, .val (.ref y129), .val (.ref b131), .unset, .unset, .unset, .unset, .unset] [])) rfl (hb hby at_126) (by decide) (by decide)
          obtain ⟨b137, g137⟩ : ∃ z, z = T135.heap.size := ⟨_, rfl⟩
          rw [← g137] at A137 D137 st137
          have ne_b131_b137 : b131 ≠ b137 := Nat.ne_of_lt (Nat.lt_of_lt_of_le F135z.lt (Nat.le_of_eq g137.symm))
          have ne_s_STARTING_b137 : s_STARTING ≠ b137 := Nat.ne_of_lt (Nat.lt_of_lt_of_le E136_s_STARTING.lt (Nat.le_of_eq g137.symm))
          have ne_s_NONE_b137 : s_NONE ≠ b137 := Nat.ne_of_lt (Nat.lt_of_lt_of_le E136_s_NONE.lt (Nat.le_of_eq g137.symm))
          have ne_s_COMPLETED_b137 : s_COMPLETED ≠ b137 := Nat.ne_of_lt (Nat.lt_of_lt_of_le E136_s_COMPLETED.lt (Nat.le_of_eq g137.symm))
          have ne_s_FAILED_b137 : s_FAILED ≠ b137 := Nat.ne_of_lt (Nat.lt_of_lt_of_le E136_s_FAILED.lt (Nat.le_of_eq g137.symm))
          have ne_s_KILLED_b137 : s_KILLED ≠ b137 := Nat.ne_of_lt (Nat.lt_of_lt_of_le E136_s_KILLED.lt (Nat.le_of_eq g137.symm))
          have ne_s_cache_b137 : s_cache ≠ b137 := Nat.ne_of_lt (Nat.lt_of_lt_of_le V136_s_cache.lt (Nat.le_of_eq g137.symm))
          have ge_b137 : n0 ≤ b137 := Nat.le_trans Z136 (Nat.le_of_eq g137.symm)
          have sz_b137 : h0.size ≤ b137 := Nat.le_trans K136.1 (Nat.le_of_eq g137.symm)
          have F138_time_b131 := F135z.ext X_137
          have E138_s_STARTING := E136_s_STARTING.ext X_137
          have E138_s_NONE := E136_s_NONE.ext X_137
          have E138_s_COMPLETED := E136_s_COMPLETED.ext X_137
          have E138_s_FAILED := E136_s_FAILED.ext X_137
          have E138_s_KILLED := E136_s_KILLED.ext X_137
          have E138_b131 := E135z.ext X_137
          have V138_s_cache := V136_s_cache.ext X_137
          have S138_STARTING := S136_STARTING.ext X_137
          have S138_NONE := S136_NONE.ext X_137
          have S138_COMPLETED := S136_COMPLETED.ext X_137
          have S138_FAILED := S136_FAILED.ext X_137
          have S138_KILLED := S136_KILLED.ext X_137
          have S138_cache := S136_cache.ext X_137
          have Z138 := Nat.le_trans Z136 X_137.1
          have hk138 := Nat.le_trans (Nat.le_refl _) X_137.1
          have K138 : Keep h0 h137 [] := K136.ext X_137
          have F137_earliest : Fld Z h137 b137 "com/example/runpulse/runpulse/RunState" "earliest" "J" (.long (0 : Int64)) := D137 (Or.inr (hw _ (List.mem_of_getElem? (i := 55) rfl))) (ty := .long) (by decide)
          have F137_latest : Fld Z h137 b137 "com/example/runpulse/runpulse/RunState" "latest" "J" (.long (0 : Int64)) := D137 (Or.inr (hw _ (List.mem_of_getElem? (i := 57) rfl))) (ty := .long) (by decide)
          have F137_starting : Fld Z h137 b137 "com/example/runpulse/runpulse/RunState" "starting" "Lcom/example/runpulse/runpulse/RunState$Event;" .null := D137 (Or.inr (hw _ (List.mem_of_getElem? (i := 59) rfl))) (ty := (.object "com/example/runpulse/runpulse/RunState$Event")) (by decide)
          have F137_running : Fld Z h137 b137 "com/example/runpulse/runpulse/RunState" "running" "Ljava/lang/Long;" .null := D137 (Or.inr (hw _ (List.mem_of_getElem? (i := 61) rfl))) (ty := (.object "java/lang/Long")) (by decide)
          have F137_alive : Fld Z h137 b137 "com/example/runpulse/runpulse/RunState" "alive" "Z" (.int (0 : Int32)) := D137 (Or.inr (hw _ (List.mem_of_getElem? (i := 63) rfl))) (ty := .boolean) (by decide)
          have F137_terminal : Fld Z h137 b137 "com/example/runpulse/runpulse/RunState" "terminal" "Lcom/example/runpulse/runpulse/RunState$Event;" .null := D137 (Or.inr (hw _ (List.mem_of_getElem? (i := 65) rfl))) (ty := (.object "com/example/runpulse/runpulse/RunState$Event")) (by decide)
          refine GoW.by st137 ?_
          show GoW _ _ _ _ _ _ _ (T137.setTop (mkF m 129 #[.val (.long ea), .second, .val (.long sm), .second, .val (.long la), .second, .val (.long rt), .second, .val (.int fl), .val (.long tt), .second, .val (.int (0 : Int32)), .val (.int (1 : Int32)), .val (.int al), .val (.int (1 : Int32)), .val .null, .val (.ref y129), .val (.ref b131), .unset, .unset, .unset, .unset, .unset] [(.ref b137)]))
          refine GoW.by (fun _ kont => XS.dup X137.here hx rfl (hb hby at_129) rfl rfl (XS.lloadN X137.here hx rfl (hb hby at_130) rfl (XS.lload X137.here hx rfl (hb hby at_131) rfl (XS.aload X137.here hx rfl (hb hby at_133) rfl rfl (XS.aload X137.here hx rfl (hb hby at_135) rfl rfl (XS.iload X137.here hx rfl (hb hby at_137) rfl kont)))))) ?_
          show GoW _ _ _ _ _ _ _ (T137.setTop (mkF m 139 #[.val (.long ea), .second, .val (.long sm), .second, .val (.long la), .second, .val (.long rt), .second, .val (.int fl), .val (.long tt), .second, .val (.int (0 : Int32)), .val (.int (1 : Int32)), .val (.int al), .val (.int (1 : Int32)), .val .null, .val (.ref y129), .val (.ref b131), .unset, .unset, .unset, .unset, .unset] [(.int al), (.ref y129), .null, (.long la), (.long ea), (.ref b137), (.ref b137)]))
          refine GoW.by (fun _ kont => XS.aload X137.here hx rfl (hb hby at_139) rfl rfl kont) ?_
          show GoW _ _ _ _ _ _ _ (T137.setTop (mkF m 141 #[.val (.long ea), .second, .val (.long sm), .second, .val (.long la), .second, .val (.long rt), .second, .val (.int fl), .val (.long tt), .second, .val (.int (0 : Int32)), .val (.int (1 : Int32)), .val (.int al), .val (.int (1 : Int32)), .val .null, .val (.ref y129), .val (.ref b131), .unset, .unset, .unset, .unset, .unset] [(.ref b131), (.int al), (.ref y129), .null, (.long la), (.long ea), (.ref b137), (.ref b137)]))
          obtain ⟨_, _, ⟨T139, L139, k139, n139⟩, -, X139, ⟨Lc139, hQ139, l139, y139, z139⟩, st139⟩ := X137.specialBack hx (y := (⟨"com/example/runpulse/runpulse/RunState", "<init>", "(JJLcom/example/runpulse/runpulse/RunState$Event;Ljava/lang/Long;ZLcom/example/runpulse/runpulse/RunState$Event;)V"⟩ : MethodName)) rfl hown (mvT hZ (hw _ (List.mem_of_getElem? (i := 50) rfl))) (mvT hZ (hw _ (List.mem_of_getElem? (i := 51) rfl))) (mvT hZ (hw _ (List.mem_of_getElem? (i := 52) rfl))) (by decide) (backOf (W := 1) (rmS10 l Z a0 hw [] b137 ea la y129 al b131 h137 n0 Z138 A137 F137_earliest F137_latest F137_starting F137_running F137_alive F137_terminal ge_b137 hal) hZ (hw _ (List.mem_of_getElem? (i := 52) rfl)) (hw _ (List.mem_of_getElem? (i := 49) rfl)) (by decide) (by decide)) (g := (mkF m 141 #[.val (.long ea), .second, .val (.long sm), .second, .val (.long la), .second, .val (.long rt), .second, .val (.int fl), .val (.long tt), .second, .val (.int (0 : Int32)), .val (.int (1 : Int32)), .val (.int al), .val (.int (1 : Int32)), .val .null, .val (.ref y129), .val (.ref b131), .unset, .unset, .unset, .unset, .unset] [(.ref b131), (.int al), (.ref y129), .null, (.long la), (.long ea), (.ref b137), (.ref b137)])) rfl (by rw [hml]; rfl) (Steps.refl _) (a := b137) (argsL := [(.long ea), (.long la), .null, (.ref y129), (.int al), (.ref b131)]) (rest := [(.ref b137)]) (lenOf pd0_0 rfl) rfl (by show 2 * 0 + _ ≤ _; exact Nat.le_of_eq rfl) (hb hby at_141) (fun _ _ => ⟨rfl, e137, (by decide : 7 + 0 ≤ _), (by decide : 62 + 0 ≤ _)⟩)
          dsimp only [Pt.U, Pt.locs, Pt.cells, Pt.slots] at X139 l139 y139 z139 st139 hQ139
          subst l139 y139 z139
          obtain ⟨rfl, N139q, K139, g139_0, g139_1, g139_2, g139_3, g139_4, g139_5, g139_6⟩ := hQ139
          have S140_STARTING := own_stakeep S138_STARTING K139 (allS (own_ns A137) all0)
          have S140_NONE := own_stakeep S138_NONE K139 (allS (own_ns A137) all0)
          have S140_COMPLETED := own_stakeep S138_COMPLETED K139 (allS (own_ns A137) all0)
          have S140_FAILED := own_stakeep S138_FAILED K139 (allS (own_ns A137) all0)
          have S140_KILLED := own_stakeep S138_KILLED K139 (allS (own_ns A137) all0)
          have S140_cache := own_stakeep S138_cache K139 (allS (own_ns A137) all0)
          have F140_time_b131 := F138_time_b131.keep K139 (ninS ne_b131_b137 nin0)
          have E140_s_STARTING := E138_s_STARTING.keep K139
          have E140_s_NONE := E138_s_NONE.keep K139
          have E140_s_COMPLETED := E138_s_COMPLETED.keep K139
          have E140_s_FAILED := E138_s_FAILED.keep K139
          have E140_s_KILLED := E138_s_KILLED.keep K139
          have E140_b131 := E138_b131.keep K139
          have E140_b137 := A137.keep K139
          have V140_s_cache := V138_s_cache.keep K139 (ninS ne_s_cache_b137 nin0)
          have Z140 := Nat.le_trans Z138 K139.1
          have hk140 := Nat.le_trans hk138 K139.1
          have K140 : Keep h0 T139.heap [] := Keep.trans K138 K139 (allS (Or.inr sz_b137) all0)
          have N139 := Fr.app N135 N139q
          refine GoW.tr st139 ?_
          show GoW _ _ _ _ _ _ _ (T139.setTop (mkF m 144 #[.val (.long ea), .second, .val (.long sm), .second, .val (.long la), .second, .val (.long rt), .second, .val (.int fl), .val (.long tt), .second, .val (.int (0 : Int32)), .val (.int (1 : Int32)), .val (.int al), .val (.int (1 : Int32)), .val .null, .val (.ref y129), .val (.ref b131), .unset, .unset, .unset, .unset, .unset] [(.ref b137)]))
          refine GoW.by (fun _ kont => XS.astore X139.here hx rfl (hb hby at_144) rfl rfl (l' := #[.val (.long ea), .second, .val (.long sm), .second, .val (.long la), .second, .val (.long rt), .second, .val (.int fl), .val (.long tt), .second, .val (.int (0 : Int32)), .val (.int (1 : Int32)), .val (.int al), .val (.int (1 : Int32)), .val .null, .val (.ref y129), .val (.ref b131), .val (.ref b137), .unset, .unset, .unset, .unset]) rfl (XS.aload X139.here hx rfl (hb hby at_146) rfl rfl kont)) ?_
          show GoW _ _ _ _ _ _ _ (T139.setTop (mkF m 148 #[.val (.long ea), .second, .val (.long sm), .second, .val (.long la), .second, .val (.long rt), .second, .val (.int fl), .val (.long tt), .second, .val (.int (0 : Int32)), .val (.int (1 : Int32)), .val (.int al), .val (.int (1 : Int32)), .val .null, .val (.ref y129), .val (.ref b131), .val (.ref b137), .unset, .unset, .unset, .unset] [(.ref b137)]))
          obtain ⟨cq141, kq141, q141a, q141b, q141c⟩ := isOf hZ rfl g139_0
          obtain ⟨_, _, ⟨T141, L141, k141, n141⟩, -, X141, ⟨Lc141, hQ141, l141, y141, z141⟩, st141⟩ := X139.virtualBack hx (y := (⟨"com/example/runpulse/runpulse/RunState", "start", "()J"⟩ : MethodName)) (z := (⟨"com/example/runpulse/runpulse/RunState", "start", "()J"⟩ : MethodName)) hown (mvT hZ (hw _ (List.mem_of_getElem? (i := 66) rfl))) (mvT hZ (hw _ (List.mem_of_getElem? (i := 67) rfl))) (notFace_of_selects (args := #[]) (mvT hZ (hw _ (List.mem_of_getElem? (i := 69) rfl)))) (mvT hZ (hw _ (List.mem_of_getElem? (i := 69) rfl))) (mvT hZ (hw _ (List.mem_of_getElem? (i := 68) rfl))) (by decide) (backOf (W := 0) (rmA0 l Z a0 hw [] b137 ea T139.heap n0 Z140 g139_0 g139_3 g139_1) hZ (hw _ (List.mem_of_getElem? (i := 70) rfl)) (hw _ (List.mem_of_getElem? (i := 49) rfl)) (by decide) (by decide)) q141a q141c (g := (mkF m 148 #[.val (.long ea), .second, .val (.long sm), .second, .val (.long la), .second, .val (.long rt), .second, .val (.int fl), .val (.long tt), .second, .val (.int (0 : Int32)), .val (.int (1 : Int32)), .val (.int al), .val (.int (1 : Int32)), .val .null, .val (.ref y129), .val (.ref b131), .val (.ref b137), .unset, .unset, .unset, .unset] [(.ref b137)])) rfl (by rw [hml]; rfl) (Steps.refl _) (argsL := []) (rest := []) (lenOf pd0_1 rfl) rfl (by show 2 * 0 + _ ≤ _; exact Nat.le_of_eq rfl) (hb hby at_148) (fun _ _ => ⟨rfl, rfl, (by decide : 7 + 0 ≤ _), (by decide : 62 + 0 ≤ _)⟩)
          dsimp only [Pt.U, Pt.locs, Pt.cells, Pt.slots] at X141 l141 y141 z141 st141 hQ141
          subst l141 y141 z141
          obtain ⟨rfl, N141q, eh141⟩ := hQ141
          have N141 := Fr.app N139 N141q
          refine GoW.tr st141 ?_
          show GoW _ _ _ _ _ _ _ (T141.setTop (mkF m 151 #[.val (.long ea), .second, .val (.long sm), .second, .val (.long la), .second, .val (.long rt), .second, .val (.int fl), .val (.long tt), .second, .val (.int (0 : Int32)), .val (.int (1 : Int32)), .val (.int al), .val (.int (1 : Int32)), .val .null, .val (.ref y129), .val (.ref b131), .val (.ref b137), .unset, .unset, .unset, .unset] [(.long ea)]))
          refine GoW.by (fun _ kont => XS.lstore X141.here hx rfl (hb hby at_151) rfl (l' := #[.val (.long ea), .second, .val (.long sm), .second, .val (.long la), .second, .val (.long rt), .second, .val (.int fl), .val (.long tt), .second, .val (.int (0 : Int32)), .val (.int (1 : Int32)), .val (.int al), .val (.int (1 : Int32)), .val .null, .val (.ref y129), .val (.ref b131), .val (.ref b137), .val (.long ea), .second, .unset, .unset]) rfl (XS.iload X141.here hx rfl (hb hby at_153) rfl kont)) ?_
          show GoW _ _ _ _ _ _ _ (T141.setTop (mkF m 155 #[.val (.long ea), .second, .val (.long sm), .second, .val (.long la), .second, .val (.long rt), .second, .val (.int fl), .val (.long tt), .second, .val (.int (0 : Int32)), .val (.int (1 : Int32)), .val (.int al), .val (.int (1 : Int32)), .val .null, .val (.ref y129), .val (.ref b131), .val (.ref b137), .val (.long ea), .second, .unset, .unset] [(.int (0 : Int32))]))
          refine GoW.by (fun _ kont => XS.ifYes X141.here hx rfl (pc0 := 155) (pc' := 164) rfl (hb hby at_155) rfl (by decide) (by decide) (by decide) kont) ?_
          show GoW _ _ _ _ _ _ _ (T141.setTop (mkF m 164 #[.val (.long ea), .second, .val (.long sm), .second, .val (.long la), .second, .val (.long rt), .second, .val (.int fl), .val (.long tt), .second, .val (.int (0 : Int32)), .val (.int (1 : Int32)), .val (.int al), .val (.int (1 : Int32)), .val .null, .val (.ref y129), .val (.ref b131), .val (.ref b137), .val (.long ea), .second, .unset, .unset] []))
          refine GoW.by (fun _ kont => XS.lloadN X141.here hx rfl (hb hby at_164) rfl (XS.lstore X141.here hx rfl (hb hby at_165) rfl (l' := #[.val (.long ea), .second, .val (.long sm), .second, .val (.long la), .second, .val (.long rt), .second, .val (.int fl), .val (.long tt), .second, .val (.int (0 : Int32)), .val (.int (1 : Int32)), .val (.int al), .val (.int (1 : Int32)), .val .null, .val (.ref y129), .val (.ref b131), .val (.ref b137), .val (.long ea), .second, .val (.long ea), .second]) rfl (XS.lload X141.here hx rfl (hb hby at_167) rfl (XS.lload X141.here hx rfl (hb hby at_169) rfl (XS.lcmp X141.here hx rfl (hb hby at_171) rfl kont))))) ?_
          show GoW _ _ _ _ _ _ _ (T141.setTop (mkF m 172 #[.val (.long ea), .second, .val (.long sm), .second, .val (.long la), .second, .val (.long rt), .second, .val (.int fl), .val (.long tt), .second, .val (.int (0 : Int32)), .val (.int (1 : Int32)), .val (.int al), .val (.int (1 : Int32)), .val .null, .val (.ref y129), .val (.ref b131), .val (.ref b137), .val (.long ea), .second, .val (.long ea), .second] [(.int (lcmpW ea ea))]))
          refine GoW.by (fun _ kont => XS.ifNo X141.here hx rfl (hb hby at_172) rfl ((if0 _ _).trans (teq ((lw_eq _ _).mpr rfl)).2) kont) ?_
          show GoW _ _ _ _ _ _ _ (T141.setTop (mkF m 175 #[.val (.long ea), .second, .val (.long sm), .second, .val (.long la), .second, .val (.long rt), .second, .val (.int fl), .val (.long tt), .second, .val (.int (0 : Int32)), .val (.int (1 : Int32)), .val (.int al), .val (.int (1 : Int32)), .val .null, .val (.ref y129), .val (.ref b131), .val (.ref b137), .val (.long ea), .second, .val (.long ea), .second] []))
          refine GoW.by (fun _ kont => XS.iconst X141.here hx rfl (hb hby at_175) (XS.goto X141.here hx rfl (pc0 := 176) (pc' := 180) rfl (hb hby at_176) (by decide) (by decide) kont)) ?_
          show GoW _ _ _ _ _ _ _ (T141.setTop (mkF m 180 #[.val (.long ea), .second, .val (.long sm), .second, .val (.long la), .second, .val (.long rt), .second, .val (.int fl), .val (.long tt), .second, .val (.int (0 : Int32)), .val (.int (1 : Int32)), .val (.int al), .val (.int (1 : Int32)), .val .null, .val (.ref y129), .val (.ref b131), .val (.ref b137), .val (.long ea), .second, .val (.long ea), .second] [(.int (1 : Int32))]))
          refine GoW.retN X141 hS (by rw [eh141]; exact hk140) hx (t := .boolean) hret (by simp) hlk (hb hby at_180) ?_ (by decide) (by decide)
          show Q0 Z h0 n0 (some (.int (1 : Int32))) T141.heap _
          rw [eh141]
          exact ⟨rfl, N141⟩
      show GoW _ _ _ _ _ _ _ (s₁.setTop (mkF m 28 #[.val (.long ea), .second, .val (.long sm), .second, .val (.long la), .second, .val (.long rt), .second, .val (.int fl), .val (.long tt), .second, .val (.int (0 : Int32)), .val (.int (1 : Int32)), .unset, .unset, .unset, .unset, .unset, .unset, .unset, .unset, .unset, .unset] []))
      refine GoW.by (fun _ kont => XS.iload X0.here hx rfl (hb hby at_28) rfl (XS.iconst X0.here hx rfl (hb hby at_30) (XS.iand X0.here hx rfl (hb hby at_31) rfl kont))) ?_
      show GoW _ _ _ _ _ _ _ (s₁.setTop (mkF m 32 #[.val (.long ea), .second, .val (.long sm), .second, .val (.long la), .second, .val (.long rt), .second, .val (.int fl), .val (.long tt), .second, .val (.int (0 : Int32)), .val (.int (1 : Int32)), .unset, .unset, .unset, .unset, .unset, .unset, .unset, .unset, .unset, .unset] [(.int (fl &&& (4 : Int32)))]))
      by_cases hc142 : (fl &&& (4 : Int32)) = (0 : Int32)
      · refine GoW.by (fun _ kont => XS.ifYes X0.here hx rfl (pc0 := 32) (pc' := 39) rfl (hb hby at_32) rfl ((if0 _ _).trans (teq hc142).1) (by decide) (by decide) kont) ?_
        show GoW _ _ _ _ _ _ _ (s₁.setTop (mkF m 39 #[.val (.long ea), .second, .val (.long sm), .second, .val (.long la), .second, .val (.long rt), .second, .val (.int fl), .val (.long tt), .second, .val (.int (0 : Int32)), .val (.int (1 : Int32)), .unset, .unset, .unset, .unset, .unset, .unset, .unset, .unset, .unset, .unset] []))
        refine GoW.by (fun _ kont => XS.iconst X0.here hx rfl (hb hby at_39) (XS.istore X0.here hx rfl (hb hby at_40) rfl (l' := #[.val (.long ea), .second, .val (.long sm), .second, .val (.long la), .second, .val (.long rt), .second, .val (.int fl), .val (.long tt), .second, .val (.int (0 : Int32)), .val (.int (1 : Int32)), .val (.int (0 : Int32)), .unset, .unset, .unset, .unset, .unset, .unset, .unset, .unset, .unset]) rfl kont)) ?_
        show GoW _ _ _ _ _ _ _ (s₁.setTop (mkF m 42 #[.val (.long ea), .second, .val (.long sm), .second, .val (.long la), .second, .val (.long rt), .second, .val (.int fl), .val (.long tt), .second, .val (.int (0 : Int32)), .val (.int (1 : Int32)), .val (.int (0 : Int32)), .unset, .unset, .unset, .unset, .unset, .unset, .unset, .unset, .unset] []))
        exact cut42 (0 : Int32) (Or.inl rfl)
      · refine GoW.by (fun _ kont => XS.ifNo X0.here hx rfl (hb hby at_32) rfl ((if0 _ _).trans (feq hc142).1) kont) ?_
        show GoW _ _ _ _ _ _ _ (s₁.setTop (mkF m 35 #[.val (.long ea), .second, .val (.long sm), .second, .val (.long la), .second, .val (.long rt), .second, .val (.int fl), .val (.long tt), .second, .val (.int (0 : Int32)), .val (.int (1 : Int32)), .unset, .unset, .unset, .unset, .unset, .unset, .unset, .unset, .unset, .unset] []))
        refine GoW.by (fun _ kont => XS.iconst X0.here hx rfl (hb hby at_35) (XS.goto X0.here hx rfl (pc0 := 36) (pc' := 40) rfl (hb hby at_36) (by decide) (by decide) (XS.istore X0.here hx rfl (hb hby at_40) rfl (l' := #[.val (.long ea), .second, .val (.long sm), .second, .val (.long la), .second, .val (.long rt), .second, .val (.int fl), .val (.long tt), .second, .val (.int (0 : Int32)), .val (.int (1 : Int32)), .val (.int (1 : Int32)), .unset, .unset, .unset, .unset, .unset, .unset, .unset, .unset, .unset]) rfl kont))) ?_
        show GoW _ _ _ _ _ _ _ (s₁.setTop (mkF m 42 #[.val (.long ea), .second, .val (.long sm), .second, .val (.long la), .second, .val (.long rt), .second, .val (.int fl), .val (.long tt), .second, .val (.int (0 : Int32)), .val (.int (1 : Int32)), .val (.int (1 : Int32)), .unset, .unset, .unset, .unset, .unset, .unset, .unset, .unset, .unset] []))
        exact cut42 (1 : Int32) (Or.inr rfl)
  · refine GoW.by (fun _ kont => XS.ifNo X0.here hx rfl (hb hby at_4) rfl ((if0 _ _).trans (feq hc101).1) kont) ?_
    show GoW _ _ _ _ _ _ _ (s₁.setTop (mkF m 7 #[.val (.long ea), .second, .val (.long sm), .second, .val (.long la), .second, .val (.long rt), .second, .val (.int fl), .val (.long tt), .second, .unset, .unset, .unset, .unset, .unset, .unset, .unset, .unset, .unset, .unset, .unset, .unset] []))
    refine GoW.by (fun _ kont => XS.iconst X0.here hx rfl (hb hby at_7) (XS.goto X0.here hx rfl (pc0 := 8) (pc' := 12) rfl (hb hby at_8) (by decide) (by decide) (XS.istore X0.here hx rfl (hb hby at_12) rfl (l' := #[.val (.long ea), .second, .val (.long sm), .second, .val (.long la), .second, .val (.long rt), .second, .val (.int fl), .val (.long tt), .second, .val (.int (1 : Int32)), .unset, .unset, .unset, .unset, .unset, .unset, .unset, .unset, .unset, .unset, .unset]) rfl (XS.iload X0.here hx rfl (hb hby at_14) rfl (XS.iconst X0.here hx rfl (hb hby at_16) (XS.iand X0.here hx rfl (hb hby at_17) rfl kont)))))) ?_
    show GoW _ _ _ _ _ _ _ (s₁.setTop (mkF m 18 #[.val (.long ea), .second, .val (.long sm), .second, .val (.long la), .second, .val (.long rt), .second, .val (.int fl), .val (.long tt), .second, .val (.int (1 : Int32)), .unset, .unset, .unset, .unset, .unset, .unset, .unset, .unset, .unset, .unset, .unset] [(.int (fl &&& (2 : Int32)))]))
    by_cases hc143 : (fl &&& (2 : Int32)) = (0 : Int32)
    · refine GoW.by (fun _ kont => XS.ifYes X0.here hx rfl (pc0 := 18) (pc' := 25) rfl (hb hby at_18) rfl ((if0 _ _).trans (teq hc143).1) (by decide) (by decide) kont) ?_
      show GoW _ _ _ _ _ _ _ (s₁.setTop (mkF m 25 #[.val (.long ea), .second, .val (.long sm), .second, .val (.long la), .second, .val (.long rt), .second, .val (.int fl), .val (.long tt), .second, .val (.int (1 : Int32)), .unset, .unset, .unset, .unset, .unset, .unset, .unset, .unset, .unset, .unset, .unset] []))
      refine GoW.by (fun _ kont => XS.iconst X0.here hx rfl (hb hby at_25) (XS.istore X0.here hx rfl (hb hby at_26) rfl (l' := #[.val (.long ea), .second, .val (.long sm), .second, .val (.long la), .second, .val (.long rt), .second, .val (.int fl), .val (.long tt), .second, .val (.int (1 : Int32)), .val (.int (0 : Int32)), .unset, .unset, .unset, .unset, .unset, .unset, .unset, .unset, .unset, .unset]) rfl kont)) ?_
      show GoW _ _ _ _ _ _ _ (s₁.setTop (mkF m 28 #[.val (.long ea), .second, .val (.long sm), .second, .val (.long la), .second, .val (.long rt), .second, .val (.int fl), .val (.long tt), .second, .val (.int (1 : Int32)), .val (.int (0 : Int32)), .unset, .unset, .unset, .unset, .unset, .unset, .unset, .unset, .unset, .unset] []))
      have cut42 : ∀ (al : Int32), (al = (0 : Int32) ∨ al = (1 : Int32)) → GoW p e below s 24 2176 (Q0 Z h0 n0) (s₁.setTop (mkF m 42 #[.val (.long ea), .second, .val (.long sm), .second, .val (.long la), .second, .val (.long rt), .second, .val (.int fl), .val (.long tt), .second, .val (.int (1 : Int32)), .val (.int (0 : Int32)), .val (.int al), .unset, .unset, .unset, .unset, .unset, .unset, .unset, .unset, .unset] [])) := by
        intro al hal
        show GoW _ _ _ _ _ _ _ (s₁.setTop (mkF m 42 #[.val (.long ea), .second, .val (.long sm), .second, .val (.long la), .second, .val (.long rt), .second, .val (.int fl), .val (.long tt), .second, .val (.int (1 : Int32)), .val (.int (0 : Int32)), .val (.int al), .unset, .unset, .unset, .unset, .unset, .unset, .unset, .unset, .unset] []))
        refine GoW.by (fun _ kont => XS.iload X0.here hx rfl (hb hby at_42) rfl (XS.bipush X0.here hx rfl (hb hby at_44) (XS.iand X0.here hx rfl (hb hby at_46) rfl kont))) ?_
        show GoW _ _ _ _ _ _ _ (s₁.setTop (mkF m 47 #[.val (.long ea), .second, .val (.long sm), .second, .val (.long la), .second, .val (.long rt), .second, .val (.int fl), .val (.long tt), .second, .val (.int (1 : Int32)), .val (.int (0 : Int32)), .val (.int al), .unset, .unset, .unset, .unset, .unset, .unset, .unset, .unset, .unset] [(.int (fl &&& (8 : Int32)))]))
        by_cases hc144 : (fl &&& (8 : Int32)) = (0 : Int32)
        · refine GoW.by (fun _ kont => XS.ifYes X0.here hx rfl (pc0 := 47) (pc' := 54) rfl (hb hby at_47) rfl ((if0 _ _).trans (teq hc144).1) (by decide) (by decide) kont) ?_
          show GoW _ _ _ _ _ _ _ (s₁.setTop (mkF m 54 #[.val (.long ea), .second, .val (.long sm), .second, .val (.long la), .second, .val (.long rt), .second, .val (.int fl), .val (.long tt), .second, .val (.int (1 : Int32)), .val (.int (0 : Int32)), .val (.int al), .unset, .unset, .unset, .unset, .unset, .unset, .unset, .unset, .unset] []))
          refine GoW.by (fun _ kont => XS.iconst X0.here hx rfl (hb hby at_54) (XS.istore X0.here hx rfl (hb hby at_55) rfl (l' := #[.val (.long ea), .second, .val (.long sm), .second, .val (.long la), .second, .val (.long rt), .second, .val (.int fl), .val (.long tt), .second, .val (.int (1 : Int32)), .val (.int (0 : Int32)), .val (.int al), .val (.int (0 : Int32)), .unset, .unset, .unset, .unset, .unset, .unset, .unset, .unset]) rfl (XS.iload X0.here hx rfl (hb hby at_57) rfl kont))) ?_
          show GoW _ _ _ _ _ _ _ (s₁.setTop (mkF m 59 #[.val (.long ea), .second, .val (.long sm), .second, .val (.long la), .second, .val (.long rt), .second, .val (.int fl), .val (.long tt), .second, .val (.int (1 : Int32)), .val (.int (0 : Int32)), .val (.int al), .val (.int (0 : Int32)), .unset, .unset, .unset, .unset, .unset, .unset, .unset, .unset] [(.int (1 : Int32))]))
          refine GoW.by (fun _ kont => XS.ifNo X0.here hx rfl (hb hby at_59) rfl (by decide) kont) ?_
          show GoW _ _ _ _ _ _ _ (s₁.setTop (mkF m 62 #[.val (.long ea), .second, .val (.long sm), .second, .val (.long la), .second, .val (.long rt), .second, .val (.int fl), .val (.long tt), .second, .val (.int (1 : Int32)), .val (.int (0 : Int32)), .val (.int al), .val (.int (0 : Int32)), .unset, .unset, .unset, .unset, .unset, .unset, .unset, .unset] []))
          obtain ⟨T145, h145, X145, e145, X_145, A145, D145, -, st145⟩ := newO X0 hx hZ hown (hw _ (List.mem_of_getElem? (i := 0) rfl)) (hw _ (List.mem_of_getElem? (i := 1) rfl)) (hw _ (List.mem_of_getElem? (i := 2) rfl)) e0 (g := (mkF m 62 #[.val (.long ea), .second, .val (.long sm), .second, .val (.long la), .second, .val (.long rt), .second, .val (.int fl), .val (.long tt), .second, .val (.int (1 : Int32)), .val (.int (0 : Int32)), .val (.int al), .val (.int (0 : Int32)), .unset, .unset, .unset, .unset, .unset, .unset, .unset, .unset] [])) rfl (hb hby at_62) (by decide) (by decide)
          obtain ⟨b145, g145⟩ : ∃ z, z = h0.size := ⟨_, rfl⟩
          rw [← g145] at A145 D145 st145
          have ne_s_STARTING_b145 : s_STARTING ≠ b145 := Nat.ne_of_lt (Nat.lt_of_lt_of_le E_s_STARTING.lt (Nat.le_of_eq g145.symm))
          have ne_s_NONE_b145 : s_NONE ≠ b145 := Nat.ne_of_lt (Nat.lt_of_lt_of_le E_s_NONE.lt (Nat.le_of_eq g145.symm))
          have ne_s_COMPLETED_b145 : s_COMPLETED ≠ b145 := Nat.ne_of_lt (Nat.lt_of_lt_of_le E_s_COMPLETED.lt (Nat.le_of_eq g145.symm))
          have ne_s_FAILED_b145 : s_FAILED ≠ b145 := Nat.ne_of_lt (Nat.lt_of_lt_of_le E_s_FAILED.lt (Nat.le_of_eq g145.symm))
          have ne_s_KILLED_b145 : s_KILLED ≠ b145 := Nat.ne_of_lt (Nat.lt_of_lt_of_le E_s_KILLED.lt (Nat.le_of_eq g145.symm))
          have ne_s_cache_b145 : s_cache ≠ b145 := Nat.ne_of_lt (Nat.lt_of_lt_of_le Vl.lt (Nat.le_of_eq g145.symm))
          have ge_b145 : n0 ≤ b145 := Nat.le_trans Z0 (Nat.le_of_eq g145.symm)
          have sz_b145 : h0.size ≤ b145 := Nat.le_trans (Keep.refl h0 []).1 (Nat.le_of_eq g145.symm)
          have E146_s_STARTING := E_s_STARTING.ext X_145
          have E146_s_NONE := E_s_NONE.ext X_145
          have E146_s_COMPLETED := E_s_COMPLETED.ext X_145
          have E146_s_FAILED := E_s_FAILED.ext X_145
          have E146_s_KILLED := E_s_KILLED.ext X_145
          have V146_s_cache := Vl.ext X_145
          have S146_STARTING := S_STARTING.ext X_145
          have S146_NONE := S_NONE.ext X_145
          have S146_COMPLETED := S_COMPLETED.ext X_145
          have S146_FAILED := S_FAILED.ext X_145
          have S146_KILLED := S_KILLED.ext X_145
          have S146_cache := Sl.ext X_145
          have Z146 := Nat.le_trans Z0 X_145.1
          have hk146 := Nat.le_trans hk0 X_145.1
          have K146 : Keep h0 h145 [] := (Keep.refl h0 []).ext X_145
          have F145_kind : Fld Z h145 b145 "com/example/runpulse/runpulse/RunState$Event" "kind" "Lcom/example/runpulse/runpulse/LifecycleEvent$Kind;" .null := D145 (Or.inr (hw _ (List.mem_of_getElem? (i := 34) rfl))) (ty := (.object "com/example/runpulse/runpulse/LifecycleEvent$Kind")) (by decide)
          have F145_time : Fld Z h145 b145 "com/example/runpulse/runpulse/RunState$Event" "time" "J" (.long (0 : Int64)) := D145 (Or.inr (hw _ (List.mem_of_getElem? (i := 36) rfl))) (ty := .long) (by decide)
          have F145_details : Fld Z h145 b145 "com/example/runpulse/runpulse/RunState$Event" "details" "Lcom/example/runpulse/runpulse/EventDetails;" .null := D145 (Or.inr (hw _ (List.mem_of_getElem? (i := 38) rfl))) (ty := (.object "com/example/runpulse/runpulse/EventDetails")) (by decide)
          refine GoW.by st145 ?_
          show GoW _ _ _ _ _ _ _ (T145.setTop (mkF m 65 #[.val (.long ea), .second, .val (.long sm), .second, .val (.long la), .second, .val (.long rt), .second, .val (.int fl), .val (.long tt), .second, .val (.int (1 : Int32)), .val (.int (0 : Int32)), .val (.int al), .val (.int (0 : Int32)), .unset, .unset, .unset, .unset, .unset, .unset, .unset, .unset] [(.ref b145)]))
          refine GoW.by (fun _ kont => XS.dup X145.here hx rfl (hb hby at_65) rfl rfl kont) ?_
          show GoW _ _ _ _ _ _ _ (T145.setTop (mkF m 66 #[.val (.long ea), .second, .val (.long sm), .second, .val (.long la), .second, .val (.long rt), .second, .val (.int fl), .val (.long tt), .second, .val (.int (1 : Int32)), .val (.int (0 : Int32)), .val (.int al), .val (.int (0 : Int32)), .unset, .unset, .unset, .unset, .unset, .unset, .unset, .unset] [(.ref b145), (.ref b145)]))
          obtain ⟨T147, X147, e147, st147⟩ := getS2 X145 hx hZ hown (host := "") (Or.inl (hw _ (List.mem_of_getElem? (i := 3) rfl))) Via.refl e145 S146_STARTING (g := (mkF m 66 #[.val (.long ea), .second, .val (.long sm), .second, .val (.long la), .second, .val (.long rt), .second, .val (.int fl), .val (.long tt), .second, .val (.int (1 : Int32)), .val (.int (0 : Int32)), .val (.int al), .val (.int (0 : Int32)), .unset, .unset, .unset, .unset, .unset, .unset, .unset, .unset] [(.ref b145), (.ref b145)])) rfl (hb hby at_66)
          refine GoW.by st147 ?_
          show GoW _ _ _ _ _ _ _ (T147.setTop (mkF m 69 #[.val (.long ea), .second, .val (.long sm), .second, .val (.long la), .second, .val (.long rt), .second, .val (.int fl), .val (.long tt), .second, .val (.int (1 : Int32)), .val (.int (0 : Int32)), .val (.int al), .val (.int (0 : Int32)), .unset, .unset, .unset, .unset, .unset, .unset, .unset, .unset] [(.ref s_STARTING), (.ref b145), (.ref b145)]))
          refine GoW.by (fun _ kont => XS.lloadN X147.here hx rfl (hb hby at_69) rfl kont) ?_
          show GoW _ _ _ _ _ _ _ (T147.setTop (mkF m 70 #[.val (.long ea), .second, .val (.long sm), .second, .val (.long la), .second, .val (.long rt), .second, .val (.int fl), .val (.long tt), .second, .val (.int (1 : Int32)), .val (.int (0 : Int32)), .val (.int al), .val (.int (0 : Int32)), .unset, .unset, .unset, .unset, .unset, .unset, .unset, .unset] [(.long sm), (.ref s_STARTING), (.ref b145), (.ref b145)]))
          obtain ⟨T148, X148, e148, st148⟩ := getS2 X147 hx hZ hown (host := "") (Or.inl (hw _ (List.mem_of_getElem? (i := 6) rfl))) Via.refl e147 S146_NONE (g := (mkF m 70 #[.val (.long ea), .second, .val (.long sm), .second, .val (.long la), .second, .val (.long rt), .second, .val (.int fl), .val (.long tt), .second, .val (.int (1 : Int32)), .val (.int (0 : Int32)), .val (.int al), .val (.int (0 : Int32)), .unset, .unset, .unset, .unset, .unset, .unset, .unset, .unset] [(.long sm), (.ref s_STARTING), (.ref b145), (.ref b145)])) rfl (hb hby at_70)
          refine GoW.by st148 ?_
          show GoW _ _ _ _ _ _ _ (T148.setTop (mkF m 73 #[.val (.long ea), .second, .val (.long sm), .second, .val (.long la), .second, .val (.long rt), .second, .val (.int fl), .val (.long tt), .second, .val (.int (1 : Int32)), .val (.int (0 : Int32)), .val (.int al), .val (.int (0 : Int32)), .unset, .unset, .unset, .unset, .unset, .unset, .unset, .unset] [(.ref s_NONE), (.long sm), (.ref s_STARTING), (.ref b145), (.ref b145)]))
          obtain ⟨_, _, ⟨T149, L149, k149, n149⟩, -, X149, hS149, hg149, ⟨Lc149, hQ149, l149, y149, z149⟩, st149⟩ := X148.specialBackS hx (y := (⟨"com/example/runpulse/runpulse/RunState$Event", "<init>", "(Lcom/example/runpulse/runpulse/LifecycleEvent$Kind;JLcom/example/runpulse/runpulse/EventDetails;)V"⟩ : MethodName)) rfl hown (mvT hZ (hw _ (List.mem_of_getElem? (i := 9) rfl))) (mvT hZ (hw _ (List.mem_of_getElem? (i := 10) rfl))) (mvT hZ (hw _ (List.mem_of_getElem? (i := 11) rfl))) (by decide) (backOfS (W := 1) (rmE l Z a0 hw [] b145 s_STARTING sm s_NONE h145 n0 Z146 A145 F145_kind F145_time F145_details ge_b145) hZ (hw _ (List.mem_of_getElem? (i := 11) rfl)) (hw _ (List.mem_of_getElem? (i := 2) rfl)) (by decide) (by decide)) (g := (mkF m 73 #[.val (.long ea), .second, .val (.long sm), .second, .val (.long la), .second, .val (.long rt), .second, .val (.int fl), .val (.long tt), .second, .val (.int (1 : Int32)), .val (.int (0 : Int32)), .val (.int al), .val (.int (0 : Int32)), .unset, .unset, .unset, .unset, .unset, .unset, .unset, .unset] [(.ref s_NONE), (.long sm), (.ref s_STARTING), (.ref b145), (.ref b145)])) rfl (by rw [hml]; rfl) (Steps.refl _) (a := b145) (argsL := [(.ref s_STARTING), (.long sm), (.ref s_NONE)]) (rest := [(.ref b145)]) (lenOf pd0_3 rfl) rfl (by show 2 * 0 + _ ≤ _; exact Nat.le_of_eq rfl) (hb hby at_73) (fun _ _ => ⟨rfl, e148, (by decide : 1 + 4 ≤ _), (by decide : 3 + 52 ≤ _)⟩)
          dsimp only [Pt.U, Pt.locs, Pt.cells, Pt.slots] at X149 hS149 hg149 l149 y149 z149 st149 hQ149
          subst l149 y149 z149
          obtain ⟨X149, hS, hZ, hown⟩ := rebS hS (show _ ≤ T148.heap.size from by rw [e148]; exact hk146) X149 hS149 hg149 hZ hown
          obtain ⟨rfl, N149q, K149, E149z, F149z⟩ := hQ149
          have S150_STARTING := own_stakeep S146_STARTING K149 (allS (own_ns A145) all0)
          have S150_NONE := own_stakeep S146_NONE K149 (allS (own_ns A145) all0)
          have S150_COMPLETED := own_stakeep S146_COMPLETED K149 (allS (own_ns A145) all0)
          have S150_FAILED := own_stakeep S146_FAILED K149 (allS (own_ns A145) all0)
          have S150_KILLED := own_stakeep S146_KILLED K149 (allS (own_ns A145) all0)
          have S150_cache := own_stakeep S146_cache K149 (allS (own_ns A145) all0)
          have E150_s_STARTING := E146_s_STARTING.keep K149
          have E150_s_NONE := E146_s_NONE.keep K149
          have E150_s_COMPLETED := E146_s_COMPLETED.keep K149
          have E150_s_FAILED := E146_s_FAILED.keep K149
          have E150_s_KILLED := E146_s_KILLED.keep K149
          have E150_b145 := A145.keep K149
          have V150_s_cache := V146_s_cache.keep K149 (ninS ne_s_cache_b145 nin0)
          have Z150 := Nat.le_trans Z146 K149.1
          have K150 : Keep h0 T149.heap [] := Keep.trans K146 K149 (allS (Or.inr sz_b145) all0)
          have N149 := Fr.app N0 N149q
          refine GoW.tr st149 ?_
          show GoW _ _ _ _ _ _ _ (T149.setTop (mkF m 76 #[.val (.long ea), .second, .val (.long sm), .second, .val (.long la), .second, .val (.long rt), .second, .val (.int fl), .val (.long tt), .second, .val (.int (1 : Int32)), .val (.int (0 : Int32)), .val (.int al), .val (.int (0 : Int32)), .unset, .unset, .unset, .unset, .unset, .unset, .unset, .unset] [(.ref b145)]))
          refine GoW.by (fun _ kont => XS.goto X149.here hx rfl (pc0 := 76) (pc' := 80) rfl (hb hby at_76) (by decide) (by decide) (XS.astore X149.here hx rfl (hb hby at_80) rfl rfl (l' := #[.val (.long ea), .second, .val (.long sm), .second, .val (.long la), .second, .val (.long rt), .second, .val (.int fl), .val (.long tt), .second, .val (.int (1 : Int32)), .val (.int (0 : Int32)), .val (.int al), .val (.int (0 : Int32)), .val (.ref b145), .unset, .unset, .unset, .unset, .unset, .unset, .unset]) rfl (XS.iload X149.here hx rfl (hb hby at_82) rfl kont))) ?_
          show GoW _ _ _ _ _ _ _ (T149.setTop (mkF m 84 #[.val (.long ea), .second, .val (.long sm), .second, .val (.long la), .second, .val (.long rt), .second, .val (.int fl), .val (.long tt), .second, .val (.int (1 : Int32)), .val (.int (0 : Int32)), .val (.int al), .val (.int (0 : Int32)), .val (.ref b145), .unset, .unset, .unset, .unset, .unset, .unset, .unset] [(.int (0 : Int32))]))
          refine GoW.by (fun _ kont => XS.ifYes X149.here hx rfl (pc0 := 84) (pc' := 95) rfl (hb hby at_84) rfl (by decide) (by decide) (by decide) kont) ?_
          show GoW _ _ _ _ _ _ _ (T149.setTop (mkF m 95 #[.val (.long ea), .second, .val (.long sm), .second, .val (.long la), .second, .val (.long rt), .second, .val (.int fl), .val (.long tt), .second, .val (.int (1 : Int32)), .val (.int (0 : Int32)), .val (.int al), .val (.int (0 : Int32)), .val (.ref b145), .unset, .unset, .unset, .unset, .unset, .unset, .unset] []))
          refine GoW.by (fun _ kont => XS.aconstNull X149.here hx rfl (hb hby at_95) (XS.astore X149.here hx rfl (hb hby at_96) rfl rfl (l' := #[.val (.long ea), .second, .val (.long sm), .second, .val (.long la), .second, .val (.long rt), .second, .val (.int fl), .val (.long tt), .second, .val (.int (1 : Int32)), .val (.int (0 : Int32)), .val (.int al), .val (.int (0 : Int32)), .val (.ref b145), .val .null, .unset, .unset, .unset, .unset, .unset, .unset]) rfl (XS.iload X149.here hx rfl (hb hby at_98) rfl kont))) ?_
          show GoW _ _ _ _ _ _ _ (T149.setTop (mkF m 100 #[.val (.long ea), .second, .val (.long sm), .second, .val (.long la), .second, .val (.long rt), .second, .val (.int fl), .val (.long tt), .second, .val (.int (1 : Int32)), .val (.int (0 : Int32)), .val (.int al), .val (.int (0 : Int32)), .val (.ref b145), .val .null, .unset, .unset, .unset, .unset, .unset, .unset] [(.int (0 : Int32))]))
          refine GoW.by (fun _ kont => XS.ifYes X149.here hx rfl (pc0 := 100) (pc' := 123) rfl (hb hby at_100) rfl (by decide) (by decide) (by decide) kont) ?_
          show GoW _ _ _ _ _ _ _ (T149.setTop (mkF m 123 #[.val (.long ea), .second, .val (.long sm), .second, .val (.long la), .second, .val (.long rt), .second, .val (.int fl), .val (.long tt), .second, .val (.int (1 : Int32)), .val (.int (0 : Int32)), .val (.int al), .val (.int (0 : Int32)), .val (.ref b145), .val .null, .unset, .unset, .unset, .unset, .unset, .unset] []))
          refine GoW.by (fun _ kont => XS.aconstNull X149.here hx rfl (hb hby at_123) (XS.astore X149.here hx rfl (hb hby at_124) rfl rfl (l' := #[.val (.long ea), .second, .val (.long sm), .second, .val (.long la), .second, .val (.long rt), .second, .val (.int fl), .val (.long tt), .second, .val (.int (1 : Int32)), .val (.int (0 : Int32)), .val (.int al), .val (.int (0 : Int32)), .val (.ref b145), .val .null, .val .null, .unset, .unset, .unset, .unset, .unset]) rfl kont)) ?_
          show GoW _ _ _ _ _ _ _ (T149.setTop (mkF m 126 #[.val (.long ea), .second, .val (.long sm), .second, .val (.long la), .second, .val (.long rt), .second, .val (.int fl), .val (.long tt), .second, .val (.int (1 : Int32)), .val (.int (0 : Int32)), .val (.int al), .val (.int (0 : Int32)), .val (.ref b145), .val .null, .val .null, .unset, .unset, .unset, .unset, .unset] []))
          obtain ⟨T151, h151, X151, e151, X_151, A151, D151, -, st151⟩ := newO X149 hx hZ hown (hw _ (List.mem_of_getElem? (i := 47) rfl)) (hw _ (List.mem_of_getElem? (i := 48) rfl)) (hw _ (List.mem_of_getElem? (i := 49) rfl)) rfl (g := (mkF m 126 #[.val (.long ea), .second, .val (.long sm), .second, .val (.long la), .second, .val (.long rt), .second, .val (.int fl), .val (.long tt), .second, .val (.int (1 : Int32)), .val (.int (0 : Int32)), .val (.int al), .val (.int (0 : Int32)), .val (.ref b145), .val .null, .val .null, .unset, .unset, .unset, .unset, .unset] [])) rfl (hb hby at_126) (by decide) (by decide)
          obtain ⟨b151, g151⟩ : ∃ z, z = T149.heap.size := ⟨_, rfl⟩
          rw [← g151] at A151 D151 st151
          have ne_b145_b151 : b145 ≠ b151 := Nat.ne_of_lt (Nat.lt_of_lt_of_le F149z.lt (Nat.le_of_eq g151.symm))
          have ne_s_STARTING_b151 : s_STARTING ≠ b151 := Nat.ne_of_lt (Nat.lt_of_lt_of_le E150_s_STARTING.lt (Nat.le_of_eq g151.symm))
          have ne_s_NONE_b151 : s_NONE ≠ b151 := Nat.ne_of_lt (Nat.lt_of_lt_of_le E150_s_NONE.lt (Nat.le_of_eq g151.symm))
          have ne_s_COMPLETED_b151 : s_COMPLETED ≠ b151 := Nat.ne_of_lt (Nat.lt_of_lt_of_le E150_s_COMPLETED.lt (Nat.le_of_eq g151.symm))
          have ne_s_FAILED_b151 : s_FAILED ≠ b151 := Nat.ne_of_lt (Nat.lt_of_lt_of_le E150_s_FAILED.lt (Nat.le_of_eq g151.symm))
          have ne_s_KILLED_b151 : s_KILLED ≠ b151 := Nat.ne_of_lt (Nat.lt_of_lt_of_le E150_s_KILLED.lt (Nat.le_of_eq g151.symm))
          have ne_s_cache_b151 : s_cache ≠ b151 := Nat.ne_of_lt (Nat.lt_of_lt_of_le V150_s_cache.lt (Nat.le_of_eq g151.symm))
          have ge_b151 : n0 ≤ b151 := Nat.le_trans Z150 (Nat.le_of_eq g151.symm)
          have sz_b151 : h0.size ≤ b151 := Nat.le_trans K150.1 (Nat.le_of_eq g151.symm)
          have F152_time_b145 := F149z.ext X_151
          have E152_s_STARTING := E150_s_STARTING.ext X_151
          have E152_s_NONE := E150_s_NONE.ext X_151
          have E152_s_COMPLETED := E150_s_COMPLETED.ext X_151
          have E152_s_FAILED := E150_s_FAILED.ext X_151
          have E152_s_KILLED := E150_s_KILLED.ext X_151
          have E152_b145 := E149z.ext X_151
          have V152_s_cache := V150_s_cache.ext X_151
          have S152_STARTING := S150_STARTING.ext X_151
          have S152_NONE := S150_NONE.ext X_151
          have S152_COMPLETED := S150_COMPLETED.ext X_151
          have S152_FAILED := S150_FAILED.ext X_151
          have S152_KILLED := S150_KILLED.ext X_151
          have S152_cache := S150_cache.ext X_151
          have Z152 := Nat.le_trans Z150 X_151.1
          have hk152 := Nat.le_trans (Nat.le_refl _) X_151.1
          have K152 : Keep h0 h151 [] := K150.ext X_151
          have F151_earliest : Fld Z h151 b151 "com/example/runpulse/runpulse/RunState" "earliest" "J" (.long (0 : Int64)) := D151 (Or.inr (hw _ (List.mem_of_getElem? (i := 55) rfl))) (ty := .long) (by decide)
          have F151_latest : Fld Z h151 b151 "com/example/runpulse/runpulse/RunState" "latest" "J" (.long (0 : Int64)) := D151 (Or.inr (hw _ (List.mem_of_getElem? (i := 57) rfl))) (ty := .long) (by decide)
          have F151_starting : Fld Z h151 b151 "com/example/runpulse/runpulse/RunState" "starting" "Lcom/example/runpulse/runpulse/RunState$Event;" .null := D151 (Or.inr (hw _ (List.mem_of_getElem? (i := 59) rfl))) (ty := (.object "com/example/runpulse/runpulse/RunState$Event")) (by decide)
          have F151_running : Fld Z h151 b151 "com/example/runpulse/runpulse/RunState" "running" "Ljava/lang/Long;" .null := D151 (Or.inr (hw _ (List.mem_of_getElem? (i := 61) rfl))) (ty := (.object "java/lang/Long")) (by decide)
          have F151_alive : Fld Z h151 b151 "com/example/runpulse/runpulse/RunState" "alive" "Z" (.int (0 : Int32)) := D151 (Or.inr (hw _ (List.mem_of_getElem? (i := 63) rfl))) (ty := .boolean) (by decide)
          have F151_terminal : Fld Z h151 b151 "com/example/runpulse/runpulse/RunState" "terminal" "Lcom/example/runpulse/runpulse/RunState$Event;" .null := D151 (Or.inr (hw _ (List.mem_of_getElem? (i := 65) rfl))) (ty := (.object "com/example/runpulse/runpulse/RunState$Event")) (by decide)
          refine GoW.by st151 ?_
          show GoW _ _ _ _ _ _ _ (T151.setTop (mkF m 129 #[.val (.long ea), .second, .val (.long sm), .second, .val (.long la), .second, .val (.long rt), .second, .val (.int fl), .val (.long tt), .second, .val (.int (1 : Int32)), .val (.int (0 : Int32)), .val (.int al), .val (.int (0 : Int32)), .val (.ref b145), .val .null, .val .null, .unset, .unset, .unset, .unset, .unset] [(.ref b151)]))
          refine GoW.by (fun _ kont => XS.dup X151.here hx rfl (hb hby at_129) rfl rfl (XS.lloadN X151.here hx rfl (hb hby at_130) rfl (XS.lload X151.here hx rfl (hb hby at_131) rfl (XS.aload X151.here hx rfl (hb hby at_133) rfl rfl (XS.aload X151.here hx rfl (hb hby at_135) rfl rfl (XS.iload X151.here hx rfl (hb hby at_137) rfl kont)))))) ?_
          show GoW _ _ _ _ _ _ _ (T151.setTop (mkF m 139 #[.val (.long ea), .second, .val (.long sm), .second, .val (.long la), .second, .val (.long rt), .second, .val (.int fl), .val (.long tt), .second, .val (.int (1 : Int32)), .val (.int (0 : Int32)), .val (.int al), .val (.int (0 : Int32)), .val (.ref b145), .val .null, .val .null, .unset, .unset, .unset, .unset, .unset] [(.int al), .null, (.ref b145), (.long la), (.long ea), (.ref b151), (.ref b151)]))
          refine GoW.by (fun _ kont => XS.aload X151.here hx rfl (hb hby at_139) rfl rfl kont) ?_
          show GoW _ _ _ _ _ _ _ (T151.setTop (mkF m 141 #[.val (.long ea), .second, .val (.long sm), .second, .val (.long la), .second, .val (.long rt), .second, .val (.int fl), .val (.long tt), .second, .val (.int (1 : Int32)), .val (.int (0 : Int32)), .val (.int al), .val (.int (0 : Int32)), .val (.ref b145), .val .null, .val .null, .unset, .unset, .unset, .unset, .unset] [.null, (.int al), .null, (.ref b145), (.long la), (.long ea), (.ref b151), (.ref b151)]))
          obtain ⟨_, _, ⟨T153, L153, k153, n153⟩, -, X153, ⟨Lc153, hQ153, l153, y153, z153⟩, st153⟩ := X151.specialBack hx (y := (⟨"com/example/runpulse/runpulse/RunState", "<init>", "(JJLcom/example/runpulse/runpulse/RunState$Event;Ljava/lang/Long;ZLcom/example/runpulse/runpulse/RunState$Event;)V"⟩ : MethodName)) rfl hown (mvT hZ (hw _ (List.mem_of_getElem? (i := 50) rfl))) (mvT hZ (hw _ (List.mem_of_getElem? (i := 51) rfl))) (mvT hZ (hw _ (List.mem_of_getElem? (i := 52) rfl))) (by decide) (backOf (W := 1) (rmS1 l Z a0 hw [] b151 ea la b145 al h151 n0 Z152 A151 F151_earliest F151_latest F151_starting F151_running F151_alive F151_terminal ge_b151 hal) hZ (hw _ (List.mem_of_getElem? (i := 52) rfl)) (hw _ (List.mem_of_getElem? (i := 49) rfl)) (by decide) (by decide)) (g := (mkF m 141 #[.val (.long ea), .second, .val (.long sm), .second, .val (.long la), .second, .val (.long rt), .second, .val (.int fl), .val (.long tt), .second, .val (.int (1 : Int32)), .val (.int (0 : Int32)), .val (.int al), .val (.int (0 : Int32)), .val (.ref b145), .val .null, .val .null, .unset, .unset, .unset, .unset, .unset] [.null, (.int al), .null, (.ref b145), (.long la), (.long ea), (.ref b151), (.ref b151)])) rfl (by rw [hml]; rfl) (Steps.refl _) (a := b151) (argsL := [(.long ea), (.long la), (.ref b145), .null, (.int al), .null]) (rest := [(.ref b151)]) (lenOf pd0_0 rfl) rfl (by show 2 * 0 + _ ≤ _; exact Nat.le_of_eq rfl) (hb hby at_141) (fun _ _ => ⟨rfl, e151, (by decide : 6 + 0 ≤ _), (by decide : 61 + 0 ≤ _)⟩)
          dsimp only [Pt.U, Pt.locs, Pt.cells, Pt.slots] at X153 l153 y153 z153 st153 hQ153
          subst l153 y153 z153
          obtain ⟨rfl, N153q, K153, g153_0, g153_1, g153_2, g153_3, g153_4, g153_5, g153_6⟩ := hQ153
          have S154_STARTING := own_stakeep S152_STARTING K153 (allS (own_ns A151) all0)
          have S154_NONE := own_stakeep S152_NONE K153 (allS (own_ns A151) all0)
          have S154_COMPLETED := own_stakeep S152_COMPLETED K153 (allS (own_ns A151) all0)
          have S154_FAILED := own_stakeep S152_FAILED K153 (allS (own_ns A151) all0)
          have S154_KILLED := own_stakeep S152_KILLED K153 (allS (own_ns A151) all0)
          have S154_cache := own_stakeep S152_cache K153 (allS (own_ns A151) all0)
          have F154_time_b145 := F152_time_b145.keep K153 (ninS ne_b145_b151 nin0)
          have E154_s_STARTING := E152_s_STARTING.keep K153
          have E154_s_NONE := E152_s_NONE.keep K153
          have E154_s_COMPLETED := E152_s_COMPLETED.keep K153
          have E154_s_FAILED := E152_s_FAILED.keep K153
          have E154_s_KILLED := E152_s_KILLED.keep K153
          have E154_b145 := E152_b145.keep K153
          have E154_b151 := A151.keep K153
          have V154_s_cache := V152_s_cache.keep K153 (ninS ne_s_cache_b151 nin0)
          have Z154 := Nat.le_trans Z152 K153.1
          have hk154 := Nat.le_trans hk152 K153.1
          have K154 : Keep h0 T153.heap [] := Keep.trans K152 K153 (allS (Or.inr sz_b151) all0)
          have N153 := Fr.app N149 N153q
          refine GoW.tr st153 ?_
          show GoW _ _ _ _ _ _ _ (T153.setTop (mkF m 144 #[.val (.long ea), .second, .val (.long sm), .second, .val (.long la), .second, .val (.long rt), .second, .val (.int fl), .val (.long tt), .second, .val (.int (1 : Int32)), .val (.int (0 : Int32)), .val (.int al), .val (.int (0 : Int32)), .val (.ref b145), .val .null, .val .null, .unset, .unset, .unset, .unset, .unset] [(.ref b151)]))
          refine GoW.by (fun _ kont => XS.astore X153.here hx rfl (hb hby at_144) rfl rfl (l' := #[.val (.long ea), .second, .val (.long sm), .second, .val (.long la), .second, .val (.long rt), .second, .val (.int fl), .val (.long tt), .second, .val (.int (1 : Int32)), .val (.int (0 : Int32)), .val (.int al), .val (.int (0 : Int32)), .val (.ref b145), .val .null, .val .null, .val (.ref b151), .unset, .unset, .unset, .unset]) rfl (XS.aload X153.here hx rfl (hb hby at_146) rfl rfl kont)) ?_
          show GoW _ _ _ _ _ _ _ (T153.setTop (mkF m 148 #[.val (.long ea), .second, .val (.long sm), .second, .val (.long la), .second, .val (.long rt), .second, .val (.int fl), .val (.long tt), .second, .val (.int (1 : Int32)), .val (.int (0 : Int32)), .val (.int al), .val (.int (0 : Int32)), .val (.ref b145), .val .null, .val .null, .val (.ref b151), .unset, .unset, .unset, .unset] [(.ref b151)]))
          obtain ⟨cq155, kq155, q155a, q155b, q155c⟩ := isOf hZ rfl g153_0
          obtain ⟨_, _, ⟨T155, L155, k155, n155⟩, -, X155, ⟨Lc155, hQ155, l155, y155, z155⟩, st155⟩ := X153.virtualBack hx (y := (⟨"com/example/runpulse/runpulse/RunState", "start", "()J"⟩ : MethodName)) (z := (⟨"com/example/runpulse/runpulse/RunState", "start", "()J"⟩ : MethodName)) hown (mvT hZ (hw _ (List.mem_of_getElem? (i := 66) rfl))) (mvT hZ (hw _ (List.mem_of_getElem? (i := 67) rfl))) (notFace_of_selects (args := #[]) (mvT hZ (hw _ (List.mem_of_getElem? (i := 69) rfl)))) (mvT hZ (hw _ (List.mem_of_getElem? (i := 69) rfl))) (mvT hZ (hw _ (List.mem_of_getElem? (i := 68) rfl))) (by decide) (backOf (W := 0) (rmA1 l Z a0 hw [] b151 b145 ea sm T153.heap n0 Z154 g153_0 g153_3 g153_1 E154_b145 F154_time_b145) hZ (hw _ (List.mem_of_getElem? (i := 70) rfl)) (hw _ (List.mem_of_getElem? (i := 49) rfl)) (by decide) (by decide)) q155a q155c (g := (mkF m 148 #[.val (.long ea), .second, .val (.long sm), .second, .val (.long la), .second, .val (.long rt), .second, .val (.int fl), .val (.long tt), .second, .val (.int (1 : Int32)), .val (.int (0 : Int32)), .val (.int al), .val (.int (0 : Int32)), .val (.ref b145), .val .null, .val .null, .val (.ref b151), .unset, .unset, .unset, .unset] [(.ref b151)])) rfl (by rw [hml]; rfl) (Steps.refl _) (argsL := []) (rest := []) (lenOf pd0_1 rfl) rfl (by show 2 * 0 + _ ≤ _; exact Nat.le_of_eq rfl) (hb hby at_148) (fun _ _ => ⟨rfl, rfl, (by decide : 6 + 0 ≤ _), (by decide : 61 + 0 ≤ _)⟩)
          dsimp only [Pt.U, Pt.locs, Pt.cells, Pt.slots] at X155 l155 y155 z155 st155 hQ155
          subst l155 y155 z155
          obtain ⟨rfl, N155q, eh155⟩ := hQ155
          have N155 := Fr.app N153 N155q
          refine GoW.tr st155 ?_
          show GoW _ _ _ _ _ _ _ (T155.setTop (mkF m 151 #[.val (.long ea), .second, .val (.long sm), .second, .val (.long la), .second, .val (.long rt), .second, .val (.int fl), .val (.long tt), .second, .val (.int (1 : Int32)), .val (.int (0 : Int32)), .val (.int al), .val (.int (0 : Int32)), .val (.ref b145), .val .null, .val .null, .val (.ref b151), .unset, .unset, .unset, .unset] [(.long sm)]))
          refine GoW.by (fun _ kont => XS.lstore X155.here hx rfl (hb hby at_151) rfl (l' := #[.val (.long ea), .second, .val (.long sm), .second, .val (.long la), .second, .val (.long rt), .second, .val (.int fl), .val (.long tt), .second, .val (.int (1 : Int32)), .val (.int (0 : Int32)), .val (.int al), .val (.int (0 : Int32)), .val (.ref b145), .val .null, .val .null, .val (.ref b151), .val (.long sm), .second, .unset, .unset]) rfl (XS.iload X155.here hx rfl (hb hby at_153) rfl kont)) ?_
          show GoW _ _ _ _ _ _ _ (T155.setTop (mkF m 155 #[.val (.long ea), .second, .val (.long sm), .second, .val (.long la), .second, .val (.long rt), .second, .val (.int fl), .val (.long tt), .second, .val (.int (1 : Int32)), .val (.int (0 : Int32)), .val (.int al), .val (.int (0 : Int32)), .val (.ref b145), .val .null, .val .null, .val (.ref b151), .val (.long sm), .second, .unset, .unset] [(.int (1 : Int32))]))
          refine GoW.by (fun _ kont => XS.ifNo X155.here hx rfl (hb hby at_155) rfl (by decide) kont) ?_
          show GoW _ _ _ _ _ _ _ (T155.setTop (mkF m 158 #[.val (.long ea), .second, .val (.long sm), .second, .val (.long la), .second, .val (.long rt), .second, .val (.int fl), .val (.long tt), .second, .val (.int (1 : Int32)), .val (.int (0 : Int32)), .val (.int al), .val (.int (0 : Int32)), .val (.ref b145), .val .null, .val .null, .val (.ref b151), .val (.long sm), .second, .unset, .unset] []))
          refine GoW.by (fun _ kont => XS.lloadN X155.here hx rfl (hb hby at_158) rfl (XS.lstore X155.here hx rfl (hb hby at_159) rfl (l' := #[.val (.long ea), .second, .val (.long sm), .second, .val (.long la), .second, .val (.long rt), .second, .val (.int fl), .val (.long tt), .second, .val (.int (1 : Int32)), .val (.int (0 : Int32)), .val (.int al), .val (.int (0 : Int32)), .val (.ref b145), .val .null, .val .null, .val (.ref b151), .val (.long sm), .second, .val (.long sm), .second]) rfl (XS.goto X155.here hx rfl (pc0 := 161) (pc' := 167) rfl (hb hby at_161) (by decide) (by decide) (XS.lload X155.here hx rfl (hb hby at_167) rfl (XS.lload X155.here hx rfl (hb hby at_169) rfl (XS.lcmp X155.here hx rfl (hb hby at_171) rfl kont)))))) ?_
          show GoW _ _ _ _ _ _ _ (T155.setTop (mkF m 172 #[.val (.long ea), .second, .val (.long sm), .second, .val (.long la), .second, .val (.long rt), .second, .val (.int fl), .val (.long tt), .second, .val (.int (1 : Int32)), .val (.int (0 : Int32)), .val (.int al), .val (.int (0 : Int32)), .val (.ref b145), .val .null, .val .null, .val (.ref b151), .val (.long sm), .second, .val (.long sm), .second] [(.int (lcmpW sm sm))]))
          refine GoW.by (fun _ kont => XS.ifNo X155.here hx rfl (hb hby at_172) rfl ((if0 _ _).trans (teq ((lw_eq _ _).mpr rfl)).2) kont) ?_
          show GoW _ _ _ _ _ _ _ (T155.setTop (mkF m 175 #[.val (.long ea), .second, .val (.long sm), .second, .val (.long la), .second, .val (.long rt), .second, .val (.int fl), .val (.long tt), .second, .val (.int (1 : Int32)), .val (.int (0 : Int32)), .val (.int al), .val (.int (0 : Int32)), .val (.ref b145), .val .null, .val .null, .val (.ref b151), .val (.long sm), .second, .val (.long sm), .second] []))
          refine GoW.by (fun _ kont => XS.iconst X155.here hx rfl (hb hby at_175) (XS.goto X155.here hx rfl (pc0 := 176) (pc' := 180) rfl (hb hby at_176) (by decide) (by decide) kont)) ?_
          show GoW _ _ _ _ _ _ _ (T155.setTop (mkF m 180 #[.val (.long ea), .second, .val (.long sm), .second, .val (.long la), .second, .val (.long rt), .second, .val (.int fl), .val (.long tt), .second, .val (.int (1 : Int32)), .val (.int (0 : Int32)), .val (.int al), .val (.int (0 : Int32)), .val (.ref b145), .val .null, .val .null, .val (.ref b151), .val (.long sm), .second, .val (.long sm), .second] [(.int (1 : Int32))]))
          refine GoW.retN X155 hS (by rw [eh155]; exact hk154) hx (t := .boolean) hret (by simp) hlk (hb hby at_180) ?_ (by decide) (by decide)
          show Q0 Z h0 n0 (some (.int (1 : Int32))) T155.heap _
          rw [eh155]
          exact ⟨rfl, N155⟩
        · refine GoW.by (fun _ kont => XS.ifNo X0.here hx rfl (hb hby at_47) rfl ((if0 _ _).trans (feq hc144).1) kont) ?_
          show GoW _ _ _ _ _ _ _ (s₁.setTop (mkF m 50 #[.val (.long ea), .second, .val (.long sm), .second, .val (.long la), .second, .val (.long rt), .second, .val (.int fl), .val (.long tt), .second, .val (.int (1 : Int32)), .val (.int (0 : Int32)), .val (.int al), .unset, .unset, .unset, .unset, .unset, .unset, .unset, .unset, .unset] []))
          refine GoW.by (fun _ kont => XS.iconst X0.here hx rfl (hb hby at_50) (XS.goto X0.here hx rfl (pc0 := 51) (pc' := 55) rfl (hb hby at_51) (by decide) (by decide) (XS.istore X0.here hx rfl (hb hby at_55) rfl (l' := #[.val (.long ea), .second, .val (.long sm), .second, .val (.long la), .second, .val (.long rt), .second, .val (.int fl), .val (.long tt), .second, .val (.int (1 : Int32)), .val (.int (0 : Int32)), .val (.int al), .val (.int (1 : Int32)), .unset, .unset, .unset, .unset, .unset, .unset, .unset, .unset]) rfl (XS.iload X0.here hx rfl (hb hby at_57) rfl kont)))) ?_
          show GoW _ _ _ _ _ _ _ (s₁.setTop (mkF m 59 #[.val (.long ea), .second, .val (.long sm), .second, .val (.long la), .second, .val (.long rt), .second, .val (.int fl), .val (.long tt), .second, .val (.int (1 : Int32)), .val (.int (0 : Int32)), .val (.int al), .val (.int (1 : Int32)), .unset, .unset, .unset, .unset, .unset, .unset, .unset, .unset] [(.int (1 : Int32))]))
          refine GoW.by (fun _ kont => XS.ifNo X0.here hx rfl (hb hby at_59) rfl (by decide) kont) ?_
          show GoW _ _ _ _ _ _ _ (s₁.setTop (mkF m 62 #[.val (.long ea), .second, .val (.long sm), .second, .val (.long la), .second, .val (.long rt), .second, .val (.int fl), .val (.long tt), .second, .val (.int (1 : Int32)), .val (.int (0 : Int32)), .val (.int al), .val (.int (1 : Int32)), .unset, .unset, .unset, .unset, .unset, .unset, .unset, .unset] []))
          obtain ⟨T156, h156, X156, e156, X_156, A156, D156, -, st156⟩ := newO X0 hx hZ hown (hw _ (List.mem_of_getElem? (i := 0) rfl)) (hw _ (List.mem_of_getElem? (i := 1) rfl)) (hw _ (List.mem_of_getElem? (i := 2) rfl)) e0 (g := (mkF m 62 #[.val (.long ea), .second, .val (.long sm), .second, .val (.long la), .second, .val (.long rt), .second, .val (.int fl), .val (.long tt), .second, .val (.int (1 : Int32)), .val (.int (0 : Int32)), .val (.int al), .val (.int (1 : Int32)), .unset, .unset, .unset, .unset, .unset, .unset, .unset, .unset] [])) rfl (hb hby at_62) (by decide) (by decide)
          obtain ⟨b156, g156⟩ : ∃ z, z = h0.size := ⟨_, rfl⟩
          rw [← g156] at A156 D156 st156
          have ne_s_STARTING_b156 : s_STARTING ≠ b156 := Nat.ne_of_lt (Nat.lt_of_lt_of_le E_s_STARTING.lt (Nat.le_of_eq g156.symm))
          have ne_s_NONE_b156 : s_NONE ≠ b156 := Nat.ne_of_lt (Nat.lt_of_lt_of_le E_s_NONE.lt (Nat.le_of_eq g156.symm))
          have ne_s_COMPLETED_b156 : s_COMPLETED ≠ b156 := Nat.ne_of_lt (Nat.lt_of_lt_of_le E_s_COMPLETED.lt (Nat.le_of_eq g156.symm))
          have ne_s_FAILED_b156 : s_FAILED ≠ b156 := Nat.ne_of_lt (Nat.lt_of_lt_of_le E_s_FAILED.lt (Nat.le_of_eq g156.symm))
          have ne_s_KILLED_b156 : s_KILLED ≠ b156 := Nat.ne_of_lt (Nat.lt_of_lt_of_le E_s_KILLED.lt (Nat.le_of_eq g156.symm))
          have ne_s_cache_b156 : s_cache ≠ b156 := Nat.ne_of_lt (Nat.lt_of_lt_of_le Vl.lt (Nat.le_of_eq g156.symm))
          have ge_b156 : n0 ≤ b156 := Nat.le_trans Z0 (Nat.le_of_eq g156.symm)
          have sz_b156 : h0.size ≤ b156 := Nat.le_trans (Keep.refl h0 []).1 (Nat.le_of_eq g156.symm)
          have E157_s_STARTING := E_s_STARTING.ext X_156
          have E157_s_NONE := E_s_NONE.ext X_156
          have E157_s_COMPLETED := E_s_COMPLETED.ext X_156
          have E157_s_FAILED := E_s_FAILED.ext X_156
          have E157_s_KILLED := E_s_KILLED.ext X_156
          have V157_s_cache := Vl.ext X_156
          have S157_STARTING := S_STARTING.ext X_156
          have S157_NONE := S_NONE.ext X_156
          have S157_COMPLETED := S_COMPLETED.ext X_156
          have S157_FAILED := S_FAILED.ext X_156
          have S157_KILLED := S_KILLED.ext X_156
          have S157_cache := Sl.ext X_156
          have Z157 := Nat.le_trans Z0 X_156.1
          have hk157 := Nat.le_trans hk0 X_156.1
          have K157 : Keep h0 h156 [] := (Keep.refl h0 []).ext X_156
          have F156_kind : Fld Z h156 b156 "com/example/runpulse/runpulse/RunState$Event" "kind" "Lcom/example/runpulse/runpulse/LifecycleEvent$Kind;" .null := D156 (Or.inr (hw _ (List.mem_of_getElem? (i := 34) rfl))) (ty := (.object "com/example/runpulse/runpulse/LifecycleEvent$Kind")) (by decide)
          have F156_time : Fld Z h156 b156 "com/example/runpulse/runpulse/RunState$Event" "time" "J" (.long (0 : Int64)) := D156 (Or.inr (hw _ (List.mem_of_getElem? (i := 36) rfl))) (ty := .long) (by decide)
          have F156_details : Fld Z h156 b156 "com/example/runpulse/runpulse/RunState$Event" "details" "Lcom/example/runpulse/runpulse/EventDetails;" .null := D156 (Or.inr (hw _ (List.mem_of_getElem? (i := 38) rfl))) (ty := (.object "com/example/runpulse/runpulse/EventDetails")) (by decide)
          refine GoW.by st156 ?_
          show GoW _ _ _ _ _ _ _ (T156.setTop (mkF m 65 #[.val (.long ea), .second, .val (.long sm), .second, .val (.long la), .second, .val (.long rt), .second, .val (.int fl), .val (.long tt), .second, .val (.int (1 : Int32)), .val (.int (0 : Int32)), .val (.int al), .val (.int (1 : Int32)), .unset, .unset, .unset, .unset, .unset, .unset, .unset, .unset] [(.ref b156)]))
          refine GoW.by (fun _ kont => XS.dup X156.here hx rfl (hb hby at_65) rfl rfl kont) ?_
          show GoW _ _ _ _ _ _ _ (T156.setTop (mkF m 66 #[.val (.long ea), .second, .val (.long sm), .second, .val (.long la), .second, .val (.long rt), .second, .val (.int fl), .val (.long tt), .second, .val (.int (1 : Int32)), .val (.int (0 : Int32)), .val (.int al), .val (.int (1 : Int32)), .unset, .unset, .unset, .unset, .unset, .unset, .unset, .unset] [(.ref b156), (.ref b156)]))
          obtain ⟨T158, X158, e158, st158⟩ := getS2 X156 hx hZ hown (host := "") (Or.inl (hw _ (List.mem_of_getElem? (i := 3) rfl))) Via.refl e156 S157_STARTING (g := (mkF m 66 #[.val (.long ea), .second, .val (.long sm), .second, .val (.long la), .second, .val (.long rt), .second, .val (.int fl), .val (.long tt), .second, .val (.int (1 : Int32)), .val (.int (0 : Int32)), .val (.int al), .val (.int (1 : Int32)), .unset, .unset, .unset, .unset, .unset, .unset, .unset, .unset] [(.ref b156), (.ref b156)])) rfl (hb hby at_66)
          refine GoW.by st158 ?_
          show GoW _ _ _ _ _ _ _ (T158.setTop (mkF m 69 #[.val (.long ea), .second, .val (.long sm), .second, .val (.long la), .second, .val (.long rt), .second, .val (.int fl), .val (.long tt), .second, .val (.int (1 : Int32)), .val (.int (0 : Int32)), .val (.int al), .val (.int (1 : Int32)), .unset, .unset, .unset, .unset, .unset, .unset, .unset, .unset] [(.ref s_STARTING), (.ref b156), (.ref b156)]))
          refine GoW.by (fun _ kont => XS.lloadN X158.here hx rfl (hb hby at_69) rfl kont) ?_
          show GoW _ _ _ _ _ _ _ (T158.setTop (mkF m 70 #[.val (.long ea), .second, .val (.long sm), .second, .val (.long la), .second, .val (.long rt), .second, .val (.int fl), .val (.long tt), .second, .val (.int (1 : Int32)), .val (.int (0 : Int32)), .val (.int al), .val (.int (1 : Int32)), .unset, .unset, .unset, .unset, .unset, .unset, .unset, .unset] [(.long sm), (.ref s_STARTING), (.ref b156), (.ref b156)]))
          obtain ⟨T159, X159, e159, st159⟩ := getS2 X158 hx hZ hown (host := "") (Or.inl (hw _ (List.mem_of_getElem? (i := 6) rfl))) Via.refl e158 S157_NONE (g := (mkF m 70 #[.val (.long ea), .second, .val (.long sm), .second, .val (.long la), .second, .val (.long rt), .second, .val (.int fl), .val (.long tt), .second, .val (.int (1 : Int32)), .val (.int (0 : Int32)), .val (.int al), .val (.int (1 : Int32)), .unset, .unset, .unset, .unset, .unset, .unset, .unset, .unset] [(.long sm), (.ref s_STARTING), (.ref b156), (.ref b156)])) rfl (hb hby at_70)
          refine GoW.by st159 ?_
          show GoW _ _ _ _ _ _ _ (T159.setTop (mkF m 73 #[.val (.long ea), .second, .val (.long sm), .second, .val (.long la), .second, .val (.long rt), .second, .val (.int fl), .val (.long tt), .second, .val (.int (1 : Int32)), .val (.int (0 : Int32)), .val (.int al), .val (.int (1 : Int32)), .unset, .unset, .unset, .unset, .unset, .unset, .unset, .unset] [(.ref s_NONE), (.long sm), (.ref s_STARTING), (.ref b156), (.ref b156)]))
          obtain ⟨_, _, ⟨T160, L160, k160, n160⟩, -, X160, hS160, hg160, ⟨Lc160, hQ160, l160, y160, z160⟩, st160⟩ := X159.specialBackS hx (y := (⟨"com/example/runpulse/runpulse/RunState$Event", "<init>", "(Lcom/example/runpulse/runpulse/LifecycleEvent$Kind;JLcom/example/runpulse/runpulse/EventDetails;)V"⟩ : MethodName)) rfl hown (mvT hZ (hw _ (List.mem_of_getElem? (i := 9) rfl))) (mvT hZ (hw _ (List.mem_of_getElem? (i := 10) rfl))) (mvT hZ (hw _ (List.mem_of_getElem? (i := 11) rfl))) (by decide) (backOfS (W := 1) (rmE l Z a0 hw [] b156 s_STARTING sm s_NONE h156 n0 Z157 A156 F156_kind F156_time F156_details ge_b156) hZ (hw _ (List.mem_of_getElem? (i := 11) rfl)) (hw _ (List.mem_of_getElem? (i := 2) rfl)) (by decide) (by decide)) (g := (mkF m 73 #[.val (.long ea), .second, .val (.long sm), .second, .val (.long la), .second, .val (.long rt), .second, .val (.int fl), .val (.long tt), .second, .val (.int (1 : Int32)), .val (.int (0 : Int32)), .val (.int al), .val (.int (1 : Int32)), .unset, .unset, .unset, .unset, .unset, .unset, .unset, .unset] [(.ref s_NONE), (.long sm), (.ref s_STARTING), (.ref b156), (.ref b156)])) rfl (by rw [hml]; rfl) (Steps.refl _) (a := b156) (argsL := [(.ref s_STARTING), (.long sm), (.ref s_NONE)]) (rest := [(.ref b156)]) (lenOf pd0_3 rfl) rfl (by show 2 * 0 + _ ≤ _; exact Nat.le_of_eq rfl) (hb hby at_73) (fun _ _ => ⟨rfl, e159, (by decide : 1 + 4 ≤ _), (by decide : 3 + 52 ≤ _)⟩)
          dsimp only [Pt.U, Pt.locs, Pt.cells, Pt.slots] at X160 hS160 hg160 l160 y160 z160 st160 hQ160
          subst l160 y160 z160
          obtain ⟨X160, hS, hZ, hown⟩ := rebS hS (show _ ≤ T159.heap.size from by rw [e159]; exact hk157) X160 hS160 hg160 hZ hown
          obtain ⟨rfl, N160q, K160, E160z, F160z⟩ := hQ160
          have S161_STARTING := own_stakeep S157_STARTING K160 (allS (own_ns A156) all0)
          have S161_NONE := own_stakeep S157_NONE K160 (allS (own_ns A156) all0)
          have S161_COMPLETED := own_stakeep S157_COMPLETED K160 (allS (own_ns A156) all0)
          have S161_FAILED := own_stakeep S157_FAILED K160 (allS (own_ns A156) all0)
          have S161_KILLED := own_stakeep S157_KILLED K160 (allS (own_ns A156) all0)
          have S161_cache := own_stakeep S157_cache K160 (allS (own_ns A156) all0)
          have E161_s_STARTING := E157_s_STARTING.keep K160
          have E161_s_NONE := E157_s_NONE.keep K160
          have E161_s_COMPLETED := E157_s_COMPLETED.keep K160
          have E161_s_FAILED := E157_s_FAILED.keep K160
          have E161_s_KILLED := E157_s_KILLED.keep K160
          have E161_b156 := A156.keep K160
          have V161_s_cache := V157_s_cache.keep K160 (ninS ne_s_cache_b156 nin0)
          have Z161 := Nat.le_trans Z157 K160.1
          have K161 : Keep h0 T160.heap [] := Keep.trans K157 K160 (allS (Or.inr sz_b156) all0)
          have N160 := Fr.app N0 N160q
          refine GoW.tr st160 ?_
          show GoW _ _ _ _ _ _ _ (T160.setTop (mkF m 76 #[.val (.long ea), .second, .val (.long sm), .second, .val (.long la), .second, .val (.long rt), .second, .val (.int fl), .val (.long tt), .second, .val (.int (1 : Int32)), .val (.int (0 : Int32)), .val (.int al), .val (.int (1 : Int32)), .unset, .unset, .unset, .unset, .unset, .unset, .unset, .unset] [(.ref b156)]))
          refine GoW.by (fun _ kont => XS.goto X160.here hx rfl (pc0 := 76) (pc' := 80) rfl (hb hby at_76) (by decide) (by decide) (XS.astore X160.here hx rfl (hb hby at_80) rfl rfl (l' := #[.val (.long ea), .second, .val (.long sm), .second, .val (.long la), .second, .val (.long rt), .second, .val (.int fl), .val (.long tt), .second, .val (.int (1 : Int32)), .val (.int (0 : Int32)), .val (.int al), .val (.int (1 : Int32)), .val (.ref b156), .unset, .unset, .unset, .unset, .unset, .unset, .unset]) rfl (XS.iload X160.here hx rfl (hb hby at_82) rfl kont))) ?_
          show GoW _ _ _ _ _ _ _ (T160.setTop (mkF m 84 #[.val (.long ea), .second, .val (.long sm), .second, .val (.long la), .second, .val (.long rt), .second, .val (.int fl), .val (.long tt), .second, .val (.int (1 : Int32)), .val (.int (0 : Int32)), .val (.int al), .val (.int (1 : Int32)), .val (.ref b156), .unset, .unset, .unset, .unset, .unset, .unset, .unset] [(.int (0 : Int32))]))
          refine GoW.by (fun _ kont => XS.ifYes X160.here hx rfl (pc0 := 84) (pc' := 95) rfl (hb hby at_84) rfl (by decide) (by decide) (by decide) kont) ?_
          show GoW _ _ _ _ _ _ _ (T160.setTop (mkF m 95 #[.val (.long ea), .second, .val (.long sm), .second, .val (.long la), .second, .val (.long rt), .second, .val (.int fl), .val (.long tt), .second, .val (.int (1 : Int32)), .val (.int (0 : Int32)), .val (.int al), .val (.int (1 : Int32)), .val (.ref b156), .unset, .unset, .unset, .unset, .unset, .unset, .unset] []))
          refine GoW.by (fun _ kont => XS.aconstNull X160.here hx rfl (hb hby at_95) (XS.astore X160.here hx rfl (hb hby at_96) rfl rfl (l' := #[.val (.long ea), .second, .val (.long sm), .second, .val (.long la), .second, .val (.long rt), .second, .val (.int fl), .val (.long tt), .second, .val (.int (1 : Int32)), .val (.int (0 : Int32)), .val (.int al), .val (.int (1 : Int32)), .val (.ref b156), .val .null, .unset, .unset, .unset, .unset, .unset, .unset]) rfl (XS.iload X160.here hx rfl (hb hby at_98) rfl kont))) ?_
          show GoW _ _ _ _ _ _ _ (T160.setTop (mkF m 100 #[.val (.long ea), .second, .val (.long sm), .second, .val (.long la), .second, .val (.long rt), .second, .val (.int fl), .val (.long tt), .second, .val (.int (1 : Int32)), .val (.int (0 : Int32)), .val (.int al), .val (.int (1 : Int32)), .val (.ref b156), .val .null, .unset, .unset, .unset, .unset, .unset, .unset] [(.int (1 : Int32))]))
          refine GoW.by (fun _ kont => XS.ifNo X160.here hx rfl (hb hby at_100) rfl (by decide) kont) ?_
          show GoW _ _ _ _ _ _ _ (T160.setTop (mkF m 103 #[.val (.long ea), .second, .val (.long sm), .second, .val (.long la), .second, .val (.long rt), .second, .val (.int fl), .val (.long tt), .second, .val (.int (1 : Int32)), .val (.int (0 : Int32)), .val (.int al), .val (.int (1 : Int32)), .val (.ref b156), .val .null, .unset, .unset, .unset, .unset, .unset, .unset] []))
          obtain ⟨T162, h162, X162, e162, X_162, A162, D162, -, st162⟩ := newO X160 hx hZ hown (hw _ (List.mem_of_getElem? (i := 0) rfl)) (hw _ (List.mem_of_getElem? (i := 1) rfl)) (hw _ (List.mem_of_getElem? (i := 2) rfl)) rfl (g := (mkF m 103 #[.val (.long ea), .second, .val (.long sm), .second, .val (.long la), .second, .val (.long rt), .second, .val (.int fl), .val (.long tt), .second, .val (.int (1 : Int32)), .val (.int (0 : Int32)), .val (.int al), .val (.int (1 : Int32)), .val (.ref b156), .val .null, .unset, .unset, .unset, .unset, .unset, .unset] [])) rfl (hb hby at_103) (by decide) (by decide)
          obtain ⟨b162, g162⟩ : ∃ z, z = T160.heap.size := ⟨_, rfl⟩
          rw [← g162] at A162 D162 st162
          have ne_b156_b162 : b156 ≠ b162 := Nat.ne_of_lt (Nat.lt_of_lt_of_le F160z.lt (Nat.le_of_eq g162.symm))
          have ne_s_STARTING_b162 : s_STARTING ≠ b162 := Nat.ne_of_lt (Nat.lt_of_lt_of_le E161_s_STARTING.lt (Nat.le_of_eq g162.symm))
          have ne_s_NONE_b162 : s_NONE ≠ b162 := Nat.ne_of_lt (Nat.lt_of_lt_of_le E161_s_NONE.lt (Nat.le_of_eq g162.symm))
          have ne_s_COMPLETED_b162 : s_COMPLETED ≠ b162 := Nat.ne_of_lt (Nat.lt_of_lt_of_le E161_s_COMPLETED.lt (Nat.le_of_eq g162.symm))
          have ne_s_FAILED_b162 : s_FAILED ≠ b162 := Nat.ne_of_lt (Nat.lt_of_lt_of_le E161_s_FAILED.lt (Nat.le_of_eq g162.symm))
          have ne_s_KILLED_b162 : s_KILLED ≠ b162 := Nat.ne_of_lt (Nat.lt_of_lt_of_le E161_s_KILLED.lt (Nat.le_of_eq g162.symm))
          have ne_s_cache_b162 : s_cache ≠ b162 := Nat.ne_of_lt (Nat.lt_of_lt_of_le V161_s_cache.lt (Nat.le_of_eq g162.symm))
          have ge_b162 : n0 ≤ b162 := Nat.le_trans Z161 (Nat.le_of_eq g162.symm)
          have sz_b162 : h0.size ≤ b162 := Nat.le_trans K161.1 (Nat.le_of_eq g162.symm)
          have F163_time_b156 := F160z.ext X_162
          have E163_s_STARTING := E161_s_STARTING.ext X_162
          have E163_s_NONE := E161_s_NONE.ext X_162
          have E163_s_COMPLETED := E161_s_COMPLETED.ext X_162
          have E163_s_FAILED := E161_s_FAILED.ext X_162
          have E163_s_KILLED := E161_s_KILLED.ext X_162
          have E163_b156 := E160z.ext X_162
          have V163_s_cache := V161_s_cache.ext X_162
          have S163_STARTING := S161_STARTING.ext X_162
          have S163_NONE := S161_NONE.ext X_162
          have S163_COMPLETED := S161_COMPLETED.ext X_162
          have S163_FAILED := S161_FAILED.ext X_162
          have S163_KILLED := S161_KILLED.ext X_162
          have S163_cache := S161_cache.ext X_162
          have Z163 := Nat.le_trans Z161 X_162.1
          have hk163 := Nat.le_trans (Nat.le_refl _) X_162.1
          have K163 : Keep h0 h162 [] := K161.ext X_162
          have F162_kind : Fld Z h162 b162 "com/example/runpulse/runpulse/RunState$Event" "kind" "Lcom/example/runpulse/runpulse/LifecycleEvent$Kind;" .null := D162 (Or.inr (hw _ (List.mem_of_getElem? (i := 34) rfl))) (ty := (.object "com/example/runpulse/runpulse/LifecycleEvent$Kind")) (by decide)
          have F162_time : Fld Z h162 b162 "com/example/runpulse/runpulse/RunState$Event" "time" "J" (.long (0 : Int64)) := D162 (Or.inr (hw _ (List.mem_of_getElem? (i := 36) rfl))) (ty := .long) (by decide)
          have F162_details : Fld Z h162 b162 "com/example/runpulse/runpulse/RunState$Event" "details" "Lcom/example/runpulse/runpulse/EventDetails;" .null := D162 (Or.inr (hw _ (List.mem_of_getElem? (i := 38) rfl))) (ty := (.object "com/example/runpulse/runpulse/EventDetails")) (by decide)
          refine GoW.by st162 ?_
          show GoW _ _ _ _ _ _ _ (T162.setTop (mkF m 106 #[.val (.long ea), .second, .val (.long sm), .second, .val (.long la), .second, .val (.long rt), .second, .val (.int fl), .val (.long tt), .second, .val (.int (1 : Int32)), .val (.int (0 : Int32)), .val (.int al), .val (.int (1 : Int32)), .val (.ref b156), .val .null, .unset, .unset, .unset, .unset, .unset, .unset] [(.ref b162)]))
          refine GoW.by (fun _ kont => XS.dup X162.here hx rfl (hb hby at_106) rfl rfl (XS.iload X162.here hx rfl (hb hby at_107) rfl kont)) ?_
          show GoW _ _ _ _ _ _ _ (T162.setTop (mkF m 109 #[.val (.long ea), .second, .val (.long sm), .second, .val (.long la), .second, .val (.long rt), .second, .val (.int fl), .val (.long tt), .second, .val (.int (1 : Int32)), .val (.int (0 : Int32)), .val (.int al), .val (.int (1 : Int32)), .val (.ref b156), .val .null, .unset, .unset, .unset, .unset, .unset, .unset] [(.int fl), (.ref b162), (.ref b162)]))
          obtain ⟨_, _, ⟨T164, L164, k164, n164⟩, -, X164, ⟨Lc164, hQ164, l164, y164, z164⟩, st164⟩ := Jvm.LawKit.callS X162 hx (y := (⟨"com/example/runpulse/runpulse/RunStateStartPinLaw", "terminalKind", "(I)Lcom/example/runpulse/runpulse/LifecycleEvent$Kind;"⟩ : MethodName)) hown (mvT hZ (hw _ (List.mem_of_getElem? (i := 91) rfl))) (mvT hZ (hw _ (List.mem_of_getElem? (i := 92) rfl))) (mvT hZ (hw _ (List.mem_of_getElem? (i := 93) rfl))) (mvT hZ (hw _ (List.mem_of_getElem? (i := 94) rfl))) (by decide) (backOf (W := 2) (rmT l Z a0 hw [] fl s_COMPLETED s_FAILED s_KILLED h162 n0 Z163 S163_COMPLETED S163_FAILED S163_KILLED) hZ (hw _ (List.mem_of_getElem? (i := 94) rfl)) (hw _ (List.mem_of_getElem? (i := 93) rfl)) (by decide) (by decide)) (g := (mkF m 109 #[.val (.long ea), .second, .val (.long sm), .second, .val (.long la), .second, .val (.long rt), .second, .val (.int fl), .val (.long tt), .second, .val (.int (1 : Int32)), .val (.int (0 : Int32)), .val (.int al), .val (.int (1 : Int32)), .val (.ref b156), .val .null, .unset, .unset, .unset, .unset, .unset, .unset] [(.int fl), (.ref b162), (.ref b162)])) rfl (by rw [hml]; rfl) (argsL := [(.int fl)]) (rest := [(.ref b162), (.ref b162)]) (lenOf pd0_2 rfl) rfl (by show 2 * 0 + _ ≤ _; exact Nat.le_of_eq rfl) (hb hby at_109) (fun _ _ => ⟨rfl, e162, (by decide : 6 + 0 ≤ _), (by decide : 58 + 0 ≤ _)⟩)
          dsimp only [Pt.U, Pt.locs, Pt.cells, Pt.slots] at X164 l164 y164 z164 st164 hQ164
          subst l164 y164 z164
          obtain ⟨y164, rfl, N164q, eh164⟩ := hQ164
          have N164 := Fr.app N160 N164q
          refine GoW.by st164 ?_
          show GoW _ _ _ _ _ _ _ (T164.setTop (mkF m 112 #[.val (.long ea), .second, .val (.long sm), .second, .val (.long la), .second, .val (.long rt), .second, .val (.int fl), .val (.long tt), .second, .val (.int (1 : Int32)), .val (.int (0 : Int32)), .val (.int al), .val (.int (1 : Int32)), .val (.ref b156), .val .null, .unset, .unset, .unset, .unset, .unset, .unset] [(.ref y164), (.ref b162), (.ref b162)]))
          refine GoW.by (fun _ kont => XS.lload X164.here hx rfl (hb hby at_112) rfl kont) ?_
          show GoW _ _ _ _ _ _ _ (T164.setTop (mkF m 114 #[.val (.long ea), .second, .val (.long sm), .second, .val (.long la), .second, .val (.long rt), .second, .val (.int fl), .val (.long tt), .second, .val (.int (1 : Int32)), .val (.int (0 : Int32)), .val (.int al), .val (.int (1 : Int32)), .val (.ref b156), .val .null, .unset, .unset, .unset, .unset, .unset, .unset] [(.long tt), (.ref y164), (.ref b162), (.ref b162)]))
          obtain ⟨T165, X165, e165, st165⟩ := getS2 X164 hx hZ hown (host := "") (Or.inl (hw _ (List.mem_of_getElem? (i := 6) rfl))) Via.refl eh164 S163_NONE (g := (mkF m 114 #[.val (.long ea), .second, .val (.long sm), .second, .val (.long la), .second, .val (.long rt), .second, .val (.int fl), .val (.long tt), .second, .val (.int (1 : Int32)), .val (.int (0 : Int32)), .val (.int al), .val (.int (1 : Int32)), .val (.ref b156), .val .null, .unset, .unset, .unset, .unset, .unset, .unset] [(.long tt), (.ref y164), (.ref b162), (.ref b162)])) rfl (hb hby at_114)
          refine GoW.by st165 ?_
          show GoW _ _ _ _ _ _ _ (T165.setTop (mkF m 117 #[.val (.long ea), .second, .val (.long sm), .second, .val (.long la), .second, .val (.long rt), .second, .val (.int fl), .val (.long tt), .second, .val (.int (1 : Int32)), .val (.int (0 : Int32)), .val (.int al), .val (.int (1 : Int32)), .val (.ref b156), .val .null, .unset, .unset, .unset, .unset, .unset, .unset] [(.ref s_NONE), (.long tt), (.ref y164), (.ref b162), (.ref b162)]))
          obtain ⟨_, _, ⟨T166, L166, k166, n166⟩, -, X166, hS166, hg166, ⟨Lc166, hQ166, l166, y166, z166⟩, st166⟩ := X165.specialBackS hx (y := (⟨"com/example/runpulse/runpulse/RunState$Event", "<init>", "(Lcom/example/runpulse/runpulse/LifecycleEvent$Kind;JLcom/example/runpulse/runpulse/EventDetails;)V"⟩ : MethodName)) rfl hown (mvT hZ (hw _ (List.mem_of_getElem? (i := 9) rfl))) (mvT hZ (hw _ (List.mem_of_getElem? (i := 10) rfl))) (mvT hZ (hw _ (List.mem_of_getElem? (i := 11) rfl))) (by decide) (backOfS (W := 1) (rmE l Z a0 hw [] b162 y164 tt s_NONE h162 n0 Z163 A162 F162_kind F162_time F162_details ge_b162) hZ (hw _ (List.mem_of_getElem? (i := 11) rfl)) (hw _ (List.mem_of_getElem? (i := 2) rfl)) (by decide) (by decide)) (g := (mkF m 117 #[.val (.long ea), .second, .val (.long sm), .second, .val (.long la), .second, .val (.long rt), .second, .val (.int fl), .val (.long tt), .second, .val (.int (1 : Int32)), .val (.int (0 : Int32)), .val (.int al), .val (.int (1 : Int32)), .val (.ref b156), .val .null, .unset, .unset, .unset, .unset, .unset, .unset] [(.ref s_NONE), (.long tt), (.ref y164), (.ref b162), (.ref b162)])) rfl (by rw [hml]; rfl) (Steps.refl _) (a := b162) (argsL := [(.ref y164), (.long tt), (.ref s_NONE)]) (rest := [(.ref b162)]) (lenOf pd0_3 rfl) rfl (by show 2 * 0 + _ ≤ _; exact Nat.le_of_eq rfl) (hb hby at_117) (fun _ _ => ⟨rfl, e165, (by decide : 6 + 4 ≤ _), (by decide : 58 + 52 ≤ _)⟩)
          dsimp only [Pt.U, Pt.locs, Pt.cells, Pt.slots] at X166 hS166 hg166 l166 y166 z166 st166 hQ166
          subst l166 y166 z166
          obtain ⟨X166, hS, hZ, hown⟩ := rebS hS (show _ ≤ T165.heap.size from by rw [e165]; exact hk163) X166 hS166 hg166 hZ hown
          obtain ⟨rfl, N166q, K166, E166z, F166z⟩ := hQ166
          have S167_STARTING := own_stakeep S163_STARTING K166 (allS (own_ns A162) all0)
          have S167_NONE := own_stakeep S163_NONE K166 (allS (own_ns A162) all0)
          have S167_COMPLETED := own_stakeep S163_COMPLETED K166 (allS (own_ns A162) all0)
          have S167_FAILED := own_stakeep S163_FAILED K166 (allS (own_ns A162) all0)
          have S167_KILLED := own_stakeep S163_KILLED K166 (allS (own_ns A162) all0)
          have S167_cache := own_stakeep S163_cache K166 (allS (own_ns A162) all0)
          have F167_time_b156 := F163_time_b156.keep K166 (ninS ne_b156_b162 nin0)
          have E167_s_STARTING := E163_s_STARTING.keep K166
          have E167_s_NONE := E163_s_NONE.keep K166
          have E167_s_COMPLETED := E163_s_COMPLETED.keep K166
          have E167_s_FAILED := E163_s_FAILED.keep K166
          have E167_s_KILLED := E163_s_KILLED.keep K166
          have E167_b156 := E163_b156.keep K166
          have E167_b162 := A162.keep K166
          have V167_s_cache := V163_s_cache.keep K166 (ninS ne_s_cache_b162 nin0)
          have Z167 := Nat.le_trans Z163 K166.1
          have K167 : Keep h0 T166.heap [] := Keep.trans K163 K166 (allS (Or.inr sz_b162) all0)
          have N166 := Fr.app N164 N166q
          refine GoW.tr st166 ?_
          show GoW _ _ _ _ _ _ _ (T166.setTop (mkF m 120 #[.val (.long ea), .second, .val (.long sm), .second, .val (.long la), .second, .val (.long rt), .second, .val (.int fl), .val (.long tt), .second, .val (.int (1 : Int32)), .val (.int (0 : Int32)), .val (.int al), .val (.int (1 : Int32)), .val (.ref b156), .val .null, .unset, .unset, .unset, .unset, .unset, .unset] [(.ref b162)]))
          refine GoW.by (fun _ kont => XS.goto X166.here hx rfl (pc0 := 120) (pc' := 124) rfl (hb hby at_120) (by decide) (by decide) (XS.astore X166.here hx rfl (hb hby at_124) rfl rfl (l' := #[.val (.long ea), .second, .val (.long sm), .second, .val (.long la), .second, .val (.long rt), .second, .val (.int fl), .val (.long tt), .second, .val (.int (1 : Int32)), .val (.int (0 : Int32)), .val (.int al), .val (.int (1 : Int32)), .val (.ref b156), .val .null, .val (.ref b162), .unset, .unset, .unset, .unset, .unset]) rfl kont)) ?_
          show GoW _ _ _ _ _ _ _ (T166.setTop (mkF m 126 #[.val (.long ea), .second, .val (.long sm), .second, .val (.long la), .second, .val (.long rt), .second, .val (.int fl), .val (.long tt), .second, .val (.int (1 : Int32)), .val (.int (0 : Int32)), .val (.int al), .val (.int (1 : Int32)), .val (.ref b156), .val .null, .val (.ref b162), .unset, .unset, .unset, .unset, .unset] []))
          obtain ⟨T168, h168, X168, e168, X_168, A168, D168, -, st168⟩ := newO X166 hx hZ hown (hw _ (List.mem_of_getElem? (i := 47) rfl)) (hw _ (List.mem_of_getElem? (i := 48) rfl)) (hw _ (List.mem_of_getElem? (i := 49) rfl)) rfl (g := (mkF m 126 #[.val (.long ea), .second, .val (.long sm), .second, .val (.long la), .second, .val (.long rt), .second, .val (.int fl), .val (.long tt), .second, .val (.int (1 : Int32)), .val (.int (0 : Int32)), .val (.int al), .val (.int (1 : Int32)), .val (.ref b156), .val .null, .val (.ref b162), .unset, .unset, .unset, .unset, .unset] [])) rfl (hb hby at_126) (by decide) (by decide)
          obtain ⟨b168, g168⟩ : ∃ z, z = T166.heap.size := ⟨_, rfl⟩
          rw [← g168] at A168 D168 st168
          have ne_b156_b168 : b156 ≠ b168 := Nat.ne_of_lt (Nat.lt_of_lt_of_le F167_time_b156.lt (Nat.le_of_eq g168.symm))
          have ne_b162_b168 : b162 ≠ b168 := Nat.ne_of_lt (Nat.lt_of_lt_of_le F166z.lt (Nat.le_of_eq g168.symm))
          have ne_s_STARTING_b168 : s_STARTING ≠ b168 := Nat.ne_of_lt (Nat.lt_of_lt_of_le E167_s_STARTING.lt (Nat.le_of_eq g168.symm))
          have ne_s_NONE_b168 : s_NONE ≠ b168 := Nat.ne_of_lt (Nat.lt_of_lt_of_le E167_s_NONE.lt (Nat.le_of_eq g168.symm))
          have ne_s_COMPLETED_b168 : s_COMPLETED ≠ b168 := Nat.ne_of_lt (Nat.lt_of_lt_of_le E167_s_COMPLETED.lt (Nat.le_of_eq g168.symm))
          have ne_s_FAILED_b168 : s_FAILED ≠ b168 := Nat.ne_of_lt (Nat.lt_of_lt_of_le E167_s_FAILED.lt (Nat.le_of_eq g168.symm))
          have ne_s_KILLED_b168 : s_KILLED ≠ b168 := Nat.ne_of_lt (Nat.lt_of_lt_of_le E167_s_KILLED.lt (Nat.le_of_eq g168.symm))
          have ne_s_cache_b168 : s_cache ≠ b168 := Nat.ne_of_lt (Nat.lt_of_lt_of_le V167_s_cache.lt (Nat.le_of_eq g168.symm))
          have ge_b168 : n0 ≤ b168 := Nat.le_trans Z167 (Nat.le_of_eq g168.symm)
          have sz_b168 : h0.size ≤ b168 := Nat.le_trans K167.1 (Nat.le_of_eq g168.symm)
          have F169_time_b156 := F167_time_b156.ext X_168
          have F169_time_b162 := F166z.ext X_168
          have E169_s_STARTING := E167_s_STARTING.ext X_168
          have E169_s_NONE := E167_s_NONE.ext X_168
          have E169_s_COMPLETED := E167_s_COMPLETED.ext X_168
          have E169_s_FAILED := E167_s_FAILED.ext X_168
          have E169_s_KILLED := E167_s_KILLED.ext X_168
          have E169_b156 := E167_b156.ext X_168
          have E169_b162 := E166z.ext X_168
          have V169_s_cache := V167_s_cache.ext X_168
          have S169_STARTING := S167_STARTING.ext X_168
          have S169_NONE := S167_NONE.ext X_168
          have S169_COMPLETED := S167_COMPLETED.ext X_168
          have S169_FAILED := S167_FAILED.ext X_168
          have S169_KILLED := S167_KILLED.ext X_168
          have S169_cache := S167_cache.ext X_168
          have Z169 := Nat.le_trans Z167 X_168.1
          have hk169 := Nat.le_trans (Nat.le_refl _) X_168.1
          have K169 : Keep h0 h168 [] := K167.ext X_168
          have F168_earliest : Fld Z h168 b168 "com/example/runpulse/runpulse/RunState" "earliest" "J" (.long (0 : Int64)) := D168 (Or.inr (hw _ (List.mem_of_getElem? (i := 55) rfl))) (ty := .long) (by decide)
          have F168_latest : Fld Z h168 b168 "com/example/runpulse/runpulse/RunState" "latest" "J" (.long (0 : Int64)) := D168 (Or.inr (hw _ (List.mem_of_getElem? (i := 57) rfl))) (ty := .long) (by decide)
          have F168_starting : Fld Z h168 b168 "com/example/runpulse/runpulse/RunState" "starting" "Lcom/example/runpulse/runpulse/RunState$Event;" .null := D168 (Or.inr (hw _ (List.mem_of_getElem? (i := 59) rfl))) (ty := (.object "com/example/runpulse/runpulse/RunState$Event")) (by decide)
          have F168_running : Fld Z h168 b168 "com/example/runpulse/runpulse/RunState" "running" "Ljava/lang/Long;" .null := D168 (Or.inr (hw _ (List.mem_of_getElem? (i := 61) rfl))) (ty := (.object "java/lang/Long")) (by decide)
          have F168_alive : Fld Z h168 b168 "com/example/runpulse/runpulse/RunState" "alive" "Z" (.int (0 : Int32)) := D168 (Or.inr (hw _ (List.mem_of_getElem? (i := 63) rfl))) (ty := .boolean) (by decide)
          have F168_terminal : Fld Z h168 b168 "com/example/runpulse/runpulse/RunState" "terminal" "Lcom/example/runpulse/runpulse/RunState$Event;" .null := D168 (Or.inr (hw _ (List.mem_of_getElem? (i := 65) rfl))) (ty := (.object "com/example/runpulse/runpulse/RunState$Event")) (by decide)
          refine GoW.by st168 ?_
          show GoW _ _ _ _ _ _ _ (T168.setTop (mkF m 129 #[.val (.long ea), .second, .val (.long sm), .second, .val (.long la), .second, .val (.long rt), .second, .val (.int fl), .val (.long tt), .second, .val (.int (1 : Int32)), .val (.int (0 : Int32)), .val (.int al), .val (.int (1 : Int32)), .val (.ref b156), .val .null, .val (.ref b162), .unset, .unset, .unset, .unset, .unset] [(.ref b168)]))
          refine GoW.by (fun _ kont => XS.dup X168.here hx rfl (hb hby at_129) rfl rfl (XS.lloadN X168.here hx rfl (hb hby at_130) rfl (XS.lload X168.here hx rfl (hb hby at_131) rfl (XS.aload X168.here hx rfl (hb hby at_133) rfl rfl (XS.aload X168.here hx rfl (hb hby at_135) rfl rfl (XS.iload X168.here hx rfl (hb hby at_137) rfl kont)))))) ?_
          show GoW _ _ _ _ _ _ _ (T168.setTop (mkF m 139 #[.val (.long ea), .second, .val (.long sm), .second, .val (.long la), .second, .val (.long rt), .second, .val (.int fl), .val (.long tt), .second, .val (.int (1 : Int32)), .val (.int (0 : Int32)), .val (.int al), .val (.int (1 : Int32)), .val (.ref b156), .val .null, .val (.ref b162), .unset, .unset, .unset, .unset, .unset] [(.int al), .null, (.ref b156), (.long la), (.long ea), (.ref b168), (.ref b168)]))
          refine GoW.by (fun _ kont => XS.aload X168.here hx rfl (hb hby at_139) rfl rfl kont) ?_
          show GoW _ _ _ _ _ _ _ (T168.setTop (mkF m 141 #[.val (.long ea), .second, .val (.long sm), .second, .val (.long la), .second, .val (.long rt), .second, .val (.int fl), .val (.long tt), .second, .val (.int (1 : Int32)), .val (.int (0 : Int32)), .val (.int al), .val (.int (1 : Int32)), .val (.ref b156), .val .null, .val (.ref b162), .unset, .unset, .unset, .unset, .unset] [(.ref b162), (.int al), .null, (.ref b156), (.long la), (.long ea), (.ref b168), (.ref b168)]))
          obtain ⟨_, _, ⟨T170, L170, k170, n170⟩, -, X170, ⟨Lc170, hQ170, l170, y170, z170⟩, st170⟩ := X168.specialBack hx (y := (⟨"com/example/runpulse/runpulse/RunState", "<init>", "(JJLcom/example/runpulse/runpulse/RunState$Event;Ljava/lang/Long;ZLcom/example/runpulse/runpulse/RunState$Event;)V"⟩ : MethodName)) rfl hown (mvT hZ (hw _ (List.mem_of_getElem? (i := 50) rfl))) (mvT hZ (hw _ (List.mem_of_getElem? (i := 51) rfl))) (mvT hZ (hw _ (List.mem_of_getElem? (i := 52) rfl))) (by decide) (backOf (W := 1) (rmS9 l Z a0 hw [] b168 ea la b156 al b162 h168 n0 Z169 A168 F168_earliest F168_latest F168_starting F168_running F168_alive F168_terminal ge_b168 hal) hZ (hw _ (List.mem_of_getElem? (i := 52) rfl)) (hw _ (List.mem_of_getElem? (i := 49) rfl)) (by decide) (by decide)) (g := (mkF m 141 #[.val (.long ea), .second, .val (.long sm), .second, .val (.long la), .second, .val (.long rt), .second, .val (.int fl), .val (.long tt), .second, .val (.int (1 : Int32)), .val (.int (0 : Int32)), .val (.int al), .val (.int (1 : Int32)), .val (.ref b156), .val .null, .val (.ref b162), .unset, .unset, .unset, .unset, .unset] [(.ref b162), (.int al), .null, (.ref b156), (.long la), (.long ea), (.ref b168), (.ref b168)])) rfl (by rw [hml]; rfl) (Steps.refl _) (a := b168) (argsL := [(.long ea), (.long la), (.ref b156), .null, (.int al), (.ref b162)]) (rest := [(.ref b168)]) (lenOf pd0_0 rfl) rfl (by show 2 * 0 + _ ≤ _; exact Nat.le_of_eq rfl) (hb hby at_141) (fun _ _ => ⟨rfl, e168, (by decide : 11 + 0 ≤ _), (by decide : 116 + 0 ≤ _)⟩)
          dsimp only [Pt.U, Pt.locs, Pt.cells, Pt.slots] at X170 l170 y170 z170 st170 hQ170
          subst l170 y170 z170
          obtain ⟨rfl, N170q, K170, g170_0, g170_1, g170_2, g170_3, g170_4, g170_5, g170_6⟩ := hQ170
          have S171_STARTING := own_stakeep S169_STARTING K170 (allS (own_ns A168) all0)
          have S171_NONE := own_stakeep S169_NONE K170 (allS (own_ns A168) all0)
          have S171_COMPLETED := own_stakeep S169_COMPLETED K170 (allS (own_ns A168) all0)
          have S171_FAILED := own_stakeep S169_FAILED K170 (allS (own_ns A168) all0)
          have S171_KILLED := own_stakeep S169_KILLED K170 (allS (own_ns A168) all0)
          have S171_cache := own_stakeep S169_cache K170 (allS (own_ns A168) all0)
          have F171_time_b156 := F169_time_b156.keep K170 (ninS ne_b156_b168 nin0)
          have F171_time_b162 := F169_time_b162.keep K170 (ninS ne_b162_b168 nin0)
          have E171_s_STARTING := E169_s_STARTING.keep K170
          have E171_s_NONE := E169_s_NONE.keep K170
          have E171_s_COMPLETED := E169_s_COMPLETED.keep K170
          have E171_s_FAILED := E169_s_FAILED.keep K170
          have E171_s_KILLED := E169_s_KILLED.keep K170
          have E171_b156 := E169_b156.keep K170
          have E171_b162 := E169_b162.keep K170
          have E171_b168 := A168.keep K170
          have V171_s_cache := V169_s_cache.keep K170 (ninS ne_s_cache_b168 nin0)
          have Z171 := Nat.le_trans Z169 K170.1
          have hk171 := Nat.le_trans hk169 K170.1
          have K171 : Keep h0 T170.heap [] := Keep.trans K169 K170 (allS (Or.inr sz_b168) all0)
          have N170 := Fr.app N166 N170q
          refine GoW.tr st170 ?_
          show GoW _ _ _ _ _ _ _ (T170.setTop (mkF m 144 #[.val (.long ea), .second, .val (.long sm), .second, .val (.long la), .second, .val (.long rt), .second, .val (.int fl), .val (.long tt), .second, .val (.int (1 : Int32)), .val (.int (0 : Int32)), .val (.int al), .val (.int (1 : Int32)), .val (.ref b156), .val .null, .val (.ref b162), .unset, .unset, .unset, .unset, .unset] [(.ref b168)]))
          refine GoW.by (fun _ kont => XS.astore X170.here hx rfl (hb hby at_144) rfl rfl (l' := #[.val (.long ea), .second, .val (.long sm), .second, .val (.long la), .second, .val (.long rt), .second, .val (.int fl), .val (.long tt), .second, .val (.int (1 : Int32)), .val (.int (0 : Int32)), .val (.int al), .val (.int (1 : Int32)), .val (.ref b156), .val .null, .val (.ref b162), .val (.ref b168), .unset, .unset, .unset, .unset]) rfl (XS.aload X170.here hx rfl (hb hby at_146) rfl rfl kont)) ?_
          show GoW _ _ _ _ _ _ _ (T170.setTop (mkF m 148 #[.val (.long ea), .second, .val (.long sm), .second, .val (.long la), .second, .val (.long rt), .second, .val (.int fl), .val (.long tt), .second, .val (.int (1 : Int32)), .val (.int (0 : Int32)), .val (.int al), .val (.int (1 : Int32)), .val (.ref b156), .val .null, .val (.ref b162), .val (.ref b168), .unset, .unset, .unset, .unset] [(.ref b168)]))
          obtain ⟨cq172, kq172, q172a, q172b, q172c⟩ := isOf hZ rfl g170_0
          obtain ⟨_, _, ⟨T172, L172, k172, n172⟩, -, X172, ⟨Lc172, hQ172, l172, y172, z172⟩, st172⟩ := X170.virtualBack hx (y := (⟨"com/example/runpulse/runpulse/RunState", "start", "()J"⟩ : MethodName)) (z := (⟨"com/example/runpulse/runpulse/RunState", "start", "()J"⟩ : MethodName)) hown (mvT hZ (hw _ (List.mem_of_getElem? (i := 66) rfl))) (mvT hZ (hw _ (List.mem_of_getElem? (i := 67) rfl))) (notFace_of_selects (args := #[]) (mvT hZ (hw _ (List.mem_of_getElem? (i := 69) rfl)))) (mvT hZ (hw _ (List.mem_of_getElem? (i := 69) rfl))) (mvT hZ (hw _ (List.mem_of_getElem? (i := 68) rfl))) (by decide) (backOf (W := 0) (rmA1 l Z a0 hw [] b168 b156 ea sm T170.heap n0 Z171 g170_0 g170_3 g170_1 E171_b156 F171_time_b156) hZ (hw _ (List.mem_of_getElem? (i := 70) rfl)) (hw _ (List.mem_of_getElem? (i := 49) rfl)) (by decide) (by decide)) q172a q172c (g := (mkF m 148 #[.val (.long ea), .second, .val (.long sm), .second, .val (.long la), .second, .val (.long rt), .second, .val (.int fl), .val (.long tt), .second, .val (.int (1 : Int32)), .val (.int (0 : Int32)), .val (.int al), .val (.int (1 : Int32)), .val (.ref b156), .val .null, .val (.ref b162), .val (.ref b168), .unset, .unset, .unset, .unset] [(.ref b168)])) rfl (by rw [hml]; rfl) (Steps.refl _) (argsL := []) (rest := []) (lenOf pd0_1 rfl) rfl (by show 2 * 0 + _ ≤ _; exact Nat.le_of_eq rfl) (hb hby at_148) (fun _ _ => ⟨rfl, rfl, (by decide : 11 + 0 ≤ _), (by decide : 116 + 0 ≤ _)⟩)
          dsimp only [Pt.U, Pt.locs, Pt.cells, Pt.slots] at X172 l172 y172 z172 st172 hQ172
          subst l172 y172 z172
          obtain ⟨rfl, N172q, eh172⟩ := hQ172
          have N172 := Fr.app N170 N172q
          refine GoW.tr st172 ?_
          show GoW _ _ _ _ _ _ _ (T172.setTop (mkF m 151 #[.val (.long ea), .second, .val (.long sm), .second, .val (.long la), .second, .val (.long rt), .second, .val (.int fl), .val (.long tt), .second, .val (.int (1 : Int32)), .val (.int (0 : Int32)), .val (.int al), .val (.int (1 : Int32)), .val (.ref b156), .val .null, .val (.ref b162), .val (.ref b168), .unset, .unset, .unset, .unset] [(.long sm)]))
          refine GoW.by (fun _ kont => XS.lstore X172.here hx rfl (hb hby at_151) rfl (l' := #[.val (.long ea), .second, .val (.long sm), .second, .val (.long la), .second, .val (.long rt), .second, .val (.int fl), .val (.long tt), .second, .val (.int (1 : Int32)), .val (.int (0 : Int32)), .val (.int al), .val (.int (1 : Int32)), .val (.ref b156), .val .null, .val (.ref b162), .val (.ref b168), .val (.long sm), .second, .unset, .unset]) rfl (XS.iload X172.here hx rfl (hb hby at_153) rfl kont)) ?_
          show GoW _ _ _ _ _ _ _ (T172.setTop (mkF m 155 #[.val (.long ea), .second, .val (.long sm), .second, .val (.long la), .second, .val (.long rt), .second, .val (.int fl), .val (.long tt), .second, .val (.int (1 : Int32)), .val (.int (0 : Int32)), .val (.int al), .val (.int (1 : Int32)), .val (.ref b156), .val .null, .val (.ref b162), .val (.ref b168), .val (.long sm), .second, .unset, .unset] [(.int (1 : Int32))]))
          refine GoW.by (fun _ kont => XS.ifNo X172.here hx rfl (hb hby at_155) rfl (by decide) kont) ?_
          show GoW _ _ _ _ _ _ _ (T172.setTop (mkF m 158 #[.val (.long ea), .second, .val (.long sm), .second, .val (.long la), .second, .val (.long rt), .second, .val (.int fl), .val (.long tt), .second, .val (.int (1 : Int32)), .val (.int (0 : Int32)), .val (.int al), .val (.int (1 : Int32)), .val (.ref b156), .val .null, .val (.ref b162), .val (.ref b168), .val (.long sm), .second, .unset, .unset] []))
          refine GoW.by (fun _ kont => XS.lloadN X172.here hx rfl (hb hby at_158) rfl (XS.lstore X172.here hx rfl (hb hby at_159) rfl (l' := #[.val (.long ea), .second, .val (.long sm), .second, .val (.long la), .second, .val (.long rt), .second, .val (.int fl), .val (.long tt), .second, .val (.int (1 : Int32)), .val (.int (0 : Int32)), .val (.int al), .val (.int (1 : Int32)), .val (.ref b156), .val .null, .val (.ref b162), .val (.ref b168), .val (.long sm), .second, .val (.long sm), .second]) rfl (XS.goto X172.here hx rfl (pc0 := 161) (pc' := 167) rfl (hb hby at_161) (by decide) (by decide) (XS.lload X172.here hx rfl (hb hby at_167) rfl (XS.lload X172.here hx rfl (hb hby at_169) rfl (XS.lcmp X172.here hx rfl (hb hby at_171) rfl kont)))))) ?_
          show GoW _ _ _ _ _ _ _ (T172.setTop (mkF m 172 #[.val (.long ea), .second, .val (.long sm), .second, .val (.long la), .second, .val (.long rt), .second, .val (.int fl), .val (.long tt), .second, .val (.int (1 : Int32)), .val (.int (0 : Int32)), .val (.int al), .val (.int (1 : Int32)), .val (.ref b156), .val .null, .val (.ref b162), .val (.ref b168), .val (.long sm), .second, .val (.long sm), .second] [(.int (lcmpW sm sm))]))
          refine GoW.by (fun _ kont => XS.ifNo X172.here hx rfl (hb hby at_172) rfl ((if0 _ _).trans (teq ((lw_eq _ _).mpr rfl)).2) kont) ?_
          show GoW _ _ _ _ _ _ _ (T172.setTop (mkF m 175 #[.val (.long ea), .second, .val (.long sm), .second, .val (.long la), .second, .val (.long rt), .second, .val (.int fl), .val (.long tt), .second, .val (.int (1 : Int32)), .val (.int (0 : Int32)), .val (.int al), .val (.int (1 : Int32)), .val (.ref b156), .val .null, .val (.ref b162), .val (.ref b168), .val (.long sm), .second, .val (.long sm), .second] []))
          refine GoW.by (fun _ kont => XS.iconst X172.here hx rfl (hb hby at_175) (XS.goto X172.here hx rfl (pc0 := 176) (pc' := 180) rfl (hb hby at_176) (by decide) (by decide) kont)) ?_
          show GoW _ _ _ _ _ _ _ (T172.setTop (mkF m 180 #[.val (.long ea), .second, .val (.long sm), .second, .val (.long la), .second, .val (.long rt), .second, .val (.int fl), .val (.long tt), .second, .val (.int (1 : Int32)), .val (.int (0 : Int32)), .val (.int al), .val (.int (1 : Int32)), .val (.ref b156), .val .null, .val (.ref b162), .val (.ref b168), .val (.long sm), .second, .val (.long sm), .second] [(.int (1 : Int32))]))
          refine GoW.retN X172 hS (by rw [eh172]; exact hk171) hx (t := .boolean) hret (by simp) hlk (hb hby at_180) ?_ (by decide) (by decide)
          show Q0 Z h0 n0 (some (.int (1 : Int32))) T172.heap _
          rw [eh172]
          exact ⟨rfl, N172⟩
      show GoW _ _ _ _ _ _ _ (s₁.setTop (mkF m 28 #[.val (.long ea), .second, .val (.long sm), .second, .val (.long la), .second, .val (.long rt), .second, .val (.int fl), .val (.long tt), .second, .val (.int (1 : Int32)), .val (.int (0 : Int32)), .unset, .unset, .unset, .unset, .unset, .unset, .unset, .unset, .unset, .unset] []))
      refine GoW.by (fun _ kont => XS.iload X0.here hx rfl (hb hby at_28) rfl (XS.iconst X0.here hx rfl (hb hby at_30) (XS.iand X0.here hx rfl (hb hby at_31) rfl kont))) ?_
      show GoW _ _ _ _ _ _ _ (s₁.setTop (mkF m 32 #[.val (.long ea), .second, .val (.long sm), .second, .val (.long la), .second, .val (.long rt), .second, .val (.int fl), .val (.long tt), .second, .val (.int (1 : Int32)), .val (.int (0 : Int32)), .unset, .unset, .unset, .unset, .unset, .unset, .unset, .unset, .unset, .unset] [(.int (fl &&& (4 : Int32)))]))
      by_cases hc173 : (fl &&& (4 : Int32)) = (0 : Int32)
      · refine GoW.by (fun _ kont => XS.ifYes X0.here hx rfl (pc0 := 32) (pc' := 39) rfl (hb hby at_32) rfl ((if0 _ _).trans (teq hc173).1) (by decide) (by decide) kont) ?_
        show GoW _ _ _ _ _ _ _ (s₁.setTop (mkF m 39 #[.val (.long ea), .second, .val (.long sm), .second, .val (.long la), .second, .val (.long rt), .second, .val (.int fl), .val (.long tt), .second, .val (.int (1 : Int32)), .val (.int (0 : Int32)), .unset, .unset, .unset, .unset, .unset, .unset, .unset, .unset, .unset, .unset] []))
        refine GoW.by (fun _ kont => XS.iconst X0.here hx rfl (hb hby at_39) (XS.istore X0.here hx rfl (hb hby at_40) rfl (l' := #[.val (.long ea), .second, .val (.long sm), .second, .val (.long la), .second, .val (.long rt), .second, .val (.int fl), .val (.long tt), .second, .val (.int (1 : Int32)), .val (.int (0 : Int32)), .val (.int (0 : Int32)), .unset, .unset, .unset, .unset, .unset, .unset, .unset, .unset, .unset]) rfl kont)) ?_
        show GoW _ _ _ _ _ _ _ (s₁.setTop (mkF m 42 #[.val (.long ea), .second, .val (.long sm), .second, .val (.long la), .second, .val (.long rt), .second, .val (.int fl), .val (.long tt), .second, .val (.int (1 : Int32)), .val (.int (0 : Int32)), .val (.int (0 : Int32)), .unset, .unset, .unset, .unset, .unset, .unset, .unset, .unset, .unset] []))
        exact cut42 (0 : Int32) (Or.inl rfl)
      · refine GoW.by (fun _ kont => XS.ifNo X0.here hx rfl (hb hby at_32) rfl ((if0 _ _).trans (feq hc173).1) kont) ?_
        show GoW _ _ _ _ _ _ _ (s₁.setTop (mkF m 35 #[.val (.long ea), .second, .val (.long sm), .second, .val (.long la), .second, .val (.long rt), .second, .val (.int fl), .val (.long tt), .second, .val (.int (1 : Int32)), .val (.int (0 : Int32)), .unset, .unset, .unset, .unset, .unset, .unset, .unset, .unset, .unset, .unset] []))
        refine GoW.by (fun _ kont => XS.iconst X0.here hx rfl (hb hby at_35) (XS.goto X0.here hx rfl (pc0 := 36) (pc' := 40) rfl (hb hby at_36) (by decide) (by decide) (XS.istore X0.here hx rfl (hb hby at_40) rfl (l' := #[.val (.long ea), .second, .val (.long sm), .second, .val (.long la), .second, .val (.long rt), .second, .val (.int fl), .val (.long tt), .second, .val (.int (1 : Int32)), .val (.int (0 : Int32)), .val (.int (1 : Int32)), .unset, .unset, .unset, .unset, .unset, .unset, .unset, .unset, .unset]) rfl kont))) ?_
        show GoW _ _ _ _ _ _ _ (s₁.setTop (mkF m 42 #[.val (.long ea), .second, .val (.long sm), .second, .val (.long la), .second, .val (.long rt), .second, .val (.int fl), .val (.long tt), .second, .val (.int (1 : Int32)), .val (.int (0 : Int32)), .val (.int (1 : Int32)), .unset, .unset, .unset, .unset, .unset, .unset, .unset, .unset, .unset] []))
        exact cut42 (1 : Int32) (Or.inr rfl)
    · refine GoW.by (fun _ kont => XS.ifNo X0.here hx rfl (hb hby at_18) rfl ((if0 _ _).trans (feq hc143).1) kont) ?_
      show GoW _ _ _ _ _ _ _ (s₁.setTop (mkF m 21 #[.val (.long ea), .second, .val (.long sm), .second, .val (.long la), .second, .val (.long rt), .second, .val (.int fl), .val (.long tt), .second, .val (.int (1 : Int32)), .unset, .unset, .unset, .unset, .unset, .unset, .unset, .unset, .unset, .unset, .unset] []))
      refine GoW.by (fun _ kont => XS.iconst X0.here hx rfl (hb hby at_21) (XS.goto X0.here hx rfl (pc0 := 22) (pc' := 26) rfl (hb hby at_22) (by decide) (by decide) (XS.istore X0.here hx rfl (hb hby at_26) rfl (l' := #[.val (.long ea), .second, .val (.long sm), .second, .val (.long la), .second, .val (.long rt), .second, .val (.int fl), .val (.long tt), .second, .val (.int (1 : Int32)), .val (.int (1 : Int32)), .unset, .unset, .unset, .unset, .unset, .unset, .unset, .unset, .unset, .unset]) rfl kont))) ?_
      show GoW _ _ _ _ _ _ _ (s₁.setTop (mkF m 28 #[.val (.long ea), .second, .val (.long sm), .second, .val (.long la), .second, .val (.long rt), .second, .val (.int fl), .val (.long tt), .second, .val (.int (1 : Int32)), .val (.int (1 : Int32)), .unset, .unset, .unset, .unset, .unset, .unset, .unset, .unset, .unset, .unset] []))
      have cut42 : ∀ (al : Int32), (al = (0 : Int32) ∨ al = (1 : Int32)) → GoW p e below s 24 2176 (Q0 Z h0 n0) (s₁.setTop (mkF m 42 #[.val (.long ea), .second, .val (.long sm), .second, .val (.long la), .second, .val (.long rt), .second, .val (.int fl), .val (.long tt), .second, .val (.int (1 : Int32)), .val (.int (1 : Int32)), .val (.int al), .unset, .unset, .unset, .unset, .unset, .unset, .unset, .unset, .unset] [])) := by
        intro al hal
        show GoW _ _ _ _ _ _ _ (s₁.setTop (mkF m 42 #[.val (.long ea), .second, .val (.long sm), .second, .val (.long la), .second, .val (.long rt), .second, .val (.int fl), .val (.long tt), .second, .val (.int (1 : Int32)), .val (.int (1 : Int32)), .val (.int al), .unset, .unset, .unset, .unset, .unset, .unset, .unset, .unset, .unset] []))
        refine GoW.by (fun _ kont => XS.iload X0.here hx rfl (hb hby at_42) rfl (XS.bipush X0.here hx rfl (hb hby at_44) (XS.iand X0.here hx rfl (hb hby at_46) rfl kont))) ?_
        show GoW _ _ _ _ _ _ _ (s₁.setTop (mkF m 47 #[.val (.long ea), .second, .val (.long sm), .second, .val (.long la), .second, .val (.long rt), .second, .val (.int fl), .val (.long tt), .second, .val (.int (1 : Int32)), .val (.int (1 : Int32)), .val (.int al), .unset, .unset, .unset, .unset, .unset, .unset, .unset, .unset, .unset] [(.int (fl &&& (8 : Int32)))]))
        by_cases hc174 : (fl &&& (8 : Int32)) = (0 : Int32)
        · refine GoW.by (fun _ kont => XS.ifYes X0.here hx rfl (pc0 := 47) (pc' := 54) rfl (hb hby at_47) rfl ((if0 _ _).trans (teq hc174).1) (by decide) (by decide) kont) ?_
          show GoW _ _ _ _ _ _ _ (s₁.setTop (mkF m 54 #[.val (.long ea), .second, .val (.long sm), .second, .val (.long la), .second, .val (.long rt), .second, .val (.int fl), .val (.long tt), .second, .val (.int (1 : Int32)), .val (.int (1 : Int32)), .val (.int al), .unset, .unset, .unset, .unset, .unset, .unset, .unset, .unset, .unset] []))
          refine GoW.by (fun _ kont => XS.iconst X0.here hx rfl (hb hby at_54) (XS.istore X0.here hx rfl (hb hby at_55) rfl (l' := #[.val (.long ea), .second, .val (.long sm), .second, .val (.long la), .second, .val (.long rt), .second, .val (.int fl), .val (.long tt), .second, .val (.int (1 : Int32)), .val (.int (1 : Int32)), .val (.int al), .val (.int (0 : Int32)), .unset, .unset, .unset, .unset, .unset, .unset, .unset, .unset]) rfl (XS.iload X0.here hx rfl (hb hby at_57) rfl kont))) ?_
          show GoW _ _ _ _ _ _ _ (s₁.setTop (mkF m 59 #[.val (.long ea), .second, .val (.long sm), .second, .val (.long la), .second, .val (.long rt), .second, .val (.int fl), .val (.long tt), .second, .val (.int (1 : Int32)), .val (.int (1 : Int32)), .val (.int al), .val (.int (0 : Int32)), .unset, .unset, .unset, .unset, .unset, .unset, .unset, .unset] [(.int (1 : Int32))]))
          refine GoW.by (fun _ kont => XS.ifNo X0.here hx rfl (hb hby at_59) rfl (by decide) kont) ?_
          show GoW _ _ _ _ _ _ _ (s₁.setTop (mkF m 62 #[.val (.long ea), .second, .val (.long sm), .second, .val (.long la), .second, .val (.long rt), .second, .val (.int fl), .val (.long tt), .second, .val (.int (1 : Int32)), .val (.int (1 : Int32)), .val (.int al), .val (.int (0 : Int32)), .unset, .unset, .unset, .unset, .unset, .unset, .unset, .unset] []))
          obtain ⟨T175, h175, X175, e175, X_175, A175, D175, -, st175⟩ := newO X0 hx hZ hown (hw _ (List.mem_of_getElem? (i := 0) rfl)) (hw _ (List.mem_of_getElem? (i := 1) rfl)) (hw _ (List.mem_of_getElem? (i := 2) rfl)) e0 (g := (mkF m 62 #[.val (.long ea), .second, .val (.long sm), .second, .val (.long la), .second, .val (.long rt), .second, .val (.int fl), .val (.long tt), .second, .val (.int (1 : Int32)), .val (.int (1 : Int32)), .val (.int al), .val (.int (0 : Int32)), .unset, .unset, .unset, .unset, .unset, .unset, .unset, .unset] [])) rfl (hb hby at_62) (by decide) (by decide)
          obtain ⟨b175, g175⟩ : ∃ z, z = h0.size := ⟨_, rfl⟩
          rw [← g175] at A175 D175 st175
          have ne_s_STARTING_b175 : s_STARTING ≠ b175 := Nat.ne_of_lt (Nat.lt_of_lt_of_le E_s_STARTING.lt (Nat.le_of_eq g175.symm))
          have ne_s_NONE_b175 : s_NONE ≠ b175 := Nat.ne_of_lt (Nat.lt_of_lt_of_le E_s_NONE.lt (Nat.le_of_eq g175.symm))
          have ne_s_COMPLETED_b175 : s_COMPLETED ≠ b175 := Nat.ne_of_lt (Nat.lt_of_lt_of_le E_s_COMPLETED.lt (Nat.le_of_eq g175.symm))
          have ne_s_FAILED_b175 : s_FAILED ≠ b175 := Nat.ne_of_lt (Nat.lt_of_lt_of_le E_s_FAILED.lt (Nat.le_of_eq g175.symm))
          have ne_s_KILLED_b175 : s_KILLED ≠ b175 := Nat.ne_of_lt (Nat.lt_of_lt_of_le E_s_KILLED.lt (Nat.le_of_eq g175.symm))
          have ne_s_cache_b175 : s_cache ≠ b175 := Nat.ne_of_lt (Nat.lt_of_lt_of_le Vl.lt (Nat.le_of_eq g175.symm))
          have ge_b175 : n0 ≤ b175 := Nat.le_trans Z0 (Nat.le_of_eq g175.symm)
          have sz_b175 : h0.size ≤ b175 := Nat.le_trans (Keep.refl h0 []).1 (Nat.le_of_eq g175.symm)
          have E176_s_STARTING := E_s_STARTING.ext X_175
          have E176_s_NONE := E_s_NONE.ext X_175
          have E176_s_COMPLETED := E_s_COMPLETED.ext X_175
          have E176_s_FAILED := E_s_FAILED.ext X_175
          have E176_s_KILLED := E_s_KILLED.ext X_175
          have V176_s_cache := Vl.ext X_175
          have S176_STARTING := S_STARTING.ext X_175
          have S176_NONE := S_NONE.ext X_175
          have S176_COMPLETED := S_COMPLETED.ext X_175
          have S176_FAILED := S_FAILED.ext X_175
          have S176_KILLED := S_KILLED.ext X_175
          have S176_cache := Sl.ext X_175
          have Z176 := Nat.le_trans Z0 X_175.1
          have hk176 := Nat.le_trans hk0 X_175.1
          have K176 : Keep h0 h175 [] := (Keep.refl h0 []).ext X_175
          have F175_kind : Fld Z h175 b175 "com/example/runpulse/runpulse/RunState$Event" "kind" "Lcom/example/runpulse/runpulse/LifecycleEvent$Kind;" .null := D175 (Or.inr (hw _ (List.mem_of_getElem? (i := 34) rfl))) (ty := (.object "com/example/runpulse/runpulse/LifecycleEvent$Kind")) (by decide)
          have F175_time : Fld Z h175 b175 "com/example/runpulse/runpulse/RunState$Event" "time" "J" (.long (0 : Int64)) := D175 (Or.inr (hw _ (List.mem_of_getElem? (i := 36) rfl))) (ty := .long) (by decide)
          have F175_details : Fld Z h175 b175 "com/example/runpulse/runpulse/RunState$Event" "details" "Lcom/example/runpulse/runpulse/EventDetails;" .null := D175 (Or.inr (hw _ (List.mem_of_getElem? (i := 38) rfl))) (ty := (.object "com/example/runpulse/runpulse/EventDetails")) (by decide)
          refine GoW.by st175 ?_
          show GoW _ _ _ _ _ _ _ (T175.setTop (mkF m 65 #[.val (.long ea), .second, .val (.long sm), .second, .val (.long la), .second, .val (.long rt), .second, .val (.int fl), .val (.long tt), .second, .val (.int (1 : Int32)), .val (.int (1 : Int32)), .val (.int al), .val (.int (0 : Int32)), .unset, .unset, .unset, .unset, .unset, .unset, .unset, .unset] [(.ref b175)]))
          refine GoW.by (fun _ kont => XS.dup X175.here hx rfl (hb hby at_65) rfl rfl kont) ?_
          show GoW _ _ _ _ _ _ _ (T175.setTop (mkF m 66 #[.val (.long ea), .second, .val (.long sm), .second, .val (.long la), .second, .val (.long rt), .second, .val (.int fl), .val (.long tt), .second, .val (.int (1 : Int32)), .val (.int (1 : Int32)), .val (.int al), .val (.int (0 : Int32)), .unset, .unset, .unset, .unset, .unset, .unset, .unset, .unset] [(.ref b175), (.ref b175)]))
          obtain ⟨T177, X177, e177, st177⟩ := getS2 X175 hx hZ hown (host := "") (Or.inl (hw _ (List.mem_of_getElem? (i := 3) rfl))) Via.refl e175 S176_STARTING (g := (mkF m 66 #[.val (.long ea), .second, .val (.long sm), .second, .val (.long la), .second, .val (.long rt), .second, .val (.int fl), .val (.long tt), .second, .val (.int (1 : Int32)), .val (.int (1 : Int32)), .val (.int al), .val (.int (0 : Int32)), .unset, .unset, .unset, .unset, .unset, .unset, .unset, .unset] [(.ref b175), (.ref b175)])) rfl (hb hby at_66)
          refine GoW.by st177 ?_
          show GoW _ _ _ _ _ _ _ (T177.setTop (mkF m 69 #[.val (.long ea), .second, .val (.long sm), .second, .val (.long la), .second, .val (.long rt), .second, .val (.int fl), .val (.long tt), .second, .val (.int (1 : Int32)), .val (.int (1 : Int32)), .val (.int al), .val (.int (0 : Int32)), .unset, .unset, .unset, .unset, .unset, .unset, .unset, .unset] [(.ref s_STARTING), (.ref b175), (.ref b175)]))
          refine GoW.by (fun _ kont => XS.lloadN X177.here hx rfl (hb hby at_69) rfl kont) ?_
          show GoW _ _ _ _ _ _ _ (T177.setTop (mkF m 70 #[.val (.long ea), .second, .val (.long sm), .second, .val (.long la), .second, .val (.long rt), .second, .val (.int fl), .val (.long tt), .second, .val (.int (1 : Int32)), .val (.int (1 : Int32)), .val (.int al), .val (.int (0 : Int32)), .unset, .unset, .unset, .unset, .unset, .unset, .unset, .unset] [(.long sm), (.ref s_STARTING), (.ref b175), (.ref b175)]))
          obtain ⟨T178, X178, e178, st178⟩ := getS2 X177 hx hZ hown (host := "") (Or.inl (hw _ (List.mem_of_getElem? (i := 6) rfl))) Via.refl e177 S176_NONE (g := (mkF m 70 #[.val (.long ea), .second, .val (.long sm), .second, .val (.long la), .second, .val (.long rt), .second, .val (.int fl), .val (.long tt), .second, .val (.int (1 : Int32)), .val (.int (1 : Int32)), .val (.int al), .val (.int (0 : Int32)), .unset, .unset, .unset, .unset, .unset, .unset, .unset, .unset] [(.long sm), (.ref s_STARTING), (.ref b175), (.ref b175)])) rfl (hb hby at_70)
          refine GoW.by st178 ?_
          show GoW _ _ _ _ _ _ _ (T178.setTop (mkF m 73 #[.val (.long ea), .second, .val (.long sm), .second, .val (.long la), .second, .val (.long rt), .second, .val (.int fl), .val (.long tt), .second, .val (.int (1 : Int32)), .val (.int (1 : Int32)), .val (.int al), .val (.int (0 : Int32)), .unset, .unset, .unset, .unset, .unset, .unset, .unset, .unset] [(.ref s_NONE), (.long sm), (.ref s_STARTING), (.ref b175), (.ref b175)]))
          obtain ⟨_, _, ⟨T179, L179, k179, n179⟩, -, X179, hS179, hg179, ⟨Lc179, hQ179, l179, y179, z179⟩, st179⟩ := X178.specialBackS hx (y := (⟨"com/example/runpulse/runpulse/RunState$Event", "<init>", "(Lcom/example/runpulse/runpulse/LifecycleEvent$Kind;JLcom/example/runpulse/runpulse/EventDetails;)V"⟩ : MethodName)) rfl hown (mvT hZ (hw _ (List.mem_of_getElem? (i := 9) rfl))) (mvT hZ (hw _ (List.mem_of_getElem? (i := 10) rfl))) (mvT hZ (hw _ (List.mem_of_getElem? (i := 11) rfl))) (by decide) (backOfS (W := 1) (rmE l Z a0 hw [] b175 s_STARTING sm s_NONE h175 n0 Z176 A175 F175_kind F175_time F175_details ge_b175) hZ (hw _ (List.mem_of_getElem? (i := 11) rfl)) (hw _ (List.mem_of_getElem? (i := 2) rfl)) (by decide) (by decide)) (g := (mkF m 73 #[.val (.long ea), .second, .val (.long sm), .second, .val (.long la), .second, .val (.long rt), .second, .val (.int fl), .val (.long tt), .second, .val (.int (1 : Int32)), .val (.int (1 : Int32)), .val (.int al), .val (.int (0 : Int32)), .unset, .unset, .unset, .unset, .unset, .unset, .unset, .unset] [(.ref s_NONE), (.long sm), (.ref s_STARTING), (.ref b175), (.ref b175)])) rfl (by rw [hml]; rfl) (Steps.refl _) (a := b175) (argsL := [(.ref s_STARTING), (.long sm), (.ref s_NONE)]) (rest := [(.ref b175)]) (lenOf pd0_3 rfl) rfl (by show 2 * 0 + _ ≤ _; exact Nat.le_of_eq rfl) (hb hby at_73) (fun _ _ => ⟨rfl, e178, (by decide : 1 + 4 ≤ _), (by decide : 3 + 52 ≤ _)⟩)
          dsimp only [Pt.U, Pt.locs, Pt.cells, Pt.slots] at X179 hS179 hg179 l179 y179 z179 st179 hQ179
          subst l179 y179 z179
          obtain ⟨X179, hS, hZ, hown⟩ := rebS hS (show _ ≤ T178.heap.size from by rw [e178]; exact hk176) X179 hS179 hg179 hZ hown
          obtain ⟨rfl, N179q, K179, E179z, F179z⟩ := hQ179
          have S180_STARTING := own_stakeep S176_STARTING K179 (allS (own_ns A175) all0)
          have S180_NONE := own_stakeep S176_NONE K179 (allS (own_ns A175) all0)
          have S180_COMPLETED := own_stakeep S176_COMPLETED K179 (allS (own_ns A175) all0)
          have S180_FAILED := own_stakeep S176_FAILED K179 (allS (own_ns A175) all0)
          have S180_KILLED := own_stakeep S176_KILLED K179 (allS (own_ns A175) all0)
          have S180_cache := own_stakeep S176_cache K179 (allS (own_ns A175) all0)
          have E180_s_STARTING := E176_s_STARTING.keep K179
          have E180_s_NONE := E176_s_NONE.keep K179
          have E180_s_COMPLETED := E176_s_COMPLETED.keep K179
          have E180_s_FAILED := E176_s_FAILED.keep K179
          have E180_s_KILLED := E176_s_KILLED.keep K179
          have E180_b175 := A175.keep K179
          have V180_s_cache := V176_s_cache.keep K179 (ninS ne_s_cache_b175 nin0)
          have Z180 := Nat.le_trans Z176 K179.1
          have K180 : Keep h0 T179.heap [] := Keep.trans K176 K179 (allS (Or.inr sz_b175) all0)
          have N179 := Fr.app N0 N179q
          refine GoW.tr st179 ?_
          show GoW _ _ _ _ _ _ _ (T179.setTop (mkF m 76 #[.val (.long ea), .second, .val (.long sm), .second, .val (.long la), .second, .val (.long rt), .second, .val (.int fl), .val (.long tt), .second, .val (.int (1 : Int32)), .val (.int (1 : Int32)), .val (.int al), .val (.int (0 : Int32)), .unset, .unset, .unset, .unset, .unset, .unset, .unset, .unset] [(.ref b175)]))
          refine GoW.by (fun _ kont => XS.goto X179.here hx rfl (pc0 := 76) (pc' := 80) rfl (hb hby at_76) (by decide) (by decide) (XS.astore X179.here hx rfl (hb hby at_80) rfl rfl (l' := #[.val (.long ea), .second, .val (.long sm), .second, .val (.long la), .second, .val (.long rt), .second, .val (.int fl), .val (.long tt), .second, .val (.int (1 : Int32)), .val (.int (1 : Int32)), .val (.int al), .val (.int (0 : Int32)), .val (.ref b175), .unset, .unset, .unset, .unset, .unset, .unset, .unset]) rfl (XS.iload X179.here hx rfl (hb hby at_82) rfl kont))) ?_
          show GoW _ _ _ _ _ _ _ (T179.setTop (mkF m 84 #[.val (.long ea), .second, .val (.long sm), .second, .val (.long la), .second, .val (.long rt), .second, .val (.int fl), .val (.long tt), .second, .val (.int (1 : Int32)), .val (.int (1 : Int32)), .val (.int al), .val (.int (0 : Int32)), .val (.ref b175), .unset, .unset, .unset, .unset, .unset, .unset, .unset] [(.int (1 : Int32))]))
          refine GoW.by (fun _ kont => XS.ifNo X179.here hx rfl (hb hby at_84) rfl (by decide) kont) ?_
          show GoW _ _ _ _ _ _ _ (T179.setTop (mkF m 87 #[.val (.long ea), .second, .val (.long sm), .second, .val (.long la), .second, .val (.long rt), .second, .val (.int fl), .val (.long tt), .second, .val (.int (1 : Int32)), .val (.int (1 : Int32)), .val (.int al), .val (.int (0 : Int32)), .val (.ref b175), .unset, .unset, .unset, .unset, .unset, .unset, .unset] []))
          refine GoW.by (fun _ kont => XS.lload X179.here hx rfl (hb hby at_87) rfl kont) ?_
          show GoW _ _ _ _ _ _ _ (T179.setTop (mkF m 89 #[.val (.long ea), .second, .val (.long sm), .second, .val (.long la), .second, .val (.long rt), .second, .val (.int fl), .val (.long tt), .second, .val (.int (1 : Int32)), .val (.int (1 : Int32)), .val (.int al), .val (.int (0 : Int32)), .val (.ref b175), .unset, .unset, .unset, .unset, .unset, .unset, .unset] [(.long rt)]))
          obtain ⟨_, _, ⟨T181, L181, k181, n181⟩, -, X181, ⟨Lc181, hQ181, l181, y181, z181⟩, st181⟩ := Jvm.LawKit.callS X179 hx (y := (⟨"java/lang/Long", "valueOf", "(J)Ljava/lang/Long;"⟩ : MethodName)) hown (mvT hZ (hw _ (List.mem_of_getElem? (i := 39) rfl))) (mvT hZ (hw _ (List.mem_of_getElem? (i := 40) rfl))) (mvT hZ (hw _ (List.mem_of_getElem? (i := 41) rfl))) (mvT hZ (hw _ (List.mem_of_getElem? (i := 42) rfl))) (by decide) (backOf (W := 0) (rmV l Z a0 hw [] rt s_cache kcl T179.heap n0 Z180 V180_s_cache S180_cache) hZ (hw _ (List.mem_of_getElem? (i := 42) rfl)) (hw _ (List.mem_of_getElem? (i := 41) rfl)) (by decide) (by decide)) (g := (mkF m 89 #[.val (.long ea), .second, .val (.long sm), .second, .val (.long la), .second, .val (.long rt), .second, .val (.int fl), .val (.long tt), .second, .val (.int (1 : Int32)), .val (.int (1 : Int32)), .val (.int al), .val (.int (0 : Int32)), .val (.ref b175), .unset, .unset, .unset, .unset, .unset, .unset, .unset] [(.long rt)])) rfl (by rw [hml]; rfl) (argsL := [(.long rt)]) (rest := []) (lenOf pd0_4 rfl) rfl (by show 2 * 0 + _ ≤ _; exact Nat.le_of_eq rfl) (hb hby at_89) (fun _ _ => ⟨rfl, rfl, (by decide : 5 + 1 ≤ _), (by decide : 55 + 1 ≤ _)⟩)
          dsimp only [Pt.U, Pt.locs, Pt.cells, Pt.slots] at X181 l181 y181 z181 st181 hQ181
          subst l181 y181 z181
          obtain ⟨y181, rfl, N181q, K181⟩ := hQ181
          have S182_STARTING := own_stakeep S180_STARTING K181 all0
          have S182_NONE := own_stakeep S180_NONE K181 all0
          have S182_COMPLETED := own_stakeep S180_COMPLETED K181 all0
          have S182_FAILED := own_stakeep S180_FAILED K181 all0
          have S182_KILLED := own_stakeep S180_KILLED K181 all0
          have S182_cache := own_stakeep S180_cache K181 all0
          have F182_time_b175 := F179z.keep K181 nin0
          have E182_s_STARTING := E180_s_STARTING.keep K181
          have E182_s_NONE := E180_s_NONE.keep K181
          have E182_s_COMPLETED := E180_s_COMPLETED.keep K181
          have E182_s_FAILED := E180_s_FAILED.keep K181
          have E182_s_KILLED := E180_s_KILLED.keep K181
          have E182_b175 := E179z.keep K181
          have V182_s_cache := V180_s_cache.keep K181 nin0
          have Z182 := Nat.le_trans Z180 K181.1
          have hk182 := Nat.le_trans (Nat.le_refl _) K181.1
          have K182 : Keep h0 T181.heap [] := Keep.trans K180 K181 all0
          have N181 := Fr.app N179 N181q
          refine GoW.by st181 ?_
          show GoW _ _ _ _ _ _ _ (T181.setTop (mkF m 92 #[.val (.long ea), .second, .val (.long sm), .second, .val (.long la), .second, .val (.long rt), .second, .val (.int fl), .val (.long tt), .second, .val (.int (1 : Int32)), .val (.int (1 : Int32)), .val (.int al), .val (.int (0 : Int32)), .val (.ref b175), .unset, .unset, .unset, .unset, .unset, .unset, .unset] [(.ref y181)]))
          refine GoW.by (fun _ kont => XS.goto X181.here hx rfl (pc0 := 92) (pc' := 96) rfl (hb hby at_92) (by decide) (by decide) (XS.astore X181.here hx rfl (hb hby at_96) rfl rfl (l' := #[.val (.long ea), .second, .val (.long sm), .second, .val (.long la), .second, .val (.long rt), .second, .val (.int fl), .val (.long tt), .second, .val (.int (1 : Int32)), .val (.int (1 : Int32)), .val (.int al), .val (.int (0 : Int32)), .val (.ref b175), .val (.ref y181), .unset, .unset, .unset, .unset, .unset, .unset]) rfl (XS.iload X181.here hx rfl (hb hby at_98) rfl kont))) ?_
          show GoW _ _ _ _ _ _ _ (T181.setTop (mkF m 100 #[.val (.long ea), .second, .val (.long sm), .second, .val (.long la), .second, .val (.long rt), .second, .val (.int fl), .val (.long tt), .second, .val (.int (1 : Int32)), .val (.int (1 : Int32)), .val (.int al), .val (.int (0 : Int32)), .val (.ref b175), .val (.ref y181), .unset, .unset, .unset, .unset, .unset, .unset] [(.int (0 : Int32))]))
          refine GoW.by (fun _ kont => XS.ifYes X181.here hx rfl (pc0 := 100) (pc' := 123) rfl (hb hby at_100) rfl (by decide) (by decide) (by decide) kont) ?_
          show GoW _ _ _ _ _ _ _ (T181.setTop (mkF m 123 #[.val (.long ea), .second, .val (.long sm), .second, .val (.long la), .second, .val (.long rt), .second, .val (.int fl), .val (.long tt), .second, .val (.int (1 : Int32)), .val (.int (1 : Int32)), .val (.int al), .val (.int (0 : Int32)), .val (.ref b175), .val (.ref y181), .unset, .unset, .unset, .unset, .unset, .unset] []))
          refine GoW.by (fun _ kont => XS.aconstNull X181.here hx rfl (hb hby at_123) (XS.astore X181.here hx rfl (hb hby at_124) rfl rfl (l' := #[.val (.long ea), .second, .val (.long sm), .second, .val (.long la), .second, .val (.long rt), .second, .val (.int fl), .val (.long tt), .second, .val (.int (1 : Int32)), .val (.int (1 : Int32)), .val (.int al), .val (.int (0 : Int32)), .val (.ref b175), .val (.ref y181), .val .null, .unset, .unset, .unset, .unset, .unset]) rfl kont)) ?_
          show GoW _ _ _ _ _ _ _ (T181.setTop (mkF m 126 #[.val (.long ea), .second, .val (.long sm), .second, .val (.long la), .second, .val (.long rt), .second, .val (.int fl), .val (.long tt), .second, .val (.int (1 : Int32)), .val (.int (1 : Int32)), .val (.int al), .val (.int (0 : Int32)), .val (.ref b175), .val (.ref y181), .val .null, .unset, .unset, .unset, .unset, .unset] []))
          obtain ⟨T183, h183, X183, e183, X_183, A183, D183, -, st183⟩ := newO X181 hx hZ hown (hw _ (List.mem_of_getElem? (i := 47) rfl)) (hw _ (List.mem_of_getElem? (i := 48) rfl)) (hw _ (List.mem_of_getElem? (i := 49) rfl)) rfl (g := (mkF m 126 #[.val (.long ea), .second, .val (.long sm), .second, .val (.long la), .second, .val (.long rt), .second, .val (.int fl), .val (.long tt), .second, .val (.int (1 : Int32)), .val (.int (1 : Int32)), .val (.int al), .val (.int (0 : Int32)), .val (.ref b175), .val (.ref y181), .val .null, .unset, .unset, .unset, .unset, .unset] [])) rfl (hb hby at_126) (by decide) (by decide)
          obtain ⟨b183, g183⟩ : ∃ z, z = T181.heap.size := ⟨_, rfl⟩
          rw [← g183] at A183 D183 st183
          have ne_b175_b183 : b175 ≠ b183 := Nat.ne_of_lt (Nat.lt_of_lt_of_le F182_time_b175.lt (Nat.le_of_eq g183.symm))
          have ne_s_STARTING_b183 : s_STARTING ≠ b183 := Nat.ne_of_lt (Nat.lt_of_lt_of_le E182_s_STARTING.lt (Nat.le_of_eq g183.symm))
          have ne_s_NONE_b183 : s_NONE ≠ b183 := Nat.ne_of_lt (Nat.lt_of_lt_of_le E182_s_NONE.lt (Nat.le_of_eq g183.symm))
          have ne_s_COMPLETED_b183 : s_COMPLETED ≠ b183 := Nat.ne_of_lt (Nat.lt_of_lt_of_le E182_s_COMPLETED.lt (Nat.le_of_eq g183.symm))
          have ne_s_FAILED_b183 : s_FAILED ≠ b183 := Nat.ne_of_lt (Nat.lt_of_lt_of_le E182_s_FAILED.lt (Nat.le_of_eq g183.symm))
          have ne_s_KILLED_b183 : s_KILLED ≠ b183 := Nat.ne_of_lt (Nat.lt_of_lt_of_le E182_s_KILLED.lt (Nat.le_of_eq g183.symm))
          have ne_s_cache_b183 : s_cache ≠ b183 := Nat.ne_of_lt (Nat.lt_of_lt_of_le V182_s_cache.lt (Nat.le_of_eq g183.symm))
          have ge_b183 : n0 ≤ b183 := Nat.le_trans Z182 (Nat.le_of_eq g183.symm)
          have sz_b183 : h0.size ≤ b183 := Nat.le_trans K182.1 (Nat.le_of_eq g183.symm)
          have F184_time_b175 := F182_time_b175.ext X_183
          have E184_s_STARTING := E182_s_STARTING.ext X_183
          have E184_s_NONE := E182_s_NONE.ext X_183
          have E184_s_COMPLETED := E182_s_COMPLETED.ext X_183
          have E184_s_FAILED := E182_s_FAILED.ext X_183
          have E184_s_KILLED := E182_s_KILLED.ext X_183
          have E184_b175 := E182_b175.ext X_183
          have V184_s_cache := V182_s_cache.ext X_183
          have S184_STARTING := S182_STARTING.ext X_183
          have S184_NONE := S182_NONE.ext X_183
          have S184_COMPLETED := S182_COMPLETED.ext X_183
          have S184_FAILED := S182_FAILED.ext X_183
          have S184_KILLED := S182_KILLED.ext X_183
          have S184_cache := S182_cache.ext X_183
          have Z184 := Nat.le_trans Z182 X_183.1
          have hk184 := Nat.le_trans hk182 X_183.1
          have K184 : Keep h0 h183 [] := K182.ext X_183
          have F183_earliest : Fld Z h183 b183 "com/example/runpulse/runpulse/RunState" "earliest" "J" (.long (0 : Int64)) := D183 (Or.inr (hw _ (List.mem_of_getElem? (i := 55) rfl))) (ty := .long) (by decide)
          have F183_latest : Fld Z h183 b183 "com/example/runpulse/runpulse/RunState" "latest" "J" (.long (0 : Int64)) := D183 (Or.inr (hw _ (List.mem_of_getElem? (i := 57) rfl))) (ty := .long) (by decide)
          have F183_starting : Fld Z h183 b183 "com/example/runpulse/runpulse/RunState" "starting" "Lcom/example/runpulse/runpulse/RunState$Event;" .null := D183 (Or.inr (hw _ (List.mem_of_getElem? (i := 59) rfl))) (ty := (.object "com/example/runpulse/runpulse/RunState$Event")) (by decide)
          have F183_running : Fld Z h183 b183 "com/example/runpulse/runpulse/RunState" "running" "Ljava/lang/Long;" .null := D183 (Or.inr (hw _ (List.mem_of_getElem? (i := 61) rfl))) (ty := (.object "java/lang/Long")) (by decide)
          have F183_alive : Fld Z h183 b183 "com/example/runpulse/runpulse/RunState" "alive" "Z" (.int (0 : Int32)) := D183 (Or.inr (hw _ (List.mem_of_getElem? (i := 63) rfl))) (ty := .boolean) (by decide)
          have F183_terminal : Fld Z h183 b183 "com/example/runpulse/runpulse/RunState" "terminal" "Lcom/example/runpulse/runpulse/RunState$Event;" .null := D183 (Or.inr (hw _ (List.mem_of_getElem? (i := 65) rfl))) (ty := (.object "com/example/runpulse/runpulse/RunState$Event")) (by decide)
          refine GoW.by st183 ?_
          show GoW _ _ _ _ _ _ _ (T183.setTop (mkF m 129 #[.val (.long ea), .second, .val (.long sm), .second, .val (.long la), .second, .val (.long rt), .second, .val (.int fl), .val (.long tt), .second, .val (.int (1 : Int32)), .val (.int (1 : Int32)), .val (.int al), .val (.int (0 : Int32)), .val (.ref b175), .val (.ref y181), .val .null, .unset, .unset, .unset, .unset, .unset] [(.ref b183)]))
          refine GoW.by (fun _ kont => XS.dup X183.here hx rfl (hb hby at_129) rfl rfl (XS.lloadN X183.here hx rfl (hb hby at_130) rfl (XS.lload X183.here hx rfl (hb hby at_131) rfl (XS.aload X183.here hx rfl (hb hby at_133) rfl rfl (XS.aload X183.here hx rfl (hb hby at_135) rfl rfl (XS.iload X183.here hx rfl (hb hby at_137) rfl kont)))))) ?_
          show GoW _ _ _ _ _ _ _ (T183.setTop (mkF m 139 #[.val (.long ea), .second, .val (.long sm), .second, .val (.long la), .second, .val (.long rt), .second, .val (.int fl), .val (.long tt), .second, .val (.int (1 : Int32)), .val (.int (1 : Int32)), .val (.int al), .val (.int (0 : Int32)), .val (.ref b175), .val (.ref y181), .val .null, .unset, .unset, .unset, .unset, .unset] [(.int al), (.ref y181), (.ref b175), (.long la), (.long ea), (.ref b183), (.ref b183)]))
          refine GoW.by (fun _ kont => XS.aload X183.here hx rfl (hb hby at_139) rfl rfl kont) ?_
          show GoW _ _ _ _ _ _ _ (T183.setTop (mkF m 141 #[.val (.long ea), .second, .val (.long sm), .second, .val (.long la), .second, .val (.long rt), .second, .val (.int fl), .val (.long tt), .second, .val (.int (1 : Int32)), .val (.int (1 : Int32)), .val (.int al), .val (.int (0 : Int32)), .val (.ref b175), .val (.ref y181), .val .null, .unset, .unset, .unset, .unset, .unset] [.null, (.int al), (.ref y181), (.ref b175), (.long la), (.long ea), (.ref b183), (.ref b183)]))
          obtain ⟨_, _, ⟨T185, L185, k185, n185⟩, -, X185, ⟨Lc185, hQ185, l185, y185, z185⟩, st185⟩ := X183.specialBack hx (y := (⟨"com/example/runpulse/runpulse/RunState", "<init>", "(JJLcom/example/runpulse/runpulse/RunState$Event;Ljava/lang/Long;ZLcom/example/runpulse/runpulse/RunState$Event;)V"⟩ : MethodName)) rfl hown (mvT hZ (hw _ (List.mem_of_getElem? (i := 50) rfl))) (mvT hZ (hw _ (List.mem_of_getElem? (i := 51) rfl))) (mvT hZ (hw _ (List.mem_of_getElem? (i := 52) rfl))) (by decide) (backOf (W := 1) (rmS3 l Z a0 hw [] b183 ea la b175 y181 al h183 n0 Z184 A183 F183_earliest F183_latest F183_starting F183_running F183_alive F183_terminal ge_b183 hal) hZ (hw _ (List.mem_of_getElem? (i := 52) rfl)) (hw _ (List.mem_of_getElem? (i := 49) rfl)) (by decide) (by decide)) (g := (mkF m 141 #[.val (.long ea), .second, .val (.long sm), .second, .val (.long la), .second, .val (.long rt), .second, .val (.int fl), .val (.long tt), .second, .val (.int (1 : Int32)), .val (.int (1 : Int32)), .val (.int al), .val (.int (0 : Int32)), .val (.ref b175), .val (.ref y181), .val .null, .unset, .unset, .unset, .unset, .unset] [.null, (.int al), (.ref y181), (.ref b175), (.long la), (.long ea), (.ref b183), (.ref b183)])) rfl (by rw [hml]; rfl) (Steps.refl _) (a := b183) (argsL := [(.long ea), (.long la), (.ref b175), (.ref y181), (.int al), .null]) (rest := [(.ref b183)]) (lenOf pd0_0 rfl) rfl (by show 2 * 0 + _ ≤ _; exact Nat.le_of_eq rfl) (hb hby at_141) (fun _ _ => ⟨rfl, e183, (by decide : 7 + 0 ≤ _), (by decide : 62 + 0 ≤ _)⟩)
          dsimp only [Pt.U, Pt.locs, Pt.cells, Pt.slots] at X185 l185 y185 z185 st185 hQ185
          subst l185 y185 z185
          obtain ⟨rfl, N185q, K185, g185_0, g185_1, g185_2, g185_3, g185_4, g185_5, g185_6⟩ := hQ185
          have S186_STARTING := own_stakeep S184_STARTING K185 (allS (own_ns A183) all0)
          have S186_NONE := own_stakeep S184_NONE K185 (allS (own_ns A183) all0)
          have S186_COMPLETED := own_stakeep S184_COMPLETED K185 (allS (own_ns A183) all0)
          have S186_FAILED := own_stakeep S184_FAILED K185 (allS (own_ns A183) all0)
          have S186_KILLED := own_stakeep S184_KILLED K185 (allS (own_ns A183) all0)
          have S186_cache := own_stakeep S184_cache K185 (allS (own_ns A183) all0)
          have F186_time_b175 := F184_time_b175.keep K185 (ninS ne_b175_b183 nin0)
          have E186_s_STARTING := E184_s_STARTING.keep K185
          have E186_s_NONE := E184_s_NONE.keep K185
          have E186_s_COMPLETED := E184_s_COMPLETED.keep K185
          have E186_s_FAILED := E184_s_FAILED.keep K185
          have E186_s_KILLED := E184_s_KILLED.keep K185
          have E186_b175 := E184_b175.keep K185
          have E186_b183 := A183.keep K185
          have V186_s_cache := V184_s_cache.keep K185 (ninS ne_s_cache_b183 nin0)
          have Z186 := Nat.le_trans Z184 K185.1
          have hk186 := Nat.le_trans hk184 K185.1
          have K186 : Keep h0 T185.heap [] := Keep.trans K184 K185 (allS (Or.inr sz_b183) all0)
          have N185 := Fr.app N181 N185q
          refine GoW.tr st185 ?_
          show GoW _ _ _ _ _ _ _ (T185.setTop (mkF m 144 #[.val (.long ea), .second, .val (.long sm), .second, .val (.long la), .second, .val (.long rt), .second, .val (.int fl), .val (.long tt), .second, .val (.int (1 : Int32)), .val (.int (1 : Int32)), .val (.int al), .val (.int (0 : Int32)), .val (.ref b175), .val (.ref y181), .val .null, .unset, .unset, .unset, .unset, .unset] [(.ref b183)]))
          refine GoW.by (fun _ kont => XS.astore X185.here hx rfl (hb hby at_144) rfl rfl (l' := #[.val (.long ea), .second, .val (.long sm), .second, .val (.long la), .second, .val (.long rt), .second, .val (.int fl), .val (.long tt), .second, .val (.int (1 : Int32)), .val (.int (1 : Int32)), .val (.int al), .val (.int (0 : Int32)), .val (.ref b175), .val (.ref y181), .val .null, .val (.ref b183), .unset, .unset, .unset, .unset]) rfl (XS.aload X185.here hx rfl (hb hby at_146) rfl rfl kont)) ?_
          show GoW _ _ _ _ _ _ _ (T185.setTop (mkF m 148 #[.val (.long ea), .second, .val (.long sm), .second, .val (.long la), .second, .val (.long rt), .second, .val (.int fl), .val (.long tt), .second, .val (.int (1 : Int32)), .val (.int (1 : Int32)), .val (.int al), .val (.int (0 : Int32)), .val (.ref b175), .val (.ref y181), .val .null, .val (.ref b183), .unset, .unset, .unset, .unset] [(.ref b183)]))
          obtain ⟨cq187, kq187, q187a, q187b, q187c⟩ := isOf hZ rfl g185_0
          obtain ⟨_, _, ⟨T187, L187, k187, n187⟩, -, X187, ⟨Lc187, hQ187, l187, y187, z187⟩, st187⟩ := X185.virtualBack hx (y := (⟨"com/example/runpulse/runpulse/RunState", "start", "()J"⟩ : MethodName)) (z := (⟨"com/example/runpulse/runpulse/RunState", "start", "()J"⟩ : MethodName)) hown (mvT hZ (hw _ (List.mem_of_getElem? (i := 66) rfl))) (mvT hZ (hw _ (List.mem_of_getElem? (i := 67) rfl))) (notFace_of_selects (args := #[]) (mvT hZ (hw _ (List.mem_of_getElem? (i := 69) rfl)))) (mvT hZ (hw _ (List.mem_of_getElem? (i := 69) rfl))) (mvT hZ (hw _ (List.mem_of_getElem? (i := 68) rfl))) (by decide) (backOf (W := 0) (rmA1 l Z a0 hw [] b183 b175 ea sm T185.heap n0 Z186 g185_0 g185_3 g185_1 E186_b175 F186_time_b175) hZ (hw _ (List.mem_of_getElem? (i := 70) rfl)) (hw _ (List.mem_of_getElem? (i := 49) rfl)) (by decide) (by decide)) q187a q187c (g := (mkF m 148 #[.val (.long ea), .second, .val (.long sm), .second, .val (.long la), .second, .val (.long rt), .second, .val (.int fl), .val (.long tt), .second, .val (.int (1 : Int32)), .val (.int (1 : Int32)), .val (.int al), .val (.int (0 : Int32)), .val (.ref b175), .val (.ref y181), .val .null, .val (.ref b183), .unset, .unset, .unset, .unset] [(.ref b183)])) rfl (by rw [hml]; rfl) (Steps.refl _) (argsL := []) (rest := []) (lenOf pd0_1 rfl) rfl (by show 2 * 0 + _ ≤ _; exact Nat.le_of_eq rfl) (hb hby at_148) (fun _ _ => ⟨rfl, rfl, (by decide : 7 + 0 ≤ _), (by decide : 62 + 0 ≤ _)⟩)
          dsimp only [Pt.U, Pt.locs, Pt.cells, Pt.slots] at X187 l187 y187 z187 st187 hQ187
          subst l187 y187 z187
          obtain ⟨rfl, N187q, eh187⟩ := hQ187
          have N187 := Fr.app N185 N187q
          refine GoW.tr st187 ?_
          show GoW _ _ _ _ _ _ _ (T187.setTop (mkF m 151 #[.val (.long ea), .second, .val (.long sm), .second, .val (.long la), .second, .val (.long rt), .second, .val (.int fl), .val (.long tt), .second, .val (.int (1 : Int32)), .val (.int (1 : Int32)), .val (.int al), .val (.int (0 : Int32)), .val (.ref b175), .val (.ref y181), .val .null, .val (.ref b183), .unset, .unset, .unset, .unset] [(.long sm)]))
          refine GoW.by (fun _ kont => XS.lstore X187.here hx rfl (hb hby at_151) rfl (l' := #[.val (.long ea), .second, .val (.long sm), .second, .val (.long la), .second, .val (.long rt), .second, .val (.int fl), .val (.long tt), .second, .val (.int (1 : Int32)), .val (.int (1 : Int32)), .val (.int al), .val (.int (0 : Int32)), .val (.ref b175), .val (.ref y181), .val .null, .val (.ref b183), .val (.long sm), .second, .unset, .unset]) rfl (XS.iload X187.here hx rfl (hb hby at_153) rfl kont)) ?_
          show GoW _ _ _ _ _ _ _ (T187.setTop (mkF m 155 #[.val (.long ea), .second, .val (.long sm), .second, .val (.long la), .second, .val (.long rt), .second, .val (.int fl), .val (.long tt), .second, .val (.int (1 : Int32)), .val (.int (1 : Int32)), .val (.int al), .val (.int (0 : Int32)), .val (.ref b175), .val (.ref y181), .val .null, .val (.ref b183), .val (.long sm), .second, .unset, .unset] [(.int (1 : Int32))]))
          refine GoW.by (fun _ kont => XS.ifNo X187.here hx rfl (hb hby at_155) rfl (by decide) kont) ?_
          show GoW _ _ _ _ _ _ _ (T187.setTop (mkF m 158 #[.val (.long ea), .second, .val (.long sm), .second, .val (.long la), .second, .val (.long rt), .second, .val (.int fl), .val (.long tt), .second, .val (.int (1 : Int32)), .val (.int (1 : Int32)), .val (.int al), .val (.int (0 : Int32)), .val (.ref b175), .val (.ref y181), .val .null, .val (.ref b183), .val (.long sm), .second, .unset, .unset] []))
          refine GoW.by (fun _ kont => XS.lloadN X187.here hx rfl (hb hby at_158) rfl (XS.lstore X187.here hx rfl (hb hby at_159) rfl (l' := #[.val (.long ea), .second, .val (.long sm), .second, .val (.long la), .second, .val (.long rt), .second, .val (.int fl), .val (.long tt), .second, .val (.int (1 : Int32)), .val (.int (1 : Int32)), .val (.int al), .val (.int (0 : Int32)), .val (.ref b175), .val (.ref y181), .val .null, .val (.ref b183), .val (.long sm), .second, .val (.long sm), .second]) rfl (XS.goto X187.here hx rfl (pc0 := 161) (pc' := 167) rfl (hb hby at_161) (by decide) (by decide) (XS.lload X187.here hx rfl (hb hby at_167) rfl (XS.lload X187.here hx rfl (hb hby at_169) rfl (XS.lcmp X187.here hx rfl (hb hby at_171) rfl kont)))))) ?_
          show GoW _ _ _ _ _ _ _ (T187.setTop (mkF m 172 #[.val (.long ea), .second, .val (.long sm), .second, .val (.long la), .second, .val (.long rt), .second, .val (.int fl), .val (.long tt), .second, .val (.int (1 : Int32)), .val (.int (1 : Int32)), .val (.int al), .val (.int (0 : Int32)), .val (.ref b175), .val (.ref y181), .val .null, .val (.ref b183), .val (.long sm), .second, .val (.long sm), .second] [(.int (lcmpW sm sm))]))
          refine GoW.by (fun _ kont => XS.ifNo X187.here hx rfl (hb hby at_172) rfl ((if0 _ _).trans (teq ((lw_eq _ _).mpr rfl)).2) kont) ?_
          show GoW _ _ _ _ _ _ _ (T187.setTop (mkF m 175 #[.val (.long ea), .second, .val (.long sm), .second, .val (.long la), .second, .val (.long rt), .second, .val (.int fl), .val (.long tt), .second, .val (.int (1 : Int32)), .val (.int (1 : Int32)), .val (.int al), .val (.int (0 : Int32)), .val (.ref b175), .val (.ref y181), .val .null, .val (.ref b183), .val (.long sm), .second, .val (.long sm), .second] []))
          refine GoW.by (fun _ kont => XS.iconst X187.here hx rfl (hb hby at_175) (XS.goto X187.here hx rfl (pc0 := 176) (pc' := 180) rfl (hb hby at_176) (by decide) (by decide) kont)) ?_
          show GoW _ _ _ _ _ _ _ (T187.setTop (mkF m 180 #[.val (.long ea), .second, .val (.long sm), .second, .val (.long la), .second, .val (.long rt), .second, .val (.int fl), .val (.long tt), .second, .val (.int (1 : Int32)), .val (.int (1 : Int32)), .val (.int al), .val (.int (0 : Int32)), .val (.ref b175), .val (.ref y181), .val .null, .val (.ref b183), .val (.long sm), .second, .val (.long sm), .second] [(.int (1 : Int32))]))
          refine GoW.retN X187 hS (by rw [eh187]; exact hk186) hx (t := .boolean) hret (by simp) hlk (hb hby at_180) ?_ (by decide) (by decide)
          show Q0 Z h0 n0 (some (.int (1 : Int32))) T187.heap _
          rw [eh187]
          exact ⟨rfl, N187⟩
        · refine GoW.by (fun _ kont => XS.ifNo X0.here hx rfl (hb hby at_47) rfl ((if0 _ _).trans (feq hc174).1) kont) ?_
          show GoW _ _ _ _ _ _ _ (s₁.setTop (mkF m 50 #[.val (.long ea), .second, .val (.long sm), .second, .val (.long la), .second, .val (.long rt), .second, .val (.int fl), .val (.long tt), .second, .val (.int (1 : Int32)), .val (.int (1 : Int32)), .val (.int al), .unset, .unset, .unset, .unset, .unset, .unset, .unset, .unset, .unset] []))
          refine GoW.by (fun _ kont => XS.iconst X0.here hx rfl (hb hby at_50) (XS.goto X0.here hx rfl (pc0 := 51) (pc' := 55) rfl (hb hby at_51) (by decide) (by decide) (XS.istore X0.here hx rfl (hb hby at_55) rfl (l' := #[.val (.long ea), .second, .val (.long sm), .second, .val (.long la), .second, .val (.long rt), .second, .val (.int fl), .val (.long tt), .second, .val (.int (1 : Int32)), .val (.int (1 : Int32)), .val (.int al), .val (.int (1 : Int32)), .unset, .unset, .unset, .unset, .unset, .unset, .unset, .unset]) rfl (XS.iload X0.here hx rfl (hb hby at_57) rfl kont)))) ?_
          show GoW _ _ _ _ _ _ _ (s₁.setTop (mkF m 59 #[.val (.long ea), .second, .val (.long sm), .second, .val (.long la), .second, .val (.long rt), .second, .val (.int fl), .val (.long tt), .second, .val (.int (1 : Int32)), .val (.int (1 : Int32)), .val (.int al), .val (.int (1 : Int32)), .unset, .unset, .unset, .unset, .unset, .unset, .unset, .unset] [(.int (1 : Int32))]))
          refine GoW.by (fun _ kont => XS.ifNo X0.here hx rfl (hb hby at_59) rfl (by decide) kont) ?_
          show GoW _ _ _ _ _ _ _ (s₁.setTop (mkF m 62 #[.val (.long ea), .second, .val (.long sm), .second, .val (.long la), .second, .val (.long rt), .second, .val (.int fl), .val (.long tt), .second, .val (.int (1 : Int32)), .val (.int (1 : Int32)), .val (.int al), .val (.int (1 : Int32)), .unset, .unset, .unset, .unset, .unset, .unset, .unset, .unset] []))
          obtain ⟨T188, h188, X188, e188, X_188, A188, D188, -, st188⟩ := newO X0 hx hZ hown (hw _ (List.mem_of_getElem? (i := 0) rfl)) (hw _ (List.mem_of_getElem? (i := 1) rfl)) (hw _ (List.mem_of_getElem? (i := 2) rfl)) e0 (g := (mkF m 62 #[.val (.long ea), .second, .val (.long sm), .second, .val (.long la), .second, .val (.long rt), .second, .val (.int fl), .val (.long tt), .second, .val (.int (1 : Int32)), .val (.int (1 : Int32)), .val (.int al), .val (.int (1 : Int32)), .unset, .unset, .unset, .unset, .unset, .unset, .unset, .unset] [])) rfl (hb hby at_62) (by decide) (by decide)
          obtain ⟨b188, g188⟩ : ∃ z, z = h0.size := ⟨_, rfl⟩
          rw [← g188] at A188 D188 st188
          have ne_s_STARTING_b188 : s_STARTING ≠ b188 := Nat.ne_of_lt (Nat.lt_of_lt_of_le E_s_STARTING.lt (Nat.le_of_eq g188.symm))
          have ne_s_NONE_b188 : s_NONE ≠ b188 := Nat.ne_of_lt (Nat.lt_of_lt_of_le E_s_NONE.lt (Nat.le_of_eq g188.symm))
          have ne_s_COMPLETED_b188 : s_COMPLETED ≠ b188 := Nat.ne_of_lt (Nat.lt_of_lt_of_le E_s_COMPLETED.lt (Nat.le_of_eq g188.symm))
          have ne_s_FAILED_b188 : s_FAILED ≠ b188 := Nat.ne_of_lt (Nat.lt_of_lt_of_le E_s_FAILED.lt (Nat.le_of_eq g188.symm))
          have ne_s_KILLED_b188 : s_KILLED ≠ b188 := Nat.ne_of_lt (Nat.lt_of_lt_of_le E_s_KILLED.lt (Nat.le_of_eq g188.symm))
          have ne_s_cache_b188 : s_cache ≠ b188 := Nat.ne_of_lt (Nat.lt_of_lt_of_le Vl.lt (Nat.le_of_eq g188.symm))
          have ge_b188 : n0 ≤ b188 := Nat.le_trans Z0 (Nat.le_of_eq g188.symm)
          have sz_b188 : h0.size ≤ b188 := Nat.le_trans (Keep.refl h0 []).1 (Nat.le_of_eq g188.symm)
          have E189_s_STARTING := E_s_STARTING.ext X_188
          have E189_s_NONE := E_s_NONE.ext X_188
          have E189_s_COMPLETED := E_s_COMPLETED.ext X_188
          have E189_s_FAILED := E_s_FAILED.ext X_188
          have E189_s_KILLED := E_s_KILLED.ext X_188
          have V189_s_cache := Vl.ext X_188
          have S189_STARTING := S_STARTING.ext X_188
          have S189_NONE := S_NONE.ext X_188
          have S189_COMPLETED := S_COMPLETED.ext X_188
          have S189_FAILED := S_FAILED.ext X_188
          have S189_KILLED := S_KILLED.ext X_188
          have S189_cache := Sl.ext X_188
          have Z189 := Nat.le_trans Z0 X_188.1
          have hk189 := Nat.le_trans hk0 X_188.1
          have K189 : Keep h0 h188 [] := (Keep.refl h0 []).ext X_188
          have F188_kind : Fld Z h188 b188 "com/example/runpulse/runpulse/RunState$Event" "kind" "Lcom/example/runpulse/runpulse/LifecycleEvent$Kind;" .null := D188 (Or.inr (hw _ (List.mem_of_getElem? (i := 34) rfl))) (ty := (.object "com/example/runpulse/runpulse/LifecycleEvent$Kind")) (by decide)
          have F188_time : Fld Z h188 b188 "com/example/runpulse/runpulse/RunState$Event" "time" "J" (.long (0 : Int64)) := D188 (Or.inr (hw _ (List.mem_of_getElem? (i := 36) rfl))) (ty := .long) (by decide)
          have F188_details : Fld Z h188 b188 "com/example/runpulse/runpulse/RunState$Event" "details" "Lcom/example/runpulse/runpulse/EventDetails;" .null := D188 (Or.inr (hw _ (List.mem_of_getElem? (i := 38) rfl))) (ty := (.object "com/example/runpulse/runpulse/EventDetails")) (by decide)
          refine GoW.by st188 ?_
          show GoW _ _ _ _ _ _ _ (T188.setTop (mkF m 65 #[.val (.long ea), .second, .val (.long sm), .second, .val (.long la), .second, .val (.long rt), .second, .val (.int fl), .val (.long tt), .second, .val (.int (1 : Int32)), .val (.int (1 : Int32)), .val (.int al), .val (.int (1 : Int32)), .unset, .unset, .unset, .unset, .unset, .unset, .unset, .unset] [(.ref b188)]))
          refine GoW.by (fun _ kont => XS.dup X188.here hx rfl (hb hby at_65) rfl rfl kont) ?_
          show GoW _ _ _ _ _ _ _ (T188.setTop (mkF m 66 #[.val (.long ea), .second, .val (.long sm), .second, .val (.long la), .second, .val (.long rt), .second, .val (.int fl), .val (.long tt), .second, .val (.int (1 : Int32)), .val (.int (1 : Int32)), .val (.int al), .val (.int (1 : Int32)), .unset, .unset, .unset, .unset, .unset, .unset, .unset, .unset] [(.ref b188), (.ref b188)]))
          obtain ⟨T190, X190, e190, st190⟩ := getS2 X188 hx hZ hown (host := "") (Or.inl (hw _ (List.mem_of_getElem? (i := 3) rfl))) Via.refl e188 S189_STARTING (g := (mkF m 66 #[.val (.long ea), .second, .val (.long sm), .second, .val (.long la), .second, .val (.long rt), .second, .val (.int fl), .val (.long tt), .second, .val (.int (1 : Int32)), .val (.int (1 : Int32)), .val (.int al), .val (.int (1 : Int32)), .unset, .unset, .unset, .unset, .unset, .unset, .unset, .unset] [(.ref b188), (.ref b188)])) rfl (hb hby at_66)
          refine GoW.by st190 ?_
          show GoW _ _ _ _ _ _ _ (T190.setTop (mkF m 69 #[.val (.long ea), .second, .val (.long sm), .second, .val (.long la), .second, .val (.long rt), .second, .val (.int fl), .val (.long tt), .second, .val (.int (1 : Int32)), .val (.int (1 : Int32)), .val (.int al), .val (.int (1 : Int32)), .unset, .unset, .unset, .unset, .unset, .unset, .unset, .unset] [(.ref s_STARTING), (.ref b188), (.ref b188)]))
          refine GoW.by (fun _ kont => XS.lloadN X190.here hx rfl (hb hby at_69) rfl kont) ?_
          show GoW _ _ _ _ _ _ _ (T190.setTop (mkF m 70 #[.val (.long ea), .second, .val (.long sm), .second, .val (.long la), .second, .val (.long rt), .second, .val (.int fl), .val (.long tt), .second, .val (.int (1 : Int32)), .val (.int (1 : Int32)), .val (.int al), .val (.int (1 : Int32)), .unset, .unset, .unset, .unset, .unset, .unset, .unset, .unset] [(.long sm), (.ref s_STARTING), (.ref b188), (.ref b188)]))
          obtain ⟨T191, X191, e191, st191⟩ := getS2 X190 hx hZ hown (host := "") (Or.inl (hw _ (List.mem_of_getElem? (i := 6) rfl))) Via.refl e190 S189_NONE (g := (mkF m 70 #[.val (.long ea), .second, .val (.long sm), .second, .val (.long la), .second, .val (.long rt), .second, .val (.int fl), .val (.long tt), .second, .val (.int (1 : Int32)), .val (.int (1 : Int32)), .val (.int al), .val (.int (1 : Int32)), .unset, .unset, .unset, .unset, .unset, .unset, .unset, .unset] [(.long sm), (.ref s_STARTING), (.ref b188), (.ref b188)])) rfl (hb hby at_70)
          refine GoW.by st191 ?_
          show GoW _ _ _ _ _ _ _ (T191.setTop (mkF m 73 #[.val (.long ea), .second, .val (.long sm), .second, .val (.long la), .second, .val (.long rt), .second, .val (.int fl), .val (.long tt), .second, .val (.int (1 : Int32)), .val (.int (1 : Int32)), .val (.int al), .val (.int (1 : Int32)), .unset, .unset, .unset, .unset, .unset, .unset, .unset, .unset] [(.ref s_NONE), (.long sm), (.ref s_STARTING), (.ref b188), (.ref b188)]))
          obtain ⟨_, _, ⟨T192, L192, k192, n192⟩, -, X192, hS192, hg192, ⟨Lc192, hQ192, l192, y192, z192⟩, st192⟩ := X191.specialBackS hx (y := (⟨"com/example/runpulse/runpulse/RunState$Event", "<init>", "(Lcom/example/runpulse/runpulse/LifecycleEvent$Kind;JLcom/example/runpulse/runpulse/EventDetails;)V"⟩ : MethodName)) rfl hown (mvT hZ (hw _ (List.mem_of_getElem? (i := 9) rfl))) (mvT hZ (hw _ (List.mem_of_getElem? (i := 10) rfl))) (mvT hZ (hw _ (List.mem_of_getElem? (i := 11) rfl))) (by decide) (backOfS (W := 1) (rmE l Z a0 hw [] b188 s_STARTING sm s_NONE h188 n0 Z189 A188 F188_kind F188_time F188_details ge_b188) hZ (hw _ (List.mem_of_getElem? (i := 11) rfl)) (hw _ (List.mem_of_getElem? (i := 2) rfl)) (by decide) (by decide)) (g := (mkF m 73 #[.val (.long ea), .second, .val (.long sm), .second, .val (.long la), .second, .val (.long rt), .second, .val (.int fl), .val (.long tt), .second, .val (.int (1 : Int32)), .val (.int (1 : Int32)), .val (.int al), .val (.int (1 : Int32)), .unset, .unset, .unset, .unset, .unset, .unset, .unset, .unset] [(.ref s_NONE), (.long sm), (.ref s_STARTING), (.ref b188), (.ref b188)])) rfl (by rw [hml]; rfl) (Steps.refl _) (a := b188) (argsL := [(.ref s_STARTING), (.long sm), (.ref s_NONE)]) (rest := [(.ref b188)]) (lenOf pd0_3 rfl) rfl (by show 2 * 0 + _ ≤ _; exact Nat.le_of_eq rfl) (hb hby at_73) (fun _ _ => ⟨rfl, e191, (by decide : 1 + 4 ≤ _), (by decide : 3 + 52 ≤ _)⟩)
          dsimp only [Pt.U, Pt.locs, Pt.cells, Pt.slots] at X192 hS192 hg192 l192 y192 z192 st192 hQ192
          subst l192 y192 z192
          obtain ⟨X192, hS, hZ, hown⟩ := rebS hS (show _ ≤ T191.heap.size from by rw [e191]; exact hk189) X192 hS192 hg192 hZ hown
          obtain ⟨rfl, N192q, K192, E192z, F192z⟩ := hQ192
          have S193_STARTING := own_stakeep S189_STARTING K192 (allS (own_ns A188) all0)
          have S193_NONE := own_stakeep S189_NONE K192 (allS (own_ns A188) all0)
          have S193_COMPLETED := own_stakeep S189_COMPLETED K192 (allS (own_ns A188) all0)
          have S193_FAILED := own_stakeep S189_FAILED K192 (allS (own_ns A188) all0)
          have S193_KILLED := own_stakeep S189_KILLED K192 (allS (own_ns A188) all0)
          have S193_cache := own_stakeep S189_cache K192 (allS (own_ns A188) all0)
          have E193_s_STARTING := E189_s_STARTING.keep K192
          have E193_s_NONE := E189_s_NONE.keep K192
          have E193_s_COMPLETED := E189_s_COMPLETED.keep K192
          have E193_s_FAILED := E189_s_FAILED.keep K192
          have E193_s_KILLED := E189_s_KILLED.keep K192
          have E193_b188 := A188.keep K192
          have V193_s_cache := V189_s_cache.keep K192 (ninS ne_s_cache_b188 nin0)
          have Z193 := Nat.le_trans Z189 K192.1
          have K193 : Keep h0 T192.heap [] := Keep.trans K189 K192 (allS (Or.inr sz_b188) all0)
          have N192 := Fr.app N0 N192q
          refine GoW.tr st192 ?_
          show GoW _ _ _ _ _ _ _ (T192.setTop (mkF m 76 #[.val (.long ea), .second, .val (.long sm), .second, .val (.long la), .second, .val (.long rt), .second, .val (.int fl), .val (.long tt), .second, .val (.int (1 : Int32)), .val (.int (1 : Int32)), .val (.int al), .val (.int (1 : Int32)), .unset, .unset, .unset, .unset, .unset, .unset, .unset, .unset] [(.ref b188)]))
          refine GoW.by (fun _ kont => XS.goto X192.here hx rfl (pc0 := 76) (pc' := 80) rfl (hb hby at_76) (by decide) (by decide) (XS.astore X192.here hx rfl (hb hby at_80) rfl rfl (l' := #[.val (.long ea), .second, .val (.long sm), .second, .val (.long la), .second, .val (.long rt), .second, .val (.int fl), .val (.long tt), .second, .val (.int (1 : Int32)), .val (.int (1 : Int32)), .val (.int al), .val (.int (1 : Int32)), .val (.ref b188), .unset, .unset, .unset, .unset, .unset, .unset, .unset]) rfl (XS.iload X192.here hx rfl (hb hby at_82) rfl kont))) ?_
          show GoW _ _ _ _ _ _ _ (T192.setTop (mkF m 84 #[.val (.long ea), .second, .val (.long sm), .second, .val (.long la), .second, .val (.long rt), .second, .val (.int fl), .val (.long tt), .second, .val (.int (1 : Int32)), .val (.int (1 : Int32)), .val (.int al), .val (.int (1 : Int32)), .val (.ref b188), .unset, .unset, .unset, .unset, .unset, .unset, .unset] [(.int (1 : Int32))]))
          refine GoW.by (fun _ kont => XS.ifNo X192.here hx rfl (hb hby at_84) rfl (by decide) kont) ?_
          show GoW _ _ _ _ _ _ _ (T192.setTop (mkF m 87 #[.val (.long ea), .second, .val (.long sm), .second, .val (.long la), .second, .val (.long rt), .second, .val (.int fl), .val (.long tt), .second, .val (.int (1 : Int32)), .val (.int (1 : Int32)), .val (.int al), .val (.int (1 : Int32)), .val (.ref b188), .unset, .unset, .unset, .unset, .unset, .unset, .unset] []))
          refine GoW.by (fun _ kont => XS.lload X192.here hx rfl (hb hby at_87) rfl kont) ?_
          show GoW _ _ _ _ _ _ _ (T192.setTop (mkF m 89 #[.val (.long ea), .second, .val (.long sm), .second, .val (.long la), .second, .val (.long rt), .second, .val (.int fl), .val (.long tt), .second, .val (.int (1 : Int32)), .val (.int (1 : Int32)), .val (.int al), .val (.int (1 : Int32)), .val (.ref b188), .unset, .unset, .unset, .unset, .unset, .unset, .unset] [(.long rt)]))
          obtain ⟨_, _, ⟨T194, L194, k194, n194⟩, -, X194, ⟨Lc194, hQ194, l194, y194, z194⟩, st194⟩ := Jvm.LawKit.callS X192 hx (y := (⟨"java/lang/Long", "valueOf", "(J)Ljava/lang/Long;"⟩ : MethodName)) hown (mvT hZ (hw _ (List.mem_of_getElem? (i := 39) rfl))) (mvT hZ (hw _ (List.mem_of_getElem? (i := 40) rfl))) (mvT hZ (hw _ (List.mem_of_getElem? (i := 41) rfl))) (mvT hZ (hw _ (List.mem_of_getElem? (i := 42) rfl))) (by decide) (backOf (W := 0) (rmV l Z a0 hw [] rt s_cache kcl T192.heap n0 Z193 V193_s_cache S193_cache) hZ (hw _ (List.mem_of_getElem? (i := 42) rfl)) (hw _ (List.mem_of_getElem? (i := 41) rfl)) (by decide) (by decide)) (g := (mkF m 89 #[.val (.long ea), .second, .val (.long sm), .second, .val (.long la), .second, .val (.long rt), .second, .val (.int fl), .val (.long tt), .second, .val (.int (1 : Int32)), .val (.int (1 : Int32)), .val (.int al), .val (.int (1 : Int32)), .val (.ref b188), .unset, .unset, .unset, .unset, .unset, .unset, .unset] [(.long rt)])) rfl (by rw [hml]; rfl) (argsL := [(.long rt)]) (rest := []) (lenOf pd0_4 rfl) rfl (by show 2 * 0 + _ ≤ _; exact Nat.le_of_eq rfl) (hb hby at_89) (fun _ _ => ⟨rfl, rfl, (by decide : 5 + 1 ≤ _), (by decide : 55 + 1 ≤ _)⟩)
          dsimp only [Pt.U, Pt.locs, Pt.cells, Pt.slots] at X194 l194 y194 z194 st194 hQ194
          subst l194 y194 z194
          obtain ⟨y194, rfl, N194q, K194⟩ := hQ194
          have S195_STARTING := own_stakeep S193_STARTING K194 all0
          have S195_NONE := own_stakeep S193_NONE K194 all0
          have S195_COMPLETED := own_stakeep S193_COMPLETED K194 all0
          have S195_FAILED := own_stakeep S193_FAILED K194 all0
          have S195_KILLED := own_stakeep S193_KILLED K194 all0
          have S195_cache := own_stakeep S193_cache K194 all0
          have F195_time_b188 := F192z.keep K194 nin0
          have E195_s_STARTING := E193_s_STARTING.keep K194
          have E195_s_NONE := E193_s_NONE.keep K194
          have E195_s_COMPLETED := E193_s_COMPLETED.keep K194
          have E195_s_FAILED := E193_s_FAILED.keep K194
          have E195_s_KILLED := E193_s_KILLED.keep K194
          have E195_b188 := E192z.keep K194
          have V195_s_cache := V193_s_cache.keep K194 nin0
          have Z195 := Nat.le_trans Z193 K194.1
          have hk195 := Nat.le_trans (Nat.le_refl _) K194.1
          have K195 : Keep h0 T194.heap [] := Keep.trans K193 K194 all0
          have N194 := Fr.app N192 N194q
          refine GoW.by st194 ?_
          show GoW _ _ _ _ _ _ _ (T194.setTop (mkF m 92 #[.val (.long ea), .second, .val (.long sm), .second, .val (.long la), .second, .val (.long rt), .second, .val (.int fl), .val (.long tt), .second, .val (.int (1 : Int32)), .val (.int (1 : Int32)), .val (.int al), .val (.int (1 : Int32)), .val (.ref b188), .unset, .unset, .unset, .unset, .unset, .unset, .unset] [(.ref y194)]))
          refine GoW.by (fun _ kont => XS.goto X194.here hx rfl (pc0 := 92) (pc' := 96) rfl (hb hby at_92) (by decide) (by decide) (XS.astore X194.here hx rfl (hb hby at_96) rfl rfl (l' := #[.val (.long ea), .second, .val (.long sm), .second, .val (.long la), .second, .val (.long rt), .second, .val (.int fl), .val (.long tt), .second, .val (.int (1 : Int32)), .val (.int (1 : Int32)), .val (.int al), .val (.int (1 : Int32)), .val (.ref b188), .val (.ref y194), .unset, .unset, .unset, .unset, .unset, .unset]) rfl (XS.iload X194.here hx rfl (hb hby at_98) rfl kont))) ?_
          show GoW _ _ _ _ _ _ _ (T194.setTop (mkF m 100 #[.val (.long ea), .second, .val (.long sm), .second, .val (.long la), .second, .val (.long rt), .second, .val (.int fl), .val (.long tt), .second, .val (.int (1 : Int32)), .val (.int (1 : Int32)), .val (.int al), .val (.int (1 : Int32)), .val (.ref b188), .val (.ref y194), .unset, .unset, .unset, .unset, .unset, .unset] [(.int (1 : Int32))]))
          refine GoW.by (fun _ kont => XS.ifNo X194.here hx rfl (hb hby at_100) rfl (by decide) kont) ?_
          show GoW _ _ _ _ _ _ _ (T194.setTop (mkF m 103 #[.val (.long ea), .second, .val (.long sm), .second, .val (.long la), .second, .val (.long rt), .second, .val (.int fl), .val (.long tt), .second, .val (.int (1 : Int32)), .val (.int (1 : Int32)), .val (.int al), .val (.int (1 : Int32)), .val (.ref b188), .val (.ref y194), .unset, .unset, .unset, .unset, .unset, .unset] []))
          obtain ⟨T196, h196, X196, e196, X_196, A196, D196, -, st196⟩ := newO X194 hx hZ hown (hw _ (List.mem_of_getElem? (i := 0) rfl)) (hw _ (List.mem_of_getElem? (i := 1) rfl)) (hw _ (List.mem_of_getElem? (i := 2) rfl)) rfl (g := (mkF m 103 #[.val (.long ea), .second, .val (.long sm), .second, .val (.long la), .second, .val (.long rt), .second, .val (.int fl), .val (.long tt), .second, .val (.int (1 : Int32)), .val (.int (1 : Int32)), .val (.int al), .val (.int (1 : Int32)), .val (.ref b188), .val (.ref y194), .unset, .unset, .unset, .unset, .unset, .unset] [])) rfl (hb hby at_103) (by decide) (by decide)
          obtain ⟨b196, g196⟩ : ∃ z, z = T194.heap.size := ⟨_, rfl⟩
          rw [← g196] at A196 D196 st196
          have ne_b188_b196 : b188 ≠ b196 := Nat.ne_of_lt (Nat.lt_of_lt_of_le F195_time_b188.lt (Nat.le_of_eq g196.symm))
          have ne_s_STARTING_b196 : s_STARTING ≠ b196 := Nat.ne_of_lt (Nat.lt_of_lt_of_le E195_s_STARTING.lt (Nat.le_of_eq g196.symm))
          have ne_s_NONE_b196 : s_NONE ≠ b196 := Nat.ne_of_lt (Nat.lt_of_lt_of_le E195_s_NONE.lt (Nat.le_of_eq g196.symm))
          have ne_s_COMPLETED_b196 : s_COMPLETED ≠ b196 := Nat.ne_of_lt (Nat.lt_of_lt_of_le E195_s_COMPLETED.lt (Nat.le_of_eq g196.symm))
          have ne_s_FAILED_b196 : s_FAILED ≠ b196 := Nat.ne_of_lt (Nat.lt_of_lt_of_le E195_s_FAILED.lt (Nat.le_of_eq g196.symm))
          have ne_s_KILLED_b196 : s_KILLED ≠ b196 := Nat.ne_of_lt (Nat.lt_of_lt_of_le E195_s_KILLED.lt (Nat.le_of_eq g196.symm))
          have ne_s_cache_b196 : s_cache ≠ b196 := Nat.ne_of_lt (Nat.lt_of_lt_of_le V195_s_cache.lt (Nat.le_of_eq g196.symm))
          have ge_b196 : n0 ≤ b196 := Nat.le_trans Z195 (Nat.le_of_eq g196.symm)
          have sz_b196 : h0.size ≤ b196 := Nat.le_trans K195.1 (Nat.le_of_eq g196.symm)
          have F197_time_b188 := F195_time_b188.ext X_196
          have E197_s_STARTING := E195_s_STARTING.ext X_196
          have E197_s_NONE := E195_s_NONE.ext X_196
          have E197_s_COMPLETED := E195_s_COMPLETED.ext X_196
          have E197_s_FAILED := E195_s_FAILED.ext X_196
          have E197_s_KILLED := E195_s_KILLED.ext X_196
          have E197_b188 := E195_b188.ext X_196
          have V197_s_cache := V195_s_cache.ext X_196
          have S197_STARTING := S195_STARTING.ext X_196
          have S197_NONE := S195_NONE.ext X_196
          have S197_COMPLETED := S195_COMPLETED.ext X_196
          have S197_FAILED := S195_FAILED.ext X_196
          have S197_KILLED := S195_KILLED.ext X_196
          have S197_cache := S195_cache.ext X_196
          have Z197 := Nat.le_trans Z195 X_196.1
          have hk197 := Nat.le_trans hk195 X_196.1
          have K197 : Keep h0 h196 [] := K195.ext X_196
          have F196_kind : Fld Z h196 b196 "com/example/runpulse/runpulse/RunState$Event" "kind" "Lcom/example/runpulse/runpulse/LifecycleEvent$Kind;" .null := D196 (Or.inr (hw _ (List.mem_of_getElem? (i := 34) rfl))) (ty := (.object "com/example/runpulse/runpulse/LifecycleEvent$Kind")) (by decide)
          have F196_time : Fld Z h196 b196 "com/example/runpulse/runpulse/RunState$Event" "time" "J" (.long (0 : Int64)) := D196 (Or.inr (hw _ (List.mem_of_getElem? (i := 36) rfl))) (ty := .long) (by decide)
          have F196_details : Fld Z h196 b196 "com/example/runpulse/runpulse/RunState$Event" "details" "Lcom/example/runpulse/runpulse/EventDetails;" .null := D196 (Or.inr (hw _ (List.mem_of_getElem? (i := 38) rfl))) (ty := (.object "com/example/runpulse/runpulse/EventDetails")) (by decide)
          refine GoW.by st196 ?_
          show GoW _ _ _ _ _ _ _ (T196.setTop (mkF m 106 #[.val (.long ea), .second, .val (.long sm), .second, .val (.long la), .second, .val (.long rt), .second, .val (.int fl), .val (.long tt), .second, .val (.int (1 : Int32)), .val (.int (1 : Int32)), .val (.int al), .val (.int (1 : Int32)), .val (.ref b188), .val (.ref y194), .unset, .unset, .unset, .unset, .unset, .unset] [(.ref b196)]))
          refine GoW.by (fun _ kont => XS.dup X196.here hx rfl (hb hby at_106) rfl rfl (XS.iload X196.here hx rfl (hb hby at_107) rfl kont)) ?_
          show GoW _ _ _ _ _ _ _ (T196.setTop (mkF m 109 #[.val (.long ea), .second, .val (.long sm), .second, .val (.long la), .second, .val (.long rt), .second, .val (.int fl), .val (.long tt), .second, .val (.int (1 : Int32)), .val (.int (1 : Int32)), .val (.int al), .val (.int (1 : Int32)), .val (.ref b188), .val (.ref y194), .unset, .unset, .unset, .unset, .unset, .unset] [(.int fl), (.ref b196), (.ref b196)]))
          obtain ⟨_, _, ⟨T198, L198, k198, n198⟩, -, X198, ⟨Lc198, hQ198, l198, y198, z198⟩, st198⟩ := Jvm.LawKit.callS X196 hx (y := (⟨"com/example/runpulse/runpulse/RunStateStartPinLaw", "terminalKind", "(I)Lcom/example/runpulse/runpulse/LifecycleEvent$Kind;"⟩ : MethodName)) hown (mvT hZ (hw _ (List.mem_of_getElem? (i := 91) rfl))) (mvT hZ (hw _ (List.mem_of_getElem? (i := 92) rfl))) (mvT hZ (hw _ (List.mem_of_getElem? (i := 93) rfl))) (mvT hZ (hw _ (List.mem_of_getElem? (i := 94) rfl))) (by decide) (backOf (W := 2) (rmT l Z a0 hw [] fl s_COMPLETED s_FAILED s_KILLED h196 n0 Z197 S197_COMPLETED S197_FAILED S197_KILLED) hZ (hw _ (List.mem_of_getElem? (i := 94) rfl)) (hw _ (List.mem_of_getElem? (i := 93) rfl)) (by decide) (by decide)) (g := (mkF m 109 #[.val (.long ea), .second, .val (.long sm), .second, .val (.long la), .second, .val (.long rt), .second, .val (.int fl), .val (.long tt), .second, .val (.int (1 : Int32)), .val (.int (1 : Int32)), .val (.int al), .val (.int (1 : Int32)), .val (.ref b188), .val (.ref y194), .unset, .unset, .unset, .unset, .unset, .unset] [(.int fl), (.ref b196), (.ref b196)])) rfl (by rw [hml]; rfl) (argsL := [(.int fl)]) (rest := [(.ref b196), (.ref b196)]) (lenOf pd0_2 rfl) rfl (by show 2 * 0 + _ ≤ _; exact Nat.le_of_eq rfl) (hb hby at_109) (fun _ _ => ⟨rfl, e196, (by decide : 7 + 0 ≤ _), (by decide : 59 + 0 ≤ _)⟩)
          dsimp only [Pt.U, Pt.locs, Pt.cells, Pt.slots] at X198 l198 y198 z198 st198 hQ198
          subst l198 y198 z198
          obtain ⟨y198, rfl, N198q, eh198⟩ := hQ198
          have N198 := Fr.app N194 N198q
          refine GoW.by st198 ?_
          show GoW _ _ _ _ _ _ _ (T198.setTop (mkF m 112 #[.val (.long ea), .second, .val (.long sm), .second, .val (.long la), .second, .val (.long rt), .second, .val (.int fl), .val (.long tt), .second, .val (.int (1 : Int32)), .val (.int (1 : Int32)), .val (.int al), .val (.int (1 : Int32)), .val (.ref b188), .val (.ref y194), .unset, .unset, .unset, .unset, .unset, .unset] [(.ref y198), (.ref b196), (.ref b196)]))
          refine GoW.by (fun _ kont => XS.lload X198.here hx rfl (hb hby at_112) rfl kont) ?_
          show GoW _ _ _ _ _ _ _ (T198.setTop (mkF m 114 #[.val (.long ea), .second, .val (.long sm), .second, .val (.long la), .second, .val (.long rt), .second, .val (.int fl), .val (.long tt), .second, .val (.int (1 : Int32)), .val (.int (1 : Int32)), .val (.int al), .val (.int (1 : Int32)), .val (.ref b188), .val (.ref y194), .unset, .unset, .unset, .unset, .unset, .unset] [(.long tt), (.ref y198), (.ref b196), (.ref b196)]))
          obtain ⟨T199, X199, e199, st199⟩ := getS2 X198 hx hZ hown (host := "") (Or.inl (hw _ (List.mem_of_getElem? (i := 6) rfl))) Via.refl eh198 S197_NONE (g := (mkF m 114 #[.val (.long ea), .second, .val (.long sm), .second, .val (.long la), .second, .val (.long rt), .second, .val (.int fl), .val (.long tt), .second, .val (.int (1 : Int32)), .val (.int (1 : Int32)), .val (.int al), .val (.int (1 : Int32)), .val (.ref b188), .val (.ref y194), .unset, .unset, .unset, .unset, .unset, .unset] [(.long tt), (.ref y198), (.ref b196), (.ref b196)])) rfl (hb hby at_114)
          refine GoW.by st199 ?_
          show GoW _ _ _ _ _ _ _ (T199.setTop (mkF m 117 #[.val (.long ea), .second, .val (.long sm), .second, .val (.long la), .second, .val (.long rt), .second, .val (.int fl), .val (.long tt), .second, .val (.int (1 : Int32)), .val (.int (1 : Int32)), .val (.int al), .val (.int (1 : Int32)), .val (.ref b188), .val (.ref y194), .unset, .unset, .unset, .unset, .unset, .unset] [(.ref s_NONE), (.long tt), (.ref y198), (.ref b196), (.ref b196)]))
          obtain ⟨_, _, ⟨T200, L200, k200, n200⟩, -, X200, hS200, hg200, ⟨Lc200, hQ200, l200, y200, z200⟩, st200⟩ := X199.specialBackS hx (y := (⟨"com/example/runpulse/runpulse/RunState$Event", "<init>", "(Lcom/example/runpulse/runpulse/LifecycleEvent$Kind;JLcom/example/runpulse/runpulse/EventDetails;)V"⟩ : MethodName)) rfl hown (mvT hZ (hw _ (List.mem_of_getElem? (i := 9) rfl))) (mvT hZ (hw _ (List.mem_of_getElem? (i := 10) rfl))) (mvT hZ (hw _ (List.mem_of_getElem? (i := 11) rfl))) (by decide) (backOfS (W := 1) (rmE l Z a0 hw [] b196 y198 tt s_NONE h196 n0 Z197 A196 F196_kind F196_time F196_details ge_b196) hZ (hw _ (List.mem_of_getElem? (i := 11) rfl)) (hw _ (List.mem_of_getElem? (i := 2) rfl)) (by decide) (by decide)) (g := (mkF m 117 #[.val (.long ea), .second, .val (.long sm), .second, .val (.long la), .second, .val (.long rt), .second, .val (.int fl), .val (.long tt), .second, .val (.int (1 : Int32)), .val (.int (1 : Int32)), .val (.int al), .val (.int (1 : Int32)), .val (.ref b188), .val (.ref y194), .unset, .unset, .unset, .unset, .unset, .unset] [(.ref s_NONE), (.long tt), (.ref y198), (.ref b196), (.ref b196)])) rfl (by rw [hml]; rfl) (Steps.refl _) (a := b196) (argsL := [(.ref y198), (.long tt), (.ref s_NONE)]) (rest := [(.ref b196)]) (lenOf pd0_3 rfl) rfl (by show 2 * 0 + _ ≤ _; exact Nat.le_of_eq rfl) (hb hby at_117) (fun _ _ => ⟨rfl, e199, (by decide : 7 + 4 ≤ _), (by decide : 59 + 52 ≤ _)⟩)
          dsimp only [Pt.U, Pt.locs, Pt.cells, Pt.slots] at X200 hS200 hg200 l200 y200 z200 st200 hQ200
          subst l200 y200 z200
          obtain ⟨X200, hS, hZ, hown⟩ := rebS hS (show _ ≤ T199.heap.size from by rw [e199]; exact hk197) X200 hS200 hg200 hZ hown
          obtain ⟨rfl, N200q, K200, E200z, F200z⟩ := hQ200
          have S201_STARTING := own_stakeep S197_STARTING K200 (allS (own_ns A196) all0)
          have S201_NONE := own_stakeep S197_NONE K200 (allS (own_ns A196) all0)
          have S201_COMPLETED := own_stakeep S197_COMPLETED K200 (allS (own_ns A196) all0)
          have S201_FAILED := own_stakeep S197_FAILED K200 (allS (own_ns A196) all0)
          have S201_KILLED := own_stakeep S197_KILLED K200 (allS (own_ns A196) all0)
          have S201_cache := own_stakeep S197_cache K200 (allS (own_ns A196) all0)
          have F201_time_b188 := F197_time_b188.keep K200 (ninS ne_b188_b196 nin0)
          have E201_s_STARTING := E197_s_STARTING.keep K200
          have E201_s_NONE := E197_s_NONE.keep K200
          have E201_s_COMPLETED := E197_s_COMPLETED.keep K200
          have E201_s_FAILED := E197_s_FAILED.keep K200
          have E201_s_KILLED := E197_s_KILLED.keep K200
          have E201_b188 := E197_b188.keep K200
          have E201_b196 := A196.keep K200
          have V201_s_cache := V197_s_cache.keep K200 (ninS ne_s_cache_b196 nin0)
          have Z201 := Nat.le_trans Z197 K200.1
          have K201 : Keep h0 T200.heap [] := Keep.trans K197 K200 (allS (Or.inr sz_b196) all0)
          have N200 := Fr.app N198 N200q
          refine GoW.tr st200 ?_
          show GoW _ _ _ _ _ _ _ (T200.setTop (mkF m 120 #[.val (.long ea), .second, .val (.long sm), .second, .val (.long la), .second, .val (.long rt), .second, .val (.int fl), .val (.long tt), .second, .val (.int (1 : Int32)), .val (.int (1 : Int32)), .val (.int al), .val (.int (1 : Int32)), .val (.ref b188), .val (.ref y194), .unset, .unset, .unset, .unset, .unset, .unset] [(.ref b196)]))
          refine GoW.by (fun _ kont => XS.goto X200.here hx rfl (pc0 := 120) (pc' := 124) rfl (hb hby at_120) (by decide) (by decide) (XS.astore X200.here hx rfl (hb hby at_124) rfl rfl (l' := #[.val (.long ea), .second, .val (.long sm), .second, .val (.long la), .second, .val (.long rt), .second, .val (.int fl), .val (.long tt), .second, .val (.int (1 : Int32)), .val (.int (1 : Int32)), .val (.int al), .val (.int (1 : Int32)), .val (.ref b188), .val (.ref y194), .val (.ref b196), .unset, .unset, .unset, .unset, .unset]) rfl kont)) ?_
          show GoW _ _ _ _ _ _ _ (T200.setTop (mkF m 126 #[.val (.long ea), .second, .val (.long sm), .second, .val (.long la), .second, .val (.long rt), .second, .val (.int fl), .val (.long tt), .second, .val (.int (1 : Int32)), .val (.int (1 : Int32)), .val (.int al), .val (.int (1 : Int32)), .val (.ref b188), .val (.ref y194), .val (.ref b196), .unset, .unset, .unset, .unset, .unset] []))
          obtain ⟨T202, h202, X202, e202, X_202, A202, D202, -, st202⟩ := newO X200 hx hZ hown (hw _ (List.mem_of_getElem? (i := 47) rfl)) (hw _ (List.mem_of_getElem? (i := 48) rfl)) (hw _ (List.mem_of_getElem? (i := 49) rfl)) rfl (g := (mkF m 126 #[.val (.long ea), .second, .val (.long sm), .second, .val (.long la), .second, .val (.long rt), .second, .val (.int fl), .val (.long tt), .second, .val (.int (1 : Int32)), .val (.int (1 : Int32)), .val (.int al), .val (.int (1 : Int32)), .val (.ref b188), .val (.ref y194), .val (.ref b196), .unset, .unset, .unset, .unset, .unset] [])) rfl (hb hby at_126) (by decide) (by decide)
          obtain ⟨b202, g202⟩ : ∃ z, z = T200.heap.size := ⟨_, rfl⟩
          rw [← g202] at A202 D202 st202
          have ne_b188_b202 : b188 ≠ b202 := Nat.ne_of_lt (Nat.lt_of_lt_of_le F201_time_b188.lt (Nat.le_of_eq g202.symm))
          have ne_b196_b202 : b196 ≠ b202 := Nat.ne_of_lt (Nat.lt_of_lt_of_le F200z.lt (Nat.le_of_eq g202.symm))
          have ne_s_STARTING_b202 : s_STARTING ≠ b202 := Nat.ne_of_lt (Nat.lt_of_lt_of_le E201_s_STARTING.lt (Nat.le_of_eq g202.symm))
          have ne_s_NONE_b202 : s_NONE ≠ b202 := Nat.ne_of_lt (Nat.lt_of_lt_of_le E201_s_NONE.lt (Nat.le_of_eq g202.symm))
          have ne_s_COMPLETED_b202 : s_COMPLETED ≠ b202 := Nat.ne_of_lt (Nat.lt_of_lt_of_le E201_s_COMPLETED.lt (Nat.le_of_eq g202.symm))
          have ne_s_FAILED_b202 : s_FAILED ≠ b202 := Nat.ne_of_lt (Nat.lt_of_lt_of_le E201_s_FAILED.lt (Nat.le_of_eq g202.symm))
          have ne_s_KILLED_b202 : s_KILLED ≠ b202 := Nat.ne_of_lt (Nat.lt_of_lt_of_le E201_s_KILLED.lt (Nat.le_of_eq g202.symm))
          have ne_s_cache_b202 : s_cache ≠ b202 := Nat.ne_of_lt (Nat.lt_of_lt_of_le V201_s_cache.lt (Nat.le_of_eq g202.symm))
          have ge_b202 : n0 ≤ b202 := Nat.le_trans Z201 (Nat.le_of_eq g202.symm)
          have sz_b202 : h0.size ≤ b202 := Nat.le_trans K201.1 (Nat.le_of_eq g202.symm)
          have F203_time_b188 := F201_time_b188.ext X_202
          have F203_time_b196 := F200z.ext X_202
          have E203_s_STARTING := E201_s_STARTING.ext X_202
          have E203_s_NONE := E201_s_NONE.ext X_202
          have E203_s_COMPLETED := E201_s_COMPLETED.ext X_202
          have E203_s_FAILED := E201_s_FAILED.ext X_202
          have E203_s_KILLED := E201_s_KILLED.ext X_202
          have E203_b188 := E201_b188.ext X_202
          have E203_b196 := E200z.ext X_202
          have V203_s_cache := V201_s_cache.ext X_202
          have S203_STARTING := S201_STARTING.ext X_202
          have S203_NONE := S201_NONE.ext X_202
          have S203_COMPLETED := S201_COMPLETED.ext X_202
          have S203_FAILED := S201_FAILED.ext X_202
          have S203_KILLED := S201_KILLED.ext X_202
          have S203_cache := S201_cache.ext X_202
          have Z203 := Nat.le_trans Z201 X_202.1
          have hk203 := Nat.le_trans (Nat.le_refl _) X_202.1
          have K203 : Keep h0 h202 [] := K201.ext X_202
          have F202_earliest : Fld Z h202 b202 "com/example/runpulse/runpulse/RunState" "earliest" "J" (.long (0 : Int64)) := D202 (Or.inr (hw _ (List.mem_of_getElem? (i := 55) rfl))) (ty := .long) (by decide)
          have F202_latest : Fld Z h202 b202 "com/example/runpulse/runpulse/RunState" "latest" "J" (.long (0 : Int64)) := D202 (Or.inr (hw _ (List.mem_of_getElem? (i := 57) rfl))) (ty := .long) (by decide)
          have F202_starting : Fld Z h202 b202 "com/example/runpulse/runpulse/RunState" "starting" "Lcom/example/runpulse/runpulse/RunState$Event;" .null := D202 (Or.inr (hw _ (List.mem_of_getElem? (i := 59) rfl))) (ty := (.object "com/example/runpulse/runpulse/RunState$Event")) (by decide)
          have F202_running : Fld Z h202 b202 "com/example/runpulse/runpulse/RunState" "running" "Ljava/lang/Long;" .null := D202 (Or.inr (hw _ (List.mem_of_getElem? (i := 61) rfl))) (ty := (.object "java/lang/Long")) (by decide)
          have F202_alive : Fld Z h202 b202 "com/example/runpulse/runpulse/RunState" "alive" "Z" (.int (0 : Int32)) := D202 (Or.inr (hw _ (List.mem_of_getElem? (i := 63) rfl))) (ty := .boolean) (by decide)
          have F202_terminal : Fld Z h202 b202 "com/example/runpulse/runpulse/RunState" "terminal" "Lcom/example/runpulse/runpulse/RunState$Event;" .null := D202 (Or.inr (hw _ (List.mem_of_getElem? (i := 65) rfl))) (ty := (.object "com/example/runpulse/runpulse/RunState$Event")) (by decide)
          refine GoW.by st202 ?_
          show GoW _ _ _ _ _ _ _ (T202.setTop (mkF m 129 #[.val (.long ea), .second, .val (.long sm), .second, .val (.long la), .second, .val (.long rt), .second, .val (.int fl), .val (.long tt), .second, .val (.int (1 : Int32)), .val (.int (1 : Int32)), .val (.int al), .val (.int (1 : Int32)), .val (.ref b188), .val (.ref y194), .val (.ref b196), .unset, .unset, .unset, .unset, .unset] [(.ref b202)]))
          refine GoW.by (fun _ kont => XS.dup X202.here hx rfl (hb hby at_129) rfl rfl (XS.lloadN X202.here hx rfl (hb hby at_130) rfl (XS.lload X202.here hx rfl (hb hby at_131) rfl (XS.aload X202.here hx rfl (hb hby at_133) rfl rfl (XS.aload X202.here hx rfl (hb hby at_135) rfl rfl (XS.iload X202.here hx rfl (hb hby at_137) rfl kont)))))) ?_
          show GoW _ _ _ _ _ _ _ (T202.setTop (mkF m 139 #[.val (.long ea), .second, .val (.long sm), .second, .val (.long la), .second, .val (.long rt), .second, .val (.int fl), .val (.long tt), .second, .val (.int (1 : Int32)), .val (.int (1 : Int32)), .val (.int al), .val (.int (1 : Int32)), .val (.ref b188), .val (.ref y194), .val (.ref b196), .unset, .unset, .unset, .unset, .unset] [(.int al), (.ref y194), (.ref b188), (.long la), (.long ea), (.ref b202), (.ref b202)]))
          refine GoW.by (fun _ kont => XS.aload X202.here hx rfl (hb hby at_139) rfl rfl kont) ?_
          show GoW _ _ _ _ _ _ _ (T202.setTop (mkF m 141 #[.val (.long ea), .second, .val (.long sm), .second, .val (.long la), .second, .val (.long rt), .second, .val (.int fl), .val (.long tt), .second, .val (.int (1 : Int32)), .val (.int (1 : Int32)), .val (.int al), .val (.int (1 : Int32)), .val (.ref b188), .val (.ref y194), .val (.ref b196), .unset, .unset, .unset, .unset, .unset] [(.ref b196), (.int al), (.ref y194), (.ref b188), (.long la), (.long ea), (.ref b202), (.ref b202)]))
          obtain ⟨_, _, ⟨T204, L204, k204, n204⟩, -, X204, ⟨Lc204, hQ204, l204, y204, z204⟩, st204⟩ := X202.specialBack hx (y := (⟨"com/example/runpulse/runpulse/RunState", "<init>", "(JJLcom/example/runpulse/runpulse/RunState$Event;Ljava/lang/Long;ZLcom/example/runpulse/runpulse/RunState$Event;)V"⟩ : MethodName)) rfl hown (mvT hZ (hw _ (List.mem_of_getElem? (i := 50) rfl))) (mvT hZ (hw _ (List.mem_of_getElem? (i := 51) rfl))) (mvT hZ (hw _ (List.mem_of_getElem? (i := 52) rfl))) (by decide) (backOf (W := 1) (rmS11 l Z a0 hw [] b202 ea la b188 y194 al b196 h202 n0 Z203 A202 F202_earliest F202_latest F202_starting F202_running F202_alive F202_terminal ge_b202 hal) hZ (hw _ (List.mem_of_getElem? (i := 52) rfl)) (hw _ (List.mem_of_getElem? (i := 49) rfl)) (by decide) (by decide)) (g := (mkF m 141 #[.val (.long ea), .second, .val (.long sm), .second, .val (.long la), .second, .val (.long rt), .second, .val (.int fl), .val (.long tt), .second, .val (.int (1 : Int32)), .val (.int (1 : Int32)), .val (.int al), .val (.int (1 : Int32)), .val (.ref b188), .val (.ref y194), .val (.ref b196), .unset, .unset, .unset, .unset, .unset] [(.ref b196), (.int al), (.ref y194), (.ref b188), (.long la), (.long ea), (.ref b202), (.ref b202)])) rfl (by rw [hml]; rfl) (Steps.refl _) (a := b202) (argsL := [(.long ea), (.long la), (.ref b188), (.ref y194), (.int al), (.ref b196)]) (rest := [(.ref b202)]) (lenOf pd0_0 rfl) rfl (by show 2 * 0 + _ ≤ _; exact Nat.le_of_eq rfl) (hb hby at_141) (fun _ _ => ⟨rfl, e202, (by decide : 12 + 0 ≤ _), (by decide : 117 + 0 ≤ _)⟩)
          dsimp only [Pt.U, Pt.locs, Pt.cells, Pt.slots] at X204 l204 y204 z204 st204 hQ204
          subst l204 y204 z204
          obtain ⟨rfl, N204q, K204, g204_0, g204_1, g204_2, g204_3, g204_4, g204_5, g204_6⟩ := hQ204
          have S205_STARTING := own_stakeep S203_STARTING K204 (allS (own_ns A202) all0)
          have S205_NONE := own_stakeep S203_NONE K204 (allS (own_ns A202) all0)
          have S205_COMPLETED := own_stakeep S203_COMPLETED K204 (allS (own_ns A202) all0)
          have S205_FAILED := own_stakeep S203_FAILED K204 (allS (own_ns A202) all0)
          have S205_KILLED := own_stakeep S203_KILLED K204 (allS (own_ns A202) all0)
          have S205_cache := own_stakeep S203_cache K204 (allS (own_ns A202) all0)
          have F205_time_b188 := F203_time_b188.keep K204 (ninS ne_b188_b202 nin0)
          have F205_time_b196 := F203_time_b196.keep K204 (ninS ne_b196_b202 nin0)
          have E205_s_STARTING := E203_s_STARTING.keep K204
          have E205_s_NONE := E203_s_NONE.keep K204
          have E205_s_COMPLETED := E203_s_COMPLETED.keep K204
          have E205_s_FAILED := E203_s_FAILED.keep K204
          have E205_s_KILLED := E203_s_KILLED.keep K204
          have E205_b188 := E203_b188.keep K204
          have E205_b196 := E203_b196.keep K204
          have E205_b202 := A202.keep K204
          have V205_s_cache := V203_s_cache.keep K204 (ninS ne_s_cache_b202 nin0)
          have Z205 := Nat.le_trans Z203 K204.1
          have hk205 := Nat.le_trans hk203 K204.1
          have K205 : Keep h0 T204.heap [] := Keep.trans K203 K204 (allS (Or.inr sz_b202) all0)
          have N204 := Fr.app N200 N204q
          refine GoW.tr st204 ?_
          show GoW _ _ _ _ _ _ _ (T204.setTop (mkF m 144 #[.val (.long ea), .second, .val (.long sm), .second, .val (.long la), .second, .val (.long rt), .second, .val (.int fl), .val (.long tt), .second, .val (.int (1 : Int32)), .val (.int (1 : Int32)), .val (.int al), .val (.int (1 : Int32)), .val (.ref b188), .val (.ref y194), .val (.ref b196), .unset, .unset, .unset, .unset, .unset] [(.ref b202)]))
          refine GoW.by (fun _ kont => XS.astore X204.here hx rfl (hb hby at_144) rfl rfl (l' := #[.val (.long ea), .second, .val (.long sm), .second, .val (.long la), .second, .val (.long rt), .second, .val (.int fl), .val (.long tt), .second, .val (.int (1 : Int32)), .val (.int (1 : Int32)), .val (.int al), .val (.int (1 : Int32)), .val (.ref b188), .val (.ref y194), .val (.ref b196), .val (.ref b202), .unset, .unset, .unset, .unset]) rfl (XS.aload X204.here hx rfl (hb hby at_146) rfl rfl kont)) ?_
          show GoW _ _ _ _ _ _ _ (T204.setTop (mkF m 148 #[.val (.long ea), .second, .val (.long sm), .second, .val (.long la), .second, .val (.long rt), .second, .val (.int fl), .val (.long tt), .second, .val (.int (1 : Int32)), .val (.int (1 : Int32)), .val (.int al), .val (.int (1 : Int32)), .val (.ref b188), .val (.ref y194), .val (.ref b196), .val (.ref b202), .unset, .unset, .unset, .unset] [(.ref b202)]))
          obtain ⟨cq206, kq206, q206a, q206b, q206c⟩ := isOf hZ rfl g204_0
          obtain ⟨_, _, ⟨T206, L206, k206, n206⟩, -, X206, ⟨Lc206, hQ206, l206, y206, z206⟩, st206⟩ := X204.virtualBack hx (y := (⟨"com/example/runpulse/runpulse/RunState", "start", "()J"⟩ : MethodName)) (z := (⟨"com/example/runpulse/runpulse/RunState", "start", "()J"⟩ : MethodName)) hown (mvT hZ (hw _ (List.mem_of_getElem? (i := 66) rfl))) (mvT hZ (hw _ (List.mem_of_getElem? (i := 67) rfl))) (notFace_of_selects (args := #[]) (mvT hZ (hw _ (List.mem_of_getElem? (i := 69) rfl)))) (mvT hZ (hw _ (List.mem_of_getElem? (i := 69) rfl))) (mvT hZ (hw _ (List.mem_of_getElem? (i := 68) rfl))) (by decide) (backOf (W := 0) (rmA1 l Z a0 hw [] b202 b188 ea sm T204.heap n0 Z205 g204_0 g204_3 g204_1 E205_b188 F205_time_b188) hZ (hw _ (List.mem_of_getElem? (i := 70) rfl)) (hw _ (List.mem_of_getElem? (i := 49) rfl)) (by decide) (by decide)) q206a q206c (g := (mkF m 148 #[.val (.long ea), .second, .val (.long sm), .second, .val (.long la), .second, .val (.long rt), .second, .val (.int fl), .val (.long tt), .second, .val (.int (1 : Int32)), .val (.int (1 : Int32)), .val (.int al), .val (.int (1 : Int32)), .val (.ref b188), .val (.ref y194), .val (.ref b196), .val (.ref b202), .unset, .unset, .unset, .unset] [(.ref b202)])) rfl (by rw [hml]; rfl) (Steps.refl _) (argsL := []) (rest := []) (lenOf pd0_1 rfl) rfl (by show 2 * 0 + _ ≤ _; exact Nat.le_of_eq rfl) (hb hby at_148) (fun _ _ => ⟨rfl, rfl, (by decide : 12 + 0 ≤ _), (by decide : 117 + 0 ≤ _)⟩)
          dsimp only [Pt.U, Pt.locs, Pt.cells, Pt.slots] at X206 l206 y206 z206 st206 hQ206
          subst l206 y206 z206
          obtain ⟨rfl, N206q, eh206⟩ := hQ206
          have N206 := Fr.app N204 N206q
          refine GoW.tr st206 ?_
          show GoW _ _ _ _ _ _ _ (T206.setTop (mkF m 151 #[.val (.long ea), .second, .val (.long sm), .second, .val (.long la), .second, .val (.long rt), .second, .val (.int fl), .val (.long tt), .second, .val (.int (1 : Int32)), .val (.int (1 : Int32)), .val (.int al), .val (.int (1 : Int32)), .val (.ref b188), .val (.ref y194), .val (.ref b196), .val (.ref b202), .unset, .unset, .unset, .unset] [(.long sm)]))
          refine GoW.by (fun _ kont => XS.lstore X206.here hx rfl (hb hby at_151) rfl (l' := #[.val (.long ea), .second, .val (.long sm), .second, .val (.long la), .second, .val (.long rt), .second, .val (.int fl), .val (.long tt), .second, .val (.int (1 : Int32)), .val (.int (1 : Int32)), .val (.int al), .val (.int (1 : Int32)), .val (.ref b188), .val (.ref y194), .val (.ref b196), .val (.ref b202), .val (.long sm), .second, .unset, .unset]) rfl (XS.iload X206.here hx rfl (hb hby at_153) rfl kont)) ?_
          show GoW _ _ _ _ _ _ _ (T206.setTop (mkF m 155 #[.val (.long ea), .second, .val (.long sm), .second, .val (.long la), .second, .val (.long rt), .second, .val (.int fl), .val (.long tt), .second, .val (.int (1 : Int32)), .val (.int (1 : Int32)), .val (.int al), .val (.int (1 : Int32)), .val (.ref b188), .val (.ref y194), .val (.ref b196), .val (.ref b202), .val (.long sm), .second, .unset, .unset] [(.int (1 : Int32))]))
          refine GoW.by (fun _ kont => XS.ifNo X206.here hx rfl (hb hby at_155) rfl (by decide) kont) ?_
          show GoW _ _ _ _ _ _ _ (T206.setTop (mkF m 158 #[.val (.long ea), .second, .val (.long sm), .second, .val (.long la), .second, .val (.long rt), .second, .val (.int fl), .val (.long tt), .second, .val (.int (1 : Int32)), .val (.int (1 : Int32)), .val (.int al), .val (.int (1 : Int32)), .val (.ref b188), .val (.ref y194), .val (.ref b196), .val (.ref b202), .val (.long sm), .second, .unset, .unset] []))
          refine GoW.by (fun _ kont => XS.lloadN X206.here hx rfl (hb hby at_158) rfl (XS.lstore X206.here hx rfl (hb hby at_159) rfl (l' := #[.val (.long ea), .second, .val (.long sm), .second, .val (.long la), .second, .val (.long rt), .second, .val (.int fl), .val (.long tt), .second, .val (.int (1 : Int32)), .val (.int (1 : Int32)), .val (.int al), .val (.int (1 : Int32)), .val (.ref b188), .val (.ref y194), .val (.ref b196), .val (.ref b202), .val (.long sm), .second, .val (.long sm), .second]) rfl (XS.goto X206.here hx rfl (pc0 := 161) (pc' := 167) rfl (hb hby at_161) (by decide) (by decide) (XS.lload X206.here hx rfl (hb hby at_167) rfl (XS.lload X206.here hx rfl (hb hby at_169) rfl (XS.lcmp X206.here hx rfl (hb hby at_171) rfl kont)))))) ?_
          show GoW _ _ _ _ _ _ _ (T206.setTop (mkF m 172 #[.val (.long ea), .second, .val (.long sm), .second, .val (.long la), .second, .val (.long rt), .second, .val (.int fl), .val (.long tt), .second, .val (.int (1 : Int32)), .val (.int (1 : Int32)), .val (.int al), .val (.int (1 : Int32)), .val (.ref b188), .val (.ref y194), .val (.ref b196), .val (.ref b202), .val (.long sm), .second, .val (.long sm), .second] [(.int (lcmpW sm sm))]))
          refine GoW.by (fun _ kont => XS.ifNo X206.here hx rfl (hb hby at_172) rfl ((if0 _ _).trans (teq ((lw_eq _ _).mpr rfl)).2) kont) ?_
          show GoW _ _ _ _ _ _ _ (T206.setTop (mkF m 175 #[.val (.long ea), .second, .val (.long sm), .second, .val (.long la), .second, .val (.long rt), .second, .val (.int fl), .val (.long tt), .second, .val (.int (1 : Int32)), .val (.int (1 : Int32)), .val (.int al), .val (.int (1 : Int32)), .val (.ref b188), .val (.ref y194), .val (.ref b196), .val (.ref b202), .val (.long sm), .second, .val (.long sm), .second] []))
          refine GoW.by (fun _ kont => XS.iconst X206.here hx rfl (hb hby at_175) (XS.goto X206.here hx rfl (pc0 := 176) (pc' := 180) rfl (hb hby at_176) (by decide) (by decide) kont)) ?_
          show GoW _ _ _ _ _ _ _ (T206.setTop (mkF m 180 #[.val (.long ea), .second, .val (.long sm), .second, .val (.long la), .second, .val (.long rt), .second, .val (.int fl), .val (.long tt), .second, .val (.int (1 : Int32)), .val (.int (1 : Int32)), .val (.int al), .val (.int (1 : Int32)), .val (.ref b188), .val (.ref y194), .val (.ref b196), .val (.ref b202), .val (.long sm), .second, .val (.long sm), .second] [(.int (1 : Int32))]))
          refine GoW.retN X206 hS (by rw [eh206]; exact hk205) hx (t := .boolean) hret (by simp) hlk (hb hby at_180) ?_ (by decide) (by decide)
          show Q0 Z h0 n0 (some (.int (1 : Int32))) T206.heap _
          rw [eh206]
          exact ⟨rfl, N206⟩
      show GoW _ _ _ _ _ _ _ (s₁.setTop (mkF m 28 #[.val (.long ea), .second, .val (.long sm), .second, .val (.long la), .second, .val (.long rt), .second, .val (.int fl), .val (.long tt), .second, .val (.int (1 : Int32)), .val (.int (1 : Int32)), .unset, .unset, .unset, .unset, .unset, .unset, .unset, .unset, .unset, .unset] []))
      refine GoW.by (fun _ kont => XS.iload X0.here hx rfl (hb hby at_28) rfl (XS.iconst X0.here hx rfl (hb hby at_30) (XS.iand X0.here hx rfl (hb hby at_31) rfl kont))) ?_
      show GoW _ _ _ _ _ _ _ (s₁.setTop (mkF m 32 #[.val (.long ea), .second, .val (.long sm), .second, .val (.long la), .second, .val (.long rt), .second, .val (.int fl), .val (.long tt), .second, .val (.int (1 : Int32)), .val (.int (1 : Int32)), .unset, .unset, .unset, .unset, .unset, .unset, .unset, .unset, .unset, .unset] [(.int (fl &&& (4 : Int32)))]))
      by_cases hc207 : (fl &&& (4 : Int32)) = (0 : Int32)
      · refine GoW.by (fun _ kont => XS.ifYes X0.here hx rfl (pc0 := 32) (pc' := 39) rfl (hb hby at_32) rfl ((if0 _ _).trans (teq hc207).1) (by decide) (by decide) kont) ?_
        show GoW _ _ _ _ _ _ _ (s₁.setTop (mkF m 39 #[.val (.long ea), .second, .val (.long sm), .second, .val (.long la), .second, .val (.long rt), .second, .val (.int fl), .val (.long tt), .second, .val (.int (1 : Int32)), .val (.int (1 : Int32)), .unset, .unset, .unset, .unset, .unset, .unset, .unset, .unset, .unset, .unset] []))
        refine GoW.by (fun _ kont => XS.iconst X0.here hx rfl (hb hby at_39) (XS.istore X0.here hx rfl (hb hby at_40) rfl (l' := #[.val (.long ea), .second, .val (.long sm), .second, .val (.long la), .second, .val (.long rt), .second, .val (.int fl), .val (.long tt), .second, .val (.int (1 : Int32)), .val (.int (1 : Int32)), .val (.int (0 : Int32)), .unset, .unset, .unset, .unset, .unset, .unset, .unset, .unset, .unset]) rfl kont)) ?_
        show GoW _ _ _ _ _ _ _ (s₁.setTop (mkF m 42 #[.val (.long ea), .second, .val (.long sm), .second, .val (.long la), .second, .val (.long rt), .second, .val (.int fl), .val (.long tt), .second, .val (.int (1 : Int32)), .val (.int (1 : Int32)), .val (.int (0 : Int32)), .unset, .unset, .unset, .unset, .unset, .unset, .unset, .unset, .unset] []))
        exact cut42 (0 : Int32) (Or.inl rfl)
      · refine GoW.by (fun _ kont => XS.ifNo X0.here hx rfl (hb hby at_32) rfl ((if0 _ _).trans (feq hc207).1) kont) ?_
        show GoW _ _ _ _ _ _ _ (s₁.setTop (mkF m 35 #[.val (.long ea), .second, .val (.long sm), .second, .val (.long la), .second, .val (.long rt), .second, .val (.int fl), .val (.long tt), .second, .val (.int (1 : Int32)), .val (.int (1 : Int32)), .unset, .unset, .unset, .unset, .unset, .unset, .unset, .unset, .unset, .unset] []))
        refine GoW.by (fun _ kont => XS.iconst X0.here hx rfl (hb hby at_35) (XS.goto X0.here hx rfl (pc0 := 36) (pc' := 40) rfl (hb hby at_36) (by decide) (by decide) (XS.istore X0.here hx rfl (hb hby at_40) rfl (l' := #[.val (.long ea), .second, .val (.long sm), .second, .val (.long la), .second, .val (.long rt), .second, .val (.int fl), .val (.long tt), .second, .val (.int (1 : Int32)), .val (.int (1 : Int32)), .val (.int (1 : Int32)), .unset, .unset, .unset, .unset, .unset, .unset, .unset, .unset, .unset]) rfl kont))) ?_
        show GoW _ _ _ _ _ _ _ (s₁.setTop (mkF m 42 #[.val (.long ea), .second, .val (.long sm), .second, .val (.long la), .second, .val (.long rt), .second, .val (.int fl), .val (.long tt), .second, .val (.int (1 : Int32)), .val (.int (1 : Int32)), .val (.int (1 : Int32)), .unset, .unset, .unset, .unset, .unset, .unset, .unset, .unset, .unset] []))
        exact cut42 (1 : Int32) (Or.inr rfl)

set_option maxRecDepth 65536 in
set_option maxHeartbeats 40000000 in
theorem comes_1 {Post : Tables → Env → Array Value → State → Outcome → State → Prop} (hpost : ∀ tb e args s v u, (limb_1_1.after args s (.returned v) u = true ∧ limb_1_2.after args s (.returned v) u = true ∧ True) → ReturnedEndW s (.returned v) u (Jvm.fieldLocs frame_1_writes args s ++ Jvm.arrayLocs frame_1_arrays args s ++ Jvm.staticLocs frame_1_statics s) 24 2176 → Post tb e args s (.returned v) u) :
    ArmFor flags0 classFile x code maxLocals ret World_1 tables_1 room_1 Calls_1 rest_1 Pre_1 Post := by
  intro l hfl _ _ p e ha hc hk s m args below hf hA hF happ hP
  obtain ⟨hcalls, hrest, hpre⟩ := hP
  obtain ⟨-, -, -, hnamed, -, -, -, hat⟩ := (Spec.applies_iff hf).mp happ
  obtain ⟨hg, hn⟩ := and_e (Cond.before_iff.mp (show (Jvm.Cond.and given_1 narrow_1).before args s = true from hpre))
  obtain ⟨hh1, hh2⟩ := and_e hg
  obtain ⟨hh3, hh4⟩ := and_e hh2
  obtain ⟨hh5, hh6⟩ := and_e hh4
  obtain ⟨hh7, hh8⟩ := and_e hh6
  obtain ⟨hh9, hh10⟩ := and_e hh8
  obtain ⟨hh11, hh12⟩ := and_e hh10
  obtain ⟨w0, w1, w2, w3, w4, w5, rfl⟩ : ∃ w0 w1 w2 w3 w4 w5 : Value, args = #[w0, w1, w2, w3, w4, w5] := by
    have hs : args.size = 6 := by simpa [Cond.value, given_1] using hh1
    obtain ⟨L⟩ := args
    match L, hs with
    | [w0, w1, w2, w3, w4, w5], _ => exact ⟨w0, w1, w2, w3, w4, w5, rfl⟩
  have hw := fun d (hd : d ∈ tables_1) => atoms_spec (ws := Jvm.Cond.code x code maxLocals ret :: tables_1) hat d (List.mem_cons_of_mem _ hd)
  obtain ⟨i0, ei0⟩ := isL_v hh3
  obtain rfl : w0 = (.long i0) := Option.some.inj ei0
  obtain ⟨i1, ei1⟩ := isL_v hh5
  obtain rfl : w1 = (.long i1) := Option.some.inj ei1
  obtain ⟨i2, ei2⟩ := isL_v hh7
  obtain rfl : w2 = (.long i2) := Option.some.inj ei2
  obtain ⟨i3, ei3⟩ := isL_v hh9
  obtain rfl : w3 = (.long i3) := Option.some.inj ei3
  obtain ⟨i4, ei4⟩ := is_v hh11
  obtain rfl : w4 = (.int i4) := Option.some.inj ei4
  obtain ⟨i5, ei5⟩ := isL_v hh12
  obtain rfl : w5 = (.long i5) := Option.some.inj ei5
  have hfit : Fit s := fun {y c} hc i hi => by
    obtain ⟨ha, rfl⟩ := Array.getElem?_eq_some_iff.mp hc
    have q := List.all_eq_true.mp ((Array.all_eq_true_iff_forall_mem.mp hF) _ (Array.getElem_mem ha)) i (List.mem_range.mpr hi)
    simpa [Array.getElem?_eq_getElem hi] using q
  obtain ⟨hm1, hm2⟩ := and_e hn
  obtain ⟨hm3, hm4⟩ := and_e hm2
  obtain ⟨hm5, hm6⟩ := and_e hm4
  obtain ⟨hm7, hm8⟩ := and_e hm6
  obtain ⟨s_STARTING, ev9⟩ := exa_v hm1
  have S_STARTING : Sta s s.heap "com/example/runpulse/runpulse/LifecycleEvent$Kind" "STARTING" "Lcom/example/runpulse/runpulse/LifecycleEvent$Kind;" (.ref s_STARTING) := Sta.start ev9 (Or.inr ⟨(hw _ (List.mem_of_getElem? (i := 4) rfl)), (hw _ (List.mem_of_getElem? (i := 5) rfl))⟩)
  have E_s_STARTING : Exa s s.heap s_STARTING "com/example/runpulse/runpulse/LifecycleEvent$Kind" := Exa.start ev9 hm1
  obtain ⟨s_NONE, ev10⟩ := exa_v hm3
  have S_NONE : Sta s s.heap "com/example/runpulse/runpulse/EventDetails" "NONE" "Lcom/example/runpulse/runpulse/EventDetails;" (.ref s_NONE) := Sta.start ev10 (Or.inr ⟨(hw _ (List.mem_of_getElem? (i := 7) rfl)), (hw _ (List.mem_of_getElem? (i := 8) rfl))⟩)
  have E_s_NONE : Exa s s.heap s_NONE "com/example/runpulse/runpulse/EventDetails" := Exa.start ev10 hm3
  obtain ⟨s_COMPLETED, ev11⟩ := exa_v hm5
  have S_COMPLETED : Sta s s.heap "com/example/runpulse/runpulse/LifecycleEvent$Kind" "COMPLETED" "Lcom/example/runpulse/runpulse/LifecycleEvent$Kind;" (.ref s_COMPLETED) := Sta.start ev11 (Or.inr ⟨(hw _ (List.mem_of_getElem? (i := 4) rfl)), (hw _ (List.mem_of_getElem? (i := 97) rfl))⟩)
  have E_s_COMPLETED : Exa s s.heap s_COMPLETED "com/example/runpulse/runpulse/LifecycleEvent$Kind" := Exa.start ev11 hm5
  obtain ⟨s_FAILED, ev12⟩ := exa_v hm7
  have S_FAILED : Sta s s.heap "com/example/runpulse/runpulse/LifecycleEvent$Kind" "FAILED" "Lcom/example/runpulse/runpulse/LifecycleEvent$Kind;" (.ref s_FAILED) := Sta.start ev12 (Or.inr ⟨(hw _ (List.mem_of_getElem? (i := 4) rfl)), (hw _ (List.mem_of_getElem? (i := 99) rfl))⟩)
  have E_s_FAILED : Exa s s.heap s_FAILED "com/example/runpulse/runpulse/LifecycleEvent$Kind" := Exa.start ev12 hm7
  obtain ⟨s_KILLED, ev13⟩ := exa_v hm8
  have S_KILLED : Sta s s.heap "com/example/runpulse/runpulse/LifecycleEvent$Kind" "KILLED" "Lcom/example/runpulse/runpulse/LifecycleEvent$Kind;" (.ref s_KILLED) := Sta.start ev13 (Or.inr ⟨(hw _ (List.mem_of_getElem? (i := 4) rfl)), (hw _ (List.mem_of_getElem? (i := 101) rfl))⟩)
  have E_s_KILLED : Exa s s.heap s_KILLED "com/example/runpulse/runpulse/LifecycleEvent$Kind" := Exa.start ev13 hm8
  obtain ⟨hsets, hown0⟩ := atoms_of _ (rest_1_c_eq ▸ (show rest_1_c.before _ s = true from hrest))
  obtain ⟨s_cache, evc⟩ := arr_v (Cond.before_iff.mp (hsets _ (List.mem_of_getElem? (i := 2) rfl)))
  obtain ⟨clc, Arc⟩ := Arr.start evc (Cond.before_iff.mp (hsets _ (List.mem_of_getElem? (i := 2) rfl)))
  have Sl : Sta s s.heap "java/lang/Long$LongCache" "cache" "[Ljava/lang/Long;" (.ref s_cache) := Sta.start evc (Or.inl (hsets _ (List.mem_of_getElem? (i := 1) rfl)))
  have Lc := own_lenv (own_eqI (Cond.before_iff.mp (hsets _ (List.mem_of_getElem? (i := 4) rfl)))) evc Arc.1
  have Vl : LC s s.heap s_cache clc.cls := by
    refine ⟨clc, Arc, rfl, ?_, fun j hj => ?_⟩
    · have e := congrArg Int32.toInt Lc.2
      rw [len_toInt Lc.1] at e
      have e16 : (256 : Int32).toInt = 256 := by decide
      have e17 : (256 : Int32).toNatClampNeg = 256 := by decide
      omega
    · have hlt : j.toNatClampNeg < clc.slots.size := Nat.lt_of_not_le fun y => hj (Or.inr y)
      have hj0 : ¬ j < 0 := fun y => hj (Or.inl y)
      have q1 := Cond.all_elim (show (Term.static "java/lang/Long$LongCache" "cache" "[Ljava/lang/Long;").eval _ _ _ _ _ = _ from evc) (Arc.fin (Vm.Alike.refl _)) (Cond.before_iff.mp (hsets _ (List.mem_of_getElem? (i := 5) rfl))) j.toNatClampNeg hlt
      obtain ⟨q2, -⟩ := and_e q1
      obtain ⟨y, ey⟩ := exa_v q2
      refine ⟨y, ?_⟩
      rw [elem_f (show (Term.static "java/lang/Long$LongCache" "cache" "[Ljava/lang/Long;").eval #[.long i0, .long i1, .long i2, .long i3, .int i4, .long i5] s none [j.toNatClampNeg] s = some (.ref s_cache) from evc) (idx_at hj0) (Arc.fin (Vm.Alike.refl _)) hj0] at ey
      exact ey
  obtain ⟨n, o, h1, h2, h3, _, L, rfl, ⟨rfl, N⟩, hq⟩ := rm0 l s _ hw tables_1 i0 i1 i2 i3 i4 i5 s_STARTING s_NONE s_COMPLETED s_FAILED s_KILLED s_cache clc.cls s.heap s.heap.size (Nat.le_refl _) S_STARTING S_NONE S_COMPLETED S_FAILED S_KILLED E_s_STARTING E_s_NONE E_s_COMPLETED E_s_FAILED E_s_KILLED Vl Sl p e ha hc hk s m _ below hf ((Spec.applies_iff_loose hf).mp happ).1 ⟨rfl, State.Warmed39.refl s, rfl, rfl⟩ trivial
  refine ⟨n, _, h1, h2, h3, hpost _ _ _ _ _ _ ⟨Cond.after_iff.mpr rfl, Cond.after_iff.mpr (eq_i res_at (Term.int_eval (1)) rfl), trivial⟩ ⟨hq.1, hq.2.1, hq.2.2.1, (hq.2.2.2.sift fun y hy => Or.inr (N y hy)).mono (by decide) (by decide)⟩⟩
theorem main_1_1 : Claimed_1_1 := comes_1 fun _ _ _ _ _ _ h hF => ⟨h.1, hF⟩
theorem main_1_2 : Claimed_1_2 := comes_1 fun _ _ _ _ _ _ h hF => ⟨h.2.1, hF⟩

end Jvm.Pilot.@@N@@
namespace Jvm.Pilot.@@N@@
open Jvm Jvm.ClassFile Sem Op Lib Jvm.Free Jvm.Stand Jvm.Pilot.@@N@@.Jvm.D
/-! MADE BY PROGRAM (witnessworld.py) out of the Statement's table words and the real class files: 24 classes; the members and pool entries that the words name. The judged class is class 1, her method 2. -/
namespace start1
open Jvm.ClassFile
def u (s : String) : CpInfo := .utf8 (stringToUtf16 s)
/-- a pool by its gaps: so many unusable entries, then the entry; so many at the end -/
def gap : Nat → List CpInfo → List CpInfo
  | 0, r => r
  | n + 1, r => .unusable :: gap n r
def poolList (es : List (Nat × CpInfo)) (last : Nat) : List CpInfo := es.foldr (fun e r => gap e.1 (e.2 :: r)) (gap last [])
def pool (es : List (Nat × CpInfo)) (last : Nat) : Array CpInfo := ⟨poolList es last⟩
def fileOf (pool : Array CpInfo) (this : Nat) (attrs : Array Attribute := #[]) (ms : Array MethodInfo := #[]) (fl : Nat := 33) (sup : Nat := 0) (ifs : Array Nat := #[]) (fds : Array FieldInfo := #[]) : ClassFile where
  minorVersion := 0
  majorVersion := 65
  constantPool := pool
  accessFlags := fl
  thisClass := this
  superClass := sup
  interfaces := ifs
  fields := fds
  methods := ms
  attributes := attrs
def plain (name : String) (sup : Option ClassId) : Class where
  name := name
  kind := .ordinary
  loader := none
  accessFlags := 33
  super := sup
  interfaces := #[]
  cf := none
  fields := #[]
  methods := #[]
  instanceTypes := #[]
  staticTypes := #[]
  resolved := #[]
  callSites := []
  init := .initialized
  statics := none
  mirror := none

def pool0 : Array CpInfo := pool [(5, u "<init>"), (0, u "()V"), (1, .class_ 10), (1, u "java/lang/Object")] 113

def k0c0 : Code := { maxStack := 0, maxLocals := 1, code := object_method_1_code, exceptionTable := #[], attributes := #[] }
def k0m0 : Method := { name := "<init>", desc := "()V", sig := { parameters := [], returnType := none }, accessFlags := 1, code := some k0c0 }
/-- java/lang/Object -/
def k0 : Class := { plain "java/lang/Object" none with
  accessFlags := 33
  interfaces := #[]
  cf := some (fileOf pool0 8 #[] #[{ accessFlags := 1, nameIndex := 5, descriptorIndex := 6, attributes := #[] }] 33 0 #[] #[])
  fields := #[]
  methods := #[k0m0]
  instanceTypes := #[]
  staticTypes := #[]
  resolved := Array.replicate 124 none
  statics := none }

def pool1 : Array CpInfo := pool [(2, .class_ 4), (1, u "java/lang/Object"), (0, u "<init>"), (0, u "()V"), (0, .integer 2147483647), (0, .fieldref 9 10), (0, .class_ 11), (0, .nameAndType 12 13), (0, u "com/example/runpulse/runpulse/LifecycleEvent$Kind"), (0, u "COMPLETED"), (0, u "Lcom/example/runpulse/runpulse/LifecycleEvent$Kind;"), (0, .fieldref 9 15), (0, .nameAndType 16 13), (0, u "FAILED"), (0, .fieldref 9 18), (0, .nameAndType 19 13), (0, u "KILLED"), (0, .class_ 21), (0, u "com/example/runpulse/runpulse/RunState$Event"), (0, .fieldref 9 23), (0, .nameAndType 24 13), (0, u "STARTING"), (0, .fieldref 26 27), (0, .class_ 28), (0, .nameAndType 29 30), (0, u "com/example/runpulse/runpulse/EventDetails"), (0, u "NONE"), (0, u "Lcom/example/runpulse/runpulse/EventDetails;"), (0, .methodref 20 32), (0, .nameAndType 5 33), (0, u "(Lcom/example/runpulse/runpulse/LifecycleEvent$Kind;JLcom/example/runpulse/runpulse/EventDetails;)V"), (0, .methodref 35 36), (0, .class_ 37), (0, .nameAndType 38 39), (0, u "java/lang/Long"), (0, u "valueOf"), (0, u "(J)Ljava/lang/Long;"), (0, .methodref 41 42), (0, .class_ 43), (0, .nameAndType 44 45), (0, u "com/example/runpulse/runpulse/RunStateStartPinLaw"), (0, u "terminalKind"), (0, u "(I)Lcom/example/runpulse/runpulse/LifecycleEvent$Kind;"), (0, .class_ 47), (0, u "com/example/runpulse/runpulse/RunState"), (0, .methodref 46 49), (0, .nameAndType 5 50), (0, u "(JJLcom/example/runpulse/runpulse/RunState$Event;Ljava/lang/Long;ZLcom/example/runpulse/runpulse/RunState$Event;)V"), (0, .methodref 46 52), (0, .nameAndType 53 54), (0, u "start"), (0, u "()J"), (3, u "law"), (0, u "(JJJJIJ)Z")] 7

def k1m0 : Method := { name := "<init>", desc := "()V", sig := { parameters := [], returnType := none }, accessFlags := 1, code := none }
def k1c1 : Code := { maxStack := 2, maxLocals := 2, code := method_2_code, exceptionTable := #[], attributes := #[] }
def k1m1 : Method := { name := "terminalKind", desc := "(I)Lcom/example/runpulse/runpulse/LifecycleEvent$Kind;", sig := { parameters := [.int], returnType := some (.object "com/example/runpulse/runpulse/LifecycleEvent$Kind") }, accessFlags := 10, code := some k1c1 }
def k1c2 : Code := { maxStack := 10, maxLocals := 23, code := code, exceptionTable := #[], attributes := #[] }
def k1m2 : Method := { name := "law", desc := "(JJJJIJ)Z", sig := { parameters := [.long, .long, .long, .long, .int, .long], returnType := some .boolean }, accessFlags := 9, code := some k1c2 }
/-- com/example/runpulse/runpulse/RunStateStartPinLaw -/
def k1 : Class := { plain "com/example/runpulse/runpulse/RunStateStartPinLaw" (some 0) with
  accessFlags := 49
  interfaces := #[]
  cf := some (fileOf pool1 41 #[] #[{ accessFlags := 1, nameIndex := 5, descriptorIndex := 6, attributes := #[] }, { accessFlags := 10, nameIndex := 44, descriptorIndex := 45, attributes := #[] }, { accessFlags := 9, nameIndex := 58, descriptorIndex := 59, attributes := #[] }] 49 2 #[] #[])
  fields := #[]
  methods := #[k1m0, k1m1, k1m2]
  instanceTypes := #[]
  staticTypes := #[]
  resolved := Array.replicate 67 none
  statics := none }

def pool2 : Array CpInfo := pool [(1, .methodref 2 3), (0, .class_ 4), (0, .nameAndType 5 6), (0, u "java/lang/Object"), (0, u "<init>"), (0, u "()V"), (0, .class_ 8), (0, u "java/lang/Record")] 13

def k2c0 : Code := { maxStack := 1, maxLocals := 1, code := jdk_30_method_1_code, exceptionTable := #[], attributes := #[] }
def k2m0 : Method := { name := "<init>", desc := "()V", sig := { parameters := [], returnType := none }, accessFlags := 4, code := some k2c0 }
/-- java/lang/Record -/
def k2 : Class := { plain "java/lang/Record" (some 0) with
  accessFlags := 1057
  interfaces := #[]
  cf := some (fileOf pool2 7 #[] #[{ accessFlags := 4, nameIndex := 5, descriptorIndex := 6, attributes := #[] }] 1057 2 #[] #[])
  fields := #[]
  methods := #[k2m0]
  instanceTypes := #[]
  staticTypes := #[]
  resolved := Array.replicate 22 none
  statics := none }

def pool3 : Array CpInfo := pool [(1, .methodref 2 3), (0, .class_ 4), (0, .nameAndType 5 6), (0, u "java/lang/Record"), (0, u "<init>"), (0, u "()V"), (0, .string 8), (0, u "kind"), (0, .methodref 10 11), (0, .class_ 12), (0, .nameAndType 13 14), (0, u "java/util/Objects"), (0, u "requireNonNull"), (0, u "(Ljava/lang/Object;Ljava/lang/String;)Ljava/lang/Object;"), (0, .string 16), (0, u "details"), (0, .fieldref 18 19), (0, .class_ 20), (0, .nameAndType 8 21), (0, u "com/example/runpulse/runpulse/RunState$Event"), (0, u "Lcom/example/runpulse/runpulse/LifecycleEvent$Kind;"), (0, .fieldref 18 23), (0, .nameAndType 24 25), (0, u "time"), (0, u "J"), (0, .fieldref 18 27), (0, .nameAndType 16 28), (0, u "Lcom/example/runpulse/runpulse/EventDetails;"), (7, u "()J"), (5, u "(Lcom/example/runpulse/runpulse/LifecycleEvent$Kind;JLcom/example/runpulse/runpulse/EventDetails;)V"), (23, .class_ 67), (0, u "com/example/runpulse/runpulse/RunState")] 24

def k3c0 : Code := { maxStack := 3, maxLocals := 5, code := prog_37_method_1_code, exceptionTable := #[], attributes := #[] }
def k3m0 : Method := { name := "<init>", desc := "(Lcom/example/runpulse/runpulse/LifecycleEvent$Kind;JLcom/example/runpulse/runpulse/EventDetails;)V", sig := { parameters := [(.object "com/example/runpulse/runpulse/LifecycleEvent$Kind"), .long, (.object "com/example/runpulse/runpulse/EventDetails")], returnType := none }, accessFlags := 0, code := some k3c0 }
def k3c1 : Code := { maxStack := 2, maxLocals := 1, code := prog_37_method_7_code, exceptionTable := #[], attributes := #[] }
def k3m1 : Method := { name := "time", desc := "()J", sig := { parameters := [], returnType := some .long }, accessFlags := 1, code := some k3c1 }
/-- com/example/runpulse/runpulse/RunState$Event -/
def k3 : Class := { plain "com/example/runpulse/runpulse/RunState$Event" (some 2) with
  accessFlags := 48
  interfaces := #[]
  cf := some (fileOf pool3 18 #[.nestHost 66] #[{ accessFlags := 0, nameIndex := 5, descriptorIndex := 42, attributes := #[] }, { accessFlags := 1, nameIndex := 24, descriptorIndex := 36, attributes := #[] }] 48 2 #[] #[{ accessFlags := 18, nameIndex := 8, descriptorIndex := 21, attributes := #[] }, { accessFlags := 18, nameIndex := 24, descriptorIndex := 25, attributes := #[] }, { accessFlags := 18, nameIndex := 16, descriptorIndex := 28, attributes := #[] }])
  fields := #[{ name := "kind", type := (.object "com/example/runpulse/runpulse/LifecycleEvent$Kind"), accessFlags := 18, slot := 0, constantValue := 0 }, { name := "time", type := .long, accessFlags := 18, slot := 1, constantValue := 0 }, { name := "details", type := (.object "com/example/runpulse/runpulse/EventDetails"), accessFlags := 18, slot := 2, constantValue := 0 }]
  methods := #[k3m0, k3m1]
  instanceTypes := #[(.object "com/example/runpulse/runpulse/LifecycleEvent$Kind"), .long, (.object "com/example/runpulse/runpulse/EventDetails")]
  staticTypes := #[]
  resolved := Array.replicate 92 none
  statics := none }

def pool4 : Array CpInfo := pool [(1, .class_ 2), (0, u "java/lang/constant/Constable"), (0, .class_ 4), (0, u "java/lang/Object")] 6

/-- java/lang/constant/Constable -/
def k4 : Class := { plain "java/lang/constant/Constable" (some 0) with
  accessFlags := 1537
  interfaces := #[]
  cf := some (fileOf pool4 1 #[] #[] 1537 3 #[] #[])
  fields := #[]
  methods := #[]
  instanceTypes := #[]
  staticTypes := #[]
  resolved := Array.replicate 11 none
  statics := none }

def pool5 : Array CpInfo := pool [(1, .class_ 2), (0, u "java/lang/Comparable"), (0, .class_ 4), (0, u "java/lang/Object")] 7

/-- java/lang/Comparable -/
def k5 : Class := { plain "java/lang/Comparable" (some 0) with
  accessFlags := 1537
  interfaces := #[]
  cf := some (fileOf pool5 1 #[] #[] 1537 3 #[] #[])
  fields := #[]
  methods := #[]
  instanceTypes := #[]
  staticTypes := #[]
  resolved := Array.replicate 12 none
  statics := none }

def pool6 : Array CpInfo := pool [(1, .class_ 2), (0, u "java/io/Serializable"), (0, .class_ 4), (0, u "java/lang/Object")] 2

/-- java/io/Serializable -/
def k6 : Class := { plain "java/io/Serializable" (some 0) with
  accessFlags := 1537
  interfaces := #[]
  cf := some (fileOf pool6 1 #[] #[] 1537 3 #[] #[])
  fields := #[]
  methods := #[]
  instanceTypes := #[]
  staticTypes := #[]
  resolved := Array.replicate 7 none
  statics := none }

def pool7 : Array CpInfo := pool [(2, .class_ 4), (1, u "java/lang/Enum"), (0, u "name"), (0, u "Ljava/lang/String;"), (2, u "ordinal"), (0, u "I"), (1, .class_ 14), (1, u "java/lang/Object"), (4, u "hash"), (86, .class_ 108), (1, u "java/lang/Enum$EnumDesc"), (2, .class_ 112), (0, u "java/lang/constant/Constable"), (0, .class_ 114), (0, u "java/lang/Comparable"), (0, .class_ 116), (0, u "java/io/Serializable")] 87

/-- java/lang/Enum -/
def k7 : Class := { plain "java/lang/Enum" (some 0) with
  accessFlags := 1057
  interfaces := #[4, 5, 6]
  cf := some (fileOf pool7 2 #[.nestMembers #[106]] #[] 1057 12 #[111, 113, 115] #[{ accessFlags := 18, nameIndex := 5, descriptorIndex := 6, attributes := #[] }, { accessFlags := 18, nameIndex := 9, descriptorIndex := 10, attributes := #[] }, { accessFlags := 2, nameIndex := 19, descriptorIndex := 10, attributes := #[] }])
  fields := #[{ name := "name", type := (.object "java/lang/String"), accessFlags := 18, slot := 0, constantValue := 0 }, { name := "ordinal", type := .int, accessFlags := 18, slot := 1, constantValue := 0 }, { name := "hash", type := .int, accessFlags := 2, slot := 2, constantValue := 0 }]
  methods := #[]
  instanceTypes := #[(.object "java/lang/String"), .int, .int]
  staticTypes := #[]
  resolved := Array.replicate 204 none
  statics := none }

def pool8 : Array CpInfo := pool [(1, .class_ 2), (0, u "com/example/runpulse/runpulse/LifecycleEvent$Kind"), (2, u "STARTING"), (0, u "Lcom/example/runpulse/runpulse/LifecycleEvent$Kind;"), (2, u "RUNNING"), (2, u "HEARTBEAT"), (2, u "COMPLETED"), (2, u "FAILED"), (2, u "KILLED"), (2, u "$VALUES"), (0, u "[Lcom/example/runpulse/runpulse/LifecycleEvent$Kind;"), (6, .class_ 34), (1, u "java/lang/Enum"), (29, .class_ 65), (0, u "com/example/runpulse/runpulse/LifecycleEvent")] 2

/-- com/example/runpulse/runpulse/LifecycleEvent$Kind -/
def k8 : Class := { plain "com/example/runpulse/runpulse/LifecycleEvent$Kind" (some 7) with
  accessFlags := 16433
  interfaces := #[]
  cf := some (fileOf pool8 1 #[.nestHost 64] #[] 16433 32 #[] #[{ accessFlags := 16409, nameIndex := 5, descriptorIndex := 6, attributes := #[] }, { accessFlags := 16409, nameIndex := 9, descriptorIndex := 6, attributes := #[] }, { accessFlags := 16409, nameIndex := 12, descriptorIndex := 6, attributes := #[] }, { accessFlags := 16409, nameIndex := 15, descriptorIndex := 6, attributes := #[] }, { accessFlags := 16409, nameIndex := 18, descriptorIndex := 6, attributes := #[] }, { accessFlags := 16409, nameIndex := 21, descriptorIndex := 6, attributes := #[] }, { accessFlags := 4122, nameIndex := 24, descriptorIndex := 25, attributes := #[] }])
  fields := #[{ name := "STARTING", type := (.object "com/example/runpulse/runpulse/LifecycleEvent$Kind"), accessFlags := 16409, slot := 0, constantValue := 0 }, { name := "RUNNING", type := (.object "com/example/runpulse/runpulse/LifecycleEvent$Kind"), accessFlags := 16409, slot := 1, constantValue := 0 }, { name := "HEARTBEAT", type := (.object "com/example/runpulse/runpulse/LifecycleEvent$Kind"), accessFlags := 16409, slot := 2, constantValue := 0 }, { name := "COMPLETED", type := (.object "com/example/runpulse/runpulse/LifecycleEvent$Kind"), accessFlags := 16409, slot := 3, constantValue := 0 }, { name := "FAILED", type := (.object "com/example/runpulse/runpulse/LifecycleEvent$Kind"), accessFlags := 16409, slot := 4, constantValue := 0 }, { name := "KILLED", type := (.object "com/example/runpulse/runpulse/LifecycleEvent$Kind"), accessFlags := 16409, slot := 5, constantValue := 0 }, { name := "$VALUES", type := (.array (.object "com/example/runpulse/runpulse/LifecycleEvent$Kind")), accessFlags := 4122, slot := 6, constantValue := 0 }]
  methods := #[]
  instanceTypes := #[(.object "java/lang/String"), .int, .int]
  staticTypes := #[(.object "com/example/runpulse/runpulse/LifecycleEvent$Kind"), (.object "com/example/runpulse/runpulse/LifecycleEvent$Kind"), (.object "com/example/runpulse/runpulse/LifecycleEvent$Kind"), (.object "com/example/runpulse/runpulse/LifecycleEvent$Kind"), (.object "com/example/runpulse/runpulse/LifecycleEvent$Kind"), (.object "com/example/runpulse/runpulse/LifecycleEvent$Kind"), (.array (.object "com/example/runpulse/runpulse/LifecycleEvent$Kind"))]
  resolved := Array.replicate 68 none
  statics := some 0 }

def pool9 : Array CpInfo := pool [(2, .class_ 4), (1, u "java/lang/Record"), (9, .class_ 16), (1, u "com/example/runpulse/runpulse/EventDetails"), (0, u "user"), (0, u "Ljava/lang/String;"), (2, u "startMethod"), (0, u "Lcom/example/runpulse/runpulse/LifecycleEvent$StartMethod;"), (2, u "applicationVersion"), (2, u "programType"), (2, u "artifact"), (0, u "Lcom/example/runpulse/runpulse/Artifact;"), (2, u "failureCause"), (2, u "runtimeArgs"), (0, u "Ljava/util/Map;"), (21, u "NONE"), (0, u "Lcom/example/runpulse/runpulse/EventDetails;")] 44

/-- com/example/runpulse/runpulse/EventDetails -/
def k9 : Class := { plain "com/example/runpulse/runpulse/EventDetails" (some 2) with
  accessFlags := 49
  interfaces := #[]
  cf := some (fileOf pool9 14 #[] #[] 49 2 #[] #[{ accessFlags := 18, nameIndex := 17, descriptorIndex := 18, attributes := #[] }, { accessFlags := 18, nameIndex := 21, descriptorIndex := 22, attributes := #[] }, { accessFlags := 18, nameIndex := 25, descriptorIndex := 18, attributes := #[] }, { accessFlags := 18, nameIndex := 28, descriptorIndex := 18, attributes := #[] }, { accessFlags := 18, nameIndex := 31, descriptorIndex := 32, attributes := #[] }, { accessFlags := 18, nameIndex := 35, descriptorIndex := 18, attributes := #[] }, { accessFlags := 18, nameIndex := 38, descriptorIndex := 39, attributes := #[] }, { accessFlags := 25, nameIndex := 61, descriptorIndex := 62, attributes := #[] }])
  fields := #[{ name := "user", type := (.object "java/lang/String"), accessFlags := 18, slot := 0, constantValue := 0 }, { name := "startMethod", type := (.object "com/example/runpulse/runpulse/LifecycleEvent$StartMethod"), accessFlags := 18, slot := 1, constantValue := 0 }, { name := "applicationVersion", type := (.object "java/lang/String"), accessFlags := 18, slot := 2, constantValue := 0 }, { name := "programType", type := (.object "java/lang/String"), accessFlags := 18, slot := 3, constantValue := 0 }, { name := "artifact", type := (.object "com/example/runpulse/runpulse/Artifact"), accessFlags := 18, slot := 4, constantValue := 0 }, { name := "failureCause", type := (.object "java/lang/String"), accessFlags := 18, slot := 5, constantValue := 0 }, { name := "runtimeArgs", type := (.object "java/util/Map"), accessFlags := 18, slot := 6, constantValue := 0 }, { name := "NONE", type := (.object "com/example/runpulse/runpulse/EventDetails"), accessFlags := 25, slot := 0, constantValue := 0 }]
  methods := #[]
  instanceTypes := #[(.object "java/lang/String"), (.object "com/example/runpulse/runpulse/LifecycleEvent$StartMethod"), (.object "java/lang/String"), (.object "java/lang/String"), (.object "com/example/runpulse/runpulse/Artifact"), (.object "java/lang/String"), (.object "java/util/Map")]
  staticTypes := #[(.object "com/example/runpulse/runpulse/EventDetails")]
  resolved := Array.replicate 107 none
  statics := some 1 }

def pool10 : Array CpInfo := pool [(2, .class_ 4), (1, u "java/lang/CharSequence"), (42, .class_ 48), (0, u "java/lang/CharSequence$1CodePointIterator"), (10, .class_ 60), (0, u "java/lang/CharSequence$1CharIterator"), (5, .class_ 67), (0, u "java/lang/Object")] 63

/-- java/lang/CharSequence -/
def k10 : Class := { plain "java/lang/CharSequence" (some 0) with
  accessFlags := 1537
  interfaces := #[]
  cf := some (fileOf pool10 2 #[.nestMembers #[47, 59]] #[] 1537 66 #[] #[])
  fields := #[]
  methods := #[]
  instanceTypes := #[]
  staticTypes := #[]
  resolved := Array.replicate 131 none
  statics := none }

def pool11 : Array CpInfo := pool [(1, .class_ 2), (0, u "java/lang/constant/ConstantDesc"), (0, .class_ 4), (0, u "java/lang/Object")] 32

/-- java/lang/constant/ConstantDesc -/
def k11 : Class := { plain "java/lang/constant/ConstantDesc" (some 0) with
  accessFlags := 1537
  interfaces := #[]
  cf := some (fileOf pool11 1 #[] #[] 1537 3 #[] #[])
  fields := #[]
  methods := #[]
  instanceTypes := #[]
  staticTypes := #[]
  resolved := Array.replicate 37 none
  statics := none }

def pool12 : Array CpInfo := pool [(2, .class_ 4), (1, u "java/lang/Object"), (0, u "<init>"), (0, u "()V"), (3, .class_ 12), (1, u "java/lang/String"), (0, u "value"), (0, u "[B"), (2, u "coder"), (0, u "B"), (2, u "hash"), (0, u "I"), (2, u "hashIsZero"), (0, u "Z"), (13, u "COMPACT_STRINGS"), (534, .class_ 576), (0, u "java/lang/CharSequence"), (22, u "CASE_INSENSITIVE_ORDER"), (0, u "Ljava/util/Comparator;"), (500, u "serialPersistentFields"), (0, u "[Ljava/io/ObjectStreamField;"), (0, .class_ 1104), (0, u "java/lang/String$CaseInsensitiveComparator"), (1, .class_ 1107), (0, u "java/io/Serializable"), (0, .class_ 1109), (0, u "java/lang/Comparable"), (0, .class_ 1111), (0, u "java/lang/constant/Constable"), (0, .class_ 1113), (0, u "java/lang/constant/ConstantDesc"), (2, u "serialVersionUID"), (0, u "J"), (3, u "REPL"), (0, u "C"), (2, u "LATIN1"), (1, u "UTF16")] 323

def k12m0 : Method := { name := "<init>", desc := "()V", sig := { parameters := [], returnType := none }, accessFlags := 1, code := none }
/-- java/lang/String -/
def k12 : Class := { plain "java/lang/String" (some 0) with
  accessFlags := 49
  interfaces := #[6, 5, 10, 4, 11]
  cf := some (fileOf pool12 10 #[.nestMembers #[1103]] #[{ accessFlags := 1, nameIndex := 5, descriptorIndex := 6, attributes := #[] }] 49 2 #[1106, 1108, 575, 1110, 1112] #[{ accessFlags := 18, nameIndex := 13, descriptorIndex := 14, attributes := #[] }, { accessFlags := 18, nameIndex := 17, descriptorIndex := 18, attributes := #[] }, { accessFlags := 2, nameIndex := 21, descriptorIndex := 22, attributes := #[] }, { accessFlags := 2, nameIndex := 25, descriptorIndex := 26, attributes := #[] }, { accessFlags := 26, nameIndex := 1116, descriptorIndex := 1117, attributes := #[] }, { accessFlags := 24, nameIndex := 40, descriptorIndex := 26, attributes := #[] }, { accessFlags := 26, nameIndex := 1101, descriptorIndex := 1102, attributes := #[] }, { accessFlags := 26, nameIndex := 1121, descriptorIndex := 1122, attributes := #[] }, { accessFlags := 25, nameIndex := 599, descriptorIndex := 600, attributes := #[] }, { accessFlags := 24, nameIndex := 1125, descriptorIndex := 18, attributes := #[] }, { accessFlags := 24, nameIndex := 1127, descriptorIndex := 18, attributes := #[] }])
  fields := #[{ name := "value", type := (.array .byte), accessFlags := 18, slot := 0, constantValue := 0 }, { name := "coder", type := .byte, accessFlags := 18, slot := 1, constantValue := 0 }, { name := "hash", type := .int, accessFlags := 2, slot := 2, constantValue := 0 }, { name := "hashIsZero", type := .boolean, accessFlags := 2, slot := 3, constantValue := 0 }, { name := "serialVersionUID", type := .long, accessFlags := 26, slot := 0, constantValue := 0 }, { name := "COMPACT_STRINGS", type := .boolean, accessFlags := 24, slot := 1, constantValue := 0 }, { name := "serialPersistentFields", type := (.array (.object "java/io/ObjectStreamField")), accessFlags := 26, slot := 2, constantValue := 0 }, { name := "REPL", type := .char, accessFlags := 26, slot := 3, constantValue := 0 }, { name := "CASE_INSENSITIVE_ORDER", type := (.object "java/util/Comparator"), accessFlags := 25, slot := 4, constantValue := 0 }, { name := "LATIN1", type := .byte, accessFlags := 24, slot := 5, constantValue := 0 }, { name := "UTF16", type := .byte, accessFlags := 24, slot := 6, constantValue := 0 }]
  methods := #[k12m0]
  instanceTypes := #[(.array .byte), .byte, .int, .boolean]
  staticTypes := #[.long, .boolean, (.array (.object "java/io/ObjectStreamField")), .char, (.object "java/util/Comparator"), .byte, .byte]
  resolved := Array.replicate 1451 none
  statics := none }

def pool13 : Array CpInfo := pool [(2, .class_ 4), (1, u "java/lang/Object"), (0, u "<init>"), (0, u "()V"), (35, .class_ 44), (1, u "java/util/Objects"), (0, u "requireNonNull"), (48, u "(Ljava/lang/Object;Ljava/lang/String;)Ljava/lang/Object;")] 89

def k13m0 : Method := { name := "<init>", desc := "()V", sig := { parameters := [], returnType := none }, accessFlags := 2, code := none }
def k13c1 : Code := { maxStack := 3, maxLocals := 2, code := jdk_31_method_11_code, exceptionTable := #[], attributes := #[] }
def k13m1 : Method := { name := "requireNonNull", desc := "(Ljava/lang/Object;Ljava/lang/String;)Ljava/lang/Object;", sig := { parameters := [(.object "java/lang/Object"), (.object "java/lang/String")], returnType := some (.object "java/lang/Object") }, accessFlags := 9, code := some k13c1 }
/-- java/util/Objects -/
def k13 : Class := { plain "java/util/Objects" (some 0) with
  accessFlags := 49
  interfaces := #[]
  cf := some (fileOf pool13 42 #[] #[{ accessFlags := 2, nameIndex := 5, descriptorIndex := 6, attributes := #[] }, { accessFlags := 9, nameIndex := 45, descriptorIndex := 94, attributes := #[] }] 49 2 #[] #[])
  fields := #[]
  methods := #[k13m0, k13m1]
  instanceTypes := #[]
  staticTypes := #[]
  resolved := Array.replicate 184 none
  statics := none }

def pool14 : Array CpInfo := pool [(1, .methodref 2 3), (0, .class_ 4), (0, .nameAndType 5 6), (0, u "java/lang/Object"), (0, u "<init>"), (0, u "()V"), (1, .class_ 10), (1, u "java/lang/Number"), (2, .class_ 14), (0, u "java/io/Serializable"), (0, u "serialVersionUID"), (0, u "J")] 20

def k14c0 : Code := { maxStack := 1, maxLocals := 1, code := jdk_18_method_1_code, exceptionTable := #[], attributes := #[] }
def k14m0 : Method := { name := "<init>", desc := "()V", sig := { parameters := [], returnType := none }, accessFlags := 1, code := some k14c0 }
/-- java/lang/Number -/
def k14 : Class := { plain "java/lang/Number" (some 0) with
  accessFlags := 1057
  interfaces := #[6]
  cf := some (fileOf pool14 8 #[] #[{ accessFlags := 1, nameIndex := 5, descriptorIndex := 6, attributes := #[] }] 1057 2 #[13] #[{ accessFlags := 26, nameIndex := 15, descriptorIndex := 16, attributes := #[] }])
  fields := #[{ name := "serialVersionUID", type := .long, accessFlags := 26, slot := 0, constantValue := 0 }]
  methods := #[k14m0]
  instanceTypes := #[]
  staticTypes := #[.long]
  resolved := Array.replicate 37 none
  statics := none }

def pool15 : Array CpInfo := pool [(1, .class_ 2), (0, u "java/lang/Long"), (55, .nameAndType 59 60), (0, u "<init>"), (0, u "()V"), (24, u "valueOf"), (143, u "(J)Ljava/lang/Long;"), (0, .long 18446744073709551488), (1, .long 127), (1, .fieldref 235 236), (0, .class_ 237), (0, .nameAndType 238 239), (0, u "java/lang/Long$LongCache"), (0, u "cache"), (0, u "[Ljava/lang/Long;"), (0, .methodref 1 241), (0, .nameAndType 59 242), (0, u "(J)V"), (27, .methodref 271 58), (0, .class_ 272), (0, u "java/lang/Number"), (0, .fieldref 1 274), (0, .nameAndType 275 276), (0, u "value"), (0, u "J"), (84, u "TYPE"), (0, u "Ljava/lang/Class;"), (0, .class_ 364), (0, u "java/lang/Comparable"), (0, .class_ 366), (0, u "java/lang/constant/Constable"), (0, .class_ 368), (0, u "java/lang/constant/ConstantDesc"), (0, u "MIN_VALUE"), (1, u "MAX_VALUE"), (4, u "SIZE"), (0, u "I"), (1, u "BYTES"), (1, u "serialVersionUID")] 142

def k15c0 : Code := { maxStack := 4, maxLocals := 3, code := jdk_35_method_24_code, exceptionTable := #[], attributes := #[] }
def k15m0 : Method := { name := "valueOf", desc := "(J)Ljava/lang/Long;", sig := { parameters := [.long], returnType := some (.object "java/lang/Long") }, accessFlags := 9, code := some k15c0 }
def k15c1 : Code := { maxStack := 3, maxLocals := 3, code := jdk_35_method_26_code, exceptionTable := #[], attributes := #[] }
def k15m1 : Method := { name := "<init>", desc := "(J)V", sig := { parameters := [.long], returnType := none }, accessFlags := 1, code := some k15c1 }
/-- java/lang/Long -/
def k15 : Class := { plain "java/lang/Long" (some 14) with
  accessFlags := 49
  interfaces := #[5, 4, 11]
  cf := some (fileOf pool15 1 #[.nestMembers #[235]] #[{ accessFlags := 9, nameIndex := 85, descriptorIndex := 229, attributes := #[] }, { accessFlags := 1, nameIndex := 59, descriptorIndex := 242, attributes := #[] }] 49 271 #[363, 365, 367] #[{ accessFlags := 25, nameIndex := 369, descriptorIndex := 276, attributes := #[] }, { accessFlags := 25, nameIndex := 371, descriptorIndex := 276, attributes := #[] }, { accessFlags := 25, nameIndex := 361, descriptorIndex := 362, attributes := #[] }, { accessFlags := 18, nameIndex := 275, descriptorIndex := 276, attributes := #[] }, { accessFlags := 25, nameIndex := 376, descriptorIndex := 377, attributes := #[] }, { accessFlags := 25, nameIndex := 379, descriptorIndex := 377, attributes := #[] }, { accessFlags := 26, nameIndex := 381, descriptorIndex := 276, attributes := #[] }])
  fields := #[{ name := "MIN_VALUE", type := .long, accessFlags := 25, slot := 0, constantValue := 0 }, { name := "MAX_VALUE", type := .long, accessFlags := 25, slot := 1, constantValue := 0 }, { name := "TYPE", type := (.object "java/lang/Class"), accessFlags := 25, slot := 2, constantValue := 0 }, { name := "value", type := .long, accessFlags := 18, slot := 0, constantValue := 0 }, { name := "SIZE", type := .int, accessFlags := 25, slot := 3, constantValue := 0 }, { name := "BYTES", type := .int, accessFlags := 25, slot := 4, constantValue := 0 }, { name := "serialVersionUID", type := .long, accessFlags := 26, slot := 5, constantValue := 0 }]
  methods := #[k15m0, k15m1]
  instanceTypes := #[.long]
  staticTypes := #[.long, .long, (.object "java/lang/Class"), .int, .int, .long]
  resolved := Array.replicate 524 none
  statics := none }

def pool16 : Array CpInfo := pool [(2, .class_ 4), (1, u "java/lang/Object"), (0, u "<init>"), (0, u "()V"), (0, .class_ 8), (0, u "java/lang/Long"), (7, .class_ 18), (1, u "java/lang/Long$LongCache"), (0, u "$assertionsDisabled"), (0, u "Z"), (8, u "archivedCache"), (0, u "[Ljava/lang/Long;"), (7, u "cache")] 24

def k16m0 : Method := { name := "<init>", desc := "()V", sig := { parameters := [], returnType := none }, accessFlags := 2, code := none }
/-- java/lang/Long$LongCache -/
def k16 : Class := { plain "java/lang/Long$LongCache" (some 0) with
  accessFlags := 48
  interfaces := #[]
  cf := some (fileOf pool16 16 #[.nestHost 7] #[{ accessFlags := 2, nameIndex := 5, descriptorIndex := 6, attributes := #[] }] 48 2 #[] #[{ accessFlags := 24, nameIndex := 38, descriptorIndex := 30, attributes := #[] }, { accessFlags := 8, nameIndex := 29, descriptorIndex := 30, attributes := #[] }, { accessFlags := 4120, nameIndex := 19, descriptorIndex := 20, attributes := #[] }])
  fields := #[{ name := "cache", type := (.array (.object "java/lang/Long")), accessFlags := 24, slot := 0, constantValue := 0 }, { name := "archivedCache", type := (.array (.object "java/lang/Long")), accessFlags := 8, slot := 1, constantValue := 0 }, { name := "$assertionsDisabled", type := .boolean, accessFlags := 4120, slot := 2, constantValue := 0 }]
  methods := #[k16m0]
  instanceTypes := #[]
  staticTypes := #[(.array (.object "java/lang/Long")), (.array (.object "java/lang/Long")), .boolean]
  resolved := Array.replicate 63 none
  statics := some 2 }

def pool17 : Array CpInfo := pool [(1, .methodref 2 3), (0, .class_ 4), (0, .nameAndType 5 6), (0, u "java/lang/Record"), (0, u "<init>"), (0, u "()V"), (0, .fieldref 8 9), (0, .class_ 10), (0, .nameAndType 11 12), (0, u "com/example/runpulse/runpulse/RunState"), (0, u "earliest"), (0, u "J"), (0, .fieldref 8 14), (0, .nameAndType 15 12), (0, u "latest"), (0, .fieldref 8 17), (0, .nameAndType 18 19), (0, u "starting"), (0, u "Lcom/example/runpulse/runpulse/RunState$Event;"), (0, .fieldref 8 21), (0, .nameAndType 22 23), (0, u "running"), (0, u "Ljava/lang/Long;"), (0, .fieldref 8 25), (0, .nameAndType 26 27), (0, u "alive"), (0, u "Z"), (0, .fieldref 8 29), (0, .nameAndType 30 19), (0, u "terminal"), (2, .nameAndType 35 36), (1, u "time"), (0, u "()J"), (1, .class_ 40), (1, u "com/example/runpulse/runpulse/RunState$1"), (12, .methodref 54 33), (0, .class_ 55), (0, u "com/example/runpulse/runpulse/RunState$Event"), (43, u "(JJLcom/example/runpulse/runpulse/RunState$Event;Ljava/lang/Long;ZLcom/example/runpulse/runpulse/RunState$Event;)V"), (4, u "NONE"), (15, u "start"), (45, u "Lcom/example/runpulse/runpulse/RunState;")] 52

def k17c0 : Code := { maxStack := 3, maxLocals := 9, code := prog_35_method_1_code, exceptionTable := #[], attributes := #[] }
def k17m0 : Method := { name := "<init>", desc := "(JJLcom/example/runpulse/runpulse/RunState$Event;Ljava/lang/Long;ZLcom/example/runpulse/runpulse/RunState$Event;)V", sig := { parameters := [.long, .long, (.object "com/example/runpulse/runpulse/RunState$Event"), (.object "java/lang/Long"), .boolean, (.object "com/example/runpulse/runpulse/RunState$Event")], returnType := none }, accessFlags := 0, code := some k17c0 }
def k17c1 : Code := { maxStack := 2, maxLocals := 1, code := prog_35_method_3_code, exceptionTable := #[], attributes := #[] }
def k17m1 : Method := { name := "start", desc := "()J", sig := { parameters := [], returnType := some .long }, accessFlags := 0, code := some k17c1 }
/-- com/example/runpulse/runpulse/RunState -/
def k17 : Class := { plain "com/example/runpulse/runpulse/RunState" (some 2) with
  accessFlags := 48
  interfaces := #[]
  cf := some (fileOf pool17 8 #[.nestMembers #[38, 54]] #[{ accessFlags := 0, nameIndex := 5, descriptorIndex := 99, attributes := #[] }, { accessFlags := 0, nameIndex := 120, descriptorIndex := 36, attributes := #[] }] 48 2 #[] #[{ accessFlags := 18, nameIndex := 11, descriptorIndex := 12, attributes := #[] }, { accessFlags := 18, nameIndex := 15, descriptorIndex := 12, attributes := #[] }, { accessFlags := 18, nameIndex := 18, descriptorIndex := 19, attributes := #[] }, { accessFlags := 18, nameIndex := 22, descriptorIndex := 23, attributes := #[] }, { accessFlags := 18, nameIndex := 26, descriptorIndex := 27, attributes := #[] }, { accessFlags := 18, nameIndex := 30, descriptorIndex := 19, attributes := #[] }, { accessFlags := 24, nameIndex := 104, descriptorIndex := 166, attributes := #[] }])
  fields := #[{ name := "earliest", type := .long, accessFlags := 18, slot := 0, constantValue := 0 }, { name := "latest", type := .long, accessFlags := 18, slot := 1, constantValue := 0 }, { name := "starting", type := (.object "com/example/runpulse/runpulse/RunState$Event"), accessFlags := 18, slot := 2, constantValue := 0 }, { name := "running", type := (.object "java/lang/Long"), accessFlags := 18, slot := 3, constantValue := 0 }, { name := "alive", type := .boolean, accessFlags := 18, slot := 4, constantValue := 0 }, { name := "terminal", type := (.object "com/example/runpulse/runpulse/RunState$Event"), accessFlags := 18, slot := 5, constantValue := 0 }, { name := "NONE", type := (.object "com/example/runpulse/runpulse/RunState"), accessFlags := 24, slot := 0, constantValue := 0 }]
  methods := #[k17m0, k17m1]
  instanceTypes := #[.long, .long, (.object "com/example/runpulse/runpulse/RunState$Event"), (.object "java/lang/Long"), .boolean, (.object "com/example/runpulse/runpulse/RunState$Event")]
  staticTypes := #[(.object "com/example/runpulse/runpulse/RunState")]
  resolved := Array.replicate 219 none
  statics := none }

def pool18 : Array CpInfo := pool [(1, u "java/lang/Cloneable"), (0, .class_ 1), (0, u "java/lang/Object"), (0, .class_ 3)] 3

/-- java/lang/Cloneable -/
def k18 : Class := { plain "java/lang/Cloneable" (some 0) with
  accessFlags := 1537
  interfaces := #[]
  cf := some (fileOf pool18 2 #[] #[] 1537 4 #[] #[])
  fields := #[]
  methods := #[]
  instanceTypes := #[]
  staticTypes := #[]
  resolved := Array.replicate 8 none
  statics := none }

/-- the primitive byte -/
def k19 : Class := { plain "byte" none with kind := .primitive 'B', accessFlags := 0x411 }
/-- [B -/
def k20 : Class := { plain "[B" (some 0) with kind := .array 19 .byte, interfaces := #[18, 6], accessFlags := 1041 }

/-- the primitive int -/
def k21 : Class := { plain "int" none with kind := .primitive 'I', accessFlags := 0x411 }
/-- [I -/
def k22 : Class := { plain "[I" (some 0) with kind := .array 21 .int, interfaces := #[18, 6], accessFlags := 1041 }

/-- [Ljava/lang/Long; -/
def k23 : Class := { plain "[Ljava/lang/Long;" (some 0) with kind := .array 15 (.object "java/lang/Long"), interfaces := #[18, 6], accessFlags := 1041 }

def heap : Heap := #[{ cls := 8, slots := #[.ref 260, .null, .null, .ref 261, .ref 262, .ref 263, .null], vm := .statics 8 },
  { cls := 9, slots := #[.ref 264], vm := .statics 9 },
  { cls := 16, slots := #[.ref 3, .null, .int 0], vm := .statics 16 },
  { cls := 23, slots := #[.ref 4, .ref 5, .ref 6, .ref 7, .ref 8, .ref 9, .ref 10, .ref 11, .ref 12, .ref 13, .ref 14, .ref 15, .ref 16, .ref 17, .ref 18, .ref 19, .ref 20, .ref 21, .ref 22, .ref 23, .ref 24, .ref 25, .ref 26, .ref 27, .ref 28, .ref 29, .ref 30, .ref 31, .ref 32, .ref 33, .ref 34, .ref 35, .ref 36, .ref 37, .ref 38, .ref 39, .ref 40, .ref 41, .ref 42, .ref 43, .ref 44, .ref 45, .ref 46, .ref 47, .ref 48, .ref 49, .ref 50, .ref 51, .ref 52, .ref 53, .ref 54, .ref 55, .ref 56, .ref 57, .ref 58, .ref 59, .ref 60, .ref 61, .ref 62, .ref 63, .ref 64, .ref 65, .ref 66, .ref 67, .ref 68, .ref 69, .ref 70, .ref 71, .ref 72, .ref 73, .ref 74, .ref 75, .ref 76, .ref 77, .ref 78, .ref 79, .ref 80, .ref 81, .ref 82, .ref 83, .ref 84, .ref 85, .ref 86, .ref 87, .ref 88, .ref 89, .ref 90, .ref 91, .ref 92, .ref 93, .ref 94, .ref 95, .ref 96, .ref 97, .ref 98, .ref 99, .ref 100, .ref 101, .ref 102, .ref 103, .ref 104, .ref 105, .ref 106, .ref 107, .ref 108, .ref 109, .ref 110, .ref 111, .ref 112, .ref 113, .ref 114, .ref 115, .ref 116, .ref 117, .ref 118, .ref 119, .ref 120, .ref 121, .ref 122, .ref 123, .ref 124, .ref 125, .ref 126, .ref 127, .ref 128, .ref 129, .ref 130, .ref 131, .ref 132, .ref 133, .ref 134, .ref 135, .ref 136, .ref 137, .ref 138, .ref 139, .ref 140, .ref 141, .ref 142, .ref 143, .ref 144, .ref 145, .ref 146, .ref 147, .ref 148, .ref 149, .ref 150, .ref 151, .ref 152, .ref 153, .ref 154, .ref 155, .ref 156, .ref 157, .ref 158, .ref 159, .ref 160, .ref 161, .ref 162, .ref 163, .ref 164, .ref 165, .ref 166, .ref 167, .ref 168, .ref 169, .ref 170, .ref 171, .ref 172, .ref 173, .ref 174, .ref 175, .ref 176, .ref 177, .ref 178, .ref 179, .ref 180, .ref 181, .ref 182, .ref 183, .ref 184, .ref 185, .ref 186, .ref 187, .ref 188, .ref 189, .ref 190, .ref 191, .ref 192, .ref 193, .ref 194, .ref 195, .ref 196, .ref 197, .ref 198, .ref 199, .ref 200, .ref 201, .ref 202, .ref 203, .ref 204, .ref 205, .ref 206, .ref 207, .ref 208, .ref 209, .ref 210, .ref 211, .ref 212, .ref 213, .ref 214, .ref 215, .ref 216, .ref 217, .ref 218, .ref 219, .ref 220, .ref 221, .ref 222, .ref 223, .ref 224, .ref 225, .ref 226, .ref 227, .ref 228, .ref 229, .ref 230, .ref 231, .ref 232, .ref 233, .ref 234, .ref 235, .ref 236, .ref 237, .ref 238, .ref 239, .ref 240, .ref 241, .ref 242, .ref 243, .ref 244, .ref 245, .ref 246, .ref 247, .ref 248, .ref 249, .ref 250, .ref 251, .ref 252, .ref 253, .ref 254, .ref 255, .ref 256, .ref 257, .ref 258, .ref 259], vm := .none },
  { cls := 15, slots := #[.long (-128)], vm := .none },
  { cls := 15, slots := #[.long (-127)], vm := .none },
  { cls := 15, slots := #[.long (-126)], vm := .none },
  { cls := 15, slots := #[.long (-125)], vm := .none },
  { cls := 15, slots := #[.long (-124)], vm := .none },
  { cls := 15, slots := #[.long (-123)], vm := .none },
  { cls := 15, slots := #[.long (-122)], vm := .none },
  { cls := 15, slots := #[.long (-121)], vm := .none },
  { cls := 15, slots := #[.long (-120)], vm := .none },
  { cls := 15, slots := #[.long (-119)], vm := .none },
  { cls := 15, slots := #[.long (-118)], vm := .none },
  { cls := 15, slots := #[.long (-117)], vm := .none },
  { cls := 15, slots := #[.long (-116)], vm := .none },
  { cls := 15, slots := #[.long (-115)], vm := .none },
  { cls := 15, slots := #[.long (-114)], vm := .none },
  { cls := 15, slots := #[.long (-113)], vm := .none },
  { cls := 15, slots := #[.long (-112)], vm := .none },
  { cls := 15, slots := #[.long (-111)], vm := .none },
  { cls := 15, slots := #[.long (-110)], vm := .none },
  { cls := 15, slots := #[.long (-109)], vm := .none },
  { cls := 15, slots := #[.long (-108)], vm := .none },
  { cls := 15, slots := #[.long (-107)], vm := .none },
  { cls := 15, slots := #[.long (-106)], vm := .none },
  { cls := 15, slots := #[.long (-105)], vm := .none },
  { cls := 15, slots := #[.long (-104)], vm := .none },
  { cls := 15, slots := #[.long (-103)], vm := .none },
  { cls := 15, slots := #[.long (-102)], vm := .none },
  { cls := 15, slots := #[.long (-101)], vm := .none },
  { cls := 15, slots := #[.long (-100)], vm := .none },
  { cls := 15, slots := #[.long (-99)], vm := .none },
  { cls := 15, slots := #[.long (-98)], vm := .none },
  { cls := 15, slots := #[.long (-97)], vm := .none },
  { cls := 15, slots := #[.long (-96)], vm := .none },
  { cls := 15, slots := #[.long (-95)], vm := .none },
  { cls := 15, slots := #[.long (-94)], vm := .none },
  { cls := 15, slots := #[.long (-93)], vm := .none },
  { cls := 15, slots := #[.long (-92)], vm := .none },
  { cls := 15, slots := #[.long (-91)], vm := .none },
  { cls := 15, slots := #[.long (-90)], vm := .none },
  { cls := 15, slots := #[.long (-89)], vm := .none },
  { cls := 15, slots := #[.long (-88)], vm := .none },
  { cls := 15, slots := #[.long (-87)], vm := .none },
  { cls := 15, slots := #[.long (-86)], vm := .none },
  { cls := 15, slots := #[.long (-85)], vm := .none },
  { cls := 15, slots := #[.long (-84)], vm := .none },
  { cls := 15, slots := #[.long (-83)], vm := .none },
  { cls := 15, slots := #[.long (-82)], vm := .none },
  { cls := 15, slots := #[.long (-81)], vm := .none },
  { cls := 15, slots := #[.long (-80)], vm := .none },
  { cls := 15, slots := #[.long (-79)], vm := .none },
  { cls := 15, slots := #[.long (-78)], vm := .none },
  { cls := 15, slots := #[.long (-77)], vm := .none },
  { cls := 15, slots := #[.long (-76)], vm := .none },
  { cls := 15, slots := #[.long (-75)], vm := .none },
  { cls := 15, slots := #[.long (-74)], vm := .none },
  { cls := 15, slots := #[.long (-73)], vm := .none },
  { cls := 15, slots := #[.long (-72)], vm := .none },
  { cls := 15, slots := #[.long (-71)], vm := .none },
  { cls := 15, slots := #[.long (-70)], vm := .none },
  { cls := 15, slots := #[.long (-69)], vm := .none },
  { cls := 15, slots := #[.long (-68)], vm := .none },
  { cls := 15, slots := #[.long (-67)], vm := .none },
  { cls := 15, slots := #[.long (-66)], vm := .none },
  { cls := 15, slots := #[.long (-65)], vm := .none },
  { cls := 15, slots := #[.long (-64)], vm := .none },
  { cls := 15, slots := #[.long (-63)], vm := .none },
  { cls := 15, slots := #[.long (-62)], vm := .none },
  { cls := 15, slots := #[.long (-61)], vm := .none },
  { cls := 15, slots := #[.long (-60)], vm := .none },
  { cls := 15, slots := #[.long (-59)], vm := .none },
  { cls := 15, slots := #[.long (-58)], vm := .none },
  { cls := 15, slots := #[.long (-57)], vm := .none },
  { cls := 15, slots := #[.long (-56)], vm := .none },
  { cls := 15, slots := #[.long (-55)], vm := .none },
  { cls := 15, slots := #[.long (-54)], vm := .none },
  { cls := 15, slots := #[.long (-53)], vm := .none },
  { cls := 15, slots := #[.long (-52)], vm := .none },
  { cls := 15, slots := #[.long (-51)], vm := .none },
  { cls := 15, slots := #[.long (-50)], vm := .none },
  { cls := 15, slots := #[.long (-49)], vm := .none },
  { cls := 15, slots := #[.long (-48)], vm := .none },
  { cls := 15, slots := #[.long (-47)], vm := .none },
  { cls := 15, slots := #[.long (-46)], vm := .none },
  { cls := 15, slots := #[.long (-45)], vm := .none },
  { cls := 15, slots := #[.long (-44)], vm := .none },
  { cls := 15, slots := #[.long (-43)], vm := .none },
  { cls := 15, slots := #[.long (-42)], vm := .none },
  { cls := 15, slots := #[.long (-41)], vm := .none },
  { cls := 15, slots := #[.long (-40)], vm := .none },
  { cls := 15, slots := #[.long (-39)], vm := .none },
  { cls := 15, slots := #[.long (-38)], vm := .none },
  { cls := 15, slots := #[.long (-37)], vm := .none },
  { cls := 15, slots := #[.long (-36)], vm := .none },
  { cls := 15, slots := #[.long (-35)], vm := .none },
  { cls := 15, slots := #[.long (-34)], vm := .none },
  { cls := 15, slots := #[.long (-33)], vm := .none },
  { cls := 15, slots := #[.long (-32)], vm := .none },
  { cls := 15, slots := #[.long (-31)], vm := .none },
  { cls := 15, slots := #[.long (-30)], vm := .none },
  { cls := 15, slots := #[.long (-29)], vm := .none },
  { cls := 15, slots := #[.long (-28)], vm := .none },
  { cls := 15, slots := #[.long (-27)], vm := .none },
  { cls := 15, slots := #[.long (-26)], vm := .none },
  { cls := 15, slots := #[.long (-25)], vm := .none },
  { cls := 15, slots := #[.long (-24)], vm := .none },
  { cls := 15, slots := #[.long (-23)], vm := .none },
  { cls := 15, slots := #[.long (-22)], vm := .none },
  { cls := 15, slots := #[.long (-21)], vm := .none },
  { cls := 15, slots := #[.long (-20)], vm := .none },
  { cls := 15, slots := #[.long (-19)], vm := .none },
  { cls := 15, slots := #[.long (-18)], vm := .none },
  { cls := 15, slots := #[.long (-17)], vm := .none },
  { cls := 15, slots := #[.long (-16)], vm := .none },
  { cls := 15, slots := #[.long (-15)], vm := .none },
  { cls := 15, slots := #[.long (-14)], vm := .none },
  { cls := 15, slots := #[.long (-13)], vm := .none },
  { cls := 15, slots := #[.long (-12)], vm := .none },
  { cls := 15, slots := #[.long (-11)], vm := .none },
  { cls := 15, slots := #[.long (-10)], vm := .none },
  { cls := 15, slots := #[.long (-9)], vm := .none },
  { cls := 15, slots := #[.long (-8)], vm := .none },
  { cls := 15, slots := #[.long (-7)], vm := .none },
  { cls := 15, slots := #[.long (-6)], vm := .none },
  { cls := 15, slots := #[.long (-5)], vm := .none },
  { cls := 15, slots := #[.long (-4)], vm := .none },
  { cls := 15, slots := #[.long (-3)], vm := .none },
  { cls := 15, slots := #[.long (-2)], vm := .none },
  { cls := 15, slots := #[.long (-1)], vm := .none },
  { cls := 15, slots := #[.long (0)], vm := .none },
  { cls := 15, slots := #[.long (1)], vm := .none },
  { cls := 15, slots := #[.long (2)], vm := .none },
  { cls := 15, slots := #[.long (3)], vm := .none },
  { cls := 15, slots := #[.long (4)], vm := .none },
  { cls := 15, slots := #[.long (5)], vm := .none },
  { cls := 15, slots := #[.long (6)], vm := .none },
  { cls := 15, slots := #[.long (7)], vm := .none },
  { cls := 15, slots := #[.long (8)], vm := .none },
  { cls := 15, slots := #[.long (9)], vm := .none },
  { cls := 15, slots := #[.long (10)], vm := .none },
  { cls := 15, slots := #[.long (11)], vm := .none },
  { cls := 15, slots := #[.long (12)], vm := .none },
  { cls := 15, slots := #[.long (13)], vm := .none },
  { cls := 15, slots := #[.long (14)], vm := .none },
  { cls := 15, slots := #[.long (15)], vm := .none },
  { cls := 15, slots := #[.long (16)], vm := .none },
  { cls := 15, slots := #[.long (17)], vm := .none },
  { cls := 15, slots := #[.long (18)], vm := .none },
  { cls := 15, slots := #[.long (19)], vm := .none },
  { cls := 15, slots := #[.long (20)], vm := .none },
  { cls := 15, slots := #[.long (21)], vm := .none },
  { cls := 15, slots := #[.long (22)], vm := .none },
  { cls := 15, slots := #[.long (23)], vm := .none },
  { cls := 15, slots := #[.long (24)], vm := .none },
  { cls := 15, slots := #[.long (25)], vm := .none },
  { cls := 15, slots := #[.long (26)], vm := .none },
  { cls := 15, slots := #[.long (27)], vm := .none },
  { cls := 15, slots := #[.long (28)], vm := .none },
  { cls := 15, slots := #[.long (29)], vm := .none },
  { cls := 15, slots := #[.long (30)], vm := .none },
  { cls := 15, slots := #[.long (31)], vm := .none },
  { cls := 15, slots := #[.long (32)], vm := .none },
  { cls := 15, slots := #[.long (33)], vm := .none },
  { cls := 15, slots := #[.long (34)], vm := .none },
  { cls := 15, slots := #[.long (35)], vm := .none },
  { cls := 15, slots := #[.long (36)], vm := .none },
  { cls := 15, slots := #[.long (37)], vm := .none },
  { cls := 15, slots := #[.long (38)], vm := .none },
  { cls := 15, slots := #[.long (39)], vm := .none },
  { cls := 15, slots := #[.long (40)], vm := .none },
  { cls := 15, slots := #[.long (41)], vm := .none },
  { cls := 15, slots := #[.long (42)], vm := .none },
  { cls := 15, slots := #[.long (43)], vm := .none },
  { cls := 15, slots := #[.long (44)], vm := .none },
  { cls := 15, slots := #[.long (45)], vm := .none },
  { cls := 15, slots := #[.long (46)], vm := .none },
  { cls := 15, slots := #[.long (47)], vm := .none },
  { cls := 15, slots := #[.long (48)], vm := .none },
  { cls := 15, slots := #[.long (49)], vm := .none },
  { cls := 15, slots := #[.long (50)], vm := .none },
  { cls := 15, slots := #[.long (51)], vm := .none },
  { cls := 15, slots := #[.long (52)], vm := .none },
  { cls := 15, slots := #[.long (53)], vm := .none },
  { cls := 15, slots := #[.long (54)], vm := .none },
  { cls := 15, slots := #[.long (55)], vm := .none },
  { cls := 15, slots := #[.long (56)], vm := .none },
  { cls := 15, slots := #[.long (57)], vm := .none },
  { cls := 15, slots := #[.long (58)], vm := .none },
  { cls := 15, slots := #[.long (59)], vm := .none },
  { cls := 15, slots := #[.long (60)], vm := .none },
  { cls := 15, slots := #[.long (61)], vm := .none },
  { cls := 15, slots := #[.long (62)], vm := .none },
  { cls := 15, slots := #[.long (63)], vm := .none },
  { cls := 15, slots := #[.long (64)], vm := .none },
  { cls := 15, slots := #[.long (65)], vm := .none },
  { cls := 15, slots := #[.long (66)], vm := .none },
  { cls := 15, slots := #[.long (67)], vm := .none },
  { cls := 15, slots := #[.long (68)], vm := .none },
  { cls := 15, slots := #[.long (69)], vm := .none },
  { cls := 15, slots := #[.long (70)], vm := .none },
  { cls := 15, slots := #[.long (71)], vm := .none },
  { cls := 15, slots := #[.long (72)], vm := .none },
  { cls := 15, slots := #[.long (73)], vm := .none },
  { cls := 15, slots := #[.long (74)], vm := .none },
  { cls := 15, slots := #[.long (75)], vm := .none },
  { cls := 15, slots := #[.long (76)], vm := .none },
  { cls := 15, slots := #[.long (77)], vm := .none },
  { cls := 15, slots := #[.long (78)], vm := .none },
  { cls := 15, slots := #[.long (79)], vm := .none },
  { cls := 15, slots := #[.long (80)], vm := .none },
  { cls := 15, slots := #[.long (81)], vm := .none },
  { cls := 15, slots := #[.long (82)], vm := .none },
  { cls := 15, slots := #[.long (83)], vm := .none },
  { cls := 15, slots := #[.long (84)], vm := .none },
  { cls := 15, slots := #[.long (85)], vm := .none },
  { cls := 15, slots := #[.long (86)], vm := .none },
  { cls := 15, slots := #[.long (87)], vm := .none },
  { cls := 15, slots := #[.long (88)], vm := .none },
  { cls := 15, slots := #[.long (89)], vm := .none },
  { cls := 15, slots := #[.long (90)], vm := .none },
  { cls := 15, slots := #[.long (91)], vm := .none },
  { cls := 15, slots := #[.long (92)], vm := .none },
  { cls := 15, slots := #[.long (93)], vm := .none },
  { cls := 15, slots := #[.long (94)], vm := .none },
  { cls := 15, slots := #[.long (95)], vm := .none },
  { cls := 15, slots := #[.long (96)], vm := .none },
  { cls := 15, slots := #[.long (97)], vm := .none },
  { cls := 15, slots := #[.long (98)], vm := .none },
  { cls := 15, slots := #[.long (99)], vm := .none },
  { cls := 15, slots := #[.long (100)], vm := .none },
  { cls := 15, slots := #[.long (101)], vm := .none },
  { cls := 15, slots := #[.long (102)], vm := .none },
  { cls := 15, slots := #[.long (103)], vm := .none },
  { cls := 15, slots := #[.long (104)], vm := .none },
  { cls := 15, slots := #[.long (105)], vm := .none },
  { cls := 15, slots := #[.long (106)], vm := .none },
  { cls := 15, slots := #[.long (107)], vm := .none },
  { cls := 15, slots := #[.long (108)], vm := .none },
  { cls := 15, slots := #[.long (109)], vm := .none },
  { cls := 15, slots := #[.long (110)], vm := .none },
  { cls := 15, slots := #[.long (111)], vm := .none },
  { cls := 15, slots := #[.long (112)], vm := .none },
  { cls := 15, slots := #[.long (113)], vm := .none },
  { cls := 15, slots := #[.long (114)], vm := .none },
  { cls := 15, slots := #[.long (115)], vm := .none },
  { cls := 15, slots := #[.long (116)], vm := .none },
  { cls := 15, slots := #[.long (117)], vm := .none },
  { cls := 15, slots := #[.long (118)], vm := .none },
  { cls := 15, slots := #[.long (119)], vm := .none },
  { cls := 15, slots := #[.long (120)], vm := .none },
  { cls := 15, slots := #[.long (121)], vm := .none },
  { cls := 15, slots := #[.long (122)], vm := .none },
  { cls := 15, slots := #[.long (123)], vm := .none },
  { cls := 15, slots := #[.long (124)], vm := .none },
  { cls := 15, slots := #[.long (125)], vm := .none },
  { cls := 15, slots := #[.long (126)], vm := .none },
  { cls := 15, slots := #[.long (127)], vm := .none },
  { cls := 8, slots := #[.null, .int 0, .int 0], vm := .none },
  { cls := 8, slots := #[.null, .int 0, .int 0], vm := .none },
  { cls := 8, slots := #[.null, .int 0, .int 0], vm := .none },
  { cls := 8, slots := #[.null, .int 0, .int 0], vm := .none },
  { cls := 9, slots := #[.null, .null, .null, .null, .null, .null, .null], vm := .none }]
def classes : Array Class := #[k0, k1, k2, k3, k4, k5, k6, k7, k8, k9, k10, k11, k12, k13, k14, k15, k16, k17, k18, k19, k20, k21, k22, k23]
def interned : List (Array UInt16 × Addr) := []
def slotsUsed : Nat := 542
def theMethod : MethodId := ⟨1, 2⟩
def args0 : Array Value := #[.long 1, .long 2, .long 3, .long 4, .int 15, .long 6]
def aboutOver (below : List Frame) : State where
  vm := { classes := classes, interned := interned.toArray }
  heap := heap
  slotsUsed := slotsUsed
  threads := #[{ frames := .invoking theMethod args0 :: below }]
def below0 : List Frame := [.native { method := ⟨0, 0⟩, args := #[] }]
def about1 : State := aboutOver below0
def p0 : Program := .bare "" "" ""
def e0 : Env := launch0.env 0 0 0
theorem w_frames : about1.frames = Frame.invoking theMethod args0 :: below0 := rfl
set_option maxRecDepth 65536 in
theorem w_args : argsFit about1.vm theMethod args0 = true := by decide +kernel
set_option maxRecDepth 65536 in
theorem w_heap : heapFits about1 = true := by decide +kernel
set_option maxRecDepth 65536 in
theorem w_runnable : about1.curStatus? = some .runnable := by decide +kernel
set_option maxRecDepth 65536 in
theorem w_alone : about1.alone = true := by decide +kernel
set_option maxRecDepth 65536 in
theorem w_named : about1.methodNamed? x = some theMethod := by decide +kernel
set_option maxRecDepth 65536 in
theorem w_hears : about1.hears theMethod below0 = true := by decide +kernel
set_option maxRecDepth 65536 in
theorem w_ripe : about1.ripe theMethod args0 below0 = true := by decide +kernel
theorem w_running : about1.status = .running := rfl
set_option maxRecDepth 65536 in
theorem w_room : about1.hasRoom e0.platform room_1 = true :=
  launch0.hasRoom_least _ room_1 (by decide +kernel) (by decide +kernel) (by decide +kernel) (by decide +kernel) (by decide +kernel) (by decide +kernel)
theorem allAtoms_all (ts : List Jvm.Cond) (a : Array Jvm.Value) (st : Jvm.State) : (allAtoms ts).before a st = ts.all (fun c => c.before a st) := by
  induction ts with
  | nil => rfl
  | cons c t ih =>
    show (Jvm.Cond.and c (allAtoms t)).before a st = _
    rw [Jvm.Cond.before_and, ih, List.all_cons]
def words1 : List Jvm.Cond := Jvm.Cond.code x code maxLocals ret :: tables_1
/-- a 'code' word, met by the world's own term for the bytes: nothing is compared byte by byte -/
theorem code_word {y : MethodName} {bytes : ByteArray} {mx : Nat} {rt : Option FieldType} {a : Array Value} {s : State} {m : MethodId} {meth : Method} {c : Code} (h1 : s.methodNamed? y = some m) (h2 : s.vm.method? m = some meth) (h3 : meth.code = some c) (h4 : c.code = bytes)
    (h5 : (c.maxLocals == mx && c.exceptionTable.isEmpty && decide (c.maxStack ≤ mostOperands) && decide (meth.sig.returnType = rt) && !meth.locks && decide (parseMethodDescriptor y.desc = some meth.sig)) = true) : (Jvm.Cond.code y bytes mx rt).before a s = true := by
  simp only [Bool.and_eq_true, beq_iff_eq, Bool.not_eq_true', decide_eq_true_eq] at h5
  obtain ⟨⟨⟨⟨⟨g1, g2⟩, g3⟩, g4⟩, g5⟩, g6⟩ := h5
  simp [Cond.before, Cond.holds, Cond.value, h1, h2, h3, h4, g1, g2, g3, g4, g5, g6]
def isCode : Jvm.Cond → Bool
  | .code _ _ _ _ => true
  | _ => false
theorem all_split {L : List Jvm.Cond} {P : Jvm.Cond → Bool} (h1 : L.all (fun c => isCode c || P c) = true) (h2 : ∀ c ∈ L.filter isCode, P c = true) : L.all P = true := by
  refine List.all_eq_true.mpr fun c hc => ?_
  have h := List.all_eq_true.mp h1 c hc
  rcases Bool.eq_false_or_eq_true (isCode c) with hi | hi
  · exact h2 c (List.mem_filter.mpr ⟨hc, hi⟩)
  · simpa [hi] using h
set_option maxRecDepth 65536 in
theorem w_c0 : (Jvm.Cond.code x code maxLocals ret).before args0 about1 = true := code_word (m := ⟨1, 2⟩) (meth := k1m2) (c := k1c2) (by decide +kernel) rfl rfl rfl (by decide +kernel)
set_option maxRecDepth 65536 in
theorem w_c1 : (Jvm.Cond.code ({ cls := "com/example/runpulse/runpulse/RunState$Event", name := "<init>", desc := "(Lcom/example/runpulse/runpulse/LifecycleEvent$Kind;JLcom/example/runpulse/runpulse/EventDetails;)V" } : Jvm.MethodName) prog_37_method_1_code (5 : Nat) (Option.none : Option Jvm.ClassFile.FieldType)).before args0 about1 = true := code_word (m := ⟨3, 0⟩) (meth := k3m0) (c := k3c0) (by decide +kernel) rfl rfl rfl (by decide +kernel)
set_option maxRecDepth 65536 in
theorem w_c2 : (Jvm.Cond.code ({ cls := "java/lang/Record", name := "<init>", desc := "()V" } : Jvm.MethodName) jdk_30_method_1_code (1 : Nat) (Option.none : Option Jvm.ClassFile.FieldType)).before args0 about1 = true := code_word (m := ⟨2, 0⟩) (meth := k2m0) (c := k2c0) (by decide +kernel) rfl rfl rfl (by decide +kernel)
set_option maxRecDepth 65536 in
theorem w_c3 : (Jvm.Cond.code ({ cls := "java/lang/Object", name := "<init>", desc := "()V" } : Jvm.MethodName) object_method_1_code (1 : Nat) (Option.none : Option Jvm.ClassFile.FieldType)).before args0 about1 = true := code_word (m := ⟨0, 0⟩) (meth := k0m0) (c := k0c0) (by decide +kernel) rfl rfl rfl (by decide +kernel)
set_option maxRecDepth 65536 in
theorem w_c4 : (Jvm.Cond.code ({ cls := "java/util/Objects", name := "requireNonNull", desc := "(Ljava/lang/Object;Ljava/lang/String;)Ljava/lang/Object;" } : Jvm.MethodName) jdk_31_method_11_code (2 : Nat) (Option.some (Jvm.ClassFile.FieldType.object "java/lang/Object"))).before args0 about1 = true := code_word (m := ⟨13, 1⟩) (meth := k13m1) (c := k13c1) (by decide +kernel) rfl rfl rfl (by decide +kernel)
set_option maxRecDepth 65536 in
theorem w_c5 : (Jvm.Cond.code ({ cls := "java/lang/Long", name := "valueOf", desc := "(J)Ljava/lang/Long;" } : Jvm.MethodName) jdk_35_method_24_code (3 : Nat) (Option.some (Jvm.ClassFile.FieldType.object "java/lang/Long"))).before args0 about1 = true := code_word (m := ⟨15, 0⟩) (meth := k15m0) (c := k15c0) (by decide +kernel) rfl rfl rfl (by decide +kernel)
set_option maxRecDepth 65536 in
theorem w_c6 : (Jvm.Cond.code ({ cls := "com/example/runpulse/runpulse/RunState", name := "<init>", desc := "(JJLcom/example/runpulse/runpulse/RunState$Event;Ljava/lang/Long;ZLcom/example/runpulse/runpulse/RunState$Event;)V" } : Jvm.MethodName) prog_35_method_1_code (9 : Nat) (Option.none : Option Jvm.ClassFile.FieldType)).before args0 about1 = true := code_word (m := ⟨17, 0⟩) (meth := k17m0) (c := k17c0) (by decide +kernel) rfl rfl rfl (by decide +kernel)
set_option maxRecDepth 65536 in
theorem w_c7 : (Jvm.Cond.code ({ cls := "com/example/runpulse/runpulse/RunState", name := "start", desc := "()J" } : Jvm.MethodName) prog_35_method_3_code (1 : Nat) (Option.some Jvm.ClassFile.FieldType.long)).before args0 about1 = true := code_word (m := ⟨17, 1⟩) (meth := k17m1) (c := k17c1) (by decide +kernel) rfl rfl rfl (by decide +kernel)
set_option maxRecDepth 65536 in
theorem w_c8 : (Jvm.Cond.code ({ cls := "com/example/runpulse/runpulse/RunState$Event", name := "time", desc := "()J" } : Jvm.MethodName) prog_37_method_7_code (1 : Nat) (Option.some Jvm.ClassFile.FieldType.long)).before args0 about1 = true := code_word (m := ⟨3, 1⟩) (meth := k3m1) (c := k3c1) (by decide +kernel) rfl rfl rfl (by decide +kernel)
set_option maxRecDepth 65536 in
theorem w_c9 : (Jvm.Cond.code ({ cls := "java/lang/Long", name := "<init>", desc := "(J)V" } : Jvm.MethodName) jdk_35_method_26_code (3 : Nat) (Option.none : Option Jvm.ClassFile.FieldType)).before args0 about1 = true := code_word (m := ⟨15, 1⟩) (meth := k15m1) (c := k15c1) (by decide +kernel) rfl rfl rfl (by decide +kernel)
set_option maxRecDepth 65536 in
theorem w_c10 : (Jvm.Cond.code ({ cls := "java/lang/Number", name := "<init>", desc := "()V" } : Jvm.MethodName) jdk_18_method_1_code (1 : Nat) (Option.none : Option Jvm.ClassFile.FieldType)).before args0 about1 = true := code_word (m := ⟨14, 0⟩) (meth := k14m0) (c := k14c0) (by decide +kernel) rfl rfl rfl (by decide +kernel)
set_option maxRecDepth 65536 in
theorem w_c11 : (Jvm.Cond.code ({ cls := "com/example/runpulse/runpulse/RunStateStartPinLaw", name := "terminalKind", desc := "(I)Lcom/example/runpulse/runpulse/LifecycleEvent$Kind;" } : Jvm.MethodName) method_2_code (2 : Nat) (Option.some (Jvm.ClassFile.FieldType.object "com/example/runpulse/runpulse/LifecycleEvent$Kind"))).before args0 about1 = true := code_word (m := ⟨1, 1⟩) (meth := k1m1) (c := k1c1) (by decide +kernel) rfl rfl rfl (by decide +kernel)
def codes1 : List Jvm.Cond := [Jvm.Cond.code x code maxLocals ret, Jvm.Cond.code ({ cls := "com/example/runpulse/runpulse/RunState$Event", name := "<init>", desc := "(Lcom/example/runpulse/runpulse/LifecycleEvent$Kind;JLcom/example/runpulse/runpulse/EventDetails;)V" } : Jvm.MethodName) prog_37_method_1_code (5 : Nat) (Option.none : Option Jvm.ClassFile.FieldType), Jvm.Cond.code ({ cls := "java/lang/Record", name := "<init>", desc := "()V" } : Jvm.MethodName) jdk_30_method_1_code (1 : Nat) (Option.none : Option Jvm.ClassFile.FieldType), Jvm.Cond.code ({ cls := "java/lang/Object", name := "<init>", desc := "()V" } : Jvm.MethodName) object_method_1_code (1 : Nat) (Option.none : Option Jvm.ClassFile.FieldType), Jvm.Cond.code ({ cls := "java/util/Objects", name := "requireNonNull", desc := "(Ljava/lang/Object;Ljava/lang/String;)Ljava/lang/Object;" } : Jvm.MethodName) jdk_31_method_11_code (2 : Nat) (Option.some (Jvm.ClassFile.FieldType.object "java/lang/Object")), Jvm.Cond.code ({ cls := "java/lang/Long", name := "valueOf", desc := "(J)Ljava/lang/Long;" } : Jvm.MethodName) jdk_35_method_24_code (3 : Nat) (Option.some (Jvm.ClassFile.FieldType.object "java/lang/Long")), Jvm.Cond.code ({ cls := "com/example/runpulse/runpulse/RunState", name := "<init>", desc := "(JJLcom/example/runpulse/runpulse/RunState$Event;Ljava/lang/Long;ZLcom/example/runpulse/runpulse/RunState$Event;)V" } : Jvm.MethodName) prog_35_method_1_code (9 : Nat) (Option.none : Option Jvm.ClassFile.FieldType), Jvm.Cond.code ({ cls := "com/example/runpulse/runpulse/RunState", name := "start", desc := "()J" } : Jvm.MethodName) prog_35_method_3_code (1 : Nat) (Option.some Jvm.ClassFile.FieldType.long), Jvm.Cond.code ({ cls := "com/example/runpulse/runpulse/RunState$Event", name := "time", desc := "()J" } : Jvm.MethodName) prog_37_method_7_code (1 : Nat) (Option.some Jvm.ClassFile.FieldType.long), Jvm.Cond.code ({ cls := "java/lang/Long", name := "<init>", desc := "(J)V" } : Jvm.MethodName) jdk_35_method_26_code (3 : Nat) (Option.none : Option Jvm.ClassFile.FieldType), Jvm.Cond.code ({ cls := "java/lang/Number", name := "<init>", desc := "()V" } : Jvm.MethodName) jdk_18_method_1_code (1 : Nat) (Option.none : Option Jvm.ClassFile.FieldType), Jvm.Cond.code ({ cls := "com/example/runpulse/runpulse/RunStateStartPinLaw", name := "terminalKind", desc := "(I)Lcom/example/runpulse/runpulse/LifecycleEvent$Kind;" } : Jvm.MethodName) method_2_code (2 : Nat) (Option.some (Jvm.ClassFile.FieldType.object "com/example/runpulse/runpulse/LifecycleEvent$Kind"))]
set_option maxRecDepth 65536 in
theorem codes_eq : words1.filter isCode = codes1 := rfl
theorem w_codes : ∀ c ∈ words1.filter isCode, c.before args0 about1 = true := by
  rw [codes_eq]
  intro c hc
  simp only [codes1, List.mem_cons, List.not_mem_nil, or_false] at hc
  rcases hc with rfl | rfl | rfl | rfl | rfl | rfl | rfl | rfl | rfl | rfl | rfl | rfl
  · exact w_c0
  · exact w_c1
  · exact w_c2
  · exact w_c3
  · exact w_c4
  · exact w_c5
  · exact w_c6
  · exact w_c7
  · exact w_c8
  · exact w_c9
  · exact w_c10
  · exact w_c11
set_option maxRecDepth 65536 in
theorem w_t1 : (words1.take 24).all (fun c => isCode c || c.before args0 about1) = true := by decide +kernel
set_option maxRecDepth 65536 in
theorem w_t2 : ((words1.drop 24).take 24).all (fun c => isCode c || c.before args0 about1) = true := by decide +kernel
set_option maxRecDepth 65536 in
theorem w_t3 : (((words1.drop 24).drop 24).take 24).all (fun c => isCode c || c.before args0 about1) = true := by decide +kernel
set_option maxRecDepth 65536 in
theorem w_t4 : ((((words1.drop 24).drop 24).drop 24).take 24).all (fun c => isCode c || c.before args0 about1) = true := by decide +kernel
set_option maxRecDepth 65536 in
theorem w_t5 : ((((words1.drop 24).drop 24).drop 24).drop 24).all (fun c => isCode c || c.before args0 about1) = true := by decide +kernel
theorem w_tables : (allAtoms (Jvm.Cond.code x code maxLocals ret :: tables_1)).before args0 about1 = true := by
  rw [allAtoms_all]
  show words1.all (fun c => c.before args0 about1) = true
  refine all_split ?_ w_codes
  rw [← List.take_append_drop 24 words1, List.all_append, w_t1, ← List.take_append_drop 24 (words1.drop 24), List.all_append, w_t2, ← List.take_append_drop 24 ((words1.drop 24).drop 24), List.all_append, w_t3, ← List.take_append_drop 24 (((words1.drop 24).drop 24).drop 24), List.all_append, w_t4, w_t5]
  rfl
set_option maxRecDepth 65536 in
theorem w_rest : rest_1_c.before args0 about1 = true := by decide +kernel
set_option maxRecDepth 65536 in
theorem w_case : (Jvm.Cond.and given_1 narrow_1).before args0 about1 = true := by decide +kernel
theorem w_applies : (headSpec (Jvm.Cond.code x code maxLocals ret :: tables_1) room_1).applies x e0.platform about1 = true :=
  (Spec.applies_iff w_frames).mpr ⟨w_running, w_runnable, w_alone, w_named, w_hears, w_ripe, w_room, w_tables⟩
theorem atStart : AtStart classFile x code maxLocals ret World_1 tables_1 room_1 Calls_1 rest_1 Pre_1 launch0 p0 e0 about1 theMethod args0 below0 :=
  ⟨lists_1, trivial, launch0.admits_env _ _ _, launch0.least_env, fairChoices_fair.cas, fairChoices_fair.clock, w_frames, w_args, w_heap, w_applies, trivial, w_rest, w_case⟩
end start1
theorem witness_1 : WitnessClaimed_1 := ⟨start1.p0, start1.e0, start1.about1, start1.theMethod, start1.args0, start1.below0, start1.atStart⟩
end Jvm.Pilot.@@N@@
